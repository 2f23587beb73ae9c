import JvmDerived
import JvmDerived.Pilot.@@N@@Statement
import JvmDerived.Pilot.@@N@@Code
set_option linter.unusedVariables false
set_option linter.unusedSimpArgs false
namespace Jvm.Pilot.@@N@@
open Jvm Jvm.ClassFile Sem Op Lib Jvm.Free Jvm.Stand Jvm.LawKit Jvm.RoadKit Bundle Jvm.Pilot.@@N@@.Jvm.D
abbrev own_H (a0 : Array Value) (Z : State) : Prop := ∀ d ∈ tables_1, d.before a0 Z = true
theorem own_w {a0 : Array Value} {Z : State} (hw : ∀ d ∈ tables_1, d.before a0 Z = true) (i : Nat) {d : Jvm.Cond} (h : tables_1[i]? = some d) : d.before a0 Z = true := hw _ (List.mem_of_getElem? h)
section Own
variable {p : Program} {l : Launch} {e : Env} {R : Room} {s : State} {m : MethodId} {args : Array Value} {below : List Frame} {meth : Method} {c : Code} {T : State} {locs : List Loc} {cells slots : Nat} {Z : State} {a0 : Array Value} {h : Heap}
def own_Go (p : Program) (e : Env) (below : List Frame) (P : Outcome → State → Prop) (U : State) : Prop := ∃ s₂ o, Steps p.tables e below U s₂ ∧ s₂.status = .running ∧ Ended s₂ below o ∧ P o s₂
theorem own_st {P : Outcome → State → Prop} {U V : State} (k : ∀ t, Steps p.tables e below U t → Steps p.tables e below V t) (h : own_Go p e below P U) : own_Go p e below P V := by
  obtain ⟨a, b, c, d⟩ := h; exact ⟨a, b, k _ c, d⟩
def own_P (s : State) (Q : Option Value → Heap → List Loc → Prop) (rc rs : Nat) (o : Outcome) (U : State) : Prop := ∃ v L, o = .returned v ∧ Q v U.heap L ∧ FrameEnd s o U L rc rs
theorem own_ret (X : Stand p l e R s m args below meth c T locs cells slots) {Q : Option Value → Heap → List Loc → Prop} {rc rs : Nat} {g : JFrame} {v : Option Value} (hlk : meth.locks = false) (hv : meth.sig.returnType = none → v = none) (hq : Q v T.heap locs) (hc : cells ≤ rc) (hl : slots ≤ rs)
    (k : ∀ fs, (∀ (f : JFrame) (acts : List Action), f.method = m → f.locked = none → f.entered = [] → (doReturn e (T.setTop f) acts v).1 = T.setFrames fs) → Steps p.tables e below (T.setTop g) (T.setFrames fs)) : own_Go p e below (own_P s Q rc rs) (T.setTop g) := by
  obtain ⟨fs, hr, hrun, hended, hW, hsame⟩ := X.leave (v := v) hv hlk
  exact ⟨_, _, k fs hr, hrun, hended, _, _, rfl, hq, ⟨_, rfl⟩, hW, hsame.mono hc hl⟩
theorem own_retV (X : Stand p l e R s m args below meth c T locs cells slots) (hx : p.tables.exec = Jvm.exec) {Q : Option Value → Heap → List Loc → Prop} {rc rs pc : Nat} {Ls : Array Slot} (hlk : meth.locks = false) (hret : meth.sig.returnType = none) (hd : decode c.code pc = .ok (.return_, 1)) (hc : cells ≤ rc) (hl : slots ≤ rs) (hq : Q none T.heap locs) : own_Go p e below (own_P s Q rc rs) (T.setTop (mkF m pc Ls [])) :=
  own_ret X hlk (fun _ => rfl) hq hc hl fun _ hr => X.returnOut hx hret hd hr
theorem own_retX (X : Stand p l e R s m args below meth c T locs cells slots) (hx : p.tables.exec = Jvm.exec) {Q : Option Value → Heap → List Loc → Prop} {rc rs pc : Nat} {Ls : Array Slot} {w : Value} {t : FieldType} {i : Instr} {rest : List Value} (hlk : meth.locks = false) (hret : meth.sig.returnType = some t) (hn : narrow t w = w)
    (hi : (i = .ireturn ∧ (t = .int ∨ t = .boolean ∨ t = .byte ∨ t = .char ∨ t = .short) ∧ ∃ z, w = .int z) ∨ (i = .lreturn ∧ t = .long ∧ ∃ z, w = .long z) ∨ (i = .dreturn ∧ t = .double ∧ ∃ z, w = .double z) ∨ (i = .freturn ∧ t = .float ∧ ∃ z, w = .float z) ∨ (i = .areturn ∧ t.isReference = true ∧ w.isRef = true))
    (hd : decode c.code pc = .ok (i, 1)) (hc : cells ≤ rc) (hl : slots ≤ rs) (hq : Q (some w) T.heap locs) : own_Go p e below (own_P s Q rc rs) (T.setTop (mkF m pc Ls (w :: rest))) :=
  own_ret X hlk (fun q => by rw [hret] at q; cases q) hq hc hl fun _ hr => retOut X hx hret hn hi hd hr
theorem own_body {y : MethodName} {bytes : ByteArray} {maxL : Nat} {ret : Option FieldType} {rm : Room} {ws : List Cond} {as' : Array Value} {Q : Option Value → Heap → List Loc → Prop} (hn : plainFor y = true)
    (b : ∀ (p : Program) (e : Env) (s : State) (m : MethodId) (below : List Frame) (meth : Method) (c : Code) (s₁ : State), p.tables.exec = Jvm.exec → c.code = bytes → c.maxLocals = maxL → s.vm.findClass y.cls = some m.cls → meth.name = y.name → meth.sig.returnType = ret → meth.locks = false → Z.Warmed39 s.vm → s₁.heap = h → Stand p l e rm s m as' below meth c s₁ [] 0 0 →
      own_Go p e below (own_P s Q rm.cells rm.slots) (s₁.setTop (entryFrame m as' maxL))) :
    MetFree l y (head1 (Cond.code y bytes maxL ret :: ws) rm) (fun a U => a = as' ∧ Z.Warmed39 U.vm ∧ U.heap = h) (fun _ _ _ _ _ => True) (fun _ U o U' => ∃ v L, o = .returned v ∧ Q v U'.heap L ∧ FrameEnd U o U' L rm.cells rm.slots) := by
  refine MetFree.of_bodySF hn hisR ?_
  intro p e s m args below meth c s₁ Bd hml0 hP hK
  obtain ⟨rfl, hZ, hh⟩ := hP
  exact b p e s m below meth c s₁ Bd.exec Bd.bytes hml0 (findClass_of_methodNamed Bd.named) (name_of_methodNamed Bd.named Bd.method).1 Bd.returns Bd.notSynchronized hZ (by rw [← hh, Bd.state]; rfl) (Stand.of_body Bd)
abbrev own_Met (l : Launch) (y : MethodName) (bytes : ByteArray) (maxL : Nat) (ret : Option FieldType) (ws : List Cond) (rm : Room) (Z : State) (h : Heap) (as' : Array Value) (Q : Option Value → Heap → List Loc → Prop) : Prop :=
  MetFree l y (head1 (Cond.code y bytes maxL ret :: ws) rm) (fun a U => a = as' ∧ Z.Warmed39 U.vm ∧ U.heap = h) (fun _ _ _ _ _ => True) (fun _ U o U' => ∃ v L, o = .returned v ∧ Q v U'.heap L ∧ FrameEnd U o U' L rm.cells rm.slots)
abbrev own_Came (p : Program) (l : Launch) (e : Env) (R : Room) (s : State) (m : MethodId) (args : Array Value) (below : List Frame) (meth : Method) (c : Code) (T : State) (locs : List Loc) (cells slots : Nat) (g : JFrame) (len : Nat) (rest : List Value) (Q : Option Value → Heap → List Loc → Prop) : Prop :=
  ∃ (T' : State) (v : Option Value) (L : List Loc), Stand p l e R s m args below meth c T' (locs ++ L) cells slots ∧ Q v T'.heap L ∧ ∀ t, Steps p.tables e below (T'.setTop { g with pc := g.pc + len, stack := v.toList ++ rest }) t → Steps p.tables e below (T.setTop g) t
theorem own_callS (X : Stand p l e R s m args below meth c T locs cells slots) (hx : p.tables.exec = Jvm.exec) (hZ : Z.Warmed39 s.vm) {own : String} {index : Nat} {y : MethodName} {bytes : ByteArray} {maxL : Nat} {ret : Option FieldType} {rm : Room} {as' : Array Value} {Q : Option Value → Heap → List Loc → Prop}
    (hown : s.vm.findClass own = some m.cls) (w1 : (Cond.methodLink own index y).before a0 Z = true) (w2 : (Cond.static y).before a0 Z = true) (w3 : (Cond.initialized y.cls).before a0 Z = true) (w4 : (Cond.code y bytes maxL ret).before a0 Z = true)
    (hy : y.cls ≠ "java/lang/invoke/MethodHandle" ∧ y.cls ≠ "java/lang/invoke/VarHandle") (hM : own_Met l y bytes maxL ret [] rm Z h as' Q) (eT : T.heap = h) {ps : List FieldType} {r : Option FieldType} (hd : parseMethodDescriptor y.desc = some ⟨ps, r⟩) {argsL rest : List Value} (hl : argsL.length = ps.length) (ha : argsL.toArray = as')
    {g : JFrame} (hg : g.method = m) (hsize : g.locals.size = c.maxLocals) (hstack : g.stack = argsL.reverse ++ rest) (hdg : decode c.code g.pc = .ok (.invokestatic index, 3)) {W : Nat} (hW : 2 * g.monitorRoom + (rest.map fun v => v.category).sum = W) (h1 : rm.frames + 1 ≤ R.frames) (h2 : W + (maxL + 11) + rm.locals ≤ R.locals) (h3 : cells + rm.cells ≤ R.cells) (h4 : slots + rm.slots ≤ R.slots) :
    own_Came p l e R s m args below meth c T locs (cells + rm.cells) (slots + rm.slots) g 3 rest Q := by
  obtain ⟨v, _, ⟨T', L', k', n'⟩, -, X', ⟨Lc, hQ, l1, y1, z1⟩, st⟩ := Jvm.LawKit.callS X hx (y := y) hown (mvT hZ w1) (mvT hZ w2) (mvT hZ w3) (mvT hZ w4) hy (backOf (W := W) hM hZ w4 w3 h1 h2) (g := g) hg hsize (argsL := argsL) (rest := rest) (lenOf hd hl) hstack (Nat.le_of_eq hW) hdg (fun _ _ => ⟨ha, eT, h3, h4⟩)
  dsimp only [Pt.U, Pt.locs, Pt.cells, Pt.slots] at X' l1 y1 z1 st hQ
  subst l1 y1 z1
  exact ⟨T', v, Lc, X', hQ, st⟩
theorem own_callN (X : Stand p l e R s m args below meth c T locs cells slots) (hx : p.tables.exec = Jvm.exec) (hZ : Z.Warmed39 s.vm) {own : String} {index : Nat} {y : MethodName} {bytes : ByteArray} {maxL : Nat} {rm : Room} {as' : Array Value} {Q : Option Value → Heap → List Loc → Prop} (hy1 : y.name = "<init>")
    (hown : s.vm.findClass own = some m.cls) (w1 : (Cond.methodLink own index y).before a0 Z = true) (w2 : (Cond.instanceMethod y).before a0 Z = true) (w3 : (Cond.initialized y.cls).before a0 Z = true) (w4 : (Cond.code y bytes maxL none).before a0 Z = true)
    (hy : y.cls ≠ "java/lang/invoke/MethodHandle" ∧ y.cls ≠ "java/lang/invoke/VarHandle") (hM : own_Met l y bytes maxL none [] rm Z h as' Q) (eT : T.heap = h) {ps : List FieldType} {r : Option FieldType} (hd : parseMethodDescriptor y.desc = some ⟨ps, r⟩) {a : Addr} {argsL rest : List Value} (hl : argsL.length = ps.length) (ha : (.ref a :: argsL).toArray = as')
    {g : JFrame} (hg : g.method = m) (hsize : g.locals.size = c.maxLocals) (hstack : g.stack = argsL.reverse ++ .ref a :: rest) (hdg : decode c.code g.pc = .ok (.invokespecial index, 3)) {W : Nat} (hW : 2 * g.monitorRoom + (rest.map fun v => v.category).sum = W) (h1 : rm.frames + 1 ≤ R.frames) (h2 : W + (maxL + 11) + rm.locals ≤ R.locals) (h3 : cells + rm.cells ≤ R.cells) (h4 : slots + rm.slots ≤ R.slots) :
    own_Came p l e R s m args below meth c T locs (cells + rm.cells) (slots + rm.slots) g 3 rest Q := by
  obtain ⟨v, _, ⟨T', L', k', n'⟩, -, X', ⟨Lc, hQ, l1, y1, z1⟩, st⟩ := X.specialBack hx (y := y) hy1 hown (mvT hZ w1) (mvT hZ w2) (mvT hZ w4) hy (backOf (W := W) hM hZ w4 w3 h1 h2) (g := g) hg hsize (Steps.refl _) (a := a) (argsL := argsL) (rest := rest) (lenOf hd hl) hstack (Nat.le_of_eq hW) hdg (fun _ _ => ⟨ha, eT, h3, h4⟩)
  dsimp only [Pt.U, Pt.locs, Pt.cells, Pt.slots] at X' l1 y1 z1 st hQ
  subst l1 y1 z1
  exact ⟨T', v, Lc, X', hQ, fun _ k => st.trans k⟩
theorem own_callV (X : Stand p l e R s m args below meth c T locs cells slots) (hx : p.tables.exec = Jvm.exec) (hZ : Z.Warmed39 s.vm) {own C : String} {index : Nat} {y z : MethodName} {bytes : ByteArray} {maxL : Nat} {ret : Option FieldType} {rm : Room} {as' : Array Value} {Q : Option Value → Heap → List Loc → Prop}
    (hown : s.vm.findClass own = some m.cls) (w1 : (Cond.methodLink own index y).before a0 Z = true) (w2 : (Cond.declares y).before a0 Z = true) (hnf : NotFace s y) (w5 : (Cond.selects C y z).before a0 Z = true) (w6 : (Cond.instanceMethod z).before a0 Z = true) (w3 : (Cond.initialized z.cls).before a0 Z = true) (w4 : (Cond.code z bytes maxL ret).before a0 Z = true)
    (hy : y.cls ≠ "java/lang/invoke/MethodHandle" ∧ y.cls ≠ "java/lang/invoke/VarHandle") (hM : own_Met l z bytes maxL ret [] rm Z h as' Q) (eT : T.heap = h) {a : Addr} (E : Exa Z h a C) {ps : List FieldType} {r : Option FieldType} (hd : parseMethodDescriptor y.desc = some ⟨ps, r⟩) {argsL rest : List Value} (hl : argsL.length = ps.length) (ha : (.ref a :: argsL).toArray = as')
    {g : JFrame} (hg : g.method = m) (hsize : g.locals.size = c.maxLocals) (hstack : g.stack = argsL.reverse ++ .ref a :: rest) (hdg : decode c.code g.pc = .ok (.invokevirtual index, 3)) {W : Nat} (hW : 2 * g.monitorRoom + (rest.map fun v => v.category).sum = W) (h1 : rm.frames + 1 ≤ R.frames) (h2 : W + (maxL + 11) + rm.locals ≤ R.locals) (h3 : cells + rm.cells ≤ R.cells) (h4 : slots + rm.slots ≤ R.slots) :
    own_Came p l e R s m args below meth c T locs (cells + rm.cells) (slots + rm.slots) g 3 rest Q := by
  obtain ⟨cq, kq, qa, qb, qc⟩ := isOf hZ eT E
  obtain ⟨v, _, ⟨T', L', k', n'⟩, -, X', ⟨Lc, hQ, l1, y1, z1⟩, st⟩ := X.virtualBack hx (y := y) (z := z) hown (mvT hZ w1) (mvT hZ w2) hnf (mvT hZ w5) (mvT hZ w6) hy (backOf (W := W) hM hZ w4 w3 h1 h2) qa qc (g := g) hg hsize (Steps.refl _) (argsL := argsL) (rest := rest) (lenOf hd hl) hstack (Nat.le_of_eq hW) hdg (fun _ _ => ⟨ha, eT, h3, h4⟩)
  dsimp only [Pt.U, Pt.locs, Pt.cells, Pt.slots] at X' l1 y1 z1 st hQ
  subst l1 y1 z1
  exact ⟨T', v, Lc, X', hQ, fun _ k => st.trans k⟩
theorem own_callU (X : Stand p l e R s m args below meth c T locs cells slots) (hx : p.tables.exec = Jvm.exec) (hZ : Z.Warmed39 s.vm) {own C owner : String} {index : Nat} {y z : MethodName} {bytes : ByteArray} {maxL : Nat} {ret : Option FieldType} {rm : Room} {as' : Array Value} {Q : Option Value → Heap → List Loc → Prop}
    (hown : s.vm.findClass own = some m.cls) (w1 : (Cond.methodLink own index y).before a0 Z = true) (w7 : (Cond.sameMethod y.cls owner y.name y.desc).before a0 Z = true) (w2 : (Cond.declares ⟨owner, y.name, y.desc⟩).before a0 Z = true) (w5 : (Cond.selects C y z).before a0 Z = true) (w6 : (Cond.instanceMethod z).before a0 Z = true) (w3 : (Cond.initialized z.cls).before a0 Z = true) (w4 : (Cond.code z bytes maxL ret).before a0 Z = true)
    (hy : owner ≠ "java/lang/invoke/MethodHandle" ∧ owner ≠ "java/lang/invoke/VarHandle") (hM : own_Met l z bytes maxL ret [] rm Z h as' Q) (eT : T.heap = h) {a : Addr} (E : Exa Z h a C) {ps : List FieldType} {r : Option FieldType} (hd : parseMethodDescriptor y.desc = some ⟨ps, r⟩) {argsL rest : List Value} (hl : argsL.length = ps.length) (ha : (.ref a :: argsL).toArray = as')
    {g : JFrame} (hg : g.method = m) (hsize : g.locals.size = c.maxLocals) (hstack : g.stack = argsL.reverse ++ .ref a :: rest) (hdg : decode c.code g.pc = .ok (.invokevirtual index, 3)) {W : Nat} (hW : 2 * g.monitorRoom + (rest.map fun v => v.category).sum = W) (h1 : rm.frames + 1 ≤ R.frames) (h2 : W + (maxL + 11) + rm.locals ≤ R.locals) (h3 : cells + rm.cells ≤ R.cells) (h4 : slots + rm.slots ≤ R.slots) :
    own_Came p l e R s m args below meth c T locs (cells + rm.cells) (slots + rm.slots) g 3 rest Q := by
  obtain ⟨cq, kq, qa, qb, qc⟩ := isOf hZ eT E
  obtain ⟨v, _, ⟨T', L', k', n'⟩, -, X', ⟨Lc, hQ, l1, y1, z1⟩, st⟩ := X.virtualBackUp hx (x := y) (y := z) hown (mvT hZ w1) (mvT hZ w7) (mvT hZ w2) hy (mvT hZ w5) (mvT hZ w6) (backOf (W := W) hM hZ w4 w3 h1 h2) qa qc (g := g) hg hsize (Steps.refl _) (argsL := argsL) (rest := rest) (lenOf hd hl) hstack (Nat.le_of_eq hW) hdg (fun _ _ => ⟨ha, eT, h3, h4⟩)
  dsimp only [Pt.U, Pt.locs, Pt.cells, Pt.slots] at X' l1 y1 z1 st hQ
  subst l1 y1 z1
  exact ⟨T', v, Lc, X', hQ, fun _ k => st.trans k⟩
theorem own_callI (X : Stand p l e R s m args below meth c T locs cells slots) (hx : p.tables.exec = Jvm.exec) (hZ : Z.Warmed39 s.vm) {own C : String} {index count : Nat} {y z : MethodName} {bytes : ByteArray} {maxL : Nat} {ret : Option FieldType} {rm : Room} {as' : Array Value} {Q : Option Value → Heap → List Loc → Prop}
    (hown : s.vm.findClass own = some m.cls) (w1 : (Cond.methodLink own index y).before a0 Z = true) (w2 : (Cond.declares y).before a0 Z = true) (w7 : (Cond.interfaceMethod y.cls y.cls y.name y.desc).before args s = true) (w5 : (Cond.selects C y z).before a0 Z = true) (w6 : (Cond.instanceMethod z).before a0 Z = true) (w8 : (Cond.publicMethod z).before a0 Z = true) (w9 : (Cond.unhidden C y.name y.desc).before a0 Z = true) (w10 : (Cond.castable C y.cls).before a0 Z = true) (w3 : (Cond.initialized z.cls).before a0 Z = true) (w4 : (Cond.code z bytes maxL ret).before a0 Z = true)
    (hy : y.cls ≠ "java/lang/invoke/MethodHandle" ∧ y.cls ≠ "java/lang/invoke/VarHandle") (hM : own_Met l z bytes maxL ret [] rm Z h as' Q) (eT : T.heap = h) {a : Addr} (E : Exa Z h a C) {ps : List FieldType} {r : Option FieldType} (hd : parseMethodDescriptor y.desc = some ⟨ps, r⟩) {argsL rest : List Value} (hl : argsL.length = ps.length) (ha : (.ref a :: argsL).toArray = as')
    {g : JFrame} (hg : g.method = m) (hsize : g.locals.size = c.maxLocals) (hstack : g.stack = argsL.reverse ++ .ref a :: rest) (hdg : decode c.code g.pc = .ok (.invokeinterface index count, 5)) {W : Nat} (hW : 2 * g.monitorRoom + (rest.map fun v => v.category).sum = W) (h1 : rm.frames + 1 ≤ R.frames) (h2 : W + (maxL + 11) + rm.locals ≤ R.locals) (h3 : cells + rm.cells ≤ R.cells) (h4 : slots + rm.slots ≤ R.slots) :
    own_Came p l e R s m args below meth c T locs (cells + rm.cells) (slots + rm.slots) g 5 rest Q := by
  obtain ⟨cq, kq, qa, qb, qc⟩ := isOf hZ eT E
  obtain ⟨v, _, ⟨T', L', k', n'⟩, -, X', ⟨Lc, hQ, l1, y1, z1⟩, st⟩ := X.interfaceBack hx (xi := y) (y := z) hown (mvT hZ w1) (mvT hZ w2) w7 (mvT hZ w5) (mvT hZ w6) (mvT hZ w8) (mvT hZ w9) (mvT hZ w10) hy (backOf (W := W) hM hZ w4 w3 h1 h2) qa qb qc (g := g) hg hsize (Steps.refl _) (argsL := argsL) (rest := rest) (lenOf hd hl) hstack (Nat.le_of_eq hW) hdg (fun _ _ => ⟨ha, eT, h3, h4⟩)
  dsimp only [Pt.U, Pt.locs, Pt.cells, Pt.slots] at X' l1 y1 z1 st hQ
  subst l1 y1 z1
  exact ⟨T', v, Lc, X', hQ, fun _ k => st.trans k⟩
theorem own_selP (hZ : Z.Warmed39 s.vm) {y : MethodName} {n : Nat} (w1 : (Cond.instantiable y.cls n).before a0 Z = true) (w2 : (Cond.privateMethod y).before a0 Z = true) (w3 : (Cond.instanceMethod y).before a0 Z = true) (hy : y.cls ≠ "java/lang/invoke/MethodHandle" ∧ y.cls ≠ "java/lang/invoke/VarHandle") : (Cond.selects y.cls y y).before args s = true := by
  obtain ⟨c, k, h1, h2, -, h3, -⟩ := Cond.instantiable_spec (mvT hZ w1 (args := args))
  exact Jvm.Stand.selects_self_of_private h1 h2 (by simp at h3; exact h3.1) (Cond.privateMethod_at (mvP hZ w2 (args := args))) (mvT hZ w3) hy
theorem own_callP (X : Stand p l e R s m args below meth c T locs cells slots) (hx : p.tables.exec = Jvm.exec) (hZ : Z.Warmed39 s.vm) {own : String} {index : Nat} {y : MethodName} {bytes : ByteArray} {maxL : Nat} {ret : Option FieldType} {rm : Room} {as' : Array Value} {Q : Option Value → Heap → List Loc → Prop}
    (hown : s.vm.findClass own = some m.cls) (w1 : (Cond.methodLink own index y).before a0 Z = true) (w6 : (Cond.instanceMethod y).before a0 Z = true) (w5 : (Cond.selects y.cls y y).before args s = true) (w7 : (Cond.privateMethod y).before a0 Z = true) (w3 : (Cond.initialized y.cls).before a0 Z = true) (w4 : (Cond.code y bytes maxL ret).before a0 Z = true)
    (hy : y.cls ≠ "java/lang/invoke/MethodHandle" ∧ y.cls ≠ "java/lang/invoke/VarHandle") (hM : own_Met l y bytes maxL ret [] rm Z h as' Q) (eT : T.heap = h) {a : Addr} {C : String} (E : Exa Z h a C) {ps : List FieldType} {r : Option FieldType} (hd : parseMethodDescriptor y.desc = some ⟨ps, r⟩) {argsL rest : List Value} (hl : argsL.length = ps.length) (ha : (.ref a :: argsL).toArray = as')
    {g : JFrame} (hg : g.method = m) (hsize : g.locals.size = c.maxLocals) (hstack : g.stack = argsL.reverse ++ .ref a :: rest) (hdg : decode c.code g.pc = .ok (.invokevirtual index, 3)) {W : Nat} (hW : 2 * g.monitorRoom + (rest.map fun v => v.category).sum = W) (h1 : rm.frames + 1 ≤ R.frames) (h2 : W + (maxL + 11) + rm.locals ≤ R.locals) (h3 : cells + rm.cells ≤ R.cells) (h4 : slots + rm.slots ≤ R.slots) :
    own_Came p l e R s m args below meth c T locs (cells + rm.cells) (slots + rm.slots) g 3 rest Q := by
  obtain ⟨cq, q, q'⟩ := E.cell
  obtain ⟨v, _, ⟨T', L', k', n'⟩, -, X', ⟨Lc, hQ, l1, y1, z1⟩, st⟩ := X.privateBack hx (y := y) hown (mvT hZ w1) (mvT hZ w6) w5 (Cond.privateMethod_at (mvP hZ w7 (args := #[]))) (mvT hZ w4) hy (backOf (W := W) hM hZ w4 w3 h1 h2) (g := g) hg hsize (Steps.refl _) (a := a) (by rw [eT]; exact q) q' (argsL := argsL) (rest := rest) (lenOf hd hl) hstack (Nat.le_of_eq hW) hdg (fun _ _ => ⟨ha, eT, h3, h4⟩)
  dsimp only [Pt.U, Pt.locs, Pt.cells, Pt.slots] at X' l1 y1 z1 st hQ
  subst l1 y1 z1
  exact ⟨T', v, Lc, X', hQ, fun _ k => st.trans k⟩
theorem own_nl {n0 : Nat} {Z : State} (O : Old Z n0 h) : n0 ≤ h.size := O.1 ▸ O.2.1
theorem own_tt {x : Bool} (h : x = true) : x = true := h
end Own
section Own2
variable {args : Array Value} {Z : State} {a : Addr} {O f d : String} {k : Int32} {t : Term} {v : Value} {ty : FieldType}
theorem own_fldI (ht : t.eval args Z none [] Z = some (.ref a)) (h : (Cond.eq (.field t O f d) (.int k)).value args Z none Z [] = some true) : Fld Z Z.heap a O f d (.int k) := by
  obtain ⟨x, y, ea, eb, -, k2⟩ := cmp_v (Or.inl h)
  obtain rfl : y = .int k := (Option.some.inj (eb.symm.trans (Term.int_eval k)))
  obtain ⟨z, rfl⟩ := k2
  obtain rfl : z = k := by simpa [Cond.value, ea, eb] using h
  rw [fld_at ht] at ea
  exact Fld.start ea
theorem own_len {c : Cell} (ht : t.eval args Z none [] Z = some (.ref a)) (A : Arr Z Z.heap a c ty) (h : (Cond.eq (.length t) (.int k)).value args Z none Z [] = some true) : c.slots.size < 2 ^ 31 ∧ c.slots.size.toInt32 = k := by
  obtain ⟨x, y, ea, eb, -, k2⟩ := cmp_v (Or.inl h)
  obtain rfl : y = .int k := (Option.some.inj (eb.symm.trans (Term.int_eval k)))
  obtain ⟨z, rfl⟩ := k2
  obtain rfl : z = k := by simpa [Cond.value, ea, eb] using h
  have hc := Arr.fin (State.Warmed39.refl Z).alike A
  simp only [Term.eval, ht, Option.bind_eq_bind, Option.bind_some, hc] at ea
  split at ea
  · rename_i hl
    exact ⟨by simpa using hl, by simpa using ea⟩
  · cases ea
theorem own_lenN {n : Nat} {k : Int32} (h : n < 2 ^ 31) (e : n.toInt32 = k) : n = k.toNatClampNeg := by
  subst e
  have := len_toInt h
  simp [Int32.toNatClampNeg, this]
theorem own_elem {c : Cell} {i : Int32} (ht : t.eval args Z none [] Z = some (.ref a)) (A : Arr Z Z.heap a c ty) (h : (Cond.eq (.elem t (.int i)) (.int k)).value args Z none Z [] = some true) : c.slots[i.toNatClampNeg]? = some (.int k) := by
  obtain ⟨x, y, ea, eb, -, k2⟩ := cmp_v (Or.inl h)
  obtain rfl : y = .int k := (Option.some.inj (eb.symm.trans (Term.int_eval k)))
  obtain ⟨z, rfl⟩ := k2
  obtain rfl : z = k := by simpa [Cond.value, ea, eb] using h
  exact (elem_in ea ht (Term.int_eval i) A.1).2
theorem own_bb (x : Int32) : nar .byte x.toInt8.toInt32 = x.toInt8.toInt32 := by simp [nar]
theorem own_narG (h : v.isRef = true) : narrow ty v = v := by cases v <;> first | rfl | (cases ty <;> rfl) | simp [Value.isRef] at h
theorem own_fitG (h : v.isRef = true) (ht : ty.isReference = true := by rfl) : fits ty v = true := by cases v <;> cases ty <;> simp_all [Value.isRef, fits, FieldType.isReference]
theorem own_narC (x : Int32) : narrow .char (.int x.toUInt32.toUInt16.toUInt32.toInt32) = .int x.toUInt32.toUInt16.toUInt32.toInt32 := by
  have : x.toUInt32.toUInt16.toUInt32.toInt32.toUInt32.toUInt16.toUInt32.toInt32 = x.toUInt32.toUInt16.toUInt32.toInt32 := by
    apply Int32.toBitVec_inj.1
    apply BitVec.eq_of_toNat_eq
    simp
  show Value.int _ = _
  exact congrArg Value.int this
theorem own_narB (x : Int32) : narrow .byte (.int x.toInt8.toInt32) = .int x.toInt8.toInt32 := by
  have : x.toInt8.toInt32.toInt8.toInt32 = x.toInt8.toInt32 := by simp
  show Value.int _ = _
  exact congrArg Value.int this
end Own2
section OwnW
variable {p : Program} {l : Launch} {e : Env} {R : Room} {s : State} {m : MethodId} {args : Array Value} {below : List Frame} {meth : Method} {c : Code} {T : State} {locs : List Loc} {cells slots : Nat} {Z : State} {a0 : Array Value} {h : Heap} {vm₀ : Vm} {k₀ : Nat}
def own_PW (s : State) (Q : Option Value → Heap → List Loc → Prop) (rc rs : Nat) (o : Outcome) (U : State) : Prop := ∃ v L, o = .returned v ∧ Q v U.heap L ∧ ReturnedEndW s o U L rc rs
theorem own_retW (X : Stand p l e R (s.setVm vm₀) m args below meth c T locs cells slots) (hS : s.Since vm₀ k₀) (hk : k₀ ≤ h.size) (eT : T.heap = h) {Q : Option Value → Heap → List Loc → Prop} {rc rs : Nat} {g : JFrame} {v : Option Value} (hlk : meth.locks = false) (hv : meth.sig.returnType = none → v = none) (hq : Q v T.heap locs) (hc : cells ≤ rc) (hl : slots ≤ rs)
    (k : ∀ fs, (∀ (f : JFrame) (acts : List Action), f.method = m → f.locked = none → f.entered = [] → (doReturn e (T.setTop f) acts v).1 = T.setFrames fs) → Steps p.tables e below (T.setTop g) (T.setFrames fs)) : own_Go p e below (own_PW s Q rc rs) (T.setTop g) := by
  obtain ⟨fs, hr, hrun, hended, hR⟩ := X.leaveW hS (by rw [eT]; exact hk) (v := v) hv hlk
  exact ⟨_, _, k fs hr, hrun, hended, _, _, rfl, hq, hR.1, hR.2.1, hR.2.2.1, hR.2.2.2.mono hc hl⟩
theorem own_retVW (X : Stand p l e R (s.setVm vm₀) m args below meth c T locs cells slots) (hS : s.Since vm₀ k₀) (hk : k₀ ≤ h.size) (eT : T.heap = h) (hx : p.tables.exec = Jvm.exec) {Q : Option Value → Heap → List Loc → Prop} {rc rs pc : Nat} {Ls : Array Slot} (hlk : meth.locks = false) (hret : meth.sig.returnType = none) (hd : decode c.code pc = .ok (.return_, 1)) (hc : cells ≤ rc) (hl : slots ≤ rs) (hq : Q none T.heap locs) : own_Go p e below (own_PW s Q rc rs) (T.setTop (mkF m pc Ls [])) :=
  own_retW X hS hk eT hlk (fun _ => rfl) hq hc hl fun _ hr => X.returnOut hx hret hd hr
theorem own_retXW (X : Stand p l e R (s.setVm vm₀) m args below meth c T locs cells slots) (hS : s.Since vm₀ k₀) (hk : k₀ ≤ h.size) (eT : T.heap = h) (hx : p.tables.exec = Jvm.exec) {Q : Option Value → Heap → List Loc → Prop} {rc rs pc : Nat} {Ls : Array Slot} {w : Value} {t : FieldType} {i : Instr} {rest : List Value} (hlk : meth.locks = false) (hret : meth.sig.returnType = some t) (hn : narrow t w = w)
    (hi : (i = .ireturn ∧ (t = .int ∨ t = .boolean ∨ t = .byte ∨ t = .char ∨ t = .short) ∧ ∃ z, w = .int z) ∨ (i = .lreturn ∧ t = .long ∧ ∃ z, w = .long z) ∨ (i = .dreturn ∧ t = .double ∧ ∃ z, w = .double z) ∨ (i = .freturn ∧ t = .float ∧ ∃ z, w = .float z) ∨ (i = .areturn ∧ t.isReference = true ∧ w.isRef = true))
    (hd : decode c.code pc = .ok (i, 1)) (hc : cells ≤ rc) (hl : slots ≤ rs) (hq : Q (some w) T.heap locs) : own_Go p e below (own_PW s Q rc rs) (T.setTop (mkF m pc Ls (w :: rest))) :=
  own_retW X hS hk eT hlk (fun q => by rw [hret] at q; cases q) hq hc hl fun _ hr => retOut X hx hret hn hi hd hr
abbrev own_MetW (l : Launch) (y : MethodName) (bytes : ByteArray) (maxL : Nat) (ret : Option FieldType) (ws : List Cond) (rm : Room) (Z : State) (h : Heap) (as' : Array Value) (Q : Option Value → Heap → List Loc → Prop) : Prop :=
  MetFree l y (head1 (Cond.code y bytes maxL ret :: ws) rm) (fun a U => a = as' ∧ Z.Warmed39 U.vm ∧ U.heap = h) (fun _ _ _ _ _ => True) (fun _ U o U' => ∃ v L, o = .returned v ∧ Q v U'.heap L ∧ ReturnedEndW U o U' L rm.cells rm.slots)
theorem own_bodyW {y : MethodName} {bytes : ByteArray} {maxL : Nat} {ret : Option FieldType} {rm : Room} {ws : List Cond} {as' : Array Value} {Q : Option Value → Heap → List Loc → Prop} (hn : plainFor y = true)
    (b : ∀ (p : Program) (e : Env) (s : State) (m : MethodId) (below : List Frame) (meth : Method) (c : Code) (s₁ : State), p.tables.exec = Jvm.exec → c.code = bytes → c.maxLocals = maxL → (s.setVm s.vm).vm.findClass y.cls = some m.cls → meth.name = y.name → meth.sig.returnType = ret → meth.locks = false → Z.Warmed39 (s.setVm s.vm).vm → s₁.heap = h → Stand p l e rm (s.setVm s.vm) m as' below meth c s₁ [] 0 0 → s.Since s.vm 0 →
      own_Go p e below (own_PW s Q rm.cells rm.slots) (s₁.setTop (entryFrame m as' maxL))) :
    own_MetW l y bytes maxL ret ws rm Z h as' Q := by
  refine MetFree.of_bodySF hn hisR ?_
  intro p e s m args below meth c s₁ Bd hml0 hP hK
  obtain ⟨rfl, hZ, hh⟩ := hP
  exact b p e s m below meth c s₁ Bd.exec Bd.bytes hml0 (findClass_of_methodNamed Bd.named) (name_of_methodNamed Bd.named Bd.method).1 Bd.returns Bd.notSynchronized hZ (by rw [← hh, Bd.state]; rfl) (Stand.of_body Bd) ((State.WarmedH.refl s).since 0)
abbrev own_CameW (p : Program) (l : Launch) (e : Env) (R : Room) (s : State) (m : MethodId) (args : Array Value) (below : List Frame) (meth : Method) (c : Code) (T : State) (locs : List Loc) (cells slots : Nat) (Z : State) (own : String) (g : JFrame) (len : Nat) (rest : List Value) (Q : Option Value → Heap → List Loc → Prop) : Prop :=
  ∃ (T' : State) (v : Option Value) (L : List Loc), Stand p l e R (s.setVm T'.vm) m args below meth c T' (locs ++ L) cells slots ∧ s.Since T'.vm T'.heap.size ∧ Z.Warmed39 (s.setVm T'.vm).vm ∧ (s.setVm T'.vm).vm.findClass own = some m.cls ∧ Q v T'.heap L ∧ ∀ t, Steps p.tables e below (T'.setTop { g with pc := g.pc + len, stack := v.toList ++ rest }) t → Steps p.tables e below (T.setTop g) t
theorem own_callSW (X : Stand p l e R (s.setVm vm₀) m args below meth c T locs cells slots) (hx : p.tables.exec = Jvm.exec) (hZ : Z.Warmed39 (s.setVm vm₀).vm) (hS : s.Since vm₀ k₀) (hk : k₀ ≤ h.size) {own : String} {index : Nat} {y : MethodName} {bytes : ByteArray} {maxL : Nat} {ret : Option FieldType} {rm : Room} {as' : Array Value} {Q : Option Value → Heap → List Loc → Prop}
    (hown : (s.setVm vm₀).vm.findClass own = some m.cls) (w1 : (Cond.methodLink own index y).before a0 Z = true) (w2 : (Cond.static y).before a0 Z = true) (w3 : (Cond.initialized y.cls).before a0 Z = true) (w4 : (Cond.code y bytes maxL ret).before a0 Z = true)
    (hy : y.cls ≠ "java/lang/invoke/MethodHandle" ∧ y.cls ≠ "java/lang/invoke/VarHandle") (hM : own_MetW l y bytes maxL ret [] rm Z h as' Q) (eT : T.heap = h) {ps : List FieldType} {r : Option FieldType} (hd : parseMethodDescriptor y.desc = some ⟨ps, r⟩) {argsL rest : List Value} (hl : argsL.length = ps.length) (ha : argsL.toArray = as')
    {g : JFrame} (hg : g.method = m) (hsize : g.locals.size = c.maxLocals) (hstack : g.stack = argsL.reverse ++ rest) (hdg : decode c.code g.pc = .ok (.invokestatic index, 3)) {W : Nat} (hW : 2 * g.monitorRoom + (rest.map fun v => v.category).sum = W) (h1 : rm.frames + 1 ≤ R.frames) (h2 : W + (maxL + 11) + rm.locals ≤ R.locals) (h3 : cells + rm.cells ≤ R.cells) (h4 : slots + rm.slots ≤ R.slots) :
    own_CameW p l e R s m args below meth c T locs (cells + rm.cells) (slots + rm.slots) Z own g 3 rest Q := by
  obtain ⟨v, _, ⟨T', L', k', n'⟩, -, X', hS', hgr, ⟨Lc, hQ, l1, y1, z1⟩, st⟩ := callSS X hx (y := y) hown (mvT hZ w1) (mvT hZ w2) (mvT hZ w3) (mvT hZ w4) hy (backOfS (W := W) hM hZ w4 w3 h1 h2) (g := g) hg hsize (argsL := argsL) (rest := rest) (lenOf hd hl) hstack (Nat.le_of_eq hW) hdg (fun _ _ => ⟨ha, eT, h3, h4⟩)
  dsimp only [Pt.U, Pt.locs, Pt.cells, Pt.slots] at X' hS' hgr l1 y1 z1 st hQ
  subst l1 y1 z1
  obtain ⟨r1, r2, r3, r4⟩ := rebS hS (by rw [eT]; exact hk) X' hS' hgr hZ hown
  exact ⟨T', v, Lc, r1, r2, r3, r4, hQ, fun _ k => st.trans k⟩
theorem own_callNW (X : Stand p l e R (s.setVm vm₀) m args below meth c T locs cells slots) (hx : p.tables.exec = Jvm.exec) (hZ : Z.Warmed39 (s.setVm vm₀).vm) (hS : s.Since vm₀ k₀) (hk : k₀ ≤ h.size) {own : String} {index : Nat} {y : MethodName} {bytes : ByteArray} {maxL : Nat} {rm : Room} {as' : Array Value} {Q : Option Value → Heap → List Loc → Prop} (hy1 : y.name = "<init>")
    (hown : (s.setVm vm₀).vm.findClass own = some m.cls) (w1 : (Cond.methodLink own index y).before a0 Z = true) (w2 : (Cond.instanceMethod y).before a0 Z = true) (w3 : (Cond.initialized y.cls).before a0 Z = true) (w4 : (Cond.code y bytes maxL none).before a0 Z = true)
    (hy : y.cls ≠ "java/lang/invoke/MethodHandle" ∧ y.cls ≠ "java/lang/invoke/VarHandle") (hM : own_MetW l y bytes maxL none [] rm Z h as' Q) (eT : T.heap = h) {ps : List FieldType} {r : Option FieldType} (hd : parseMethodDescriptor y.desc = some ⟨ps, r⟩) {a : Addr} {argsL rest : List Value} (hl : argsL.length = ps.length) (ha : (.ref a :: argsL).toArray = as')
    {g : JFrame} (hg : g.method = m) (hsize : g.locals.size = c.maxLocals) (hstack : g.stack = argsL.reverse ++ .ref a :: rest) (hdg : decode c.code g.pc = .ok (.invokespecial index, 3)) {W : Nat} (hW : 2 * g.monitorRoom + (rest.map fun v => v.category).sum = W) (h1 : rm.frames + 1 ≤ R.frames) (h2 : W + (maxL + 11) + rm.locals ≤ R.locals) (h3 : cells + rm.cells ≤ R.cells) (h4 : slots + rm.slots ≤ R.slots) :
    own_CameW p l e R s m args below meth c T locs (cells + rm.cells) (slots + rm.slots) Z own g 3 rest Q := by
  obtain ⟨v, _, ⟨T', L', k', n'⟩, -, X', hS', hgr, ⟨Lc, hQ, l1, y1, z1⟩, st⟩ := X.specialBackS hx (y := y) hy1 hown (mvT hZ w1) (mvT hZ w2) (mvT hZ w4) hy (backOfS (W := W) hM hZ w4 w3 h1 h2) (g := g) hg hsize (Steps.refl _) (a := a) (argsL := argsL) (rest := rest) (lenOf hd hl) hstack (Nat.le_of_eq hW) hdg (fun _ _ => ⟨ha, eT, h3, h4⟩)
  dsimp only [Pt.U, Pt.locs, Pt.cells, Pt.slots] at X' hS' hgr l1 y1 z1 st hQ
  subst l1 y1 z1
  obtain ⟨r1, r2, r3, r4⟩ := rebS hS (by rw [eT]; exact hk) X' hS' hgr hZ hown
  exact ⟨T', v, Lc, r1, r2, r3, r4, hQ, fun _ k => st.trans k⟩
theorem own_callVW (X : Stand p l e R (s.setVm vm₀) m args below meth c T locs cells slots) (hx : p.tables.exec = Jvm.exec) (hZ : Z.Warmed39 (s.setVm vm₀).vm) (hS : s.Since vm₀ k₀) (hk : k₀ ≤ h.size) {own C : String} {index : Nat} {y z : MethodName} {bytes : ByteArray} {maxL : Nat} {ret : Option FieldType} {rm : Room} {as' : Array Value} {Q : Option Value → Heap → List Loc → Prop}
    (hown : (s.setVm vm₀).vm.findClass own = some m.cls) (w1 : (Cond.methodLink own index y).before a0 Z = true) (w2 : (Cond.declares y).before a0 Z = true) (hnf : NotFace (s.setVm vm₀) y) (w5 : (Cond.selects C y z).before a0 Z = true) (w6 : (Cond.instanceMethod z).before a0 Z = true) (w3 : (Cond.initialized z.cls).before a0 Z = true) (w4 : (Cond.code z bytes maxL ret).before a0 Z = true)
    (hy : y.cls ≠ "java/lang/invoke/MethodHandle" ∧ y.cls ≠ "java/lang/invoke/VarHandle") (hM : own_MetW l z bytes maxL ret [] rm Z h as' Q) (eT : T.heap = h) {a : Addr} (E : Exa Z h a C) {ps : List FieldType} {r : Option FieldType} (hd : parseMethodDescriptor y.desc = some ⟨ps, r⟩) {argsL rest : List Value} (hl : argsL.length = ps.length) (ha : (.ref a :: argsL).toArray = as')
    {g : JFrame} (hg : g.method = m) (hsize : g.locals.size = c.maxLocals) (hstack : g.stack = argsL.reverse ++ .ref a :: rest) (hdg : decode c.code g.pc = .ok (.invokevirtual index, 3)) {W : Nat} (hW : 2 * g.monitorRoom + (rest.map fun v => v.category).sum = W) (h1 : rm.frames + 1 ≤ R.frames) (h2 : W + (maxL + 11) + rm.locals ≤ R.locals) (h3 : cells + rm.cells ≤ R.cells) (h4 : slots + rm.slots ≤ R.slots) :
    own_CameW p l e R s m args below meth c T locs (cells + rm.cells) (slots + rm.slots) Z own g 3 rest Q := by
  obtain ⟨cq, kq, qa, qb, qc⟩ := isOf hZ eT E
  obtain ⟨v, _, ⟨T', L', k', n'⟩, -, X', hS', hgr, ⟨Lc, hQ, l1, y1, z1⟩, st⟩ := X.virtualBackS hx (y := y) (z := z) hown (mvT hZ w1) (mvT hZ w2) hnf (mvT hZ w5) (mvT hZ w6) hy (backOfS (W := W) hM hZ w4 w3 h1 h2) qa qc (g := g) hg hsize (Steps.refl _) (argsL := argsL) (rest := rest) (lenOf hd hl) hstack (Nat.le_of_eq hW) hdg (fun _ _ => ⟨ha, eT, h3, h4⟩)
  dsimp only [Pt.U, Pt.locs, Pt.cells, Pt.slots] at X' hS' hgr l1 y1 z1 st hQ
  subst l1 y1 z1
  obtain ⟨r1, r2, r3, r4⟩ := rebS hS (by rw [eT]; exact hk) X' hS' hgr hZ hown
  exact ⟨T', v, Lc, r1, r2, r3, r4, hQ, fun _ k => st.trans k⟩
theorem own_callUW (X : Stand p l e R (s.setVm vm₀) m args below meth c T locs cells slots) (hx : p.tables.exec = Jvm.exec) (hZ : Z.Warmed39 (s.setVm vm₀).vm) (hS : s.Since vm₀ k₀) (hk : k₀ ≤ h.size) {own C owner : String} {index : Nat} {y z : MethodName} {bytes : ByteArray} {maxL : Nat} {ret : Option FieldType} {rm : Room} {as' : Array Value} {Q : Option Value → Heap → List Loc → Prop}
    (hown : (s.setVm vm₀).vm.findClass own = some m.cls) (w1 : (Cond.methodLink own index y).before a0 Z = true) (w7 : (Cond.sameMethod y.cls owner y.name y.desc).before a0 Z = true) (w2 : (Cond.declares ⟨owner, y.name, y.desc⟩).before a0 Z = true) (w5 : (Cond.selects C y z).before a0 Z = true) (w6 : (Cond.instanceMethod z).before a0 Z = true) (w3 : (Cond.initialized z.cls).before a0 Z = true) (w4 : (Cond.code z bytes maxL ret).before a0 Z = true)
    (hy : owner ≠ "java/lang/invoke/MethodHandle" ∧ owner ≠ "java/lang/invoke/VarHandle") (hM : own_MetW l z bytes maxL ret [] rm Z h as' Q) (eT : T.heap = h) {a : Addr} (E : Exa Z h a C) {ps : List FieldType} {r : Option FieldType} (hd : parseMethodDescriptor y.desc = some ⟨ps, r⟩) {argsL rest : List Value} (hl : argsL.length = ps.length) (ha : (.ref a :: argsL).toArray = as')
    {g : JFrame} (hg : g.method = m) (hsize : g.locals.size = c.maxLocals) (hstack : g.stack = argsL.reverse ++ .ref a :: rest) (hdg : decode c.code g.pc = .ok (.invokevirtual index, 3)) {W : Nat} (hW : 2 * g.monitorRoom + (rest.map fun v => v.category).sum = W) (h1 : rm.frames + 1 ≤ R.frames) (h2 : W + (maxL + 11) + rm.locals ≤ R.locals) (h3 : cells + rm.cells ≤ R.cells) (h4 : slots + rm.slots ≤ R.slots) :
    own_CameW p l e R s m args below meth c T locs (cells + rm.cells) (slots + rm.slots) Z own g 3 rest Q := by
  obtain ⟨cq, kq, qa, qb, qc⟩ := isOf hZ eT E
  obtain ⟨v, _, ⟨T', L', k', n'⟩, -, X', hS', hgr, ⟨Lc, hQ, l1, y1, z1⟩, st⟩ := virtualBackUpS X hx (x := y) (y := z) hown (mvT hZ w1) (mvT hZ w7) (mvT hZ w2) hy (mvT hZ w5) (mvT hZ w6) (backOfS (W := W) hM hZ w4 w3 h1 h2) qa qc (g := g) hg hsize (Steps.refl _) (argsL := argsL) (rest := rest) (lenOf hd hl) hstack (Nat.le_of_eq hW) hdg (fun _ _ => ⟨ha, eT, h3, h4⟩)
  dsimp only [Pt.U, Pt.locs, Pt.cells, Pt.slots] at X' hS' hgr l1 y1 z1 st hQ
  subst l1 y1 z1
  obtain ⟨r1, r2, r3, r4⟩ := rebS hS (by rw [eT]; exact hk) X' hS' hgr hZ hown
  exact ⟨T', v, Lc, r1, r2, r3, r4, hQ, fun _ k => st.trans k⟩
theorem own_callIW (X : Stand p l e R (s.setVm vm₀) m args below meth c T locs cells slots) (hx : p.tables.exec = Jvm.exec) (hZ : Z.Warmed39 (s.setVm vm₀).vm) (hS : s.Since vm₀ k₀) (hk : k₀ ≤ h.size) {own C : String} {index count : Nat} {y z : MethodName} {bytes : ByteArray} {maxL : Nat} {ret : Option FieldType} {rm : Room} {as' : Array Value} {Q : Option Value → Heap → List Loc → Prop}
    (hown : (s.setVm vm₀).vm.findClass own = some m.cls) (w1 : (Cond.methodLink own index y).before a0 Z = true) (w2 : (Cond.declares y).before a0 Z = true) (w7 : (Cond.interfaceMethod y.cls y.cls y.name y.desc).before args (s.setVm vm₀) = true) (w5 : (Cond.selects C y z).before a0 Z = true) (w6 : (Cond.instanceMethod z).before a0 Z = true) (w8 : (Cond.publicMethod z).before a0 Z = true) (w9 : (Cond.unhidden C y.name y.desc).before a0 Z = true) (w10 : (Cond.castable C y.cls).before a0 Z = true) (w3 : (Cond.initialized z.cls).before a0 Z = true) (w4 : (Cond.code z bytes maxL ret).before a0 Z = true)
    (hy : y.cls ≠ "java/lang/invoke/MethodHandle" ∧ y.cls ≠ "java/lang/invoke/VarHandle") (hM : own_MetW l z bytes maxL ret [] rm Z h as' Q) (eT : T.heap = h) {a : Addr} (E : Exa Z h a C) {ps : List FieldType} {r : Option FieldType} (hd : parseMethodDescriptor y.desc = some ⟨ps, r⟩) {argsL rest : List Value} (hl : argsL.length = ps.length) (ha : (.ref a :: argsL).toArray = as')
    {g : JFrame} (hg : g.method = m) (hsize : g.locals.size = c.maxLocals) (hstack : g.stack = argsL.reverse ++ .ref a :: rest) (hdg : decode c.code g.pc = .ok (.invokeinterface index count, 5)) {W : Nat} (hW : 2 * g.monitorRoom + (rest.map fun v => v.category).sum = W) (h1 : rm.frames + 1 ≤ R.frames) (h2 : W + (maxL + 11) + rm.locals ≤ R.locals) (h3 : cells + rm.cells ≤ R.cells) (h4 : slots + rm.slots ≤ R.slots) :
    own_CameW p l e R s m args below meth c T locs (cells + rm.cells) (slots + rm.slots) Z own g 5 rest Q := by
  obtain ⟨cq, kq, qa, qb, qc⟩ := isOf hZ eT E
  obtain ⟨v, _, ⟨T', L', k', n'⟩, -, X', hS', hgr, ⟨Lc, hQ, l1, y1, z1⟩, st⟩ := X.interfaceBackS hx (xi := y) (y := z) hown (mvT hZ w1) (mvT hZ w2) w7 (mvT hZ w5) (mvT hZ w6) (mvT hZ w8) (mvT hZ w9) (mvT hZ w10) hy (backOfS (W := W) hM hZ w4 w3 h1 h2) qa qb qc (g := g) hg hsize (Steps.refl _) (argsL := argsL) (rest := rest) (lenOf hd hl) hstack (Nat.le_of_eq hW) hdg (fun _ _ => ⟨ha, eT, h3, h4⟩)
  dsimp only [Pt.U, Pt.locs, Pt.cells, Pt.slots] at X' hS' hgr l1 y1 z1 st hQ
  subst l1 y1 z1
  obtain ⟨r1, r2, r3, r4⟩ := rebS hS (by rw [eT]; exact hk) X' hS' hgr hZ hown
  exact ⟨T', v, Lc, r1, r2, r3, r4, hQ, fun _ k => st.trans k⟩
theorem own_callPW (X : Stand p l e R (s.setVm vm₀) m args below meth c T locs cells slots) (hx : p.tables.exec = Jvm.exec) (hZ : Z.Warmed39 (s.setVm vm₀).vm) (hS : s.Since vm₀ k₀) (hk : k₀ ≤ h.size) {own : String} {index : Nat} {y : MethodName} {bytes : ByteArray} {maxL : Nat} {ret : Option FieldType} {rm : Room} {as' : Array Value} {Q : Option Value → Heap → List Loc → Prop}
    (hown : (s.setVm vm₀).vm.findClass own = some m.cls) (w1 : (Cond.methodLink own index y).before a0 Z = true) (w6 : (Cond.instanceMethod y).before a0 Z = true) (w5 : (Cond.selects y.cls y y).before args (s.setVm vm₀) = true) (w7 : (Cond.privateMethod y).before a0 Z = true) (w3 : (Cond.initialized y.cls).before a0 Z = true) (w4 : (Cond.code y bytes maxL ret).before a0 Z = true)
    (hy : y.cls ≠ "java/lang/invoke/MethodHandle" ∧ y.cls ≠ "java/lang/invoke/VarHandle") (hM : own_MetW l y bytes maxL ret [] rm Z h as' Q) (eT : T.heap = h) {a : Addr} {C : String} (E : Exa Z h a C) {ps : List FieldType} {r : Option FieldType} (hd : parseMethodDescriptor y.desc = some ⟨ps, r⟩) {argsL rest : List Value} (hl : argsL.length = ps.length) (ha : (.ref a :: argsL).toArray = as')
    {g : JFrame} (hg : g.method = m) (hsize : g.locals.size = c.maxLocals) (hstack : g.stack = argsL.reverse ++ .ref a :: rest) (hdg : decode c.code g.pc = .ok (.invokevirtual index, 3)) {W : Nat} (hW : 2 * g.monitorRoom + (rest.map fun v => v.category).sum = W) (h1 : rm.frames + 1 ≤ R.frames) (h2 : W + (maxL + 11) + rm.locals ≤ R.locals) (h3 : cells + rm.cells ≤ R.cells) (h4 : slots + rm.slots ≤ R.slots) :
    own_CameW p l e R s m args below meth c T locs (cells + rm.cells) (slots + rm.slots) Z own g 3 rest Q := by
  obtain ⟨cq, q, q'⟩ := E.cell
  obtain ⟨v, _, ⟨T', L', k', n'⟩, -, X', hS', hgr, ⟨Lc, hQ, l1, y1, z1⟩, st⟩ := privateBackS X hx (y := y) hown (mvT hZ w1) (mvT hZ w6) w5 (Cond.privateMethod_at (mvP hZ w7 (args := #[]))) (mvT hZ w4) hy (backOfS (W := W) hM hZ w4 w3 h1 h2) (g := g) hg hsize (Steps.refl _) (a := a) (by rw [eT]; exact q) q' (argsL := argsL) (rest := rest) (lenOf hd hl) hstack (Nat.le_of_eq hW) hdg (fun _ _ => ⟨ha, eT, h3, h4⟩)
  dsimp only [Pt.U, Pt.locs, Pt.cells, Pt.slots] at X' hS' hgr l1 y1 z1 st hQ
  subst l1 y1 z1
  obtain ⟨r1, r2, r3, r4⟩ := rebS hS (by rw [eT]; exact hk) X' hS' hgr hZ hown
  exact ⟨T', v, Lc, r1, r2, r3, r4, hQ, fun _ k => st.trans k⟩
end OwnW
section OwnHeld
variable {p : Program} {l : Launch} {e : Env} {R : Room} {s : State} {m : MethodId} {args : Array Value} {below : List Frame} {meth : Method} {c : Code} {T : State} {locs : List Loc} {cells slots : Nat} {Z : State} {a0 : Array Value} {h : Heap} {vm₀ : Vm} {k₀ : Nat} {EL : List (String × Nat)} {h0 : Heap} {sf : List Addr}
def own_PH (s : State) (Z : State) (EL : List (String × Nat)) (Q : Option Value → Heap → List Loc → Prop) (rc rs : Nat) (o : Outcome) (U : State) : Prop := ∃ v L, o = .returned v ∧ Q v U.heap L ∧ CHr Z EL s.vm s.heap U.vm U.heap ∧ ReturnedEndW s o U L rc rs
theorem own_retH (X : Stand p l e R (s.setVm vm₀) m args below meth c T locs cells slots) (hS : s.Since vm₀ k₀) (hk : k₀ ≤ h.size) (eT : T.heap = h) (hZ : Z.Warmed39 (s.setVm vm₀).vm) (hEL : EW Z a0 EL) (hs0 : s.heap = h0) (hR : CHr Z EL s.vm h0 vm₀ h) {Q : Option Value → Heap → List Loc → Prop} {rc rs : Nat} {g : JFrame} {v : Option Value} (hlk : meth.locks = false) (hv : meth.sig.returnType = none → v = none) (hq : Q v T.heap locs) (hc : cells ≤ rc) (hl : slots ≤ rs)
    (k : ∀ fs, (∀ (f : JFrame) (acts : List Action), f.method = m → f.locked = none → f.entered = [] → (doReturn e (T.setTop f) acts v).1 = T.setFrames fs) → Steps p.tables e below (T.setTop g) (T.setFrames fs)) : own_Go p e below (own_PH s Z EL Q rc rs) (T.setTop g) := by
  have hC : CHr Z EL s.vm s.heap T.vm T.heap := by
    rw [hs0, eT]; exact hR.trans (CHv.at X hZ hEL hR.1)
  obtain ⟨fs, hr, hrun, hended, hR'⟩ := X.leaveW hS (by rw [eT]; exact hk) (v := v) hv hlk
  exact ⟨_, _, k fs hr, hrun, hended, _, _, rfl, hq, hC, hR'.1, hR'.2.1, hR'.2.2.1, hR'.2.2.2.mono hc hl⟩
theorem own_retVH (X : Stand p l e R (s.setVm vm₀) m args below meth c T locs cells slots) (hS : s.Since vm₀ k₀) (hk : k₀ ≤ h.size) (eT : T.heap = h) (hZ : Z.Warmed39 (s.setVm vm₀).vm) (hEL : EW Z a0 EL) (hs0 : s.heap = h0) (hR : CHr Z EL s.vm h0 vm₀ h) (hx : p.tables.exec = Jvm.exec) {Q : Option Value → Heap → List Loc → Prop} {rc rs pc : Nat} {Ls : Array Slot} (hlk : meth.locks = false) (hret : meth.sig.returnType = none) (hd : decode c.code pc = .ok (.return_, 1)) (hc : cells ≤ rc) (hl : slots ≤ rs) (hq : Q none T.heap locs) : own_Go p e below (own_PH s Z EL Q rc rs) (T.setTop (mkF m pc Ls [])) :=
  own_retH X hS hk eT hZ hEL hs0 hR hlk (fun _ => rfl) hq hc hl fun _ hr => X.returnOut hx hret hd hr
theorem own_retXH (X : Stand p l e R (s.setVm vm₀) m args below meth c T locs cells slots) (hS : s.Since vm₀ k₀) (hk : k₀ ≤ h.size) (eT : T.heap = h) (hZ : Z.Warmed39 (s.setVm vm₀).vm) (hEL : EW Z a0 EL) (hs0 : s.heap = h0) (hR : CHr Z EL s.vm h0 vm₀ h) (hx : p.tables.exec = Jvm.exec) {Q : Option Value → Heap → List Loc → Prop} {rc rs pc : Nat} {Ls : Array Slot} {w : Value} {t : FieldType} {i : Instr} {rest : List Value} (hlk : meth.locks = false) (hret : meth.sig.returnType = some t) (hn : narrow t w = w)
    (hi : (i = .ireturn ∧ (t = .int ∨ t = .boolean ∨ t = .byte ∨ t = .char ∨ t = .short) ∧ ∃ z, w = .int z) ∨ (i = .lreturn ∧ t = .long ∧ ∃ z, w = .long z) ∨ (i = .dreturn ∧ t = .double ∧ ∃ z, w = .double z) ∨ (i = .freturn ∧ t = .float ∧ ∃ z, w = .float z) ∨ (i = .areturn ∧ t.isReference = true ∧ w.isRef = true))
    (hd : decode c.code pc = .ok (i, 1)) (hc : cells ≤ rc) (hl : slots ≤ rs) (hq : Q (some w) T.heap locs) : own_Go p e below (own_PH s Z EL Q rc rs) (T.setTop (mkF m pc Ls (w :: rest))) :=
  own_retH X hS hk eT hZ hEL hs0 hR hlk (fun q => by rw [hret] at q; cases q) hq hc hl fun _ hr => retOut X hx hret hn hi hd hr
abbrev own_MetH (EL : List (String × Nat)) (sf : List Addr) (l : Launch) (y : MethodName) (bytes : ByteArray) (maxL : Nat) (ret : Option FieldType) (ws : List Cond) (rm : Room) (Z : State) (h : Heap) (as' : Array Value) (Q : Option Value → Heap → List Loc → Prop) : Prop :=
  MetFree l y (head1 (Cond.code y bytes maxL ret :: ws) rm) (fun a U => a = as' ∧ Z.Warmed39 U.vm ∧ U.heap = h ∧ CHv Z EL U.vm h ∧ ∀ x ∈ sf, Safe Z EL U.vm h x) (fun _ _ _ _ _ => True) (fun _ U o U' => ∃ v L, o = .returned v ∧ Q v U'.heap L ∧ CHr Z EL U.vm U.heap U'.vm U'.heap ∧ ReturnedEndW U o U' L rm.cells rm.slots)
theorem own_bodyH {y : MethodName} {bytes : ByteArray} {maxL : Nat} {ret : Option FieldType} {rm : Room} {ws : List Cond} {as' : Array Value} {Q : Option Value → Heap → List Loc → Prop} (hn : plainFor y = true)
    (b : ∀ (p : Program) (e : Env) (s : State) (m : MethodId) (below : List Frame) (meth : Method) (c : Code) (s₁ : State), p.tables.exec = Jvm.exec → c.code = bytes → c.maxLocals = maxL → (s.setVm s.vm).vm.findClass y.cls = some m.cls → meth.name = y.name → meth.sig.returnType = ret → meth.locks = false → Z.Warmed39 (s.setVm s.vm).vm → s₁.heap = h → Stand p l e rm (s.setVm s.vm) m as' below meth c s₁ [] 0 0 → s.Since s.vm 0 → s.heap = h → CHv Z EL s.vm h → (∀ x ∈ sf, Safe Z EL s.vm h x) →
      own_Go p e below (own_PH s Z EL Q rm.cells rm.slots) (s₁.setTop (entryFrame m as' maxL))) :
    own_MetH EL sf l y bytes maxL ret ws rm Z h as' Q := by
  refine MetFree.of_bodySF hn hisR ?_
  intro p e s m args below meth c s₁ Bd hml0 hP hK
  obtain ⟨rfl, hZ, hh, hC, hsf⟩ := hP
  exact b p e s m below meth c s₁ Bd.exec Bd.bytes hml0 (findClass_of_methodNamed Bd.named) (name_of_methodNamed Bd.named Bd.method).1 Bd.returns Bd.notSynchronized hZ (by rw [← hh, Bd.state]; rfl) (Stand.of_body Bd) ((State.WarmedH.refl s).since 0) hh hC hsf
theorem own_backH {y : MethodName} {bytes : ByteArray} {maxL : Nat} {ret : Option FieldType} {rm : Room} {len W : Nat} {as' : Array Value} {Q : Option Value → Heap → List Loc → Prop} (hM : own_MetH EL sf l y bytes maxL ret [] rm Z h as' Q)
    (hZ : Z.Warmed39 vm₀) (wc : (Cond.code y bytes maxL ret).before a0 Z = true) (wz : (Cond.initialized y.cls).before a0 Z = true) (hf : rm.frames + 1 ≤ R.frames) (hl : W + (maxL + 11) + rm.locals ≤ R.locals) (hEL : EW Z a0 EL) (H : CHv Z EL vm₀ h) (hsf : ∀ x ∈ sf, x < h.size ∧ Safe Z EL vm₀ h x) :
    BackS l R p e below (s.setVm vm₀) args y len W (fun A a => a = as' ∧ A.U.heap = h ∧ A.cells + rm.cells ≤ R.cells ∧ A.slots + rm.slots ≤ R.slots)
      (fun A _ v B => ∃ L, Q v B.U.heap L ∧ B.locs = A.locs ++ L ∧ B.cells = A.cells + rm.cells ∧ B.slots = A.slots + rm.slots ∧ CHr Z EL vm₀ h B.U.vm B.U.heap) :=
  BackS.of_freeW (bytes := bytes) (maxL := maxL) (ret := ret) (E := fun _ first o t L k n => k = rm.cells ∧ n = rm.slots ∧ (∃ v, o = .returned v ∧ Q v t.heap L) ∧ CHr Z EL first.vm first.heap t.vm t.heap) hM hf hl
    (fun m meth c A a Y hp => have hU : Z.Warmed39 A.U.vm := wtrans (s := s.setVm vm₀) hZ Y.warmed
      ⟨by show (Cond.and _ .tt).before a A.U = true; rw [Cond.before_and, mv hU wc]; rfl, mv hU wc, mv hU wz, hp.2.2.1, hp.2.2.2⟩)
    (fun m meth c A a g mk Y hp => have K := CHv.at Y hZ hEL H; ⟨hp.1, wtrans (s := s.setVm vm₀) hZ Y.warmed, hp.2.1, K.1, fun x q => K.safe (hsf x q).1 (hsf x q).2⟩) (fun _ _ _ _ _ _ _ _ _ => trivial)
    (fun _ _ _ _ ⟨v, L, h1, h2, h3, h4⟩ => ⟨L, _, _, h4, rfl, rfl, ⟨v, h1, h2⟩, h3⟩)
    (fun m meth c A a g mk v t L k n Y hp _ _ ⟨e1, e2, ⟨v', e3, e4⟩, e5⟩ => by
      cases e3; subst e1 e2
      refine ⟨L, e4, rfl, rfl, rfl, (CHv.at Y hZ hEL H).trans ?_⟩
      rw [← hp.2.1]; exact e5)
theorem own_sf0 {vm : Vm} : ∀ x ∈ ([] : List Addr), x < h.size ∧ Safe Z EL vm h x := fun _ q => nomatch q
theorem own_sfS {vm : Vm} {x : Addr} (lt : x < h.size) (n : Safe Z EL vm h x) (r : ∀ y ∈ sf, y < h.size ∧ Safe Z EL vm h y) : ∀ y ∈ x :: sf, y < h.size ∧ Safe Z EL vm h y := fun y q => by
  rcases List.mem_cons.mp q with rfl | q
  · exact ⟨lt, n⟩
  · exact r y q
abbrev own_CameH (EL : List (String × Nat)) (vm₀ : Vm) (h : Heap) (p : Program) (l : Launch) (e : Env) (R : Room) (s : State) (m : MethodId) (args : Array Value) (below : List Frame) (meth : Method) (c : Code) (T : State) (locs : List Loc) (cells slots : Nat) (Z : State) (own : String) (g : JFrame) (len : Nat) (rest : List Value) (Q : Option Value → Heap → List Loc → Prop) : Prop :=
  ∃ (T' : State) (v : Option Value) (L : List Loc), Stand p l e R (s.setVm T'.vm) m args below meth c T' (locs ++ L) cells slots ∧ s.Since T'.vm T'.heap.size ∧ Z.Warmed39 (s.setVm T'.vm).vm ∧ (s.setVm T'.vm).vm.findClass own = some m.cls ∧ Q v T'.heap L ∧ CHr Z EL vm₀ h T'.vm T'.heap ∧ ∀ t, Steps p.tables e below (T'.setTop { g with pc := g.pc + len, stack := v.toList ++ rest }) t → Steps p.tables e below (T.setTop g) t
theorem own_callSH (X : Stand p l e R (s.setVm vm₀) m args below meth c T locs cells slots) (hx : p.tables.exec = Jvm.exec) (hZ : Z.Warmed39 (s.setVm vm₀).vm) (hS : s.Since vm₀ k₀) (hk : k₀ ≤ h.size) (hEL : EW Z a0 EL) (H : CHv Z EL vm₀ h) (hsf : ∀ x ∈ sf, x < h.size ∧ Safe Z EL vm₀ h x) {own : String} {index : Nat} {y : MethodName} {bytes : ByteArray} {maxL : Nat} {ret : Option FieldType} {rm : Room} {as' : Array Value} {Q : Option Value → Heap → List Loc → Prop}
    (hown : (s.setVm vm₀).vm.findClass own = some m.cls) (w1 : (Cond.methodLink own index y).before a0 Z = true) (w2 : (Cond.static y).before a0 Z = true) (w3 : (Cond.initialized y.cls).before a0 Z = true) (w4 : (Cond.code y bytes maxL ret).before a0 Z = true)
    (hy : y.cls ≠ "java/lang/invoke/MethodHandle" ∧ y.cls ≠ "java/lang/invoke/VarHandle") (hM : own_MetH EL sf l y bytes maxL ret [] rm Z h as' Q) (eT : T.heap = h) {ps : List FieldType} {r : Option FieldType} (hd : parseMethodDescriptor y.desc = some ⟨ps, r⟩) {argsL rest : List Value} (hl : argsL.length = ps.length) (ha : argsL.toArray = as')
    {g : JFrame} (hg : g.method = m) (hsize : g.locals.size = c.maxLocals) (hstack : g.stack = argsL.reverse ++ rest) (hdg : decode c.code g.pc = .ok (.invokestatic index, 3)) {W : Nat} (hW : 2 * g.monitorRoom + (rest.map fun v => v.category).sum = W) (h1 : rm.frames + 1 ≤ R.frames) (h2 : W + (maxL + 11) + rm.locals ≤ R.locals) (h3 : cells + rm.cells ≤ R.cells) (h4 : slots + rm.slots ≤ R.slots) :
    own_CameH EL vm₀ h p l e R s m args below meth c T locs (cells + rm.cells) (slots + rm.slots) Z own g 3 rest Q := by
  obtain ⟨v, _, ⟨T', L', k', n'⟩, -, X', hS', hgr, ⟨Lc, hQ, l1, y1, z1, hr⟩, st⟩ := callSS X hx (y := y) hown (mvT hZ w1) (mvT hZ w2) (mvT hZ w3) (mvT hZ w4) hy (own_backH (W := W) hM hZ w4 w3 h1 h2 hEL H hsf) (g := g) hg hsize (argsL := argsL) (rest := rest) (lenOf hd hl) hstack (Nat.le_of_eq hW) hdg (fun _ _ => ⟨ha, eT, h3, h4⟩)
  dsimp only [Pt.U, Pt.locs, Pt.cells, Pt.slots] at X' hS' hgr l1 y1 z1 st hQ hr
  subst l1 y1 z1
  obtain ⟨r1, r2, r3, r4⟩ := rebS hS (by rw [eT]; exact hk) X' hS' hgr hZ hown
  exact ⟨T', v, Lc, r1, r2, r3, r4, hQ, hr, fun _ k => st.trans k⟩
theorem own_callNH (X : Stand p l e R (s.setVm vm₀) m args below meth c T locs cells slots) (hx : p.tables.exec = Jvm.exec) (hZ : Z.Warmed39 (s.setVm vm₀).vm) (hS : s.Since vm₀ k₀) (hk : k₀ ≤ h.size) (hEL : EW Z a0 EL) (H : CHv Z EL vm₀ h) (hsf : ∀ x ∈ sf, x < h.size ∧ Safe Z EL vm₀ h x) {own : String} {index : Nat} {y : MethodName} {bytes : ByteArray} {maxL : Nat} {rm : Room} {as' : Array Value} {Q : Option Value → Heap → List Loc → Prop} (hy1 : y.name = "<init>")
    (hown : (s.setVm vm₀).vm.findClass own = some m.cls) (w1 : (Cond.methodLink own index y).before a0 Z = true) (w2 : (Cond.instanceMethod y).before a0 Z = true) (w3 : (Cond.initialized y.cls).before a0 Z = true) (w4 : (Cond.code y bytes maxL none).before a0 Z = true)
    (hy : y.cls ≠ "java/lang/invoke/MethodHandle" ∧ y.cls ≠ "java/lang/invoke/VarHandle") (hM : own_MetH EL sf l y bytes maxL none [] rm Z h as' Q) (eT : T.heap = h) {ps : List FieldType} {r : Option FieldType} (hd : parseMethodDescriptor y.desc = some ⟨ps, r⟩) {a : Addr} {argsL rest : List Value} (hl : argsL.length = ps.length) (ha : (.ref a :: argsL).toArray = as')
    {g : JFrame} (hg : g.method = m) (hsize : g.locals.size = c.maxLocals) (hstack : g.stack = argsL.reverse ++ .ref a :: rest) (hdg : decode c.code g.pc = .ok (.invokespecial index, 3)) {W : Nat} (hW : 2 * g.monitorRoom + (rest.map fun v => v.category).sum = W) (h1 : rm.frames + 1 ≤ R.frames) (h2 : W + (maxL + 11) + rm.locals ≤ R.locals) (h3 : cells + rm.cells ≤ R.cells) (h4 : slots + rm.slots ≤ R.slots) :
    own_CameH EL vm₀ h p l e R s m args below meth c T locs (cells + rm.cells) (slots + rm.slots) Z own g 3 rest Q := by
  obtain ⟨v, _, ⟨T', L', k', n'⟩, -, X', hS', hgr, ⟨Lc, hQ, l1, y1, z1, hr⟩, st⟩ := X.specialBackS hx (y := y) hy1 hown (mvT hZ w1) (mvT hZ w2) (mvT hZ w4) hy (own_backH (W := W) hM hZ w4 w3 h1 h2 hEL H hsf) (g := g) hg hsize (Steps.refl _) (a := a) (argsL := argsL) (rest := rest) (lenOf hd hl) hstack (Nat.le_of_eq hW) hdg (fun _ _ => ⟨ha, eT, h3, h4⟩)
  dsimp only [Pt.U, Pt.locs, Pt.cells, Pt.slots] at X' hS' hgr l1 y1 z1 st hQ hr
  subst l1 y1 z1
  obtain ⟨r1, r2, r3, r4⟩ := rebS hS (by rw [eT]; exact hk) X' hS' hgr hZ hown
  exact ⟨T', v, Lc, r1, r2, r3, r4, hQ, hr, fun _ k => st.trans k⟩
theorem own_callVH (X : Stand p l e R (s.setVm vm₀) m args below meth c T locs cells slots) (hx : p.tables.exec = Jvm.exec) (hZ : Z.Warmed39 (s.setVm vm₀).vm) (hS : s.Since vm₀ k₀) (hk : k₀ ≤ h.size) (hEL : EW Z a0 EL) (H : CHv Z EL vm₀ h) (hsf : ∀ x ∈ sf, x < h.size ∧ Safe Z EL vm₀ h x) {own C : String} {index : Nat} {y z : MethodName} {bytes : ByteArray} {maxL : Nat} {ret : Option FieldType} {rm : Room} {as' : Array Value} {Q : Option Value → Heap → List Loc → Prop}
    (hown : (s.setVm vm₀).vm.findClass own = some m.cls) (w1 : (Cond.methodLink own index y).before a0 Z = true) (w2 : (Cond.declares y).before a0 Z = true) (hnf : NotFace (s.setVm vm₀) y) (w5 : (Cond.selects C y z).before a0 Z = true) (w6 : (Cond.instanceMethod z).before a0 Z = true) (w3 : (Cond.initialized z.cls).before a0 Z = true) (w4 : (Cond.code z bytes maxL ret).before a0 Z = true)
    (hy : y.cls ≠ "java/lang/invoke/MethodHandle" ∧ y.cls ≠ "java/lang/invoke/VarHandle") (hM : own_MetH EL sf l z bytes maxL ret [] rm Z h as' Q) (eT : T.heap = h) {a : Addr} (E : Exa Z h a C) {ps : List FieldType} {r : Option FieldType} (hd : parseMethodDescriptor y.desc = some ⟨ps, r⟩) {argsL rest : List Value} (hl : argsL.length = ps.length) (ha : (.ref a :: argsL).toArray = as')
    {g : JFrame} (hg : g.method = m) (hsize : g.locals.size = c.maxLocals) (hstack : g.stack = argsL.reverse ++ .ref a :: rest) (hdg : decode c.code g.pc = .ok (.invokevirtual index, 3)) {W : Nat} (hW : 2 * g.monitorRoom + (rest.map fun v => v.category).sum = W) (h1 : rm.frames + 1 ≤ R.frames) (h2 : W + (maxL + 11) + rm.locals ≤ R.locals) (h3 : cells + rm.cells ≤ R.cells) (h4 : slots + rm.slots ≤ R.slots) :
    own_CameH EL vm₀ h p l e R s m args below meth c T locs (cells + rm.cells) (slots + rm.slots) Z own g 3 rest Q := by
  obtain ⟨cq, kq, qa, qb, qc⟩ := isOf hZ eT E
  obtain ⟨v, _, ⟨T', L', k', n'⟩, -, X', hS', hgr, ⟨Lc, hQ, l1, y1, z1, hr⟩, st⟩ := X.virtualBackS hx (y := y) (z := z) hown (mvT hZ w1) (mvT hZ w2) hnf (mvT hZ w5) (mvT hZ w6) hy (own_backH (W := W) hM hZ w4 w3 h1 h2 hEL H hsf) qa qc (g := g) hg hsize (Steps.refl _) (argsL := argsL) (rest := rest) (lenOf hd hl) hstack (Nat.le_of_eq hW) hdg (fun _ _ => ⟨ha, eT, h3, h4⟩)
  dsimp only [Pt.U, Pt.locs, Pt.cells, Pt.slots] at X' hS' hgr l1 y1 z1 st hQ hr
  subst l1 y1 z1
  obtain ⟨r1, r2, r3, r4⟩ := rebS hS (by rw [eT]; exact hk) X' hS' hgr hZ hown
  exact ⟨T', v, Lc, r1, r2, r3, r4, hQ, hr, fun _ k => st.trans k⟩
theorem own_callUH (X : Stand p l e R (s.setVm vm₀) m args below meth c T locs cells slots) (hx : p.tables.exec = Jvm.exec) (hZ : Z.Warmed39 (s.setVm vm₀).vm) (hS : s.Since vm₀ k₀) (hk : k₀ ≤ h.size) (hEL : EW Z a0 EL) (H : CHv Z EL vm₀ h) (hsf : ∀ x ∈ sf, x < h.size ∧ Safe Z EL vm₀ h x) {own C owner : String} {index : Nat} {y z : MethodName} {bytes : ByteArray} {maxL : Nat} {ret : Option FieldType} {rm : Room} {as' : Array Value} {Q : Option Value → Heap → List Loc → Prop}
    (hown : (s.setVm vm₀).vm.findClass own = some m.cls) (w1 : (Cond.methodLink own index y).before a0 Z = true) (w7 : (Cond.sameMethod y.cls owner y.name y.desc).before a0 Z = true) (w2 : (Cond.declares ⟨owner, y.name, y.desc⟩).before a0 Z = true) (w5 : (Cond.selects C y z).before a0 Z = true) (w6 : (Cond.instanceMethod z).before a0 Z = true) (w3 : (Cond.initialized z.cls).before a0 Z = true) (w4 : (Cond.code z bytes maxL ret).before a0 Z = true)
    (hy : owner ≠ "java/lang/invoke/MethodHandle" ∧ owner ≠ "java/lang/invoke/VarHandle") (hM : own_MetH EL sf l z bytes maxL ret [] rm Z h as' Q) (eT : T.heap = h) {a : Addr} (E : Exa Z h a C) {ps : List FieldType} {r : Option FieldType} (hd : parseMethodDescriptor y.desc = some ⟨ps, r⟩) {argsL rest : List Value} (hl : argsL.length = ps.length) (ha : (.ref a :: argsL).toArray = as')
    {g : JFrame} (hg : g.method = m) (hsize : g.locals.size = c.maxLocals) (hstack : g.stack = argsL.reverse ++ .ref a :: rest) (hdg : decode c.code g.pc = .ok (.invokevirtual index, 3)) {W : Nat} (hW : 2 * g.monitorRoom + (rest.map fun v => v.category).sum = W) (h1 : rm.frames + 1 ≤ R.frames) (h2 : W + (maxL + 11) + rm.locals ≤ R.locals) (h3 : cells + rm.cells ≤ R.cells) (h4 : slots + rm.slots ≤ R.slots) :
    own_CameH EL vm₀ h p l e R s m args below meth c T locs (cells + rm.cells) (slots + rm.slots) Z own g 3 rest Q := by
  obtain ⟨cq, kq, qa, qb, qc⟩ := isOf hZ eT E
  obtain ⟨v, _, ⟨T', L', k', n'⟩, -, X', hS', hgr, ⟨Lc, hQ, l1, y1, z1, hr⟩, st⟩ := virtualBackUpS X hx (x := y) (y := z) hown (mvT hZ w1) (mvT hZ w7) (mvT hZ w2) hy (mvT hZ w5) (mvT hZ w6) (own_backH (W := W) hM hZ w4 w3 h1 h2 hEL H hsf) qa qc (g := g) hg hsize (Steps.refl _) (argsL := argsL) (rest := rest) (lenOf hd hl) hstack (Nat.le_of_eq hW) hdg (fun _ _ => ⟨ha, eT, h3, h4⟩)
  dsimp only [Pt.U, Pt.locs, Pt.cells, Pt.slots] at X' hS' hgr l1 y1 z1 st hQ hr
  subst l1 y1 z1
  obtain ⟨r1, r2, r3, r4⟩ := rebS hS (by rw [eT]; exact hk) X' hS' hgr hZ hown
  exact ⟨T', v, Lc, r1, r2, r3, r4, hQ, hr, fun _ k => st.trans k⟩
theorem own_callIH (X : Stand p l e R (s.setVm vm₀) m args below meth c T locs cells slots) (hx : p.tables.exec = Jvm.exec) (hZ : Z.Warmed39 (s.setVm vm₀).vm) (hS : s.Since vm₀ k₀) (hk : k₀ ≤ h.size) (hEL : EW Z a0 EL) (H : CHv Z EL vm₀ h) (hsf : ∀ x ∈ sf, x < h.size ∧ Safe Z EL vm₀ h x) {own C : String} {index count : Nat} {y z : MethodName} {bytes : ByteArray} {maxL : Nat} {ret : Option FieldType} {rm : Room} {as' : Array Value} {Q : Option Value → Heap → List Loc → Prop}
    (hown : (s.setVm vm₀).vm.findClass own = some m.cls) (w1 : (Cond.methodLink own index y).before a0 Z = true) (w2 : (Cond.declares y).before a0 Z = true) (w7 : (Cond.interfaceMethod y.cls y.cls y.name y.desc).before args (s.setVm vm₀) = true) (w5 : (Cond.selects C y z).before a0 Z = true) (w6 : (Cond.instanceMethod z).before a0 Z = true) (w8 : (Cond.publicMethod z).before a0 Z = true) (w9 : (Cond.unhidden C y.name y.desc).before a0 Z = true) (w10 : (Cond.castable C y.cls).before a0 Z = true) (w3 : (Cond.initialized z.cls).before a0 Z = true) (w4 : (Cond.code z bytes maxL ret).before a0 Z = true)
    (hy : y.cls ≠ "java/lang/invoke/MethodHandle" ∧ y.cls ≠ "java/lang/invoke/VarHandle") (hM : own_MetH EL sf l z bytes maxL ret [] rm Z h as' Q) (eT : T.heap = h) {a : Addr} (E : Exa Z h a C) {ps : List FieldType} {r : Option FieldType} (hd : parseMethodDescriptor y.desc = some ⟨ps, r⟩) {argsL rest : List Value} (hl : argsL.length = ps.length) (ha : (.ref a :: argsL).toArray = as')
    {g : JFrame} (hg : g.method = m) (hsize : g.locals.size = c.maxLocals) (hstack : g.stack = argsL.reverse ++ .ref a :: rest) (hdg : decode c.code g.pc = .ok (.invokeinterface index count, 5)) {W : Nat} (hW : 2 * g.monitorRoom + (rest.map fun v => v.category).sum = W) (h1 : rm.frames + 1 ≤ R.frames) (h2 : W + (maxL + 11) + rm.locals ≤ R.locals) (h3 : cells + rm.cells ≤ R.cells) (h4 : slots + rm.slots ≤ R.slots) :
    own_CameH EL vm₀ h p l e R s m args below meth c T locs (cells + rm.cells) (slots + rm.slots) Z own g 5 rest Q := by
  obtain ⟨cq, kq, qa, qb, qc⟩ := isOf hZ eT E
  obtain ⟨v, _, ⟨T', L', k', n'⟩, -, X', hS', hgr, ⟨Lc, hQ, l1, y1, z1, hr⟩, st⟩ := X.interfaceBackS hx (xi := y) (y := z) hown (mvT hZ w1) (mvT hZ w2) w7 (mvT hZ w5) (mvT hZ w6) (mvT hZ w8) (mvT hZ w9) (mvT hZ w10) hy (own_backH (W := W) hM hZ w4 w3 h1 h2 hEL H hsf) qa qb qc (g := g) hg hsize (Steps.refl _) (argsL := argsL) (rest := rest) (lenOf hd hl) hstack (Nat.le_of_eq hW) hdg (fun _ _ => ⟨ha, eT, h3, h4⟩)
  dsimp only [Pt.U, Pt.locs, Pt.cells, Pt.slots] at X' hS' hgr l1 y1 z1 st hQ hr
  subst l1 y1 z1
  obtain ⟨r1, r2, r3, r4⟩ := rebS hS (by rw [eT]; exact hk) X' hS' hgr hZ hown
  exact ⟨T', v, Lc, r1, r2, r3, r4, hQ, hr, fun _ k => st.trans k⟩
theorem own_callPH (X : Stand p l e R (s.setVm vm₀) m args below meth c T locs cells slots) (hx : p.tables.exec = Jvm.exec) (hZ : Z.Warmed39 (s.setVm vm₀).vm) (hS : s.Since vm₀ k₀) (hk : k₀ ≤ h.size) (hEL : EW Z a0 EL) (H : CHv Z EL vm₀ h) (hsf : ∀ x ∈ sf, x < h.size ∧ Safe Z EL vm₀ h x) {own : String} {index : Nat} {y : MethodName} {bytes : ByteArray} {maxL : Nat} {ret : Option FieldType} {rm : Room} {as' : Array Value} {Q : Option Value → Heap → List Loc → Prop}
    (hown : (s.setVm vm₀).vm.findClass own = some m.cls) (w1 : (Cond.methodLink own index y).before a0 Z = true) (w6 : (Cond.instanceMethod y).before a0 Z = true) (w5 : (Cond.selects y.cls y y).before args (s.setVm vm₀) = true) (w7 : (Cond.privateMethod y).before a0 Z = true) (w3 : (Cond.initialized y.cls).before a0 Z = true) (w4 : (Cond.code y bytes maxL ret).before a0 Z = true)
    (hy : y.cls ≠ "java/lang/invoke/MethodHandle" ∧ y.cls ≠ "java/lang/invoke/VarHandle") (hM : own_MetH EL sf l y bytes maxL ret [] rm Z h as' Q) (eT : T.heap = h) {a : Addr} {C : String} (E : Exa Z h a C) {ps : List FieldType} {r : Option FieldType} (hd : parseMethodDescriptor y.desc = some ⟨ps, r⟩) {argsL rest : List Value} (hl : argsL.length = ps.length) (ha : (.ref a :: argsL).toArray = as')
    {g : JFrame} (hg : g.method = m) (hsize : g.locals.size = c.maxLocals) (hstack : g.stack = argsL.reverse ++ .ref a :: rest) (hdg : decode c.code g.pc = .ok (.invokevirtual index, 3)) {W : Nat} (hW : 2 * g.monitorRoom + (rest.map fun v => v.category).sum = W) (h1 : rm.frames + 1 ≤ R.frames) (h2 : W + (maxL + 11) + rm.locals ≤ R.locals) (h3 : cells + rm.cells ≤ R.cells) (h4 : slots + rm.slots ≤ R.slots) :
    own_CameH EL vm₀ h p l e R s m args below meth c T locs (cells + rm.cells) (slots + rm.slots) Z own g 3 rest Q := by
  obtain ⟨cq, q, q'⟩ := E.cell
  obtain ⟨v, _, ⟨T', L', k', n'⟩, -, X', hS', hgr, ⟨Lc, hQ, l1, y1, z1, hr⟩, st⟩ := privateBackS X hx (y := y) hown (mvT hZ w1) (mvT hZ w6) w5 (Cond.privateMethod_at (mvP hZ w7 (args := #[]))) (mvT hZ w4) hy (own_backH (W := W) hM hZ w4 w3 h1 h2 hEL H hsf) (g := g) hg hsize (Steps.refl _) (a := a) (by rw [eT]; exact q) q' (argsL := argsL) (rest := rest) (lenOf hd hl) hstack (Nat.le_of_eq hW) hdg (fun _ _ => ⟨ha, eT, h3, h4⟩)
  dsimp only [Pt.U, Pt.locs, Pt.cells, Pt.slots] at X' hS' hgr l1 y1 z1 st hQ hr
  subst l1 y1 z1
  obtain ⟨r1, r2, r3, r4⟩ := rebS hS (by rw [eT]; exact hk) X' hS' hgr hZ hown
  exact ⟨T', v, Lc, r1, r2, r3, r4, hQ, hr, fun _ k => st.trans k⟩
end OwnHeld
theorem own_strW {a0 : Array Value} {Z : State} (hw : ∀ d ∈ tables_1, d.before a0 Z = true) : ∀ a ∈ Bundle.stringAtoms, a.before a0 Z = true := fun a ha => hw a (by revert a; decide +kernel)
abbrev own_EL : List (String × Nat) := [("com/example/forgewire/forgewire/beans/ValueDefinition$Text", 7), ("java/lang/String", 7)]
theorem own_hEL {a0 : Array Value} {Z : State} (hw : own_H a0 Z) : EW Z a0 own_EL := (EW.cons (own_w hw 41 rfl) (by decide) (EW.cons (own_w hw 15 rfl) (by decide) EW.nil))
theorem own_stne {t : Term} {k j : Int32} {args : Array Value} {Z : State} (ht : t.eval args Z none [] Z = some (.int j)) (h : (Cond.not (Cond.eq t (.int k))).value args Z none Z [] = some true) : ¬ j = k := by
  have h2 := not_v h
  simpa [Cond.value, ht, Term.int_eval] using h2
theorem own_steq {t : Term} {k : Int32} {args : Array Value} {Z : State} (h : (Cond.eq t (.int k)).value args Z none Z [] = some true) : t.eval args Z none [] Z = some (.int k) := by
  obtain ⟨x, y, ea, eb, -, k2⟩ := cmp_v (Or.inl h)
  obtain rfl : y = .int k := (Option.some.inj (eb.symm.trans (Term.int_eval k)))
  obtain ⟨z, rfl⟩ := k2
  obtain rfl : z = k := by simpa [Cond.value, ea, eb] using h
  exact ea
def own_C16 (v : Int32) : Prop := v.toUInt32.toUInt16.toUInt32.toInt32 = v
theorem own_c16 (x : Int32) : own_C16 (nar .char x) := by
  unfold own_C16 nar
  apply Int32.toBitVec_inj.1
  apply BitVec.eq_of_toNat_eq
  simp
theorem own_m16 (x : BitVec 32) : x % 65536#32 = x &&& 65535#32 := by
  apply BitVec.eq_of_toNat_eq
  simp only [BitVec.toNat_umod, BitVec.toNat_and]
  exact (Nat.and_two_pow_sub_one_eq_mod _ 16).symm
theorem own_l8 (i : Nat) : (255#32).getLsbD i = decide (i < 8) := by
  rw [show (255#32) = BitVec.ofNat 32 (2^8-1) from rfl, BitVec.getLsbD_ofNat, Nat.testBit_two_pow_sub_one]
  by_cases h : i < 8
  · simp [h]; omega
  · simp [h]
theorem own_l16 (i : Nat) : (65535#32).getLsbD i = decide (i < 16) := by
  rw [show (65535#32) = BitVec.ofNat 32 (2^16-1) from rfl, BitVec.getLsbD_ofNat, Nat.testBit_two_pow_sub_one]
  by_cases h : i < 16
  · simp [h]; omega
  · simp [h]
theorem own_gc (c : Int32) (h : own_C16 c) : (((((c >>> ((0 : Int32) &&& 31)).toInt8.toInt32) &&& (255 : Int32)) <<< ((0 : Int32) &&& 31)) ||| ((((c >>> ((8 : Int32) &&& 31)).toInt8.toInt32) &&& (255 : Int32)) <<< ((8 : Int32) &&& 31))).toUInt32.toUInt16.toUInt32.toInt32 = c := by
  unfold own_C16 at h
  conv => rhs; rw [← h]
  apply Int32.toBitVec_inj.1
  simp
  simp only [own_m16]
  apply BitVec.eq_of_getLsbD_eq
  intro i hi
  simp only [BitVec.getLsbD_or, BitVec.getLsbD_and, BitVec.getLsbD_shiftLeft, own_l8, own_l16, BitVec.getLsbD_signExtend, BitVec.getLsbD_sshiftRight]
  by_cases h8 : i < 8
  · have h16 : i < 16 := by omega
    simp [h8, h16, hi]
  · by_cases h16 : i < 16
    · have e : 8 + (i - 8) = i := by omega
      have a1 : i - 8 < 8 := by omega
      have a2 : i - 8 < 32 := by omega
      simp [h8, h16, hi, e, a1, a2]
    · simp [h8, h16]
theorem own_c255 (x : Int32) : ¬ (255 : Int32) < (x &&& (255 : Int32)).toUInt32.toUInt16.toUInt32.toInt32 := by
  rw [i2c_mask, Int32.lt_iff_toInt_lt]
  have h1 := c_and x 255 (by decide)
  omega
theorem own_c255n (x : Int32) : ¬ (255 : Int32) < nar .char (x &&& (255 : Int32)).toUInt32.toUInt16.toUInt32.toInt32 := by
  have h : nar .char (x &&& (255 : Int32)).toUInt32.toUInt16.toUInt32.toInt32 = (x &&& (255 : Int32)).toUInt32.toUInt16.toUInt32.toInt32 := Value.int.inj (own_narC _)
  rw [h]; exact own_c255 x
theorem own_and3 {x : Int32} (h0 : ¬ (x &&& (3 : Int32)) = (0 : Int32)) (h1 : ¬ (x &&& (3 : Int32)) = (1 : Int32)) (h2 : ¬ (x &&& (3 : Int32)) = (2 : Int32)) : (x &&& (3 : Int32)) = (3 : Int32) := by
  have h := c_and x 3 (by decide)
  have n0 : (x &&& 3).toInt ≠ 0 := fun q => h0 (Int32.toInt_inj.mp q)
  have n1 : (x &&& 3).toInt ≠ 1 := fun q => h1 (Int32.toInt_inj.mp q)
  have n2 : (x &&& 3).toInt ≠ 2 := fun q => h2 (Int32.toInt_inj.mp q)
  have h3 : (3 : Int32).toInt = 3 := rfl
  exact Int32.toInt_inj.mp (by omega)
def own_S (Z : State) (wcs : Int32) : Prop := Sta Z Z.heap "java/lang/String" "COMPACT_STRINGS" "Z" (.int wcs) ∧ ¬ wcs = (0 : Int32) ∧ Sta Z Z.heap "java/lang/StringUTF16" "$assertionsDisabled" "Z" (.int (1 : Int32)) ∧ Sta Z Z.heap "java/lang/StringUTF16" "HI_BYTE_SHIFT" "I" (.int (0 : Int32)) ∧ Sta Z Z.heap "java/lang/StringUTF16" "LO_BYTE_SHIFT" "I" (.int (8 : Int32))
theorem own_d_jdk_52_21_0 : decode jdk_52_method_21_code 0 = .ok (.iconst 0, 1) := by decide +kernel
theorem own_d_jdk_52_21_1 : decode jdk_52_method_21_code 1 = .ok (.istore 5, 2) := by decide +kernel
theorem own_d_jdk_52_21_3 : decode jdk_52_method_21_code 3 = .ok (.iload 5, 2) := by decide +kernel
theorem own_d_jdk_52_21_5 : decode jdk_52_method_21_code 5 = .ok (.iload 4, 2) := by decide +kernel
theorem own_d_jdk_52_21_7 : decode jdk_52_method_21_code 7 = .ok (.if_icmp .ge 37, 3) := by decide +kernel
theorem own_d_jdk_52_21_10 : decode jdk_52_method_21_code 10 = .ok (.aload_n 0, 1) := by decide +kernel
theorem own_d_jdk_52_21_11 : decode jdk_52_method_21_code 11 = .ok (.iload_n 1, 1) := by decide +kernel
theorem own_d_jdk_52_21_12 : decode jdk_52_method_21_code 12 = .ok (.caload, 1) := by decide +kernel
theorem own_d_jdk_52_21_13 : decode jdk_52_method_21_code 13 = .ok (.istore 6, 2) := by decide +kernel
theorem own_d_jdk_52_21_15 : decode jdk_52_method_21_code 15 = .ok (.iload 6, 2) := by decide +kernel
theorem own_d_jdk_52_21_17 : decode jdk_52_method_21_code 17 = .ok (.sipush 255, 3) := by decide +kernel
theorem own_d_jdk_52_21_20 : decode jdk_52_method_21_code 20 = .ok (.if_icmp .le 6, 3) := by decide +kernel
theorem own_d_jdk_52_21_23 : decode jdk_52_method_21_code 23 = .ok (.iload 5, 2) := by decide +kernel
theorem own_d_jdk_52_21_25 : decode jdk_52_method_21_code 25 = .ok (.ireturn, 1) := by decide +kernel
abbrev own_y_14 : MethodName := ⟨"java/lang/StringUTF16", "compress", "([CI[BII)I"⟩
theorem own_pn_15 : plainName "java/lang/StringUTF16" = true := by first | (simp [plainName, overriddenIn]; done) | decide +kernel
theorem own_ef_rmCp1_0 (m : MethodId) (a : Addr) (b : Addr)  : entryFrame m #[(.ref a), (.int (0 : Int32)), (.ref b), (.int (0 : Int32)), (.int (1 : Int32))] 7 = mkF m 0 #[.val (.ref a), .val (.int (0 : Int32)), .val (.ref b), .val (.int (0 : Int32)), .val (.int (1 : Int32)), .unset, .unset] [] := by first | (simp [entryFrame, mkF, argsToLocals, Value.category, maxLocals]; done) | rfl
def QrmCp1_0 (Z : State) (wcs : Int32) (a : Addr) (ka : ClassId) (b : Addr) (kb : ClassId) (v0 : Int32) (h0 : Heap) (n0 : Nat) (v : Option Value) (h : Heap) (L : List Loc) : Prop := v = some (.int (0 : Int32)) ∧ Fr n0 L ∧ Keep h0 h [b] ∧ Exa Z h b "[B"
set_option maxRecDepth 65536 in
set_option maxHeartbeats 40000000 in
theorem rmCp1_0 (l : Launch) (Z : State) (a0 : Array Value) (hw : own_H a0 Z) (ws : List Jvm.Cond) (wcs : Int32) (hS : own_S Z wcs) (a : Addr) (ka : ClassId) (b : Addr) (kb : ClassId) (v0 : Int32) (h0 : Heap) (n0 : Nat) (O0 : Old Z n0 h0) (Ea : Exa Z h0 a "[C") (Eb : Exa Z h0 b "[B") (gb : n0 ≤ b) (A1 : Arv Z h0 a ka .char (1 : Int32) [(.int v0)] (.int (0 : Int32))) (A2 : Arv Z h0 b kb .byte (1 : Int32) [(.int (0 : Int32))] (.int (0 : Int32))) (hq0 : (255 : Int32) < v0) :
    own_Met l own_y_14 jdk_52_method_21_code 7 (some .int) ws ({ frames := 0, cells := 0, slots := 0, locals := 0 } : Room) Z h0 #[(.ref a), (.int (0 : Int32)), (.ref b), (.int (0 : Int32)), (.int (1 : Int32))] (QrmCp1_0 Z wcs a ka b kb v0 h0 n0) := by
  refine own_body (plainFor_of_name own_pn_15) ?_
  intro p e s m below meth c s₁ hx hby hml hown hnm hret hlk hZ e0 X0
  have N0 := Fr.nil n0
  refine own_st (fun u_ k_ => castTop (own_ef_rmCp1_0 m a b) k_) ?_
  show own_Go p e below _ (s₁.setTop (mkF m 0 #[.val (.ref a), .val (.int (0 : Int32)), .val (.ref b), .val (.int (0 : Int32)), .val (.int (1 : Int32)), .unset, .unset] []))
  refine own_st (fun u_ k_ => XS.iconst X0.here hx rfl (hb hby own_d_jdk_52_21_0) k_) ?_
  refine own_st (fun u_ k_ => XS.istore X0.here hx rfl (hb hby own_d_jdk_52_21_1) rfl (l' := #[.val (.ref a), .val (.int (0 : Int32)), .val (.ref b), .val (.int (0 : Int32)), .val (.int (1 : Int32)), .val (.int (0 : Int32)), .unset]) rfl k_) ?_
  show own_Go p e below _ (s₁.setTop (mkF m 3 #[.val (.ref a), .val (.int (0 : Int32)), .val (.ref b), .val (.int (0 : Int32)), .val (.int (1 : Int32)), .val (.int (0 : Int32)), .unset] []))
  refine own_st (fun u_ k_ => XS.iload X0.here hx rfl (hb hby own_d_jdk_52_21_3) rfl k_) ?_
  refine own_st (fun u_ k_ => XS.iload X0.here hx rfl (hb hby own_d_jdk_52_21_5) rfl k_) ?_
  show own_Go p e below _ (s₁.setTop (mkF m 7 #[.val (.ref a), .val (.int (0 : Int32)), .val (.ref b), .val (.int (0 : Int32)), .val (.int (1 : Int32)), .val (.int (0 : Int32)), .unset] [(.int (1 : Int32)), (.int (0 : Int32))]))
  refine own_st (fun u_ k_ => XS.icmpNo X0.here hx rfl (hb hby own_d_jdk_52_21_7) rfl (XT.ii_ge_f (by decide)) k_) ?_
  refine own_st (fun u_ k_ => XS.aloadN X0.here hx rfl (hb hby own_d_jdk_52_21_10) rfl rfl k_) ?_
  show own_Go p e below _ (s₁.setTop (mkF m 11 #[.val (.ref a), .val (.int (0 : Int32)), .val (.ref b), .val (.int (0 : Int32)), .val (.int (1 : Int32)), .val (.int (0 : Int32)), .unset] [(.ref a)]))
  refine own_st (fun u_ k_ => XS.iloadN X0.here hx rfl (hb hby own_d_jdk_52_21_11) rfl k_) ?_
  obtain ⟨cl1, Ar1, q1, S1, N1, H1, G1⟩ := id A1
  have hi1 : ¬ ((0 : Int32) < 0 ∨ cl1.slots.size ≤ ((0 : Int32)).toNatClampNeg) := inb_of S1 ⟨by decide, by decide⟩
  have ha1 : cl1.slots[((0 : Int32)).toNatClampNeg]? = some (.int v0) := H1.at hi1 rfl
  refine own_st (X0.caload hx (j := (0 : Int32)) (v := (.int v0)) (by rw [e0]; exact Ar1.1) (State.isArrayOf_alike hZ.alike Ar1.2.1) Ar1.2.2 hi1 ha1 (g := (mkF m 12 #[.val (.ref a), .val (.int (0 : Int32)), .val (.ref b), .val (.int (0 : Int32)), .val (.int (1 : Int32)), .val (.int (0 : Int32)), .unset] [(.int (0 : Int32)), (.ref a)])) rfl rfl (hb hby own_d_jdk_52_21_12)) ?_
  show own_Go p e below _ (s₁.setTop (mkF m 13 #[.val (.ref a), .val (.int (0 : Int32)), .val (.ref b), .val (.int (0 : Int32)), .val (.int (1 : Int32)), .val (.int (0 : Int32)), .unset] [(.int v0)]))
  refine own_st (fun u_ k_ => XS.istore X0.here hx rfl (hb hby own_d_jdk_52_21_13) rfl (l' := #[.val (.ref a), .val (.int (0 : Int32)), .val (.ref b), .val (.int (0 : Int32)), .val (.int (1 : Int32)), .val (.int (0 : Int32)), .val (.int v0)]) rfl k_) ?_
  show own_Go p e below _ (s₁.setTop (mkF m 15 #[.val (.ref a), .val (.int (0 : Int32)), .val (.ref b), .val (.int (0 : Int32)), .val (.int (1 : Int32)), .val (.int (0 : Int32)), .val (.int v0)] []))
  refine own_st (fun u_ k_ => XS.iload X0.here hx rfl (hb hby own_d_jdk_52_21_15) rfl k_) ?_
  refine own_st (fun u_ k_ => XS.sipush X0.here hx rfl (hb hby own_d_jdk_52_21_17) k_) ?_
  show own_Go p e below _ (s₁.setTop (mkF m 20 #[.val (.ref a), .val (.int (0 : Int32)), .val (.ref b), .val (.int (0 : Int32)), .val (.int (1 : Int32)), .val (.int (0 : Int32)), .val (.int v0)] [(.int (255 : Int32)), (.int v0)]))
  refine own_st (fun u_ k_ => XS.icmpNo X0.here hx rfl (hb hby own_d_jdk_52_21_20) rfl (XT.ii_le_f hq0) k_) ?_
  refine own_st (fun u_ k_ => XS.iload X0.here hx rfl (hb hby own_d_jdk_52_21_23) rfl k_) ?_
  show own_Go p e below _ (s₁.setTop (mkF m 25 #[.val (.ref a), .val (.int (0 : Int32)), .val (.ref b), .val (.int (0 : Int32)), .val (.int (1 : Int32)), .val (.int (0 : Int32)), .val (.int v0)] [(.int (0 : Int32))]))
  exact own_retX X0 hx hlk hret rfl (Or.inl ⟨rfl, by simp, _, rfl⟩) (hb hby own_d_jdk_52_21_25) (by decide) (by decide) (show QrmCp1_0 Z wcs a ka b kb v0 h0 n0 (some (.int (0 : Int32))) s₁.heap _ from (by rw [e0]; exact ⟨rfl, N0, (Keep.refl h0 [b]), Eb⟩))
theorem own_d_jdk_52_3_0 : decode jdk_52_method_3_code 0 = .ok (.iload_n 0, 1) := by decide +kernel
theorem own_d_jdk_52_3_1 : decode jdk_52_method_3_code 1 = .ok (.ifCond .ge 11, 3) := by decide +kernel
theorem own_d_jdk_52_3_12 : decode jdk_52_method_3_code 12 = .ok (.iload_n 0, 1) := by decide +kernel
theorem own_d_jdk_52_3_13 : decode jdk_52_method_3_code 13 = .ok (.ldc 20, 2) := by decide +kernel
theorem own_d_jdk_52_3_15 : decode jdk_52_method_3_code 15 = .ok (.if_icmp .lt 40, 3) := by decide +kernel
theorem own_d_jdk_52_3_55 : decode jdk_52_method_3_code 55 = .ok (.iload_n 0, 1) := by decide +kernel
theorem own_d_jdk_52_3_56 : decode jdk_52_method_3_code 56 = .ok (.iconst 1, 1) := by decide +kernel
theorem own_d_jdk_52_3_57 : decode jdk_52_method_3_code 57 = .ok (.ishl, 1) := by decide +kernel
theorem own_d_jdk_52_3_58 : decode jdk_52_method_3_code 58 = .ok (.ireturn, 1) := by decide +kernel
abbrev own_y_25 : MethodName := ⟨"java/lang/StringUTF16", "newBytesLength", "(I)I"⟩
theorem own_ef_rmNL1 (m : MethodId)   : entryFrame m #[(.int (1 : Int32))] 1 = mkF m 0 #[.val (.int (1 : Int32))] [] := by first | (simp [entryFrame, mkF, argsToLocals, Value.category, maxLocals]; done) | rfl
def QrmNL1 (Z : State) (wcs : Int32)  (h0 : Heap) (n0 : Nat) (v : Option Value) (h : Heap) (L : List Loc) : Prop := v = some (.int (2 : Int32)) ∧ Fr n0 L ∧ h = h0
set_option maxRecDepth 65536 in
set_option maxHeartbeats 40000000 in
theorem rmNL1 (l : Launch) (Z : State) (a0 : Array Value) (hw : own_H a0 Z) (ws : List Jvm.Cond) (wcs : Int32) (hS : own_S Z wcs)  (h0 : Heap) (n0 : Nat) (O0 : Old Z n0 h0)  :
    own_Met l own_y_25 jdk_52_method_3_code 1 (some .int) ws ({ frames := 0, cells := 0, slots := 0, locals := 0 } : Room) Z h0 #[(.int (1 : Int32))] (QrmNL1 Z wcs  h0 n0) := by
  refine own_body (plainFor_of_name own_pn_15) ?_
  intro p e s m below meth c s₁ hx hby hml hown hnm hret hlk hZ e0 X0
  have N0 := Fr.nil n0
  refine own_st (fun u_ k_ => castTop (own_ef_rmNL1 m ) k_) ?_
  show own_Go p e below _ (s₁.setTop (mkF m 0 #[.val (.int (1 : Int32))] []))
  refine own_st (fun u_ k_ => XS.iloadN X0.here hx rfl (hb hby own_d_jdk_52_3_0) rfl k_) ?_
  refine own_st (fun u_ k_ => XS.ifYes X0.here hx rfl (pc0 := 1) (pc' := 12) rfl (hb hby own_d_jdk_52_3_1) rfl (XT.i0_ge_t (by decide)) (by decide) (by decide) k_) ?_
  show own_Go p e below _ (s₁.setTop (mkF m 12 #[.val (.int (1 : Int32))] []))
  refine own_st (fun u_ k_ => XS.iloadN X0.here hx rfl (hb hby own_d_jdk_52_3_12) rfl k_) ?_
  refine own_st (X0.ldcInt hx hown (mvT hZ (own_w hw 115 rfl)) (g := (mkF m 13 #[.val (.int (1 : Int32))] [(.int (1 : Int32))])) rfl (hb hby own_d_jdk_52_3_13)) ?_
  show own_Go p e below _ (s₁.setTop (mkF m 15 #[.val (.int (1 : Int32))] [(.int (1073741823 : Int32)), (.int (1 : Int32))]))
  refine own_st (fun u_ k_ => XS.icmpYes X0.here hx rfl (pc0 := 15) (pc' := 55) rfl (hb hby own_d_jdk_52_3_15) rfl (XT.ii_lt_t (by decide)) (by decide) (by decide) k_) ?_
  show own_Go p e below _ (s₁.setTop (mkF m 55 #[.val (.int (1 : Int32))] []))
  refine own_st (fun u_ k_ => XS.iloadN X0.here hx rfl (hb hby own_d_jdk_52_3_55) rfl k_) ?_
  refine own_st (fun u_ k_ => XS.iconst X0.here hx rfl (hb hby own_d_jdk_52_3_56) k_) ?_
  show own_Go p e below _ (s₁.setTop (mkF m 57 #[.val (.int (1 : Int32))] [(.int (1 : Int32)), (.int (1 : Int32))]))
  refine own_st (fun u_ k_ => XS.ishl X0.here hx rfl (hb hby own_d_jdk_52_3_57) rfl k_) ?_
  exact own_retX X0 hx hlk hret rfl (Or.inl ⟨rfl, by simp, _, rfl⟩) (hb hby own_d_jdk_52_3_58) (by decide) (by decide) (show QrmNL1 Z wcs  h0 n0 (some (.int (2 : Int32))) s₁.heap _ from (by rw [e0]; exact ⟨rfl, N0, rfl⟩))
theorem own_d_jdk_52_2_0 : decode jdk_52_method_2_code 0 = .ok (.iload_n 0, 1) := by decide +kernel
theorem own_d_jdk_52_2_1 : decode jdk_52_method_2_code 1 = .ok (.invokestatic 11, 3) := by decide +kernel
theorem own_lm_28 : ("java/lang/StringUTF16" : String) ≠ "java/lang/invoke/MethodHandle" ∧ ("java/lang/StringUTF16" : String) ≠ "java/lang/invoke/VarHandle" := by decide +kernel
theorem own_pd_29 : parseMethodDescriptor "(I)I" = some ⟨[.int], some .int⟩ := by decide +kernel
theorem own_d_jdk_52_2_4 : decode jdk_52_method_2_code 4 = .ok (.newarray .byte, 2) := by decide +kernel
theorem own_lm_31 : "[" ++ (newarray.typeOf .byte).toString = "[B" := by decide +kernel
theorem own_d_jdk_52_2_6 : decode jdk_52_method_2_code 6 = .ok (.areturn, 1) := by decide +kernel
abbrev own_y_33 : MethodName := ⟨"java/lang/StringUTF16", "newBytesFor", "(I)[B"⟩
theorem own_ef_rmNB1 (m : MethodId)   : entryFrame m #[(.int (1 : Int32))] 1 = mkF m 0 #[.val (.int (1 : Int32))] [] := by first | (simp [entryFrame, mkF, argsToLocals, Value.category, maxLocals]; done) | rfl
def QrmNB1 (Z : State) (wcs : Int32)  (h0 : Heap) (n0 : Nat) (v : Option Value) (h : Heap) (L : List Loc) : Prop := ∃ r : Addr, ∃ kr : ClassId, v = some (.ref r) ∧ Fr n0 L ∧ Keep h0 h [] ∧ h0.size ≤ r ∧ Exa Z h r "[B" ∧ Arv Z h r kr .byte (2 : Int32) [(.int (0 : Int32)), (.int (0 : Int32))] (.int (0 : Int32))
set_option maxRecDepth 65536 in
set_option maxHeartbeats 40000000 in
theorem rmNB1 (l : Launch) (Z : State) (a0 : Array Value) (hw : own_H a0 Z) (ws : List Jvm.Cond) (wcs : Int32) (hS : own_S Z wcs)  (h0 : Heap) (n0 : Nat) (O0 : Old Z n0 h0)  :
    own_Met l own_y_33 jdk_52_method_2_code 1 (some (.array .byte)) ws ({ frames := 1, cells := 1, slots := 2, locals := 12 } : Room) Z h0 #[(.int (1 : Int32))] (QrmNB1 Z wcs  h0 n0) := by
  refine own_body (plainFor_of_name own_pn_15) ?_
  intro p e s m below meth c s₁ hx hby hml hown hnm hret hlk hZ e0 X0
  have N0 := Fr.nil n0
  refine own_st (fun u_ k_ => castTop (own_ef_rmNB1 m ) k_) ?_
  show own_Go p e below _ (s₁.setTop (mkF m 0 #[.val (.int (1 : Int32))] []))
  refine own_st (fun u_ k_ => XS.iloadN X0.here hx rfl (hb hby own_d_jdk_52_2_0) rfl k_) ?_
  obtain ⟨T2, v2, L2, X2, hQ2, st2⟩ := own_callS X0 hx hZ (y := own_y_25) hown (own_w hw 112 rfl) (own_w hw 113 rfl) (own_w hw 98 rfl) (own_w hw 114 rfl) own_lm_28 (rmNL1 l Z a0 hw [] wcs hS  h0 n0 O0 ) e0 own_pd_29 (argsL := [(.int (1 : Int32))]) (rest := []) rfl rfl (g := (mkF m 1 #[.val (.int (1 : Int32))] [(.int (1 : Int32))])) rfl (by rw [hml]; rfl) rfl (hb hby own_d_jdk_52_2_1) (W := 0) rfl (by decide) (by decide) (by decide) (by decide)
  obtain ⟨rfl, M2, e2⟩ := hQ2
  have N2 := Fr.app N0 M2
  refine own_st (fun u_ k_ => st2 u_ k_) ?_
  show own_Go p e below _ (T2.setTop (mkF m 4 #[.val (.int (1 : Int32))] [(.int (2 : Int32))]))
  obtain ⟨T3, h3, k3, X3, e3, E3, A3, Y3, st3⟩ := newPE X2 hx hZ (own_w hw 16 rfl) e2 (g := (mkF m 4 #[.val (.int (1 : Int32))] [(.int (2 : Int32))])) rfl (hb hby own_d_jdk_52_2_4) rfl (by decide) (cap := 2) (by decide) (by decide) (by decide) (by decide) (ad := "[B") own_lm_31
  obtain ⟨b3, g3⟩ : ∃ z, z = h0.size := ⟨_, rfl⟩
  rw [← g3] at A3 Y3 st3
  have V3 : Arv Z h3 b3 k3 .byte (2 : Int32) [(.int (0 : Int32)), (.int (0 : Int32))] (.int (0 : Int32)) := (Arv.new A3 (by decide)).pad (pad_rep [] (.int (0 : Int32)) 2)
  refine own_st (fun u_ k_ => st3 u_ k_) ?_
  show own_Go p e below _ (T3.setTop (mkF m 6 #[.val (.int (1 : Int32))] [(.ref b3)]))
  have K4 : Keep h0 h3 [] := (Keep.refl h0 []).ext E3
  have z5 : h0.size ≤ b3 := Nat.le_trans (Nat.le_refl _) (Nat.le_of_eq g3.symm)
  exact own_retX X3 hx hlk hret rfl (Or.inr (Or.inr (Or.inr (Or.inr ⟨rfl, rfl, rfl⟩)))) (hb hby own_d_jdk_52_2_6) (by decide) (by decide) (show QrmNB1 Z wcs  h0 n0 (some (.ref b3)) T3.heap _ from (by rw [e3]; exact ⟨b3, k3, rfl, N2, K4, z5, Y3, V3⟩))
theorem own_d_jdk_52_4_0 : decode jdk_52_method_4_code 0 = .ok (.getstatic 44, 3) := by decide +kernel
theorem own_d_jdk_52_4_3 : decode jdk_52_method_4_code 3 = .ok (.ifCond .ne 25, 3) := by decide +kernel
theorem own_d_jdk_52_4_28 : decode jdk_52_method_4_code 28 = .ok (.iload_n 1, 1) := by decide +kernel
theorem own_d_jdk_52_4_29 : decode jdk_52_method_4_code 29 = .ok (.iconst 1, 1) := by decide +kernel
theorem own_d_jdk_52_4_30 : decode jdk_52_method_4_code 30 = .ok (.ishl, 1) := by decide +kernel
theorem own_d_jdk_52_4_31 : decode jdk_52_method_4_code 31 = .ok (.istore_n 1, 1) := by decide +kernel
theorem own_d_jdk_52_4_32 : decode jdk_52_method_4_code 32 = .ok (.aload_n 0, 1) := by decide +kernel
theorem own_d_jdk_52_4_33 : decode jdk_52_method_4_code 33 = .ok (.iload_n 1, 1) := by decide +kernel
theorem own_d_jdk_52_4_34 : decode jdk_52_method_4_code 34 = .ok (.iinc 1 1, 3) := by decide +kernel
theorem own_d_jdk_52_4_37 : decode jdk_52_method_4_code 37 = .ok (.iload_n 2, 1) := by decide +kernel
theorem own_d_jdk_52_4_38 : decode jdk_52_method_4_code 38 = .ok (.getstatic 59, 3) := by decide +kernel
theorem own_d_jdk_52_4_41 : decode jdk_52_method_4_code 41 = .ok (.ishr, 1) := by decide +kernel
theorem own_d_jdk_52_4_42 : decode jdk_52_method_4_code 42 = .ok (.i2b, 1) := by decide +kernel
theorem own_d_jdk_52_4_43 : decode jdk_52_method_4_code 43 = .ok (.bastore, 1) := by decide +kernel
theorem own_d_jdk_52_4_44 : decode jdk_52_method_4_code 44 = .ok (.aload_n 0, 1) := by decide +kernel
theorem own_d_jdk_52_4_45 : decode jdk_52_method_4_code 45 = .ok (.iload_n 1, 1) := by decide +kernel
theorem own_d_jdk_52_4_46 : decode jdk_52_method_4_code 46 = .ok (.iload_n 2, 1) := by decide +kernel
theorem own_d_jdk_52_4_47 : decode jdk_52_method_4_code 47 = .ok (.getstatic 63, 3) := by decide +kernel
theorem own_d_jdk_52_4_50 : decode jdk_52_method_4_code 50 = .ok (.ishr, 1) := by decide +kernel
theorem own_d_jdk_52_4_51 : decode jdk_52_method_4_code 51 = .ok (.i2b, 1) := by decide +kernel
theorem own_d_jdk_52_4_52 : decode jdk_52_method_4_code 52 = .ok (.bastore, 1) := by decide +kernel
theorem own_d_jdk_52_4_53 : decode jdk_52_method_4_code 53 = .ok (.return_, 1) := by decide +kernel
abbrev own_y_56 : MethodName := ⟨"java/lang/StringUTF16", "putChar", "([BII)V"⟩
theorem own_ef_rmPC1_0 (m : MethodId) (b : Addr) (cv : Int32)  : entryFrame m #[(.ref b), (.int (0 : Int32)), (.int cv)] 3 = mkF m 0 #[.val (.ref b), .val (.int (0 : Int32)), .val (.int cv)] [] := by first | (simp [entryFrame, mkF, argsToLocals, Value.category, maxLocals]; done) | rfl
def QrmPC1_0 (Z : State) (wcs : Int32) (b : Addr) (kb : ClassId) (cv : Int32) (u0 : Int32) (u1 : Int32) (h0 : Heap) (n0 : Nat) (v : Option Value) (h : Heap) (L : List Loc) : Prop := v = none ∧ Fr n0 L ∧ Keep h0 h [b] ∧ Exa Z h b "[B" ∧ Arv Z h b kb .byte (2 : Int32) [(.int ((cv >>> ((0 : Int32) &&& 31)).toInt8.toInt32)), (.int ((cv >>> ((8 : Int32) &&& 31)).toInt8.toInt32))] (.int (0 : Int32))
set_option maxRecDepth 65536 in
set_option maxHeartbeats 40000000 in
theorem rmPC1_0 (l : Launch) (Z : State) (a0 : Array Value) (hw : own_H a0 Z) (ws : List Jvm.Cond) (wcs : Int32) (hS : own_S Z wcs) (b : Addr) (kb : ClassId) (cv : Int32) (u0 : Int32) (u1 : Int32) (h0 : Heap) (n0 : Nat) (O0 : Old Z n0 h0) (Eb : Exa Z h0 b "[B") (gb : n0 ≤ b) (A2 : Arv Z h0 b kb .byte (2 : Int32) [(.int u0), (.int u1)] (.int (0 : Int32))) :
    own_Met l own_y_56 jdk_52_method_4_code 3 none ws ({ frames := 0, cells := 0, slots := 0, locals := 0 } : Room) Z h0 #[(.ref b), (.int (0 : Int32)), (.int cv)] (QrmPC1_0 Z wcs b kb cv u0 u1 h0 n0) := by
  refine own_body (plainFor_of_name own_pn_15) ?_
  intro p e s m below meth c s₁ hx hby hml hown hnm hret hlk hZ e0 X0
  have N0 := Fr.nil n0
  refine own_st (fun u_ k_ => castTop (own_ef_rmPC1_0 m b cv) k_) ?_
  show own_Go p e below _ (s₁.setTop (mkF m 0 #[.val (.ref b), .val (.int (0 : Int32)), .val (.int cv)] []))
  have F6 := Sta.ext O0.2 hS.2.2.1
  obtain ⟨T7, X7, e7, st7⟩ := getS2 X0 hx hZ hown (host := "") (Or.inl (own_w hw 119 rfl)) Via.refl e0 F6 (g := (mkF m 0 #[.val (.ref b), .val (.int (0 : Int32)), .val (.int cv)] [])) rfl (hb hby own_d_jdk_52_4_0)
  refine own_st (fun u_ k_ => st7 u_ k_) ?_
  show own_Go p e below _ (T7.setTop (mkF m 3 #[.val (.ref b), .val (.int (0 : Int32)), .val (.int cv)] [(.int (1 : Int32))]))
  refine own_st (fun u_ k_ => XS.ifYes X7.here hx rfl (pc0 := 3) (pc' := 28) rfl (hb hby own_d_jdk_52_4_3) rfl (XT.i0_ne_t (by decide)) (by decide) (by decide) k_) ?_
  refine own_st (fun u_ k_ => XS.iloadN X7.here hx rfl (hb hby own_d_jdk_52_4_28) rfl k_) ?_
  show own_Go p e below _ (T7.setTop (mkF m 29 #[.val (.ref b), .val (.int (0 : Int32)), .val (.int cv)] [(.int (0 : Int32))]))
  refine own_st (fun u_ k_ => XS.iconst X7.here hx rfl (hb hby own_d_jdk_52_4_29) k_) ?_
  refine own_st (fun u_ k_ => XS.ishl X7.here hx rfl (hb hby own_d_jdk_52_4_30) rfl k_) ?_
  show own_Go p e below _ (T7.setTop (mkF m 31 #[.val (.ref b), .val (.int (0 : Int32)), .val (.int cv)] [(.int (0 : Int32))]))
  refine own_st (fun u_ k_ => XS.istoreN X7.here hx rfl (hb hby own_d_jdk_52_4_31) rfl (l' := #[.val (.ref b), .val (.int (0 : Int32)), .val (.int cv)]) rfl k_) ?_
  refine own_st (fun u_ k_ => XS.aloadN X7.here hx rfl (hb hby own_d_jdk_52_4_32) rfl rfl k_) ?_
  show own_Go p e below _ (T7.setTop (mkF m 33 #[.val (.ref b), .val (.int (0 : Int32)), .val (.int cv)] [(.ref b)]))
  refine own_st (fun u_ k_ => XS.iloadN X7.here hx rfl (hb hby own_d_jdk_52_4_33) rfl k_) ?_
  refine own_st (fun u_ k_ => XS.iinc X7.here hx rfl (hb hby own_d_jdk_52_4_34) rfl (l' := #[.val (.ref b), .val (.int (1 : Int32)), .val (.int cv)]) rfl k_) ?_
  show own_Go p e below _ (T7.setTop (mkF m 37 #[.val (.ref b), .val (.int (1 : Int32)), .val (.int cv)] [(.int (0 : Int32)), (.ref b)]))
  refine own_st (fun u_ k_ => XS.iloadN X7.here hx rfl (hb hby own_d_jdk_52_4_37) rfl k_) ?_
  have F8 := Sta.ext O0.2 hS.2.2.2.1
  obtain ⟨T9, X9, e9, st9⟩ := getS2 X7 hx hZ hown (host := "") (Or.inl (own_w hw 120 rfl)) Via.refl e7 F8 (g := (mkF m 38 #[.val (.ref b), .val (.int (1 : Int32)), .val (.int cv)] [(.int cv), (.int (0 : Int32)), (.ref b)])) rfl (hb hby own_d_jdk_52_4_38)
  refine own_st (fun u_ k_ => st9 u_ k_) ?_
  show own_Go p e below _ (T9.setTop (mkF m 41 #[.val (.ref b), .val (.int (1 : Int32)), .val (.int cv)] [(.int (0 : Int32)), (.int cv), (.int (0 : Int32)), (.ref b)]))
  refine own_st (fun u_ k_ => XS.ishr X9.here hx rfl (hb hby own_d_jdk_52_4_41) rfl k_) ?_
  refine own_st (fun u_ k_ => XS.i2b X9.here hx rfl (hb hby own_d_jdk_52_4_42) rfl k_) ?_
  show own_Go p e below _ (T9.setTop (mkF m 43 #[.val (.ref b), .val (.int (1 : Int32)), .val (.int cv)] [(.int ((cv >>> ((0 : Int32) &&& 31)).toInt8.toInt32)), (.int (0 : Int32)), (.ref b)]))
  obtain ⟨cl10, Ar10, q10, S10, N10, H10, G10⟩ := id A2
  have hi10 : ¬ ((0 : Int32) < 0 ∨ cl10.slots.size ≤ ((0 : Int32)).toNatClampNeg) := inb_of S10 ⟨by decide, by decide⟩
  obtain ⟨T11, h11, X11, e11, W11, st11⟩ := stB X9 hx hZ e9 Ar10 (j := (0 : Int32)) hi10 (g := (mkF m 43 #[.val (.ref b), .val (.int (1 : Int32)), .val (.int cv)] [(.int ((cv >>> ((0 : Int32) &&& 31)).toInt8.toInt32)), (.int (0 : Int32)), (.ref b)])) rfl rfl (hb hby own_d_jdk_52_4_43)
  rw [own_bb] at W11
  have N11 := Fr.snoc X11 N0 gb
  have V11 : Arv Z h11 b kb .byte (2 : Int32) [(.int ((cv >>> ((0 : Int32) &&& 31)).toInt8.toInt32)), (.int u1)] (.int (0 : Int32)) := Arv.set Ar10 q10 S10 N10 H10 G10 (fits_nar_byte _) W11 0 rfl (Nat.le_of_ble_eq_true rfl)
  refine own_st (fun u_ k_ => st11 u_ k_) ?_
  show own_Go p e below _ (T11.setTop (mkF m 44 #[.val (.ref b), .val (.int (1 : Int32)), .val (.int cv)] []))
  refine own_st (fun u_ k_ => XS.aloadN X11.here hx rfl (hb hby own_d_jdk_52_4_44) rfl rfl k_) ?_
  refine own_st (fun u_ k_ => XS.iloadN X11.here hx rfl (hb hby own_d_jdk_52_4_45) rfl k_) ?_
  show own_Go p e below _ (T11.setTop (mkF m 46 #[.val (.ref b), .val (.int (1 : Int32)), .val (.int cv)] [(.int (1 : Int32)), (.ref b)]))
  refine own_st (fun u_ k_ => XS.iloadN X11.here hx rfl (hb hby own_d_jdk_52_4_46) rfl k_) ?_
  have O12 : Old Z n0 h11 := O0.wr W11 gb
  have F13 := Sta.ext O12.2 hS.2.2.2.2
  obtain ⟨T14, X14, e14, st14⟩ := getS2 X11 hx hZ hown (host := "") (Or.inl (own_w hw 121 rfl)) Via.refl e11 F13 (g := (mkF m 47 #[.val (.ref b), .val (.int (1 : Int32)), .val (.int cv)] [(.int cv), (.int (1 : Int32)), (.ref b)])) rfl (hb hby own_d_jdk_52_4_47)
  refine own_st (fun u_ k_ => st14 u_ k_) ?_
  show own_Go p e below _ (T14.setTop (mkF m 50 #[.val (.ref b), .val (.int (1 : Int32)), .val (.int cv)] [(.int (8 : Int32)), (.int cv), (.int (1 : Int32)), (.ref b)]))
  refine own_st (fun u_ k_ => XS.ishr X14.here hx rfl (hb hby own_d_jdk_52_4_50) rfl k_) ?_
  refine own_st (fun u_ k_ => XS.i2b X14.here hx rfl (hb hby own_d_jdk_52_4_51) rfl k_) ?_
  show own_Go p e below _ (T14.setTop (mkF m 52 #[.val (.ref b), .val (.int (1 : Int32)), .val (.int cv)] [(.int ((cv >>> ((8 : Int32) &&& 31)).toInt8.toInt32)), (.int (1 : Int32)), (.ref b)]))
  obtain ⟨cl15, Ar15, q15, S15, N15, H15, G15⟩ := id V11
  have hi15 : ¬ ((1 : Int32) < 0 ∨ cl15.slots.size ≤ ((1 : Int32)).toNatClampNeg) := inb_of S15 ⟨by decide, by decide⟩
  obtain ⟨T16, h16, X16, e16, W16, st16⟩ := stB X14 hx hZ e14 Ar15 (j := (1 : Int32)) hi15 (g := (mkF m 52 #[.val (.ref b), .val (.int (1 : Int32)), .val (.int cv)] [(.int ((cv >>> ((8 : Int32) &&& 31)).toInt8.toInt32)), (.int (1 : Int32)), (.ref b)])) rfl rfl (hb hby own_d_jdk_52_4_52)
  rw [own_bb] at W16
  have N16 := Fr.snoc X16 N11 gb
  have V16 : Arv Z h16 b kb .byte (2 : Int32) [(.int ((cv >>> ((0 : Int32) &&& 31)).toInt8.toInt32)), (.int ((cv >>> ((8 : Int32) &&& 31)).toInt8.toInt32))] (.int (0 : Int32)) := Arv.set Ar15 q15 S15 N15 H15 G15 (fits_nar_byte _) W16 1 rfl (Nat.le_of_ble_eq_true rfl)
  refine own_st (fun u_ k_ => st16 u_ k_) ?_
  show own_Go p e below _ (T16.setTop (mkF m 53 #[.val (.ref b), .val (.int (1 : Int32)), .val (.int cv)] []))
  have K17 : Keep h0 h11 [b] := (Keep.refl h0 [b]).wr W11 (Or.inl (List.mem_of_getElem? (i := 0) rfl))
  have K18 : Keep h0 h16 [b] := K17.wr W16 (Or.inl (List.mem_of_getElem? (i := 0) rfl))
  have F19 := (Exa.wr W16 (Exa.wr W11 Eb))
  exact own_retV X16 hx hlk hret (hb hby own_d_jdk_52_4_53) (by decide) (by decide) (show QrmPC1_0 Z wcs b kb cv u0 u1 h0 n0 none T16.heap _ from (by rw [e16]; exact ⟨rfl, N16, K18, F19, V16⟩))
theorem own_d_jdk_52_5_0 : decode jdk_52_method_5_code 0 = .ok (.getstatic 44, 3) := by decide +kernel
theorem own_d_jdk_52_5_3 : decode jdk_52_method_5_code 3 = .ok (.ifCond .ne 25, 3) := by decide +kernel
theorem own_d_jdk_52_5_28 : decode jdk_52_method_5_code 28 = .ok (.iload_n 1, 1) := by decide +kernel
theorem own_d_jdk_52_5_29 : decode jdk_52_method_5_code 29 = .ok (.iconst 1, 1) := by decide +kernel
theorem own_d_jdk_52_5_30 : decode jdk_52_method_5_code 30 = .ok (.ishl, 1) := by decide +kernel
theorem own_d_jdk_52_5_31 : decode jdk_52_method_5_code 31 = .ok (.istore_n 1, 1) := by decide +kernel
theorem own_d_jdk_52_5_32 : decode jdk_52_method_5_code 32 = .ok (.aload_n 0, 1) := by decide +kernel
theorem own_d_jdk_52_5_33 : decode jdk_52_method_5_code 33 = .ok (.iload_n 1, 1) := by decide +kernel
theorem own_d_jdk_52_5_34 : decode jdk_52_method_5_code 34 = .ok (.iinc 1 1, 3) := by decide +kernel
theorem own_d_jdk_52_5_37 : decode jdk_52_method_5_code 37 = .ok (.baload, 1) := by decide +kernel
theorem own_d_jdk_52_5_38 : decode jdk_52_method_5_code 38 = .ok (.sipush 255, 3) := by decide +kernel
theorem own_d_jdk_52_5_41 : decode jdk_52_method_5_code 41 = .ok (.iand, 1) := by decide +kernel
theorem own_d_jdk_52_5_42 : decode jdk_52_method_5_code 42 = .ok (.getstatic 59, 3) := by decide +kernel
theorem own_d_jdk_52_5_45 : decode jdk_52_method_5_code 45 = .ok (.ishl, 1) := by decide +kernel
theorem own_d_jdk_52_5_46 : decode jdk_52_method_5_code 46 = .ok (.aload_n 0, 1) := by decide +kernel
theorem own_d_jdk_52_5_47 : decode jdk_52_method_5_code 47 = .ok (.iload_n 1, 1) := by decide +kernel
theorem own_d_jdk_52_5_48 : decode jdk_52_method_5_code 48 = .ok (.baload, 1) := by decide +kernel
theorem own_d_jdk_52_5_49 : decode jdk_52_method_5_code 49 = .ok (.sipush 255, 3) := by decide +kernel
theorem own_d_jdk_52_5_52 : decode jdk_52_method_5_code 52 = .ok (.iand, 1) := by decide +kernel
theorem own_d_jdk_52_5_53 : decode jdk_52_method_5_code 53 = .ok (.getstatic 63, 3) := by decide +kernel
theorem own_d_jdk_52_5_56 : decode jdk_52_method_5_code 56 = .ok (.ishl, 1) := by decide +kernel
theorem own_d_jdk_52_5_57 : decode jdk_52_method_5_code 57 = .ok (.ior, 1) := by decide +kernel
theorem own_d_jdk_52_5_58 : decode jdk_52_method_5_code 58 = .ok (.i2c, 1) := by decide +kernel
theorem own_d_jdk_52_5_59 : decode jdk_52_method_5_code 59 = .ok (.ireturn, 1) := by decide +kernel
abbrev own_y_81 : MethodName := ⟨"java/lang/StringUTF16", "getChar", "([BI)C"⟩
theorem own_ef_rmGC1_0 (m : MethodId) (b : Addr)  : entryFrame m #[(.ref b), (.int (0 : Int32))] 2 = mkF m 0 #[.val (.ref b), .val (.int (0 : Int32))] [] := by first | (simp [entryFrame, mkF, argsToLocals, Value.category, maxLocals]; done) | rfl
def QrmGC1_0 (Z : State) (wcs : Int32) (b : Addr) (kb : ClassId) (u0 : Int32) (u1 : Int32) (h0 : Heap) (n0 : Nat) (v : Option Value) (h : Heap) (L : List Loc) : Prop := v = some (.int ((((u0 &&& (255 : Int32)) <<< ((0 : Int32) &&& 31)) ||| ((u1 &&& (255 : Int32)) <<< ((8 : Int32) &&& 31))).toUInt32.toUInt16.toUInt32.toInt32)) ∧ Fr n0 L ∧ h = h0
set_option maxRecDepth 65536 in
set_option maxHeartbeats 40000000 in
theorem rmGC1_0 (l : Launch) (Z : State) (a0 : Array Value) (hw : own_H a0 Z) (ws : List Jvm.Cond) (wcs : Int32) (hS : own_S Z wcs) (b : Addr) (kb : ClassId) (u0 : Int32) (u1 : Int32) (h0 : Heap) (n0 : Nat) (O0 : Old Z n0 h0) (A2 : Arv Z h0 b kb .byte (2 : Int32) [(.int u0), (.int u1)] (.int (0 : Int32))) :
    own_Met l own_y_81 jdk_52_method_5_code 2 (some .char) ws ({ frames := 0, cells := 0, slots := 0, locals := 0 } : Room) Z h0 #[(.ref b), (.int (0 : Int32))] (QrmGC1_0 Z wcs b kb u0 u1 h0 n0) := by
  refine own_body (plainFor_of_name own_pn_15) ?_
  intro p e s m below meth c s₁ hx hby hml hown hnm hret hlk hZ e0 X0
  have N0 := Fr.nil n0
  refine own_st (fun u_ k_ => castTop (own_ef_rmGC1_0 m b) k_) ?_
  show own_Go p e below _ (s₁.setTop (mkF m 0 #[.val (.ref b), .val (.int (0 : Int32))] []))
  have F20 := Sta.ext O0.2 hS.2.2.1
  obtain ⟨T21, X21, e21, st21⟩ := getS2 X0 hx hZ hown (host := "") (Or.inl (own_w hw 119 rfl)) Via.refl e0 F20 (g := (mkF m 0 #[.val (.ref b), .val (.int (0 : Int32))] [])) rfl (hb hby own_d_jdk_52_5_0)
  refine own_st (fun u_ k_ => st21 u_ k_) ?_
  show own_Go p e below _ (T21.setTop (mkF m 3 #[.val (.ref b), .val (.int (0 : Int32))] [(.int (1 : Int32))]))
  refine own_st (fun u_ k_ => XS.ifYes X21.here hx rfl (pc0 := 3) (pc' := 28) rfl (hb hby own_d_jdk_52_5_3) rfl (XT.i0_ne_t (by decide)) (by decide) (by decide) k_) ?_
  refine own_st (fun u_ k_ => XS.iloadN X21.here hx rfl (hb hby own_d_jdk_52_5_28) rfl k_) ?_
  show own_Go p e below _ (T21.setTop (mkF m 29 #[.val (.ref b), .val (.int (0 : Int32))] [(.int (0 : Int32))]))
  refine own_st (fun u_ k_ => XS.iconst X21.here hx rfl (hb hby own_d_jdk_52_5_29) k_) ?_
  refine own_st (fun u_ k_ => XS.ishl X21.here hx rfl (hb hby own_d_jdk_52_5_30) rfl k_) ?_
  show own_Go p e below _ (T21.setTop (mkF m 31 #[.val (.ref b), .val (.int (0 : Int32))] [(.int (0 : Int32))]))
  refine own_st (fun u_ k_ => XS.istoreN X21.here hx rfl (hb hby own_d_jdk_52_5_31) rfl (l' := #[.val (.ref b), .val (.int (0 : Int32))]) rfl k_) ?_
  refine own_st (fun u_ k_ => XS.aloadN X21.here hx rfl (hb hby own_d_jdk_52_5_32) rfl rfl k_) ?_
  show own_Go p e below _ (T21.setTop (mkF m 33 #[.val (.ref b), .val (.int (0 : Int32))] [(.ref b)]))
  refine own_st (fun u_ k_ => XS.iloadN X21.here hx rfl (hb hby own_d_jdk_52_5_33) rfl k_) ?_
  refine own_st (fun u_ k_ => XS.iinc X21.here hx rfl (hb hby own_d_jdk_52_5_34) rfl (l' := #[.val (.ref b), .val (.int (1 : Int32))]) rfl k_) ?_
  show own_Go p e below _ (T21.setTop (mkF m 37 #[.val (.ref b), .val (.int (1 : Int32))] [(.int (0 : Int32)), (.ref b)]))
  obtain ⟨cl22, Ar22, q22, S22, N22, H22, G22⟩ := id A2
  have hi22 : ¬ ((0 : Int32) < 0 ∨ cl22.slots.size ≤ ((0 : Int32)).toNatClampNeg) := inb_of S22 ⟨by decide, by decide⟩
  have ha22 : cl22.slots[((0 : Int32)).toNatClampNeg]? = some (.int u0) := H22.at hi22 rfl
  refine own_st (X21.baloadBytes hx (j := (0 : Int32)) (v := (.int u0)) (by rw [e21]; exact Ar22.1) (State.isArrayOf_alike hZ.alike Ar22.2.1) Ar22.2.2 hi22 ha22 (g := (mkF m 37 #[.val (.ref b), .val (.int (1 : Int32))] [(.int (0 : Int32)), (.ref b)])) rfl rfl (hb hby own_d_jdk_52_5_37)) ?_
  show own_Go p e below _ (T21.setTop (mkF m 38 #[.val (.ref b), .val (.int (1 : Int32))] [(.int u0)]))
  refine own_st (fun u_ k_ => XS.sipush X21.here hx rfl (hb hby own_d_jdk_52_5_38) k_) ?_
  refine own_st (fun u_ k_ => XS.iand X21.here hx rfl (hb hby own_d_jdk_52_5_41) rfl k_) ?_
  show own_Go p e below _ (T21.setTop (mkF m 42 #[.val (.ref b), .val (.int (1 : Int32))] [(.int (u0 &&& (255 : Int32)))]))
  have F23 := Sta.ext O0.2 hS.2.2.2.1
  obtain ⟨T24, X24, e24, st24⟩ := getS2 X21 hx hZ hown (host := "") (Or.inl (own_w hw 120 rfl)) Via.refl e21 F23 (g := (mkF m 42 #[.val (.ref b), .val (.int (1 : Int32))] [(.int (u0 &&& (255 : Int32)))])) rfl (hb hby own_d_jdk_52_5_42)
  refine own_st (fun u_ k_ => st24 u_ k_) ?_
  show own_Go p e below _ (T24.setTop (mkF m 45 #[.val (.ref b), .val (.int (1 : Int32))] [(.int (0 : Int32)), (.int (u0 &&& (255 : Int32)))]))
  refine own_st (fun u_ k_ => XS.ishl X24.here hx rfl (hb hby own_d_jdk_52_5_45) rfl k_) ?_
  refine own_st (fun u_ k_ => XS.aloadN X24.here hx rfl (hb hby own_d_jdk_52_5_46) rfl rfl k_) ?_
  show own_Go p e below _ (T24.setTop (mkF m 47 #[.val (.ref b), .val (.int (1 : Int32))] [(.ref b), (.int ((u0 &&& (255 : Int32)) <<< ((0 : Int32) &&& 31)))]))
  refine own_st (fun u_ k_ => XS.iloadN X24.here hx rfl (hb hby own_d_jdk_52_5_47) rfl k_) ?_
  obtain ⟨cl25, Ar25, q25, S25, N25, H25, G25⟩ := id A2
  have hi25 : ¬ ((1 : Int32) < 0 ∨ cl25.slots.size ≤ ((1 : Int32)).toNatClampNeg) := inb_of S25 ⟨by decide, by decide⟩
  have ha25 : cl25.slots[((1 : Int32)).toNatClampNeg]? = some (.int u1) := H25.at hi25 rfl
  refine own_st (X24.baloadBytes hx (j := (1 : Int32)) (v := (.int u1)) (by rw [e24]; exact Ar25.1) (State.isArrayOf_alike hZ.alike Ar25.2.1) Ar25.2.2 hi25 ha25 (g := (mkF m 48 #[.val (.ref b), .val (.int (1 : Int32))] [(.int (1 : Int32)), (.ref b), (.int ((u0 &&& (255 : Int32)) <<< ((0 : Int32) &&& 31)))])) rfl rfl (hb hby own_d_jdk_52_5_48)) ?_
  show own_Go p e below _ (T24.setTop (mkF m 49 #[.val (.ref b), .val (.int (1 : Int32))] [(.int u1), (.int ((u0 &&& (255 : Int32)) <<< ((0 : Int32) &&& 31)))]))
  refine own_st (fun u_ k_ => XS.sipush X24.here hx rfl (hb hby own_d_jdk_52_5_49) k_) ?_
  show own_Go p e below _ (T24.setTop (mkF m 52 #[.val (.ref b), .val (.int (1 : Int32))] [(.int (255 : Int32)), (.int u1), (.int ((u0 &&& (255 : Int32)) <<< ((0 : Int32) &&& 31)))]))
  refine own_st (fun u_ k_ => XS.iand X24.here hx rfl (hb hby own_d_jdk_52_5_52) rfl k_) ?_
  have F26 := Sta.ext O0.2 hS.2.2.2.2
  obtain ⟨T27, X27, e27, st27⟩ := getS2 X24 hx hZ hown (host := "") (Or.inl (own_w hw 121 rfl)) Via.refl e24 F26 (g := (mkF m 53 #[.val (.ref b), .val (.int (1 : Int32))] [(.int (u1 &&& (255 : Int32))), (.int ((u0 &&& (255 : Int32)) <<< ((0 : Int32) &&& 31)))])) rfl (hb hby own_d_jdk_52_5_53)
  refine own_st (fun u_ k_ => st27 u_ k_) ?_
  show own_Go p e below _ (T27.setTop (mkF m 56 #[.val (.ref b), .val (.int (1 : Int32))] [(.int (8 : Int32)), (.int (u1 &&& (255 : Int32))), (.int ((u0 &&& (255 : Int32)) <<< ((0 : Int32) &&& 31)))]))
  refine own_st (fun u_ k_ => XS.ishl X27.here hx rfl (hb hby own_d_jdk_52_5_56) rfl k_) ?_
  refine own_st (fun u_ k_ => XS.ior X27.here hx rfl (hb hby own_d_jdk_52_5_57) rfl k_) ?_
  show own_Go p e below _ (T27.setTop (mkF m 58 #[.val (.ref b), .val (.int (1 : Int32))] [(.int (((u0 &&& (255 : Int32)) <<< ((0 : Int32) &&& 31)) ||| ((u1 &&& (255 : Int32)) <<< ((8 : Int32) &&& 31))))]))
  refine own_st (fun u_ k_ => XS.i2c X27.here hx rfl (hb hby own_d_jdk_52_5_58) rfl k_) ?_
  exact own_retX X27 hx hlk hret (own_narC _) (Or.inl ⟨rfl, by simp, _, rfl⟩) (hb hby own_d_jdk_52_5_59) (by decide) (by decide) (show QrmGC1_0 Z wcs b kb u0 u1 h0 n0 (some (.int ((((u0 &&& (255 : Int32)) <<< ((0 : Int32) &&& 31)) ||| ((u1 &&& (255 : Int32)) <<< ((8 : Int32) &&& 31))).toUInt32.toUInt16.toUInt32.toInt32))) T27.heap _ from (by rw [e27]; exact ⟨rfl, N0, rfl⟩))
theorem own_d_jdk_52_14_0 : decode jdk_52_method_14_code 0 = .ok (.iload_n 2, 1) := by decide +kernel
theorem own_d_jdk_52_14_1 : decode jdk_52_method_14_code 1 = .ok (.invokestatic 107, 3) := by decide +kernel
theorem own_pd_85 : parseMethodDescriptor "(I)[B" = some ⟨[.int], some (.array .byte)⟩ := by decide +kernel
theorem own_d_jdk_52_14_4 : decode jdk_52_method_14_code 4 = .ok (.astore_n 3, 1) := by decide +kernel
theorem own_d_jdk_52_14_5 : decode jdk_52_method_14_code 5 = .ok (.iconst 0, 1) := by decide +kernel
theorem own_d_jdk_52_14_6 : decode jdk_52_method_14_code 6 = .ok (.istore 4, 2) := by decide +kernel
theorem own_d_jdk_52_14_8 : decode jdk_52_method_14_code 8 = .ok (.iload 4, 2) := by decide +kernel
theorem own_d_jdk_52_14_10 : decode jdk_52_method_14_code 10 = .ok (.iload_n 2, 1) := by decide +kernel
theorem own_d_jdk_52_14_11 : decode jdk_52_method_14_code 11 = .ok (.if_icmp .ge 21, 3) := by decide +kernel
theorem own_d_jdk_52_14_14 : decode jdk_52_method_14_code 14 = .ok (.aload_n 3, 1) := by decide +kernel
theorem own_d_jdk_52_14_15 : decode jdk_52_method_14_code 15 = .ok (.iload 4, 2) := by decide +kernel
theorem own_d_jdk_52_14_17 : decode jdk_52_method_14_code 17 = .ok (.aload_n 0, 1) := by decide +kernel
theorem own_d_jdk_52_14_18 : decode jdk_52_method_14_code 18 = .ok (.iload_n 1, 1) := by decide +kernel
theorem own_d_jdk_52_14_19 : decode jdk_52_method_14_code 19 = .ok (.caload, 1) := by decide +kernel
theorem own_d_jdk_52_14_20 : decode jdk_52_method_14_code 20 = .ok (.invokestatic 111, 3) := by decide +kernel
theorem own_pd_98 : parseMethodDescriptor "([BII)V" = some ⟨[(.array .byte), .int, .int], none⟩ := by decide +kernel
theorem own_d_jdk_52_14_23 : decode jdk_52_method_14_code 23 = .ok (.iinc 1 1, 3) := by decide +kernel
theorem own_d_jdk_52_14_26 : decode jdk_52_method_14_code 26 = .ok (.iinc 4 1, 3) := by decide +kernel
theorem own_d_jdk_52_14_29 : decode jdk_52_method_14_code 29 = .ok (.goto (-21), 3) := by decide +kernel
theorem own_d_jdk_52_14_32 : decode jdk_52_method_14_code 32 = .ok (.aload_n 3, 1) := by decide +kernel
theorem own_d_jdk_52_14_33 : decode jdk_52_method_14_code 33 = .ok (.areturn, 1) := by decide +kernel
abbrev own_y_104 : MethodName := ⟨"java/lang/StringUTF16", "toBytes", "([CII)[B"⟩
theorem own_ef_rmTB1 (m : MethodId) (a : Addr)  : entryFrame m #[(.ref a), (.int (0 : Int32)), (.int (1 : Int32))] 5 = mkF m 0 #[.val (.ref a), .val (.int (0 : Int32)), .val (.int (1 : Int32)), .unset, .unset] [] := by first | (simp [entryFrame, mkF, argsToLocals, Value.category, maxLocals]; done) | rfl
def QrmTB1 (Z : State) (wcs : Int32) (a : Addr) (ka : ClassId) (v0 : Int32) (h0 : Heap) (n0 : Nat) (v : Option Value) (h : Heap) (L : List Loc) : Prop := ∃ r : Addr, ∃ kr : ClassId, v = some (.ref r) ∧ Fr n0 L ∧ Keep h0 h [] ∧ h0.size ≤ r ∧ Exa Z h r "[B" ∧ Arv Z h r kr .byte (2 : Int32) [(.int ((v0 >>> ((0 : Int32) &&& 31)).toInt8.toInt32)), (.int ((v0 >>> ((8 : Int32) &&& 31)).toInt8.toInt32))] (.int (0 : Int32))
set_option maxRecDepth 65536 in
set_option maxHeartbeats 40000000 in
theorem rmTB1 (l : Launch) (Z : State) (a0 : Array Value) (hw : own_H a0 Z) (ws : List Jvm.Cond) (wcs : Int32) (hS : own_S Z wcs) (a : Addr) (ka : ClassId) (v0 : Int32) (h0 : Heap) (n0 : Nat) (O0 : Old Z n0 h0) (Ea : Exa Z h0 a "[C") (A1 : Arv Z h0 a ka .char (1 : Int32) [(.int v0)] (.int (0 : Int32))) :
    own_Met l own_y_104 jdk_52_method_14_code 5 (some (.array .byte)) ws ({ frames := 2, cells := 1, slots := 2, locals := 24 } : Room) Z h0 #[(.ref a), (.int (0 : Int32)), (.int (1 : Int32))] (QrmTB1 Z wcs a ka v0 h0 n0) := by
  refine own_body (plainFor_of_name own_pn_15) ?_
  intro p e s m below meth c s₁ hx hby hml hown hnm hret hlk hZ e0 X0
  have N0 := Fr.nil n0
  refine own_st (fun u_ k_ => castTop (own_ef_rmTB1 m a) k_) ?_
  show own_Go p e below _ (s₁.setTop (mkF m 0 #[.val (.ref a), .val (.int (0 : Int32)), .val (.int (1 : Int32)), .unset, .unset] []))
  refine own_st (fun u_ k_ => XS.iloadN X0.here hx rfl (hb hby own_d_jdk_52_14_0) rfl k_) ?_
  obtain ⟨T28, v28, L28, X28, hQ28, st28⟩ := own_callS X0 hx hZ (y := own_y_33) hown (own_w hw 109 rfl) (own_w hw 110 rfl) (own_w hw 98 rfl) (own_w hw 111 rfl) own_lm_28 (rmNB1 l Z a0 hw [] wcs hS  h0 n0 O0 ) e0 own_pd_85 (argsL := [(.int (1 : Int32))]) (rest := []) rfl rfl (g := (mkF m 1 #[.val (.ref a), .val (.int (0 : Int32)), .val (.int (1 : Int32)), .unset, .unset] [(.int (1 : Int32))])) rfl (by rw [hml]; rfl) rfl (hb hby own_d_jdk_52_14_1) (W := 0) rfl (by decide) (by decide) (by decide) (by decide)
  obtain ⟨r_29, kr_30, rfl, M28, K28, z31, F32, F33⟩ := hQ28
  have N28 := Fr.app N0 M28
  refine own_st (fun u_ k_ => st28 u_ k_) ?_
  show own_Go p e below _ (T28.setTop (mkF m 4 #[.val (.ref a), .val (.int (0 : Int32)), .val (.int (1 : Int32)), .unset, .unset] [(.ref r_29)]))
  refine own_st (fun u_ k_ => XS.astoreN X28.here hx rfl (hb hby own_d_jdk_52_14_4) rfl rfl (l' := #[.val (.ref a), .val (.int (0 : Int32)), .val (.int (1 : Int32)), .val (.ref r_29), .unset]) rfl k_) ?_
  refine own_st (fun u_ k_ => XS.iconst X28.here hx rfl (hb hby own_d_jdk_52_14_5) k_) ?_
  show own_Go p e below _ (T28.setTop (mkF m 6 #[.val (.ref a), .val (.int (0 : Int32)), .val (.int (1 : Int32)), .val (.ref r_29), .unset] [(.int (0 : Int32))]))
  refine own_st (fun u_ k_ => XS.istore X28.here hx rfl (hb hby own_d_jdk_52_14_6) rfl (l' := #[.val (.ref a), .val (.int (0 : Int32)), .val (.int (1 : Int32)), .val (.ref r_29), .val (.int (0 : Int32))]) rfl k_) ?_
  refine own_st (fun u_ k_ => XS.iload X28.here hx rfl (hb hby own_d_jdk_52_14_8) rfl k_) ?_
  show own_Go p e below _ (T28.setTop (mkF m 10 #[.val (.ref a), .val (.int (0 : Int32)), .val (.int (1 : Int32)), .val (.ref r_29), .val (.int (0 : Int32))] [(.int (0 : Int32))]))
  refine own_st (fun u_ k_ => XS.iloadN X28.here hx rfl (hb hby own_d_jdk_52_14_10) rfl k_) ?_
  refine own_st (fun u_ k_ => XS.icmpNo X28.here hx rfl (hb hby own_d_jdk_52_14_11) rfl (XT.ii_ge_f (by decide)) k_) ?_
  show own_Go p e below _ (T28.setTop (mkF m 14 #[.val (.ref a), .val (.int (0 : Int32)), .val (.int (1 : Int32)), .val (.ref r_29), .val (.int (0 : Int32))] []))
  refine own_st (fun u_ k_ => XS.aloadN X28.here hx rfl (hb hby own_d_jdk_52_14_14) rfl rfl k_) ?_
  refine own_st (fun u_ k_ => XS.iload X28.here hx rfl (hb hby own_d_jdk_52_14_15) rfl k_) ?_
  show own_Go p e below _ (T28.setTop (mkF m 17 #[.val (.ref a), .val (.int (0 : Int32)), .val (.int (1 : Int32)), .val (.ref r_29), .val (.int (0 : Int32))] [(.int (0 : Int32)), (.ref r_29)]))
  refine own_st (fun u_ k_ => XS.aloadN X28.here hx rfl (hb hby own_d_jdk_52_14_17) rfl rfl k_) ?_
  refine own_st (fun u_ k_ => XS.iloadN X28.here hx rfl (hb hby own_d_jdk_52_14_18) rfl k_) ?_
  show own_Go p e below _ (T28.setTop (mkF m 19 #[.val (.ref a), .val (.int (0 : Int32)), .val (.int (1 : Int32)), .val (.ref r_29), .val (.int (0 : Int32))] [(.int (0 : Int32)), (.ref a), (.int (0 : Int32)), (.ref r_29)]))
  have F34 := (A1.keep K28 nin0)
  obtain ⟨cl35, Ar35, q35, S35, N35, H35, G35⟩ := id F34
  have hi35 : ¬ ((0 : Int32) < 0 ∨ cl35.slots.size ≤ ((0 : Int32)).toNatClampNeg) := inb_of S35 ⟨by decide, by decide⟩
  have ha35 : cl35.slots[((0 : Int32)).toNatClampNeg]? = some (.int v0) := H35.at hi35 rfl
  refine own_st (X28.caload hx (j := (0 : Int32)) (v := (.int v0)) Ar35.1 (State.isArrayOf_alike hZ.alike Ar35.2.1) Ar35.2.2 hi35 ha35 (g := (mkF m 19 #[.val (.ref a), .val (.int (0 : Int32)), .val (.int (1 : Int32)), .val (.ref r_29), .val (.int (0 : Int32))] [(.int (0 : Int32)), (.ref a), (.int (0 : Int32)), (.ref r_29)])) rfl rfl (hb hby own_d_jdk_52_14_19)) ?_
  show own_Go p e below _ (T28.setTop (mkF m 20 #[.val (.ref a), .val (.int (0 : Int32)), .val (.int (1 : Int32)), .val (.ref r_29), .val (.int (0 : Int32))] [(.int v0), (.int (0 : Int32)), (.ref r_29)]))
  have g36 : n0 ≤ r_29 := Nat.le_trans (own_nl O0) z31
  have O38 : Old Z n0 T28.heap := O0.keep K28 all0
  obtain ⟨T37, v37, L37, X37, hQ37, st37⟩ := own_callS X28 hx hZ (y := own_y_56) hown (own_w hw 116 rfl) (own_w hw 117 rfl) (own_w hw 98 rfl) (own_w hw 118 rfl) own_lm_28 (rmPC1_0 l Z a0 hw [] wcs hS r_29 kr_30 v0 (0 : Int32) (0 : Int32) T28.heap n0 O38 F32 g36 F33) rfl own_pd_98 (argsL := [(.ref r_29), (.int (0 : Int32)), (.int v0)]) (rest := []) rfl rfl (g := (mkF m 20 #[.val (.ref a), .val (.int (0 : Int32)), .val (.int (1 : Int32)), .val (.ref r_29), .val (.int (0 : Int32))] [(.int v0), (.int (0 : Int32)), (.ref r_29)])) rfl (by rw [hml]; rfl) rfl (hb hby own_d_jdk_52_14_20) (W := 0) rfl (by decide) (by decide) (by decide) (by decide)
  obtain ⟨rfl, M37, K37, F39, F40⟩ := hQ37
  have N37 := Fr.app N28 M37
  refine own_st (fun u_ k_ => st37 u_ k_) ?_
  show own_Go p e below _ (T37.setTop (mkF m 23 #[.val (.ref a), .val (.int (0 : Int32)), .val (.int (1 : Int32)), .val (.ref r_29), .val (.int (0 : Int32))] []))
  refine own_st (fun u_ k_ => XS.iinc X37.here hx rfl (hb hby own_d_jdk_52_14_23) rfl (l' := #[.val (.ref a), .val (.int (1 : Int32)), .val (.int (1 : Int32)), .val (.ref r_29), .val (.int (0 : Int32))]) rfl k_) ?_
  refine own_st (fun u_ k_ => XS.iinc X37.here hx rfl (hb hby own_d_jdk_52_14_26) rfl (l' := #[.val (.ref a), .val (.int (1 : Int32)), .val (.int (1 : Int32)), .val (.ref r_29), .val (.int (1 : Int32))]) rfl k_) ?_
  show own_Go p e below _ (T37.setTop (mkF m 29 #[.val (.ref a), .val (.int (1 : Int32)), .val (.int (1 : Int32)), .val (.ref r_29), .val (.int (1 : Int32))] []))
  refine own_st (fun u_ k_ => XS.goto X37.here hx rfl (pc0 := 29) (pc' := 8) rfl (hb hby own_d_jdk_52_14_29) (by decide) (by decide) k_) ?_
  refine own_st (fun u_ k_ => XS.iload X37.here hx rfl (hb hby own_d_jdk_52_14_8) rfl k_) ?_
  show own_Go p e below _ (T37.setTop (mkF m 10 #[.val (.ref a), .val (.int (1 : Int32)), .val (.int (1 : Int32)), .val (.ref r_29), .val (.int (1 : Int32))] [(.int (1 : Int32))]))
  refine own_st (fun u_ k_ => XS.iloadN X37.here hx rfl (hb hby own_d_jdk_52_14_10) rfl k_) ?_
  refine own_st (fun u_ k_ => XS.icmpYes X37.here hx rfl (pc0 := 11) (pc' := 32) rfl (hb hby own_d_jdk_52_14_11) rfl (XT.ii_ge_t (by decide)) (by decide) (by decide) k_) ?_
  show own_Go p e below _ (T37.setTop (mkF m 32 #[.val (.ref a), .val (.int (1 : Int32)), .val (.int (1 : Int32)), .val (.ref r_29), .val (.int (1 : Int32))] []))
  refine own_st (fun u_ k_ => XS.aloadN X37.here hx rfl (hb hby own_d_jdk_52_14_32) rfl rfl k_) ?_
  have K41 : Keep h0 T28.heap [] := (Keep.refl h0 []).trans K28 all0
  have z43 : h0.size ≤ r_29 := Nat.le_trans (Nat.le_refl _) z31
  have K42 : Keep h0 T37.heap [] := K41.trans K37 (allS (Or.inr z43) all0)
  exact own_retX X37 hx hlk hret rfl (Or.inr (Or.inr (Or.inr (Or.inr ⟨rfl, rfl, rfl⟩)))) (hb hby own_d_jdk_52_14_33) (by decide) (by decide) (show QrmTB1 Z wcs a ka v0 h0 n0 (some (.ref r_29)) T37.heap _ from (by exact ⟨r_29, kr_30, rfl, N37, K42, z43, F39, F40⟩))
theorem own_d_jdk_52_16_0 : decode jdk_52_method_16_code 0 = .ok (.iload_n 2, 1) := by decide +kernel
theorem own_d_jdk_52_16_1 : decode jdk_52_method_16_code 1 = .ok (.newarray .byte, 2) := by decide +kernel
theorem own_d_jdk_52_16_3 : decode jdk_52_method_16_code 3 = .ok (.astore_n 3, 1) := by decide +kernel
theorem own_d_jdk_52_16_4 : decode jdk_52_method_16_code 4 = .ok (.aload_n 0, 1) := by decide +kernel
theorem own_d_jdk_52_16_5 : decode jdk_52_method_16_code 5 = .ok (.iload_n 1, 1) := by decide +kernel
theorem own_d_jdk_52_16_6 : decode jdk_52_method_16_code 6 = .ok (.aload_n 3, 1) := by decide +kernel
theorem own_d_jdk_52_16_7 : decode jdk_52_method_16_code 7 = .ok (.iconst 0, 1) := by decide +kernel
theorem own_d_jdk_52_16_8 : decode jdk_52_method_16_code 8 = .ok (.iload_n 2, 1) := by decide +kernel
theorem own_d_jdk_52_16_9 : decode jdk_52_method_16_code 9 = .ok (.invokestatic 115, 3) := by decide +kernel
theorem own_pd_115 : parseMethodDescriptor "([CI[BII)I" = some ⟨[(.array .char), .int, (.array .byte), .int, .int], some .int⟩ := by decide +kernel
theorem own_d_jdk_52_16_12 : decode jdk_52_method_16_code 12 = .ok (.istore 4, 2) := by decide +kernel
theorem own_d_jdk_52_16_14 : decode jdk_52_method_16_code 14 = .ok (.iload 4, 2) := by decide +kernel
theorem own_d_jdk_52_16_16 : decode jdk_52_method_16_code 16 = .ok (.iload_n 2, 1) := by decide +kernel
theorem own_d_jdk_52_16_17 : decode jdk_52_method_16_code 17 = .ok (.if_icmp .eq 40, 3) := by decide +kernel
theorem own_d_jdk_52_16_20 : decode jdk_52_method_16_code 20 = .ok (.aload_n 0, 1) := by decide +kernel
theorem own_d_jdk_52_16_21 : decode jdk_52_method_16_code 21 = .ok (.iload_n 1, 1) := by decide +kernel
theorem own_d_jdk_52_16_22 : decode jdk_52_method_16_code 22 = .ok (.iload_n 2, 1) := by decide +kernel
theorem own_d_jdk_52_16_23 : decode jdk_52_method_16_code 23 = .ok (.invokestatic 119, 3) := by decide +kernel
theorem own_pd_124 : parseMethodDescriptor "([CII)[B" = some ⟨[(.array .char), .int, .int], some (.array .byte)⟩ := by decide +kernel
theorem own_d_jdk_52_16_26 : decode jdk_52_method_16_code 26 = .ok (.astore 5, 2) := by decide +kernel
theorem own_d_jdk_52_16_28 : decode jdk_52_method_16_code 28 = .ok (.aload 5, 2) := by decide +kernel
theorem own_d_jdk_52_16_30 : decode jdk_52_method_16_code 30 = .ok (.iload 4, 2) := by decide +kernel
theorem own_d_jdk_52_16_32 : decode jdk_52_method_16_code 32 = .ok (.invokestatic 71, 3) := by decide +kernel
theorem own_pd_129 : parseMethodDescriptor "([BI)C" = some ⟨[(.array .byte), .int], some .char⟩ := by decide +kernel
theorem own_d_jdk_52_16_35 : decode jdk_52_method_16_code 35 = .ok (.sipush 255, 3) := by decide +kernel
theorem own_d_jdk_52_16_38 : decode jdk_52_method_16_code 38 = .ok (.if_icmp .gt 16, 3) := by decide +kernel
theorem own_d_jdk_52_16_54 : decode jdk_52_method_16_code 54 = .ok (.aload 5, 2) := by decide +kernel
theorem own_d_jdk_52_16_56 : decode jdk_52_method_16_code 56 = .ok (.areturn, 1) := by decide +kernel
abbrev own_y_134 : MethodName := ⟨"java/lang/StringUTF16", "compress", "([CII)[B"⟩
theorem own_ef_rmCq1_0 (m : MethodId) (a : Addr)  : entryFrame m #[(.ref a), (.int (0 : Int32)), (.int (1 : Int32))] 6 = mkF m 0 #[.val (.ref a), .val (.int (0 : Int32)), .val (.int (1 : Int32)), .unset, .unset, .unset] [] := by first | (simp [entryFrame, mkF, argsToLocals, Value.category, maxLocals]; done) | rfl
def QrmCq1_0 (Z : State) (wcs : Int32) (a : Addr) (ka : ClassId) (v0 : Int32) (h0 : Heap) (n0 : Nat) (v : Option Value) (h : Heap) (L : List Loc) : Prop := ∃ r : Addr, ∃ kr : ClassId, v = some (.ref r) ∧ Fr n0 L ∧ Keep h0 h [] ∧ h0.size ≤ r ∧ Exa Z h r "[B" ∧ Arv Z h r kr .byte (2 : Int32) [(.int ((v0 >>> ((0 : Int32) &&& 31)).toInt8.toInt32)), (.int ((v0 >>> ((8 : Int32) &&& 31)).toInt8.toInt32))] (.int (0 : Int32))
set_option maxRecDepth 65536 in
set_option maxHeartbeats 40000000 in
theorem rmCq1_0 (l : Launch) (Z : State) (a0 : Array Value) (hw : own_H a0 Z) (ws : List Jvm.Cond) (wcs : Int32) (hS : own_S Z wcs) (a : Addr) (ka : ClassId) (v0 : Int32) (h0 : Heap) (n0 : Nat) (O0 : Old Z n0 h0) (Ea : Exa Z h0 a "[C") (A1 : Arv Z h0 a ka .char (1 : Int32) [(.int v0)] (.int (0 : Int32))) (hq0 : (255 : Int32) < v0) (hv0 : own_C16 v0) :
    own_Met l own_y_134 jdk_52_method_16_code 6 (some (.array .byte)) ws ({ frames := 3, cells := 2, slots := 3, locals := 40 } : Room) Z h0 #[(.ref a), (.int (0 : Int32)), (.int (1 : Int32))] (QrmCq1_0 Z wcs a ka v0 h0 n0) := by
  refine own_body (plainFor_of_name own_pn_15) ?_
  intro p e s m below meth c s₁ hx hby hml hown hnm hret hlk hZ e0 X0
  have N0 := Fr.nil n0
  refine own_st (fun u_ k_ => castTop (own_ef_rmCq1_0 m a) k_) ?_
  show own_Go p e below _ (s₁.setTop (mkF m 0 #[.val (.ref a), .val (.int (0 : Int32)), .val (.int (1 : Int32)), .unset, .unset, .unset] []))
  refine own_st (fun u_ k_ => XS.iloadN X0.here hx rfl (hb hby own_d_jdk_52_16_0) rfl k_) ?_
  obtain ⟨T44, h44, k44, X44, e44, E44, A44, Y44, st44⟩ := newPE X0 hx hZ (own_w hw 16 rfl) e0 (g := (mkF m 1 #[.val (.ref a), .val (.int (0 : Int32)), .val (.int (1 : Int32)), .unset, .unset, .unset] [(.int (1 : Int32))])) rfl (hb hby own_d_jdk_52_16_1) rfl (by decide) (cap := 1) (by decide) (by decide) (by decide) (by decide) (ad := "[B") own_lm_31
  obtain ⟨b44, g44⟩ : ∃ z, z = h0.size := ⟨_, rfl⟩
  rw [← g44] at A44 Y44 st44
  have V44 : Arv Z h44 b44 k44 .byte (1 : Int32) [(.int (0 : Int32))] (.int (0 : Int32)) := (Arv.new A44 (by decide)).pad (pad_rep [] (.int (0 : Int32)) 1)
  refine own_st (fun u_ k_ => st44 u_ k_) ?_
  show own_Go p e below _ (T44.setTop (mkF m 3 #[.val (.ref a), .val (.int (0 : Int32)), .val (.int (1 : Int32)), .unset, .unset, .unset] [(.ref b44)]))
  refine own_st (fun u_ k_ => XS.astoreN X44.here hx rfl (hb hby own_d_jdk_52_16_3) rfl rfl (l' := #[.val (.ref a), .val (.int (0 : Int32)), .val (.int (1 : Int32)), .val (.ref b44), .unset, .unset]) rfl k_) ?_
  refine own_st (fun u_ k_ => XS.aloadN X44.here hx rfl (hb hby own_d_jdk_52_16_4) rfl rfl k_) ?_
  show own_Go p e below _ (T44.setTop (mkF m 5 #[.val (.ref a), .val (.int (0 : Int32)), .val (.int (1 : Int32)), .val (.ref b44), .unset, .unset] [(.ref a)]))
  refine own_st (fun u_ k_ => XS.iloadN X44.here hx rfl (hb hby own_d_jdk_52_16_5) rfl k_) ?_
  refine own_st (fun u_ k_ => XS.aloadN X44.here hx rfl (hb hby own_d_jdk_52_16_6) rfl rfl k_) ?_
  show own_Go p e below _ (T44.setTop (mkF m 7 #[.val (.ref a), .val (.int (0 : Int32)), .val (.int (1 : Int32)), .val (.ref b44), .unset, .unset] [(.ref b44), (.int (0 : Int32)), (.ref a)]))
  refine own_st (fun u_ k_ => XS.iconst X44.here hx rfl (hb hby own_d_jdk_52_16_7) k_) ?_
  refine own_st (fun u_ k_ => XS.iloadN X44.here hx rfl (hb hby own_d_jdk_52_16_8) rfl k_) ?_
  show own_Go p e below _ (T44.setTop (mkF m 9 #[.val (.ref a), .val (.int (0 : Int32)), .val (.int (1 : Int32)), .val (.ref b44), .unset, .unset] [(.int (1 : Int32)), (.int (0 : Int32)), (.ref b44), (.int (0 : Int32)), (.ref a)]))
  have F45 := (Exa.ext E44 Ea)
  have g46 : n0 ≤ b44 := Nat.le_trans (own_nl O0) (Nat.le_of_eq g44.symm)
  have F47 := (A1.ext E44)
  have O49 : Old Z n0 h44 := O0.ext E44
  obtain ⟨T48, v48, L48, X48, hQ48, st48⟩ := own_callS X44 hx hZ (y := own_y_14) hown (own_w hw 100 rfl) (own_w hw 101 rfl) (own_w hw 98 rfl) (own_w hw 102 rfl) own_lm_28 (rmCp1_0 l Z a0 hw [] wcs hS a ka b44 k44 v0 h44 n0 O49 F45 Y44 g46 F47 V44 (by assumption)) e44 own_pd_115 (argsL := [(.ref a), (.int (0 : Int32)), (.ref b44), (.int (0 : Int32)), (.int (1 : Int32))]) (rest := []) rfl rfl (g := (mkF m 9 #[.val (.ref a), .val (.int (0 : Int32)), .val (.int (1 : Int32)), .val (.ref b44), .unset, .unset] [(.int (1 : Int32)), (.int (0 : Int32)), (.ref b44), (.int (0 : Int32)), (.ref a)])) rfl (by rw [hml]; rfl) rfl (hb hby own_d_jdk_52_16_9) (W := 0) rfl (by decide) (by decide) (by decide) (by decide)
  obtain ⟨rfl, M48, K48, F50⟩ := hQ48
  have N48 := Fr.app N0 M48
  refine own_st (fun u_ k_ => st48 u_ k_) ?_
  show own_Go p e below _ (T48.setTop (mkF m 12 #[.val (.ref a), .val (.int (0 : Int32)), .val (.int (1 : Int32)), .val (.ref b44), .unset, .unset] [(.int (0 : Int32))]))
  refine own_st (fun u_ k_ => XS.istore X48.here hx rfl (hb hby own_d_jdk_52_16_12) rfl (l' := #[.val (.ref a), .val (.int (0 : Int32)), .val (.int (1 : Int32)), .val (.ref b44), .val (.int (0 : Int32)), .unset]) rfl k_) ?_
  refine own_st (fun u_ k_ => XS.iload X48.here hx rfl (hb hby own_d_jdk_52_16_14) rfl k_) ?_
  show own_Go p e below _ (T48.setTop (mkF m 16 #[.val (.ref a), .val (.int (0 : Int32)), .val (.int (1 : Int32)), .val (.ref b44), .val (.int (0 : Int32)), .unset] [(.int (0 : Int32))]))
  refine own_st (fun u_ k_ => XS.iloadN X48.here hx rfl (hb hby own_d_jdk_52_16_16) rfl k_) ?_
  refine own_st (fun u_ k_ => XS.icmpNo X48.here hx rfl (hb hby own_d_jdk_52_16_17) rfl (XT.ii_eq_f (by decide)) k_) ?_
  show own_Go p e below _ (T48.setTop (mkF m 20 #[.val (.ref a), .val (.int (0 : Int32)), .val (.int (1 : Int32)), .val (.ref b44), .val (.int (0 : Int32)), .unset] []))
  refine own_st (fun u_ k_ => XS.aloadN X48.here hx rfl (hb hby own_d_jdk_52_16_20) rfl rfl k_) ?_
  refine own_st (fun u_ k_ => XS.iloadN X48.here hx rfl (hb hby own_d_jdk_52_16_21) rfl k_) ?_
  show own_Go p e below _ (T48.setTop (mkF m 22 #[.val (.ref a), .val (.int (0 : Int32)), .val (.int (1 : Int32)), .val (.ref b44), .val (.int (0 : Int32)), .unset] [(.int (0 : Int32)), (.ref a)]))
  refine own_st (fun u_ k_ => XS.iloadN X48.here hx rfl (hb hby own_d_jdk_52_16_22) rfl k_) ?_
  have F51 := (F45.keep K48)
  have ne52 : a ≠ b44 := (Nat.ne_of_lt (Nat.lt_of_lt_of_le Ea.lt (Nat.le_of_eq g44.symm)))
  have F53 := (F47.keep K48 (ninS ne52 nin0))
  have O55 : Old Z n0 T48.heap := O49.keep K48 (allS g46 all0)
  obtain ⟨T54, v54, L54, X54, hQ54, st54⟩ := own_callS X48 hx hZ (y := own_y_104) hown (own_w hw 106 rfl) (own_w hw 107 rfl) (own_w hw 98 rfl) (own_w hw 108 rfl) own_lm_28 (rmTB1 l Z a0 hw [] wcs hS a ka v0 T48.heap n0 O55 F51 F53) rfl own_pd_124 (argsL := [(.ref a), (.int (0 : Int32)), (.int (1 : Int32))]) (rest := []) rfl rfl (g := (mkF m 23 #[.val (.ref a), .val (.int (0 : Int32)), .val (.int (1 : Int32)), .val (.ref b44), .val (.int (0 : Int32)), .unset] [(.int (1 : Int32)), (.int (0 : Int32)), (.ref a)])) rfl (by rw [hml]; rfl) rfl (hb hby own_d_jdk_52_16_23) (W := 0) rfl (by decide) (by decide) (by decide) (by decide)
  obtain ⟨r_56, kr_57, rfl, M54, K54, z58, F59, F60⟩ := hQ54
  have N54 := Fr.app N48 M54
  refine own_st (fun u_ k_ => st54 u_ k_) ?_
  show own_Go p e below _ (T54.setTop (mkF m 26 #[.val (.ref a), .val (.int (0 : Int32)), .val (.int (1 : Int32)), .val (.ref b44), .val (.int (0 : Int32)), .unset] [(.ref r_56)]))
  refine own_st (fun u_ k_ => XS.astore X54.here hx rfl (hb hby own_d_jdk_52_16_26) rfl rfl (l' := #[.val (.ref a), .val (.int (0 : Int32)), .val (.int (1 : Int32)), .val (.ref b44), .val (.int (0 : Int32)), .val (.ref r_56)]) rfl k_) ?_
  refine own_st (fun u_ k_ => XS.aload X54.here hx rfl (hb hby own_d_jdk_52_16_28) rfl rfl k_) ?_
  show own_Go p e below _ (T54.setTop (mkF m 30 #[.val (.ref a), .val (.int (0 : Int32)), .val (.int (1 : Int32)), .val (.ref b44), .val (.int (0 : Int32)), .val (.ref r_56)] [(.ref r_56)]))
  refine own_st (fun u_ k_ => XS.iload X54.here hx rfl (hb hby own_d_jdk_52_16_30) rfl k_) ?_
  have O62 : Old Z n0 T54.heap := O55.keep K54 all0
  obtain ⟨T61, v61, L61, X61, hQ61, st61⟩ := own_callS X54 hx hZ (y := own_y_81) hown (own_w hw 122 rfl) (own_w hw 123 rfl) (own_w hw 98 rfl) (own_w hw 124 rfl) own_lm_28 (rmGC1_0 l Z a0 hw [] wcs hS r_56 kr_57 ((v0 >>> ((0 : Int32) &&& 31)).toInt8.toInt32) ((v0 >>> ((8 : Int32) &&& 31)).toInt8.toInt32) T54.heap n0 O62 F60) rfl own_pd_129 (argsL := [(.ref r_56), (.int (0 : Int32))]) (rest := []) rfl rfl (g := (mkF m 32 #[.val (.ref a), .val (.int (0 : Int32)), .val (.int (1 : Int32)), .val (.ref b44), .val (.int (0 : Int32)), .val (.ref r_56)] [(.int (0 : Int32)), (.ref r_56)])) rfl (by rw [hml]; rfl) rfl (hb hby own_d_jdk_52_16_32) (W := 0) rfl (by decide) (by decide) (by decide) (by decide)
  obtain ⟨rfl, M61, e61⟩ := hQ61
  have N61 := Fr.app N54 M61
  refine own_st (fun u_ k_ => st61 u_ k_) ?_
  show own_Go p e below _ (T61.setTop (mkF m 35 #[.val (.ref a), .val (.int (0 : Int32)), .val (.int (1 : Int32)), .val (.ref b44), .val (.int (0 : Int32)), .val (.ref r_56)] [(.int ((((((v0 >>> ((0 : Int32) &&& 31)).toInt8.toInt32) &&& (255 : Int32)) <<< ((0 : Int32) &&& 31)) ||| ((((v0 >>> ((8 : Int32) &&& 31)).toInt8.toInt32) &&& (255 : Int32)) <<< ((8 : Int32) &&& 31))).toUInt32.toUInt16.toUInt32.toInt32))]))
  refine own_st (fun u_ k_ => XS.sipush X61.here hx rfl (hb hby own_d_jdk_52_16_35) k_) ?_
  refine own_st (fun u_ k_ => XS.icmpYes X61.here hx rfl (pc0 := 38) (pc' := 54) rfl (hb hby own_d_jdk_52_16_38) rfl (XT.ii_gt_t (by rw [own_gc _ hv0]; exact hq0)) (by decide) (by decide) k_) ?_
  show own_Go p e below _ (T61.setTop (mkF m 54 #[.val (.ref a), .val (.int (0 : Int32)), .val (.int (1 : Int32)), .val (.ref b44), .val (.int (0 : Int32)), .val (.ref r_56)] []))
  refine own_st (fun u_ k_ => XS.aload X61.here hx rfl (hb hby own_d_jdk_52_16_54) rfl rfl k_) ?_
  have K63 : Keep h0 h44 [] := (Keep.refl h0 []).ext E44
  have z65 : h0.size ≤ b44 := Nat.le_trans (Nat.le_refl _) (Nat.le_of_eq g44.symm)
  have K64 : Keep h0 T48.heap [] := K63.trans K48 (allS (Or.inr z65) all0)
  have K66 : Keep h0 T54.heap [] := K64.trans K54 all0
  have z67 : h0.size ≤ r_56 := Nat.le_trans (Nat.le_trans E44.1 K48.1) z58
  exact own_retX X61 hx hlk hret rfl (Or.inr (Or.inr (Or.inr (Or.inr ⟨rfl, rfl, rfl⟩)))) (hb hby own_d_jdk_52_16_56) (by decide) (by decide) (show QrmCq1_0 Z wcs a ka v0 h0 n0 (some (.ref r_56)) T61.heap _ from (by rw [e61]; exact ⟨r_56, kr_57, rfl, N61, K66, z67, F59, F60⟩))
theorem own_d_jdk_52_15_0 : decode jdk_52_method_15_code 0 = .ok (.iload_n 1, 1) := by decide +kernel
theorem own_d_jdk_52_15_1 : decode jdk_52_method_15_code 1 = .ok (.aload_n 0, 1) := by decide +kernel
theorem own_d_jdk_52_15_2 : decode jdk_52_method_15_code 2 = .ok (.arraylength, 1) := by decide +kernel
theorem own_d_jdk_52_15_3 : decode jdk_52_method_15_code 3 = .ok (.isub, 1) := by decide +kernel
theorem own_d_jdk_52_15_4 : decode jdk_52_method_15_code 4 = .ok (.bipush 31, 2) := by decide +kernel
theorem own_d_jdk_52_15_6 : decode jdk_52_method_15_code 6 = .ok (.iushr, 1) := by decide +kernel
theorem own_d_jdk_52_15_7 : decode jdk_52_method_15_code 7 = .ok (.i2b, 1) := by decide +kernel
theorem own_d_jdk_52_15_8 : decode jdk_52_method_15_code 8 = .ok (.ireturn, 1) := by decide +kernel
abbrev own_y_143 : MethodName := ⟨"java/lang/StringUTF16", "coderFromArrayLen", "([BI)B"⟩
theorem own_ef_rmCo1_2 (m : MethodId) (b : Addr)  : entryFrame m #[(.ref b), (.int (1 : Int32))] 2 = mkF m 0 #[.val (.ref b), .val (.int (1 : Int32))] [] := by first | (simp [entryFrame, mkF, argsToLocals, Value.category, maxLocals]; done) | rfl
def QrmCo1_2 (Z : State) (wcs : Int32) (b : Addr) (kb : ClassId) (vs : List Value) (h0 : Heap) (n0 : Nat) (v : Option Value) (h : Heap) (L : List Loc) : Prop := v = some (.int (1 : Int32)) ∧ Fr n0 L ∧ h = h0
set_option maxRecDepth 65536 in
set_option maxHeartbeats 40000000 in
theorem rmCo1_2 (l : Launch) (Z : State) (a0 : Array Value) (hw : own_H a0 Z) (ws : List Jvm.Cond) (wcs : Int32) (hS : own_S Z wcs) (b : Addr) (kb : ClassId) (vs : List Value) (h0 : Heap) (n0 : Nat) (O0 : Old Z n0 h0) (A2 : Arv Z h0 b kb .byte (2 : Int32) vs (.int (0 : Int32))) :
    own_Met l own_y_143 jdk_52_method_15_code 2 (some .byte) ws ({ frames := 0, cells := 0, slots := 0, locals := 0 } : Room) Z h0 #[(.ref b), (.int (1 : Int32))] (QrmCo1_2 Z wcs b kb vs h0 n0) := by
  refine own_body (plainFor_of_name own_pn_15) ?_
  intro p e s m below meth c s₁ hx hby hml hown hnm hret hlk hZ e0 X0
  have N0 := Fr.nil n0
  refine own_st (fun u_ k_ => castTop (own_ef_rmCo1_2 m b) k_) ?_
  show own_Go p e below _ (s₁.setTop (mkF m 0 #[.val (.ref b), .val (.int (1 : Int32))] []))
  refine own_st (fun u_ k_ => XS.iloadN X0.here hx rfl (hb hby own_d_jdk_52_15_0) rfl k_) ?_
  refine own_st (fun u_ k_ => XS.aloadN X0.here hx rfl (hb hby own_d_jdk_52_15_1) rfl rfl k_) ?_
  show own_Go p e below _ (s₁.setTop (mkF m 2 #[.val (.ref b), .val (.int (1 : Int32))] [(.ref b), (.int (1 : Int32))]))
  obtain ⟨cl68, Ar68, -, S68, N68, -, -⟩ := id A2
  refine own_st (X0.arraylength hx (by rw [e0]; exact Ar68.1) (State.isArrayOf_alike hZ.alike Ar68.2.1) (g := (mkF m 2 #[.val (.ref b), .val (.int (1 : Int32))] [(.ref b), (.int (1 : Int32))])) rfl rfl (hb hby own_d_jdk_52_15_2)) ?_
  rw [len_of S68 N68]
  show own_Go p e below _ (s₁.setTop (mkF m 3 #[.val (.ref b), .val (.int (1 : Int32))] [(.int (2 : Int32)), (.int (1 : Int32))]))
  refine own_st (fun u_ k_ => XS.isub X0.here hx rfl (hb hby own_d_jdk_52_15_3) rfl k_) ?_
  refine own_st (fun u_ k_ => XS.bipush X0.here hx rfl (hb hby own_d_jdk_52_15_4) k_) ?_
  show own_Go p e below _ (s₁.setTop (mkF m 6 #[.val (.ref b), .val (.int (1 : Int32))] [(.int (31 : Int32)), (.int (-1 : Int32))]))
  refine own_st (fun u_ k_ => XS.iushr X0.here hx rfl (hb hby own_d_jdk_52_15_6) rfl k_) ?_
  refine own_st (fun u_ k_ => XS.i2b X0.here hx rfl (hb hby own_d_jdk_52_15_7) rfl k_) ?_
  show own_Go p e below _ (s₁.setTop (mkF m 8 #[.val (.ref b), .val (.int (1 : Int32))] [(.int (1 : Int32))]))
  exact own_retX X0 hx hlk hret rfl (Or.inl ⟨rfl, by simp, _, rfl⟩) (hb hby own_d_jdk_52_15_8) (by decide) (by decide) (show QrmCo1_2 Z wcs b kb vs h0 n0 (some (.int (1 : Int32))) s₁.heap _ from (by rw [e0]; exact ⟨rfl, N0, rfl⟩))
theorem own_d_jdk_42_149_0 : decode jdk_42_method_149_code 0 = .ok (.aload_n 0, 1) := by decide +kernel
theorem own_d_jdk_42_149_1 : decode jdk_42_method_149_code 1 = .ok (.invokespecial 1, 3) := by decide +kernel
theorem own_d_jdk_42_149_4 : decode jdk_42_method_149_code 4 = .ok (.iload_n 3, 1) := by decide +kernel
theorem own_d_jdk_42_149_5 : decode jdk_42_method_149_code 5 = .ok (.ifCond .ne 22, 3) := by decide +kernel
theorem own_d_jdk_42_149_27 : decode jdk_42_method_149_code 27 = .ok (.getstatic 38, 3) := by decide +kernel
theorem own_d_jdk_42_149_30 : decode jdk_42_method_149_code 30 = .ok (.ifCond .eq 28, 3) := by decide +kernel
theorem own_d_jdk_42_149_33 : decode jdk_42_method_149_code 33 = .ok (.aload_n 1, 1) := by decide +kernel
theorem own_d_jdk_42_149_34 : decode jdk_42_method_149_code 34 = .ok (.iload_n 2, 1) := by decide +kernel
theorem own_d_jdk_42_149_35 : decode jdk_42_method_149_code 35 = .ok (.iload_n 3, 1) := by decide +kernel
theorem own_d_jdk_42_149_36 : decode jdk_42_method_149_code 36 = .ok (.invokestatic 177, 3) := by decide +kernel
theorem own_d_jdk_42_149_39 : decode jdk_42_method_149_code 39 = .ok (.astore 5, 2) := by decide +kernel
theorem own_d_jdk_42_149_41 : decode jdk_42_method_149_code 41 = .ok (.aload_n 0, 1) := by decide +kernel
theorem own_d_jdk_42_149_42 : decode jdk_42_method_149_code 42 = .ok (.aload 5, 2) := by decide +kernel
theorem own_d_jdk_42_149_44 : decode jdk_42_method_149_code 44 = .ok (.iload_n 3, 1) := by decide +kernel
theorem own_d_jdk_42_149_45 : decode jdk_42_method_149_code 45 = .ok (.invokestatic 47, 3) := by decide +kernel
theorem own_pd_160 : parseMethodDescriptor "([BI)B" = some ⟨[(.array .byte), .int], some .byte⟩ := by decide +kernel
theorem own_d_jdk_42_149_48 : decode jdk_42_method_149_code 48 = .ok (.putfield 15, 3) := by decide +kernel
theorem own_lm_162 : parseFieldDescriptor "B" = some .byte := by decide +kernel
theorem own_d_jdk_42_149_51 : decode jdk_42_method_149_code 51 = .ok (.aload_n 0, 1) := by decide +kernel
theorem own_d_jdk_42_149_52 : decode jdk_42_method_149_code 52 = .ok (.aload 5, 2) := by decide +kernel
theorem own_d_jdk_42_149_54 : decode jdk_42_method_149_code 54 = .ok (.putfield 9, 3) := by decide +kernel
theorem own_lm_166 : ("value" : String) ≠ "coder" := by decide +kernel
theorem own_lm_167 : parseFieldDescriptor "[B" = some (.array .byte) := by decide +kernel
def own_sn_168 {Z : State} {a0 : Array Value} (hw : own_H a0 Z) := slot_ne (Or.inr (own_w hw 17 rfl)) (Or.inr (own_w hw 18 rfl)) own_lm_166 (t := (.array .byte)) (t' := .byte) own_lm_167 own_lm_162
theorem own_d_jdk_42_149_57 : decode jdk_42_method_149_code 57 = .ok (.return_, 1) := by decide +kernel
theorem own_lm_170 : ("coder" : String) ≠ "value" := by decide +kernel
def own_sn_171 {Z : State} {a0 : Array Value} (hw : own_H a0 Z) := slot_ne (Or.inr (own_w hw 18 rfl)) (Or.inr (own_w hw 17 rfl)) own_lm_170 (t := .byte) (t' := (.array .byte)) own_lm_162 own_lm_167
abbrev own_y_172 : MethodName := ⟨"java/lang/String", "<init>", "([CIILjava/lang/Void;)V"⟩
theorem own_pn_173 : plainName "java/lang/String" = true := by first | (simp [plainName, overriddenIn]; done) | decide +kernel
theorem own_ef_rmS4_1_0 (m : MethodId) (a : Addr) (b : Addr)  : entryFrame m #[(.ref a), (.ref b), (.int (0 : Int32)), (.int (1 : Int32)), .null] 6 = mkF m 0 #[.val (.ref a), .val (.ref b), .val (.int (0 : Int32)), .val (.int (1 : Int32)), .val .null, .unset] [] := by first | (simp [entryFrame, mkF, argsToLocals, Value.category, maxLocals]; done) | rfl
def QrmS4_1_0 (Z : State) (wcs : Int32) (a : Addr) (b : Addr) (kb : ClassId) (v0 : Int32) (h0 : Heap) (n0 : Nat) (v : Option Value) (h : Heap) (L : List Loc) : Prop := ∃ r : Addr, ∃ kr : ClassId, v = none ∧ Fr n0 L ∧ Keep h0 h [a] ∧ h0.size ≤ r ∧ Exa Z h a "java/lang/String" ∧ Fld Z h a "java/lang/String" "value" "[B" (.ref r) ∧ Fld Z h a "java/lang/String" "coder" "B" (.int (1 : Int32)) ∧ Exa Z h r "[B" ∧ Arv Z h r kr .byte (2 : Int32) [(.int ((v0 >>> ((0 : Int32) &&& 31)).toInt8.toInt32)), (.int ((v0 >>> ((8 : Int32) &&& 31)).toInt8.toInt32))] (.int (0 : Int32))
set_option maxRecDepth 65536 in
set_option maxHeartbeats 40000000 in
theorem rmS4_1_0 (l : Launch) (Z : State) (a0 : Array Value) (hw : own_H a0 Z) (ws : List Jvm.Cond) (wcs : Int32) (hS : own_S Z wcs) (a : Addr) (b : Addr) (kb : ClassId) (v0 : Int32) (h0 : Heap) (n0 : Nat) (O0 : Old Z n0 h0) (E : Exa Z h0 a "java/lang/String") (Ea : Exa Z h0 b "[C") (ga : n0 ≤ a) (F1 : Fld Z h0 a "java/lang/String" "value" "[B" .null) (F2 : Fld Z h0 a "java/lang/String" "coder" "B" (.int (0 : Int32))) (A1 : Arv Z h0 b kb .char (1 : Int32) [(.int v0)] (.int (0 : Int32))) (hq0 : (255 : Int32) < v0) (hv0 : own_C16 v0) :
    own_Met l own_y_172 jdk_42_method_149_code 6 none ws ({ frames := 4, cells := 2, slots := 3, locals := 57 } : Room) Z h0 #[(.ref a), (.ref b), (.int (0 : Int32)), (.int (1 : Int32)), .null] (QrmS4_1_0 Z wcs a b kb v0 h0 n0) := by
  refine own_body (plainFor_of_name own_pn_173) ?_
  intro p e s m below meth c s₁ hx hby hml hown hnm hret hlk hZ e0 X0
  have N0 := Fr.nil n0
  refine own_st (fun u_ k_ => castTop (own_ef_rmS4_1_0 m a b) k_) ?_
  show own_Go p e below _ (s₁.setTop (mkF m 0 #[.val (.ref a), .val (.ref b), .val (.int (0 : Int32)), .val (.int (1 : Int32)), .val .null, .unset] []))
  refine own_st (fun u_ k_ => XS.aloadN X0.here hx rfl (hb hby own_d_jdk_42_149_0) rfl rfl k_) ?_
  obtain ⟨T69, X69, e69, st69⟩ := initO X0 hx hZ hown (own_w hw 12 rfl) (own_w hw 13 rfl) (own_w hw 14 rfl) e0 (g := (mkF m 1 #[.val (.ref a), .val (.ref b), .val (.int (0 : Int32)), .val (.int (1 : Int32)), .val .null, .unset] [(.ref a)])) rfl (by rw [hml]; rfl) rfl (hb hby own_d_jdk_42_149_1) (by decide) (W := 0) (by show 2 * 0 + _ ≤ _; exact Nat.le_of_eq rfl) (by decide)
  refine own_st (fun u_ k_ => st69 u_ k_) ?_
  show own_Go p e below _ (T69.setTop (mkF m 4 #[.val (.ref a), .val (.ref b), .val (.int (0 : Int32)), .val (.int (1 : Int32)), .val .null, .unset] []))
  refine own_st (fun u_ k_ => XS.iloadN X69.here hx rfl (hb hby own_d_jdk_42_149_4) rfl k_) ?_
  refine own_st (fun u_ k_ => XS.ifYes X69.here hx rfl (pc0 := 5) (pc' := 27) rfl (hb hby own_d_jdk_42_149_5) rfl (XT.i0_ne_t (by decide)) (by decide) (by decide) k_) ?_
  show own_Go p e below _ (T69.setTop (mkF m 27 #[.val (.ref a), .val (.ref b), .val (.int (0 : Int32)), .val (.int (1 : Int32)), .val .null, .unset] []))
  have F70 := Sta.ext O0.2 hS.1
  obtain ⟨T71, X71, e71, st71⟩ := getS2 X69 hx hZ hown (host := "") (Or.inl (own_w hw 90 rfl)) Via.refl e69 F70 (g := (mkF m 27 #[.val (.ref a), .val (.ref b), .val (.int (0 : Int32)), .val (.int (1 : Int32)), .val .null, .unset] [])) rfl (hb hby own_d_jdk_42_149_27)
  refine own_st (fun u_ k_ => st71 u_ k_) ?_
  show own_Go p e below _ (T71.setTop (mkF m 30 #[.val (.ref a), .val (.ref b), .val (.int (0 : Int32)), .val (.int (1 : Int32)), .val .null, .unset] [(.int wcs)]))
  refine own_st (fun u_ k_ => XS.ifNo X71.here hx rfl (hb hby own_d_jdk_42_149_30) rfl (XT.i0_eq_f hS.2.1) k_) ?_
  refine own_st (fun u_ k_ => XS.aloadN X71.here hx rfl (hb hby own_d_jdk_42_149_33) rfl rfl k_) ?_
  show own_Go p e below _ (T71.setTop (mkF m 34 #[.val (.ref a), .val (.ref b), .val (.int (0 : Int32)), .val (.int (1 : Int32)), .val .null, .unset] [(.ref b)]))
  refine own_st (fun u_ k_ => XS.iloadN X71.here hx rfl (hb hby own_d_jdk_42_149_34) rfl k_) ?_
  refine own_st (fun u_ k_ => XS.iloadN X71.here hx rfl (hb hby own_d_jdk_42_149_35) rfl k_) ?_
  show own_Go p e below _ (T71.setTop (mkF m 36 #[.val (.ref a), .val (.ref b), .val (.int (0 : Int32)), .val (.int (1 : Int32)), .val .null, .unset] [(.int (1 : Int32)), (.int (0 : Int32)), (.ref b)]))
  obtain ⟨T72, v72, L72, X72, hQ72, st72⟩ := own_callS X71 hx hZ (y := own_y_134) hown (own_w hw 96 rfl) (own_w hw 97 rfl) (own_w hw 98 rfl) (own_w hw 99 rfl) own_lm_28 (rmCq1_0 l Z a0 hw [] wcs hS b kb v0 h0 n0 O0 Ea A1 (by assumption) (by assumption)) e71 own_pd_124 (argsL := [(.ref b), (.int (0 : Int32)), (.int (1 : Int32))]) (rest := []) rfl rfl (g := (mkF m 36 #[.val (.ref a), .val (.ref b), .val (.int (0 : Int32)), .val (.int (1 : Int32)), .val .null, .unset] [(.int (1 : Int32)), (.int (0 : Int32)), (.ref b)])) rfl (by rw [hml]; rfl) rfl (hb hby own_d_jdk_42_149_36) (W := 0) rfl (by decide) (by decide) (by decide) (by decide)
  obtain ⟨r_73, kr_74, rfl, M72, K72, z75, F76, F77⟩ := hQ72
  have N72 := Fr.app N0 M72
  refine own_st (fun u_ k_ => st72 u_ k_) ?_
  show own_Go p e below _ (T72.setTop (mkF m 39 #[.val (.ref a), .val (.ref b), .val (.int (0 : Int32)), .val (.int (1 : Int32)), .val .null, .unset] [(.ref r_73)]))
  refine own_st (fun u_ k_ => XS.astore X72.here hx rfl (hb hby own_d_jdk_42_149_39) rfl rfl (l' := #[.val (.ref a), .val (.ref b), .val (.int (0 : Int32)), .val (.int (1 : Int32)), .val .null, .val (.ref r_73)]) rfl k_) ?_
  refine own_st (fun u_ k_ => XS.aloadN X72.here hx rfl (hb hby own_d_jdk_42_149_41) rfl rfl k_) ?_
  show own_Go p e below _ (T72.setTop (mkF m 42 #[.val (.ref a), .val (.ref b), .val (.int (0 : Int32)), .val (.int (1 : Int32)), .val .null, .val (.ref r_73)] [(.ref a)]))
  refine own_st (fun u_ k_ => XS.aload X72.here hx rfl (hb hby own_d_jdk_42_149_42) rfl rfl k_) ?_
  refine own_st (fun u_ k_ => XS.iloadN X72.here hx rfl (hb hby own_d_jdk_42_149_44) rfl k_) ?_
  show own_Go p e below _ (T72.setTop (mkF m 45 #[.val (.ref a), .val (.ref b), .val (.int (0 : Int32)), .val (.int (1 : Int32)), .val .null, .val (.ref r_73)] [(.int (1 : Int32)), (.ref r_73), (.ref a)]))
  have O79 : Old Z n0 T72.heap := O0.keep K72 all0
  obtain ⟨T78, v78, L78, X78, hQ78, st78⟩ := own_callS X72 hx hZ (y := own_y_143) hown (own_w hw 103 rfl) (own_w hw 104 rfl) (own_w hw 98 rfl) (own_w hw 105 rfl) own_lm_28 (rmCo1_2 l Z a0 hw [] wcs hS r_73 kr_74 [(.int ((v0 >>> ((0 : Int32) &&& 31)).toInt8.toInt32)), (.int ((v0 >>> ((8 : Int32) &&& 31)).toInt8.toInt32))] T72.heap n0 O79 F77) rfl own_pd_160 (argsL := [(.ref r_73), (.int (1 : Int32))]) (rest := [(.ref a)]) rfl rfl (g := (mkF m 45 #[.val (.ref a), .val (.ref b), .val (.int (0 : Int32)), .val (.int (1 : Int32)), .val .null, .val (.ref r_73)] [(.int (1 : Int32)), (.ref r_73), (.ref a)])) rfl (by rw [hml]; rfl) rfl (hb hby own_d_jdk_42_149_45) (W := 1) rfl (by decide) (by decide) (by decide) (by decide)
  obtain ⟨rfl, M78, e78⟩ := hQ78
  have N78 := Fr.app N72 M78
  refine own_st (fun u_ k_ => st78 u_ k_) ?_
  show own_Go p e below _ (T78.setTop (mkF m 48 #[.val (.ref a), .val (.ref b), .val (.int (0 : Int32)), .val (.int (1 : Int32)), .val .null, .val (.ref r_73)] [(.int (1 : Int32)), (.ref a)]))
  have F80 := (E.keep K72)
  have F81 := (F2.keep K72 nin0)
  obtain ⟨T82, h82, X82, e82, W82, st82⟩ := putF X78 hx hZ hown (host := "") (Or.inl (own_w hw 22 rfl)) Via.refl e78 F81 F80 (Or.inr ⟨(own_w hw 18 rfl), rfl, hnm⟩) (own_w hw 2 rfl) (ty := .byte) own_lm_162 rfl rfl (g := (mkF m 48 #[.val (.ref a), .val (.ref b), .val (.int (0 : Int32)), .val (.int (1 : Int32)), .val .null, .val (.ref r_73)] [(.int (1 : Int32)), (.ref a)])) rfl rfl (hb hby own_d_jdk_42_149_48)
  have N82 := Fr.snoc X82 N78 ga
  have F83 : Fld Z h82 a "java/lang/String" "coder" "B" (.int (1 : Int32)) := Fld.same W82 F81
  refine own_st (fun u_ k_ => st82 u_ k_) ?_
  show own_Go p e below _ (T82.setTop (mkF m 51 #[.val (.ref a), .val (.ref b), .val (.int (0 : Int32)), .val (.int (1 : Int32)), .val .null, .val (.ref r_73)] []))
  refine own_st (fun u_ k_ => XS.aloadN X82.here hx rfl (hb hby own_d_jdk_42_149_51) rfl rfl k_) ?_
  refine own_st (fun u_ k_ => XS.aload X82.here hx rfl (hb hby own_d_jdk_42_149_52) rfl rfl k_) ?_
  show own_Go p e below _ (T82.setTop (mkF m 54 #[.val (.ref a), .val (.ref b), .val (.int (0 : Int32)), .val (.int (1 : Int32)), .val .null, .val (.ref r_73)] [(.ref r_73), (.ref a)]))
  have F84 := (Exa.wr W82 F80)
  have F85 := (Fld.other W82 (F1.keep K72 nin0) (Or.inr (own_sn_168 hw)))
  obtain ⟨T86, h86, X86, e86, W86, st86⟩ := putF X82 hx hZ hown (host := "") (Or.inl (own_w hw 21 rfl)) Via.refl e82 F85 F84 (Or.inr ⟨(own_w hw 17 rfl), rfl, hnm⟩) (own_w hw 2 rfl) (ty := (.array .byte)) own_lm_167 rfl rfl (g := (mkF m 54 #[.val (.ref a), .val (.ref b), .val (.int (0 : Int32)), .val (.int (1 : Int32)), .val .null, .val (.ref r_73)] [(.ref r_73), (.ref a)])) rfl rfl (hb hby own_d_jdk_42_149_54)
  have N86 := Fr.snoc X86 N82 ga
  have F87 : Fld Z h86 a "java/lang/String" "value" "[B" (.ref r_73) := Fld.same W86 F85
  refine own_st (fun u_ k_ => st86 u_ k_) ?_
  show own_Go p e below _ (T86.setTop (mkF m 57 #[.val (.ref a), .val (.ref b), .val (.int (0 : Int32)), .val (.int (1 : Int32)), .val .null, .val (.ref r_73)] []))
  have K88 : Keep h0 T72.heap [a] := (Keep.refl h0 [a]).trans K72 all0
  have K89 : Keep h0 h82 [a] := K88.wr W82 (Or.inl (List.mem_of_getElem? (i := 0) rfl))
  have K90 : Keep h0 h86 [a] := K89.wr W86 (Or.inl (List.mem_of_getElem? (i := 0) rfl))
  have z91 : h0.size ≤ r_73 := Nat.le_trans (Nat.le_refl _) z75
  have F92 := (Exa.wr W86 F84)
  have F93 := (Fld.other W86 F83 (Or.inr (own_sn_171 hw)))
  have F94 := (Exa.wr W86 (Exa.wr W82 F76))
  have ne95 : r_73 ≠ a := (Ne.symm (Nat.ne_of_lt (Nat.lt_of_lt_of_le E.lt z75)))
  have F96 := ((F77.other W82 ne95).other W86 ne95)
  exact own_retV X86 hx hlk hret (hb hby own_d_jdk_42_149_57) (by decide) (by decide) (show QrmS4_1_0 Z wcs a b kb v0 h0 n0 none T86.heap _ from (by rw [e86]; exact ⟨r_73, kr_74, rfl, N86, K90, z91, F92, F87, F93, F94, F96⟩))
theorem own_d_jdk_42_3_0 : decode jdk_42_method_3_code 0 = .ok (.aload_n 0, 1) := by decide +kernel
theorem own_d_jdk_42_3_1 : decode jdk_42_method_3_code 1 = .ok (.aload_n 1, 1) := by decide +kernel
theorem own_d_jdk_42_3_2 : decode jdk_42_method_3_code 2 = .ok (.iconst 0, 1) := by decide +kernel
theorem own_d_jdk_42_3_3 : decode jdk_42_method_3_code 3 = .ok (.aload_n 1, 1) := by decide +kernel
theorem own_d_jdk_42_3_4 : decode jdk_42_method_3_code 4 = .ok (.arraylength, 1) := by decide +kernel
theorem own_d_jdk_42_3_5 : decode jdk_42_method_3_code 5 = .ok (.aconst_null, 1) := by decide +kernel
theorem own_d_jdk_42_3_6 : decode jdk_42_method_3_code 6 = .ok (.invokespecial 27, 3) := by decide +kernel
theorem own_lm_181 : ("java/lang/String" : String) ≠ "java/lang/invoke/MethodHandle" ∧ ("java/lang/String" : String) ≠ "java/lang/invoke/VarHandle" := by decide +kernel
theorem own_pd_182 : parseMethodDescriptor "([CIILjava/lang/Void;)V" = some ⟨[(.array .char), .int, .int, (.object "java/lang/Void")], none⟩ := by decide +kernel
theorem own_d_jdk_42_3_9 : decode jdk_42_method_3_code 9 = .ok (.return_, 1) := by decide +kernel
theorem own_d_jdk_52_21_26 : decode jdk_52_method_21_code 26 = .ok (.aload_n 2, 1) := by decide +kernel
theorem own_d_jdk_52_21_27 : decode jdk_52_method_21_code 27 = .ok (.iload_n 3, 1) := by decide +kernel
theorem own_d_jdk_52_21_28 : decode jdk_52_method_21_code 28 = .ok (.iload 6, 2) := by decide +kernel
theorem own_d_jdk_52_21_30 : decode jdk_52_method_21_code 30 = .ok (.i2b, 1) := by decide +kernel
theorem own_d_jdk_52_21_31 : decode jdk_52_method_21_code 31 = .ok (.bastore, 1) := by decide +kernel
theorem own_d_jdk_52_21_32 : decode jdk_52_method_21_code 32 = .ok (.iinc 1 1, 3) := by decide +kernel
theorem own_d_jdk_52_21_35 : decode jdk_52_method_21_code 35 = .ok (.iinc 3 1, 3) := by decide +kernel
theorem own_d_jdk_52_21_38 : decode jdk_52_method_21_code 38 = .ok (.iinc 5 1, 3) := by decide +kernel
theorem own_d_jdk_52_21_41 : decode jdk_52_method_21_code 41 = .ok (.goto (-38), 3) := by decide +kernel
theorem own_d_jdk_52_21_44 : decode jdk_52_method_21_code 44 = .ok (.iload 4, 2) := by decide +kernel
theorem own_d_jdk_52_21_46 : decode jdk_52_method_21_code 46 = .ok (.ireturn, 1) := by decide +kernel
theorem own_ef_rmCp1_1 (m : MethodId) (a : Addr) (b : Addr)  : entryFrame m #[(.ref a), (.int (0 : Int32)), (.ref b), (.int (0 : Int32)), (.int (1 : Int32))] 7 = mkF m 0 #[.val (.ref a), .val (.int (0 : Int32)), .val (.ref b), .val (.int (0 : Int32)), .val (.int (1 : Int32)), .unset, .unset] [] := by first | (simp [entryFrame, mkF, argsToLocals, Value.category, maxLocals]; done) | rfl
def QrmCp1_1 (Z : State) (wcs : Int32) (a : Addr) (ka : ClassId) (b : Addr) (kb : ClassId) (v0 : Int32) (h0 : Heap) (n0 : Nat) (v : Option Value) (h : Heap) (L : List Loc) : Prop := v = some (.int (1 : Int32)) ∧ Fr n0 L ∧ Keep h0 h [b] ∧ Exa Z h b "[B" ∧ Arv Z h b kb .byte (1 : Int32) [(.int (v0.toInt8.toInt32))] (.int (0 : Int32))
set_option maxRecDepth 65536 in
set_option maxHeartbeats 40000000 in
theorem rmCp1_1 (l : Launch) (Z : State) (a0 : Array Value) (hw : own_H a0 Z) (ws : List Jvm.Cond) (wcs : Int32) (hS : own_S Z wcs) (a : Addr) (ka : ClassId) (b : Addr) (kb : ClassId) (v0 : Int32) (h0 : Heap) (n0 : Nat) (O0 : Old Z n0 h0) (Ea : Exa Z h0 a "[C") (Eb : Exa Z h0 b "[B") (gb : n0 ≤ b) (A1 : Arv Z h0 a ka .char (1 : Int32) [(.int v0)] (.int (0 : Int32))) (A2 : Arv Z h0 b kb .byte (1 : Int32) [(.int (0 : Int32))] (.int (0 : Int32))) (hq0 : ¬ (255 : Int32) < v0) :
    own_Met l own_y_14 jdk_52_method_21_code 7 (some .int) ws ({ frames := 0, cells := 0, slots := 0, locals := 0 } : Room) Z h0 #[(.ref a), (.int (0 : Int32)), (.ref b), (.int (0 : Int32)), (.int (1 : Int32))] (QrmCp1_1 Z wcs a ka b kb v0 h0 n0) := by
  refine own_body (plainFor_of_name own_pn_15) ?_
  intro p e s m below meth c s₁ hx hby hml hown hnm hret hlk hZ e0 X0
  have N0 := Fr.nil n0
  refine own_st (fun u_ k_ => castTop (own_ef_rmCp1_1 m a b) k_) ?_
  show own_Go p e below _ (s₁.setTop (mkF m 0 #[.val (.ref a), .val (.int (0 : Int32)), .val (.ref b), .val (.int (0 : Int32)), .val (.int (1 : Int32)), .unset, .unset] []))
  refine own_st (fun u_ k_ => XS.iconst X0.here hx rfl (hb hby own_d_jdk_52_21_0) k_) ?_
  refine own_st (fun u_ k_ => XS.istore X0.here hx rfl (hb hby own_d_jdk_52_21_1) rfl (l' := #[.val (.ref a), .val (.int (0 : Int32)), .val (.ref b), .val (.int (0 : Int32)), .val (.int (1 : Int32)), .val (.int (0 : Int32)), .unset]) rfl k_) ?_
  show own_Go p e below _ (s₁.setTop (mkF m 3 #[.val (.ref a), .val (.int (0 : Int32)), .val (.ref b), .val (.int (0 : Int32)), .val (.int (1 : Int32)), .val (.int (0 : Int32)), .unset] []))
  refine own_st (fun u_ k_ => XS.iload X0.here hx rfl (hb hby own_d_jdk_52_21_3) rfl k_) ?_
  refine own_st (fun u_ k_ => XS.iload X0.here hx rfl (hb hby own_d_jdk_52_21_5) rfl k_) ?_
  show own_Go p e below _ (s₁.setTop (mkF m 7 #[.val (.ref a), .val (.int (0 : Int32)), .val (.ref b), .val (.int (0 : Int32)), .val (.int (1 : Int32)), .val (.int (0 : Int32)), .unset] [(.int (1 : Int32)), (.int (0 : Int32))]))
  refine own_st (fun u_ k_ => XS.icmpNo X0.here hx rfl (hb hby own_d_jdk_52_21_7) rfl (XT.ii_ge_f (by decide)) k_) ?_
  refine own_st (fun u_ k_ => XS.aloadN X0.here hx rfl (hb hby own_d_jdk_52_21_10) rfl rfl k_) ?_
  show own_Go p e below _ (s₁.setTop (mkF m 11 #[.val (.ref a), .val (.int (0 : Int32)), .val (.ref b), .val (.int (0 : Int32)), .val (.int (1 : Int32)), .val (.int (0 : Int32)), .unset] [(.ref a)]))
  refine own_st (fun u_ k_ => XS.iloadN X0.here hx rfl (hb hby own_d_jdk_52_21_11) rfl k_) ?_
  obtain ⟨cl109, Ar109, q109, S109, N109, H109, G109⟩ := id A1
  have hi109 : ¬ ((0 : Int32) < 0 ∨ cl109.slots.size ≤ ((0 : Int32)).toNatClampNeg) := inb_of S109 ⟨by decide, by decide⟩
  have ha109 : cl109.slots[((0 : Int32)).toNatClampNeg]? = some (.int v0) := H109.at hi109 rfl
  refine own_st (X0.caload hx (j := (0 : Int32)) (v := (.int v0)) (by rw [e0]; exact Ar109.1) (State.isArrayOf_alike hZ.alike Ar109.2.1) Ar109.2.2 hi109 ha109 (g := (mkF m 12 #[.val (.ref a), .val (.int (0 : Int32)), .val (.ref b), .val (.int (0 : Int32)), .val (.int (1 : Int32)), .val (.int (0 : Int32)), .unset] [(.int (0 : Int32)), (.ref a)])) rfl rfl (hb hby own_d_jdk_52_21_12)) ?_
  show own_Go p e below _ (s₁.setTop (mkF m 13 #[.val (.ref a), .val (.int (0 : Int32)), .val (.ref b), .val (.int (0 : Int32)), .val (.int (1 : Int32)), .val (.int (0 : Int32)), .unset] [(.int v0)]))
  refine own_st (fun u_ k_ => XS.istore X0.here hx rfl (hb hby own_d_jdk_52_21_13) rfl (l' := #[.val (.ref a), .val (.int (0 : Int32)), .val (.ref b), .val (.int (0 : Int32)), .val (.int (1 : Int32)), .val (.int (0 : Int32)), .val (.int v0)]) rfl k_) ?_
  show own_Go p e below _ (s₁.setTop (mkF m 15 #[.val (.ref a), .val (.int (0 : Int32)), .val (.ref b), .val (.int (0 : Int32)), .val (.int (1 : Int32)), .val (.int (0 : Int32)), .val (.int v0)] []))
  refine own_st (fun u_ k_ => XS.iload X0.here hx rfl (hb hby own_d_jdk_52_21_15) rfl k_) ?_
  refine own_st (fun u_ k_ => XS.sipush X0.here hx rfl (hb hby own_d_jdk_52_21_17) k_) ?_
  show own_Go p e below _ (s₁.setTop (mkF m 20 #[.val (.ref a), .val (.int (0 : Int32)), .val (.ref b), .val (.int (0 : Int32)), .val (.int (1 : Int32)), .val (.int (0 : Int32)), .val (.int v0)] [(.int (255 : Int32)), (.int v0)]))
  refine own_st (fun u_ k_ => XS.icmpYes X0.here hx rfl (pc0 := 20) (pc' := 26) rfl (hb hby own_d_jdk_52_21_20) rfl (XT.ii_le_t hq0) (by decide) (by decide) k_) ?_
  refine own_st (fun u_ k_ => XS.aloadN X0.here hx rfl (hb hby own_d_jdk_52_21_26) rfl rfl k_) ?_
  show own_Go p e below _ (s₁.setTop (mkF m 27 #[.val (.ref a), .val (.int (0 : Int32)), .val (.ref b), .val (.int (0 : Int32)), .val (.int (1 : Int32)), .val (.int (0 : Int32)), .val (.int v0)] [(.ref b)]))
  refine own_st (fun u_ k_ => XS.iloadN X0.here hx rfl (hb hby own_d_jdk_52_21_27) rfl k_) ?_
  refine own_st (fun u_ k_ => XS.iload X0.here hx rfl (hb hby own_d_jdk_52_21_28) rfl k_) ?_
  show own_Go p e below _ (s₁.setTop (mkF m 30 #[.val (.ref a), .val (.int (0 : Int32)), .val (.ref b), .val (.int (0 : Int32)), .val (.int (1 : Int32)), .val (.int (0 : Int32)), .val (.int v0)] [(.int v0), (.int (0 : Int32)), (.ref b)]))
  refine own_st (fun u_ k_ => XS.i2b X0.here hx rfl (hb hby own_d_jdk_52_21_30) rfl k_) ?_
  obtain ⟨cl110, Ar110, q110, S110, N110, H110, G110⟩ := id A2
  have hi110 : ¬ ((0 : Int32) < 0 ∨ cl110.slots.size ≤ ((0 : Int32)).toNatClampNeg) := inb_of S110 ⟨by decide, by decide⟩
  obtain ⟨T111, h111, X111, e111, W111, st111⟩ := stB X0 hx hZ e0 Ar110 (j := (0 : Int32)) hi110 (g := (mkF m 31 #[.val (.ref a), .val (.int (0 : Int32)), .val (.ref b), .val (.int (0 : Int32)), .val (.int (1 : Int32)), .val (.int (0 : Int32)), .val (.int v0)] [(.int (v0.toInt8.toInt32)), (.int (0 : Int32)), (.ref b)])) rfl rfl (hb hby own_d_jdk_52_21_31)
  rw [own_bb] at W111
  have N111 := Fr.snoc X111 N0 gb
  have V111 : Arv Z h111 b kb .byte (1 : Int32) [(.int (v0.toInt8.toInt32))] (.int (0 : Int32)) := Arv.set Ar110 q110 S110 N110 H110 G110 (fits_nar_byte _) W111 0 rfl (Nat.le_of_ble_eq_true rfl)
  refine own_st (fun u_ k_ => st111 u_ k_) ?_
  show own_Go p e below _ (T111.setTop (mkF m 32 #[.val (.ref a), .val (.int (0 : Int32)), .val (.ref b), .val (.int (0 : Int32)), .val (.int (1 : Int32)), .val (.int (0 : Int32)), .val (.int v0)] []))
  refine own_st (fun u_ k_ => XS.iinc X111.here hx rfl (hb hby own_d_jdk_52_21_32) rfl (l' := #[.val (.ref a), .val (.int (1 : Int32)), .val (.ref b), .val (.int (0 : Int32)), .val (.int (1 : Int32)), .val (.int (0 : Int32)), .val (.int v0)]) rfl k_) ?_
  refine own_st (fun u_ k_ => XS.iinc X111.here hx rfl (hb hby own_d_jdk_52_21_35) rfl (l' := #[.val (.ref a), .val (.int (1 : Int32)), .val (.ref b), .val (.int (1 : Int32)), .val (.int (1 : Int32)), .val (.int (0 : Int32)), .val (.int v0)]) rfl k_) ?_
  show own_Go p e below _ (T111.setTop (mkF m 38 #[.val (.ref a), .val (.int (1 : Int32)), .val (.ref b), .val (.int (1 : Int32)), .val (.int (1 : Int32)), .val (.int (0 : Int32)), .val (.int v0)] []))
  refine own_st (fun u_ k_ => XS.iinc X111.here hx rfl (hb hby own_d_jdk_52_21_38) rfl (l' := #[.val (.ref a), .val (.int (1 : Int32)), .val (.ref b), .val (.int (1 : Int32)), .val (.int (1 : Int32)), .val (.int (1 : Int32)), .val (.int v0)]) rfl k_) ?_
  refine own_st (fun u_ k_ => XS.goto X111.here hx rfl (pc0 := 41) (pc' := 3) rfl (hb hby own_d_jdk_52_21_41) (by decide) (by decide) k_) ?_
  show own_Go p e below _ (T111.setTop (mkF m 3 #[.val (.ref a), .val (.int (1 : Int32)), .val (.ref b), .val (.int (1 : Int32)), .val (.int (1 : Int32)), .val (.int (1 : Int32)), .val (.int v0)] []))
  refine own_st (fun u_ k_ => XS.iload X111.here hx rfl (hb hby own_d_jdk_52_21_3) rfl k_) ?_
  refine own_st (fun u_ k_ => XS.iload X111.here hx rfl (hb hby own_d_jdk_52_21_5) rfl k_) ?_
  show own_Go p e below _ (T111.setTop (mkF m 7 #[.val (.ref a), .val (.int (1 : Int32)), .val (.ref b), .val (.int (1 : Int32)), .val (.int (1 : Int32)), .val (.int (1 : Int32)), .val (.int v0)] [(.int (1 : Int32)), (.int (1 : Int32))]))
  refine own_st (fun u_ k_ => XS.icmpYes X111.here hx rfl (pc0 := 7) (pc' := 44) rfl (hb hby own_d_jdk_52_21_7) rfl (XT.ii_ge_t (by decide)) (by decide) (by decide) k_) ?_
  refine own_st (fun u_ k_ => XS.iload X111.here hx rfl (hb hby own_d_jdk_52_21_44) rfl k_) ?_
  show own_Go p e below _ (T111.setTop (mkF m 46 #[.val (.ref a), .val (.int (1 : Int32)), .val (.ref b), .val (.int (1 : Int32)), .val (.int (1 : Int32)), .val (.int (1 : Int32)), .val (.int v0)] [(.int (1 : Int32))]))
  have K112 : Keep h0 h111 [b] := (Keep.refl h0 [b]).wr W111 (Or.inl (List.mem_of_getElem? (i := 0) rfl))
  have F113 := (Exa.wr W111 Eb)
  exact own_retX X111 hx hlk hret rfl (Or.inl ⟨rfl, by simp, _, rfl⟩) (hb hby own_d_jdk_52_21_46) (by decide) (by decide) (show QrmCp1_1 Z wcs a ka b kb v0 h0 n0 (some (.int (1 : Int32))) T111.heap _ from (by rw [e111]; exact ⟨rfl, N111, K112, F113, V111⟩))
theorem own_d_jdk_52_16_57 : decode jdk_52_method_16_code 57 = .ok (.aload_n 3, 1) := by decide +kernel
theorem own_d_jdk_52_16_58 : decode jdk_52_method_16_code 58 = .ok (.areturn, 1) := by decide +kernel
theorem own_ef_rmCq1_1 (m : MethodId) (a : Addr)  : entryFrame m #[(.ref a), (.int (0 : Int32)), (.int (1 : Int32))] 6 = mkF m 0 #[.val (.ref a), .val (.int (0 : Int32)), .val (.int (1 : Int32)), .unset, .unset, .unset] [] := by first | (simp [entryFrame, mkF, argsToLocals, Value.category, maxLocals]; done) | rfl
def QrmCq1_1 (Z : State) (wcs : Int32) (a : Addr) (ka : ClassId) (v0 : Int32) (h0 : Heap) (n0 : Nat) (v : Option Value) (h : Heap) (L : List Loc) : Prop := ∃ r : Addr, ∃ kr : ClassId, v = some (.ref r) ∧ Fr n0 L ∧ Keep h0 h [] ∧ h0.size ≤ r ∧ Exa Z h r "[B" ∧ Arv Z h r kr .byte (1 : Int32) [(.int (v0.toInt8.toInt32))] (.int (0 : Int32))
set_option maxRecDepth 65536 in
set_option maxHeartbeats 40000000 in
theorem rmCq1_1 (l : Launch) (Z : State) (a0 : Array Value) (hw : own_H a0 Z) (ws : List Jvm.Cond) (wcs : Int32) (hS : own_S Z wcs) (a : Addr) (ka : ClassId) (v0 : Int32) (h0 : Heap) (n0 : Nat) (O0 : Old Z n0 h0) (Ea : Exa Z h0 a "[C") (A1 : Arv Z h0 a ka .char (1 : Int32) [(.int v0)] (.int (0 : Int32))) (hq0 : ¬ (255 : Int32) < v0) :
    own_Met l own_y_134 jdk_52_method_16_code 6 (some (.array .byte)) ws ({ frames := 1, cells := 1, slots := 1, locals := 18 } : Room) Z h0 #[(.ref a), (.int (0 : Int32)), (.int (1 : Int32))] (QrmCq1_1 Z wcs a ka v0 h0 n0) := by
  refine own_body (plainFor_of_name own_pn_15) ?_
  intro p e s m below meth c s₁ hx hby hml hown hnm hret hlk hZ e0 X0
  have N0 := Fr.nil n0
  refine own_st (fun u_ k_ => castTop (own_ef_rmCq1_1 m a) k_) ?_
  show own_Go p e below _ (s₁.setTop (mkF m 0 #[.val (.ref a), .val (.int (0 : Int32)), .val (.int (1 : Int32)), .unset, .unset, .unset] []))
  refine own_st (fun u_ k_ => XS.iloadN X0.here hx rfl (hb hby own_d_jdk_52_16_0) rfl k_) ?_
  obtain ⟨T114, h114, k114, X114, e114, E114, A114, Y114, st114⟩ := newPE X0 hx hZ (own_w hw 16 rfl) e0 (g := (mkF m 1 #[.val (.ref a), .val (.int (0 : Int32)), .val (.int (1 : Int32)), .unset, .unset, .unset] [(.int (1 : Int32))])) rfl (hb hby own_d_jdk_52_16_1) rfl (by decide) (cap := 1) (by decide) (by decide) (by decide) (by decide) (ad := "[B") own_lm_31
  obtain ⟨b114, g114⟩ : ∃ z, z = h0.size := ⟨_, rfl⟩
  rw [← g114] at A114 Y114 st114
  have V114 : Arv Z h114 b114 k114 .byte (1 : Int32) [(.int (0 : Int32))] (.int (0 : Int32)) := (Arv.new A114 (by decide)).pad (pad_rep [] (.int (0 : Int32)) 1)
  refine own_st (fun u_ k_ => st114 u_ k_) ?_
  show own_Go p e below _ (T114.setTop (mkF m 3 #[.val (.ref a), .val (.int (0 : Int32)), .val (.int (1 : Int32)), .unset, .unset, .unset] [(.ref b114)]))
  refine own_st (fun u_ k_ => XS.astoreN X114.here hx rfl (hb hby own_d_jdk_52_16_3) rfl rfl (l' := #[.val (.ref a), .val (.int (0 : Int32)), .val (.int (1 : Int32)), .val (.ref b114), .unset, .unset]) rfl k_) ?_
  refine own_st (fun u_ k_ => XS.aloadN X114.here hx rfl (hb hby own_d_jdk_52_16_4) rfl rfl k_) ?_
  show own_Go p e below _ (T114.setTop (mkF m 5 #[.val (.ref a), .val (.int (0 : Int32)), .val (.int (1 : Int32)), .val (.ref b114), .unset, .unset] [(.ref a)]))
  refine own_st (fun u_ k_ => XS.iloadN X114.here hx rfl (hb hby own_d_jdk_52_16_5) rfl k_) ?_
  refine own_st (fun u_ k_ => XS.aloadN X114.here hx rfl (hb hby own_d_jdk_52_16_6) rfl rfl k_) ?_
  show own_Go p e below _ (T114.setTop (mkF m 7 #[.val (.ref a), .val (.int (0 : Int32)), .val (.int (1 : Int32)), .val (.ref b114), .unset, .unset] [(.ref b114), (.int (0 : Int32)), (.ref a)]))
  refine own_st (fun u_ k_ => XS.iconst X114.here hx rfl (hb hby own_d_jdk_52_16_7) k_) ?_
  refine own_st (fun u_ k_ => XS.iloadN X114.here hx rfl (hb hby own_d_jdk_52_16_8) rfl k_) ?_
  show own_Go p e below _ (T114.setTop (mkF m 9 #[.val (.ref a), .val (.int (0 : Int32)), .val (.int (1 : Int32)), .val (.ref b114), .unset, .unset] [(.int (1 : Int32)), (.int (0 : Int32)), (.ref b114), (.int (0 : Int32)), (.ref a)]))
  have F115 := (Exa.ext E114 Ea)
  have g116 : n0 ≤ b114 := Nat.le_trans (own_nl O0) (Nat.le_of_eq g114.symm)
  have F117 := (A1.ext E114)
  have O119 : Old Z n0 h114 := O0.ext E114
  obtain ⟨T118, v118, L118, X118, hQ118, st118⟩ := own_callS X114 hx hZ (y := own_y_14) hown (own_w hw 100 rfl) (own_w hw 101 rfl) (own_w hw 98 rfl) (own_w hw 102 rfl) own_lm_28 (rmCp1_1 l Z a0 hw [] wcs hS a ka b114 k114 v0 h114 n0 O119 F115 Y114 g116 F117 V114 (by assumption)) e114 own_pd_115 (argsL := [(.ref a), (.int (0 : Int32)), (.ref b114), (.int (0 : Int32)), (.int (1 : Int32))]) (rest := []) rfl rfl (g := (mkF m 9 #[.val (.ref a), .val (.int (0 : Int32)), .val (.int (1 : Int32)), .val (.ref b114), .unset, .unset] [(.int (1 : Int32)), (.int (0 : Int32)), (.ref b114), (.int (0 : Int32)), (.ref a)])) rfl (by rw [hml]; rfl) rfl (hb hby own_d_jdk_52_16_9) (W := 0) rfl (by decide) (by decide) (by decide) (by decide)
  obtain ⟨rfl, M118, K118, F120, F121⟩ := hQ118
  have N118 := Fr.app N0 M118
  refine own_st (fun u_ k_ => st118 u_ k_) ?_
  show own_Go p e below _ (T118.setTop (mkF m 12 #[.val (.ref a), .val (.int (0 : Int32)), .val (.int (1 : Int32)), .val (.ref b114), .unset, .unset] [(.int (1 : Int32))]))
  refine own_st (fun u_ k_ => XS.istore X118.here hx rfl (hb hby own_d_jdk_52_16_12) rfl (l' := #[.val (.ref a), .val (.int (0 : Int32)), .val (.int (1 : Int32)), .val (.ref b114), .val (.int (1 : Int32)), .unset]) rfl k_) ?_
  refine own_st (fun u_ k_ => XS.iload X118.here hx rfl (hb hby own_d_jdk_52_16_14) rfl k_) ?_
  show own_Go p e below _ (T118.setTop (mkF m 16 #[.val (.ref a), .val (.int (0 : Int32)), .val (.int (1 : Int32)), .val (.ref b114), .val (.int (1 : Int32)), .unset] [(.int (1 : Int32))]))
  refine own_st (fun u_ k_ => XS.iloadN X118.here hx rfl (hb hby own_d_jdk_52_16_16) rfl k_) ?_
  refine own_st (fun u_ k_ => XS.icmpYes X118.here hx rfl (pc0 := 17) (pc' := 57) rfl (hb hby own_d_jdk_52_16_17) rfl (XT.ii_eq_t (by decide)) (by decide) (by decide) k_) ?_
  show own_Go p e below _ (T118.setTop (mkF m 57 #[.val (.ref a), .val (.int (0 : Int32)), .val (.int (1 : Int32)), .val (.ref b114), .val (.int (1 : Int32)), .unset] []))
  refine own_st (fun u_ k_ => XS.aloadN X118.here hx rfl (hb hby own_d_jdk_52_16_57) rfl rfl k_) ?_
  have K122 : Keep h0 h114 [] := (Keep.refl h0 []).ext E114
  have z124 : h0.size ≤ b114 := Nat.le_trans (Nat.le_refl _) (Nat.le_of_eq g114.symm)
  have K123 : Keep h0 T118.heap [] := K122.trans K118 (allS (Or.inr z124) all0)
  exact own_retX X118 hx hlk hret rfl (Or.inr (Or.inr (Or.inr (Or.inr ⟨rfl, rfl, rfl⟩)))) (hb hby own_d_jdk_52_16_58) (by decide) (by decide) (show QrmCq1_1 Z wcs a ka v0 h0 n0 (some (.ref b114)) T118.heap _ from (by exact ⟨b114, k114, rfl, N118, K123, z124, F120, F121⟩))
theorem own_ef_rmCo1_1 (m : MethodId) (b : Addr)  : entryFrame m #[(.ref b), (.int (1 : Int32))] 2 = mkF m 0 #[.val (.ref b), .val (.int (1 : Int32))] [] := by first | (simp [entryFrame, mkF, argsToLocals, Value.category, maxLocals]; done) | rfl
def QrmCo1_1 (Z : State) (wcs : Int32) (b : Addr) (kb : ClassId) (vs : List Value) (h0 : Heap) (n0 : Nat) (v : Option Value) (h : Heap) (L : List Loc) : Prop := v = some (.int (0 : Int32)) ∧ Fr n0 L ∧ h = h0
set_option maxRecDepth 65536 in
set_option maxHeartbeats 40000000 in
theorem rmCo1_1 (l : Launch) (Z : State) (a0 : Array Value) (hw : own_H a0 Z) (ws : List Jvm.Cond) (wcs : Int32) (hS : own_S Z wcs) (b : Addr) (kb : ClassId) (vs : List Value) (h0 : Heap) (n0 : Nat) (O0 : Old Z n0 h0) (A2 : Arv Z h0 b kb .byte (1 : Int32) vs (.int (0 : Int32))) :
    own_Met l own_y_143 jdk_52_method_15_code 2 (some .byte) ws ({ frames := 0, cells := 0, slots := 0, locals := 0 } : Room) Z h0 #[(.ref b), (.int (1 : Int32))] (QrmCo1_1 Z wcs b kb vs h0 n0) := by
  refine own_body (plainFor_of_name own_pn_15) ?_
  intro p e s m below meth c s₁ hx hby hml hown hnm hret hlk hZ e0 X0
  have N0 := Fr.nil n0
  refine own_st (fun u_ k_ => castTop (own_ef_rmCo1_1 m b) k_) ?_
  show own_Go p e below _ (s₁.setTop (mkF m 0 #[.val (.ref b), .val (.int (1 : Int32))] []))
  refine own_st (fun u_ k_ => XS.iloadN X0.here hx rfl (hb hby own_d_jdk_52_15_0) rfl k_) ?_
  refine own_st (fun u_ k_ => XS.aloadN X0.here hx rfl (hb hby own_d_jdk_52_15_1) rfl rfl k_) ?_
  show own_Go p e below _ (s₁.setTop (mkF m 2 #[.val (.ref b), .val (.int (1 : Int32))] [(.ref b), (.int (1 : Int32))]))
  obtain ⟨cl125, Ar125, -, S125, N125, -, -⟩ := id A2
  refine own_st (X0.arraylength hx (by rw [e0]; exact Ar125.1) (State.isArrayOf_alike hZ.alike Ar125.2.1) (g := (mkF m 2 #[.val (.ref b), .val (.int (1 : Int32))] [(.ref b), (.int (1 : Int32))])) rfl rfl (hb hby own_d_jdk_52_15_2)) ?_
  rw [len_of S125 N125]
  show own_Go p e below _ (s₁.setTop (mkF m 3 #[.val (.ref b), .val (.int (1 : Int32))] [(.int (1 : Int32)), (.int (1 : Int32))]))
  refine own_st (fun u_ k_ => XS.isub X0.here hx rfl (hb hby own_d_jdk_52_15_3) rfl k_) ?_
  refine own_st (fun u_ k_ => XS.bipush X0.here hx rfl (hb hby own_d_jdk_52_15_4) k_) ?_
  show own_Go p e below _ (s₁.setTop (mkF m 6 #[.val (.ref b), .val (.int (1 : Int32))] [(.int (31 : Int32)), (.int (0 : Int32))]))
  refine own_st (fun u_ k_ => XS.iushr X0.here hx rfl (hb hby own_d_jdk_52_15_6) rfl k_) ?_
  refine own_st (fun u_ k_ => XS.i2b X0.here hx rfl (hb hby own_d_jdk_52_15_7) rfl k_) ?_
  show own_Go p e below _ (s₁.setTop (mkF m 8 #[.val (.ref b), .val (.int (1 : Int32))] [(.int (0 : Int32))]))
  exact own_retX X0 hx hlk hret rfl (Or.inl ⟨rfl, by simp, _, rfl⟩) (hb hby own_d_jdk_52_15_8) (by decide) (by decide) (show QrmCo1_1 Z wcs b kb vs h0 n0 (some (.int (0 : Int32))) s₁.heap _ from (by rw [e0]; exact ⟨rfl, N0, rfl⟩))
theorem own_ef_rmS4_1_1 (m : MethodId) (a : Addr) (b : Addr)  : entryFrame m #[(.ref a), (.ref b), (.int (0 : Int32)), (.int (1 : Int32)), .null] 6 = mkF m 0 #[.val (.ref a), .val (.ref b), .val (.int (0 : Int32)), .val (.int (1 : Int32)), .val .null, .unset] [] := by first | (simp [entryFrame, mkF, argsToLocals, Value.category, maxLocals]; done) | rfl
def QrmS4_1_1 (Z : State) (wcs : Int32) (a : Addr) (b : Addr) (kb : ClassId) (v0 : Int32) (h0 : Heap) (n0 : Nat) (v : Option Value) (h : Heap) (L : List Loc) : Prop := ∃ r : Addr, ∃ kr : ClassId, v = none ∧ Fr n0 L ∧ Keep h0 h [a] ∧ h0.size ≤ r ∧ Exa Z h a "java/lang/String" ∧ Fld Z h a "java/lang/String" "value" "[B" (.ref r) ∧ Fld Z h a "java/lang/String" "coder" "B" (.int (0 : Int32)) ∧ Exa Z h r "[B" ∧ Arv Z h r kr .byte (1 : Int32) [(.int (v0.toInt8.toInt32))] (.int (0 : Int32))
set_option maxRecDepth 65536 in
set_option maxHeartbeats 40000000 in
theorem rmS4_1_1 (l : Launch) (Z : State) (a0 : Array Value) (hw : own_H a0 Z) (ws : List Jvm.Cond) (wcs : Int32) (hS : own_S Z wcs) (a : Addr) (b : Addr) (kb : ClassId) (v0 : Int32) (h0 : Heap) (n0 : Nat) (O0 : Old Z n0 h0) (E : Exa Z h0 a "java/lang/String") (Ea : Exa Z h0 b "[C") (ga : n0 ≤ a) (F1 : Fld Z h0 a "java/lang/String" "value" "[B" .null) (F2 : Fld Z h0 a "java/lang/String" "coder" "B" (.int (0 : Int32))) (A1 : Arv Z h0 b kb .char (1 : Int32) [(.int v0)] (.int (0 : Int32))) (hq0 : ¬ (255 : Int32) < v0) :
    own_Met l own_y_172 jdk_42_method_149_code 6 none ws ({ frames := 2, cells := 1, slots := 1, locals := 35 } : Room) Z h0 #[(.ref a), (.ref b), (.int (0 : Int32)), (.int (1 : Int32)), .null] (QrmS4_1_1 Z wcs a b kb v0 h0 n0) := by
  refine own_body (plainFor_of_name own_pn_173) ?_
  intro p e s m below meth c s₁ hx hby hml hown hnm hret hlk hZ e0 X0
  have N0 := Fr.nil n0
  refine own_st (fun u_ k_ => castTop (own_ef_rmS4_1_1 m a b) k_) ?_
  show own_Go p e below _ (s₁.setTop (mkF m 0 #[.val (.ref a), .val (.ref b), .val (.int (0 : Int32)), .val (.int (1 : Int32)), .val .null, .unset] []))
  refine own_st (fun u_ k_ => XS.aloadN X0.here hx rfl (hb hby own_d_jdk_42_149_0) rfl rfl k_) ?_
  obtain ⟨T126, X126, e126, st126⟩ := initO X0 hx hZ hown (own_w hw 12 rfl) (own_w hw 13 rfl) (own_w hw 14 rfl) e0 (g := (mkF m 1 #[.val (.ref a), .val (.ref b), .val (.int (0 : Int32)), .val (.int (1 : Int32)), .val .null, .unset] [(.ref a)])) rfl (by rw [hml]; rfl) rfl (hb hby own_d_jdk_42_149_1) (by decide) (W := 0) (by show 2 * 0 + _ ≤ _; exact Nat.le_of_eq rfl) (by decide)
  refine own_st (fun u_ k_ => st126 u_ k_) ?_
  show own_Go p e below _ (T126.setTop (mkF m 4 #[.val (.ref a), .val (.ref b), .val (.int (0 : Int32)), .val (.int (1 : Int32)), .val .null, .unset] []))
  refine own_st (fun u_ k_ => XS.iloadN X126.here hx rfl (hb hby own_d_jdk_42_149_4) rfl k_) ?_
  refine own_st (fun u_ k_ => XS.ifYes X126.here hx rfl (pc0 := 5) (pc' := 27) rfl (hb hby own_d_jdk_42_149_5) rfl (XT.i0_ne_t (by decide)) (by decide) (by decide) k_) ?_
  show own_Go p e below _ (T126.setTop (mkF m 27 #[.val (.ref a), .val (.ref b), .val (.int (0 : Int32)), .val (.int (1 : Int32)), .val .null, .unset] []))
  have F127 := Sta.ext O0.2 hS.1
  obtain ⟨T128, X128, e128, st128⟩ := getS2 X126 hx hZ hown (host := "") (Or.inl (own_w hw 90 rfl)) Via.refl e126 F127 (g := (mkF m 27 #[.val (.ref a), .val (.ref b), .val (.int (0 : Int32)), .val (.int (1 : Int32)), .val .null, .unset] [])) rfl (hb hby own_d_jdk_42_149_27)
  refine own_st (fun u_ k_ => st128 u_ k_) ?_
  show own_Go p e below _ (T128.setTop (mkF m 30 #[.val (.ref a), .val (.ref b), .val (.int (0 : Int32)), .val (.int (1 : Int32)), .val .null, .unset] [(.int wcs)]))
  refine own_st (fun u_ k_ => XS.ifNo X128.here hx rfl (hb hby own_d_jdk_42_149_30) rfl (XT.i0_eq_f hS.2.1) k_) ?_
  refine own_st (fun u_ k_ => XS.aloadN X128.here hx rfl (hb hby own_d_jdk_42_149_33) rfl rfl k_) ?_
  show own_Go p e below _ (T128.setTop (mkF m 34 #[.val (.ref a), .val (.ref b), .val (.int (0 : Int32)), .val (.int (1 : Int32)), .val .null, .unset] [(.ref b)]))
  refine own_st (fun u_ k_ => XS.iloadN X128.here hx rfl (hb hby own_d_jdk_42_149_34) rfl k_) ?_
  refine own_st (fun u_ k_ => XS.iloadN X128.here hx rfl (hb hby own_d_jdk_42_149_35) rfl k_) ?_
  show own_Go p e below _ (T128.setTop (mkF m 36 #[.val (.ref a), .val (.ref b), .val (.int (0 : Int32)), .val (.int (1 : Int32)), .val .null, .unset] [(.int (1 : Int32)), (.int (0 : Int32)), (.ref b)]))
  obtain ⟨T129, v129, L129, X129, hQ129, st129⟩ := own_callS X128 hx hZ (y := own_y_134) hown (own_w hw 96 rfl) (own_w hw 97 rfl) (own_w hw 98 rfl) (own_w hw 99 rfl) own_lm_28 (rmCq1_1 l Z a0 hw [] wcs hS b kb v0 h0 n0 O0 Ea A1 (by assumption)) e128 own_pd_124 (argsL := [(.ref b), (.int (0 : Int32)), (.int (1 : Int32))]) (rest := []) rfl rfl (g := (mkF m 36 #[.val (.ref a), .val (.ref b), .val (.int (0 : Int32)), .val (.int (1 : Int32)), .val .null, .unset] [(.int (1 : Int32)), (.int (0 : Int32)), (.ref b)])) rfl (by rw [hml]; rfl) rfl (hb hby own_d_jdk_42_149_36) (W := 0) rfl (by decide) (by decide) (by decide) (by decide)
  obtain ⟨r_130, kr_131, rfl, M129, K129, z132, F133, F134⟩ := hQ129
  have N129 := Fr.app N0 M129
  refine own_st (fun u_ k_ => st129 u_ k_) ?_
  show own_Go p e below _ (T129.setTop (mkF m 39 #[.val (.ref a), .val (.ref b), .val (.int (0 : Int32)), .val (.int (1 : Int32)), .val .null, .unset] [(.ref r_130)]))
  refine own_st (fun u_ k_ => XS.astore X129.here hx rfl (hb hby own_d_jdk_42_149_39) rfl rfl (l' := #[.val (.ref a), .val (.ref b), .val (.int (0 : Int32)), .val (.int (1 : Int32)), .val .null, .val (.ref r_130)]) rfl k_) ?_
  refine own_st (fun u_ k_ => XS.aloadN X129.here hx rfl (hb hby own_d_jdk_42_149_41) rfl rfl k_) ?_
  show own_Go p e below _ (T129.setTop (mkF m 42 #[.val (.ref a), .val (.ref b), .val (.int (0 : Int32)), .val (.int (1 : Int32)), .val .null, .val (.ref r_130)] [(.ref a)]))
  refine own_st (fun u_ k_ => XS.aload X129.here hx rfl (hb hby own_d_jdk_42_149_42) rfl rfl k_) ?_
  refine own_st (fun u_ k_ => XS.iloadN X129.here hx rfl (hb hby own_d_jdk_42_149_44) rfl k_) ?_
  show own_Go p e below _ (T129.setTop (mkF m 45 #[.val (.ref a), .val (.ref b), .val (.int (0 : Int32)), .val (.int (1 : Int32)), .val .null, .val (.ref r_130)] [(.int (1 : Int32)), (.ref r_130), (.ref a)]))
  have O136 : Old Z n0 T129.heap := O0.keep K129 all0
  obtain ⟨T135, v135, L135, X135, hQ135, st135⟩ := own_callS X129 hx hZ (y := own_y_143) hown (own_w hw 103 rfl) (own_w hw 104 rfl) (own_w hw 98 rfl) (own_w hw 105 rfl) own_lm_28 (rmCo1_1 l Z a0 hw [] wcs hS r_130 kr_131 [(.int (v0.toInt8.toInt32))] T129.heap n0 O136 F134) rfl own_pd_160 (argsL := [(.ref r_130), (.int (1 : Int32))]) (rest := [(.ref a)]) rfl rfl (g := (mkF m 45 #[.val (.ref a), .val (.ref b), .val (.int (0 : Int32)), .val (.int (1 : Int32)), .val .null, .val (.ref r_130)] [(.int (1 : Int32)), (.ref r_130), (.ref a)])) rfl (by rw [hml]; rfl) rfl (hb hby own_d_jdk_42_149_45) (W := 1) rfl (by decide) (by decide) (by decide) (by decide)
  obtain ⟨rfl, M135, e135⟩ := hQ135
  have N135 := Fr.app N129 M135
  refine own_st (fun u_ k_ => st135 u_ k_) ?_
  show own_Go p e below _ (T135.setTop (mkF m 48 #[.val (.ref a), .val (.ref b), .val (.int (0 : Int32)), .val (.int (1 : Int32)), .val .null, .val (.ref r_130)] [(.int (0 : Int32)), (.ref a)]))
  have F137 := (E.keep K129)
  have F138 := (F2.keep K129 nin0)
  obtain ⟨T139, h139, X139, e139, W139, st139⟩ := putF X135 hx hZ hown (host := "") (Or.inl (own_w hw 22 rfl)) Via.refl e135 F138 F137 (Or.inr ⟨(own_w hw 18 rfl), rfl, hnm⟩) (own_w hw 2 rfl) (ty := .byte) own_lm_162 rfl rfl (g := (mkF m 48 #[.val (.ref a), .val (.ref b), .val (.int (0 : Int32)), .val (.int (1 : Int32)), .val .null, .val (.ref r_130)] [(.int (0 : Int32)), (.ref a)])) rfl rfl (hb hby own_d_jdk_42_149_48)
  have N139 := Fr.snoc X139 N135 ga
  have F140 : Fld Z h139 a "java/lang/String" "coder" "B" (.int (0 : Int32)) := Fld.same W139 F138
  refine own_st (fun u_ k_ => st139 u_ k_) ?_
  show own_Go p e below _ (T139.setTop (mkF m 51 #[.val (.ref a), .val (.ref b), .val (.int (0 : Int32)), .val (.int (1 : Int32)), .val .null, .val (.ref r_130)] []))
  refine own_st (fun u_ k_ => XS.aloadN X139.here hx rfl (hb hby own_d_jdk_42_149_51) rfl rfl k_) ?_
  refine own_st (fun u_ k_ => XS.aload X139.here hx rfl (hb hby own_d_jdk_42_149_52) rfl rfl k_) ?_
  show own_Go p e below _ (T139.setTop (mkF m 54 #[.val (.ref a), .val (.ref b), .val (.int (0 : Int32)), .val (.int (1 : Int32)), .val .null, .val (.ref r_130)] [(.ref r_130), (.ref a)]))
  have F141 := (Exa.wr W139 F137)
  have F142 := (Fld.other W139 (F1.keep K129 nin0) (Or.inr (own_sn_168 hw)))
  obtain ⟨T143, h143, X143, e143, W143, st143⟩ := putF X139 hx hZ hown (host := "") (Or.inl (own_w hw 21 rfl)) Via.refl e139 F142 F141 (Or.inr ⟨(own_w hw 17 rfl), rfl, hnm⟩) (own_w hw 2 rfl) (ty := (.array .byte)) own_lm_167 rfl rfl (g := (mkF m 54 #[.val (.ref a), .val (.ref b), .val (.int (0 : Int32)), .val (.int (1 : Int32)), .val .null, .val (.ref r_130)] [(.ref r_130), (.ref a)])) rfl rfl (hb hby own_d_jdk_42_149_54)
  have N143 := Fr.snoc X143 N139 ga
  have F144 : Fld Z h143 a "java/lang/String" "value" "[B" (.ref r_130) := Fld.same W143 F142
  refine own_st (fun u_ k_ => st143 u_ k_) ?_
  show own_Go p e below _ (T143.setTop (mkF m 57 #[.val (.ref a), .val (.ref b), .val (.int (0 : Int32)), .val (.int (1 : Int32)), .val .null, .val (.ref r_130)] []))
  have K145 : Keep h0 T129.heap [a] := (Keep.refl h0 [a]).trans K129 all0
  have K146 : Keep h0 h139 [a] := K145.wr W139 (Or.inl (List.mem_of_getElem? (i := 0) rfl))
  have K147 : Keep h0 h143 [a] := K146.wr W143 (Or.inl (List.mem_of_getElem? (i := 0) rfl))
  have z148 : h0.size ≤ r_130 := Nat.le_trans (Nat.le_refl _) z132
  have F149 := (Exa.wr W143 F141)
  have F150 := (Fld.other W143 F140 (Or.inr (own_sn_171 hw)))
  have F151 := (Exa.wr W143 (Exa.wr W139 F133))
  have ne152 : r_130 ≠ a := (Ne.symm (Nat.ne_of_lt (Nat.lt_of_lt_of_le E.lt z132)))
  have F153 := ((F134.other W139 ne152).other W143 ne152)
  exact own_retV X143 hx hlk hret (hb hby own_d_jdk_42_149_57) (by decide) (by decide) (show QrmS4_1_1 Z wcs a b kb v0 h0 n0 none T143.heap _ from (by rw [e143]; exact ⟨r_130, kr_131, rfl, N143, K147, z148, F149, F144, F150, F151, F153⟩))
abbrev own_y_198 : MethodName := ⟨"java/lang/String", "<init>", "([C)V"⟩
theorem own_ef_rmS1_1_0 (m : MethodId) (a : Addr) (b : Addr)  : entryFrame m #[(.ref a), (.ref b)] 2 = mkF m 0 #[.val (.ref a), .val (.ref b)] [] := by first | (simp [entryFrame, mkF, argsToLocals, Value.category, maxLocals]; done) | rfl
def QrmS1_1_0 (Z : State) (wcs : Int32) (a : Addr) (b : Addr) (kb : ClassId) (v0 : Int32) (h0 : Heap) (n0 : Nat) (v : Option Value) (h : Heap) (L : List Loc) : Prop := ∃ r : Addr, ∃ kr : ClassId, v = none ∧ Fr n0 L ∧ Keep h0 h [a] ∧ h0.size ≤ r ∧ Exa Z h a "java/lang/String" ∧ Fld Z h a "java/lang/String" "value" "[B" (.ref r) ∧ Fld Z h a "java/lang/String" "coder" "B" (.int (1 : Int32)) ∧ Exa Z h r "[B" ∧ Arv Z h r kr .byte (2 : Int32) [(.int ((v0 >>> ((0 : Int32) &&& 31)).toInt8.toInt32)), (.int ((v0 >>> ((8 : Int32) &&& 31)).toInt8.toInt32))] (.int (0 : Int32))
set_option maxRecDepth 65536 in
set_option maxHeartbeats 40000000 in
theorem rmS1_1_0 (l : Launch) (Z : State) (a0 : Array Value) (hw : own_H a0 Z) (ws : List Jvm.Cond) (wcs : Int32) (hS : own_S Z wcs) (a : Addr) (b : Addr) (kb : ClassId) (v0 : Int32) (h0 : Heap) (n0 : Nat) (O0 : Old Z n0 h0) (E : Exa Z h0 a "java/lang/String") (Ea : Exa Z h0 b "[C") (ga : n0 ≤ a) (F1 : Fld Z h0 a "java/lang/String" "value" "[B" .null) (F2 : Fld Z h0 a "java/lang/String" "coder" "B" (.int (0 : Int32))) (A1 : Arv Z h0 b kb .char (1 : Int32) [(.int v0)] (.int (0 : Int32))) (hq0 : (255 : Int32) < v0) (hv0 : own_C16 v0) :
    own_Met l own_y_198 jdk_42_method_3_code 2 none ws ({ frames := 5, cells := 2, slots := 3, locals := 74 } : Room) Z h0 #[(.ref a), (.ref b)] (QrmS1_1_0 Z wcs a b kb v0 h0 n0) := by
  refine own_body (plainFor_of_name own_pn_173) ?_
  intro p e s m below meth c s₁ hx hby hml hown hnm hret hlk hZ e0 X0
  have N0 := Fr.nil n0
  refine own_st (fun u_ k_ => castTop (own_ef_rmS1_1_0 m a b) k_) ?_
  show own_Go p e below _ (s₁.setTop (mkF m 0 #[.val (.ref a), .val (.ref b)] []))
  refine own_st (fun u_ k_ => XS.aloadN X0.here hx rfl (hb hby own_d_jdk_42_3_0) rfl rfl k_) ?_
  refine own_st (fun u_ k_ => XS.aloadN X0.here hx rfl (hb hby own_d_jdk_42_3_1) rfl rfl k_) ?_
  show own_Go p e below _ (s₁.setTop (mkF m 2 #[.val (.ref a), .val (.ref b)] [(.ref b), (.ref a)]))
  refine own_st (fun u_ k_ => XS.iconst X0.here hx rfl (hb hby own_d_jdk_42_3_2) k_) ?_
  refine own_st (fun u_ k_ => XS.aloadN X0.here hx rfl (hb hby own_d_jdk_42_3_3) rfl rfl k_) ?_
  show own_Go p e below _ (s₁.setTop (mkF m 4 #[.val (.ref a), .val (.ref b)] [(.ref b), (.int (0 : Int32)), (.ref b), (.ref a)]))
  obtain ⟨cl166, Ar166, -, S166, N166, -, -⟩ := id A1
  refine own_st (X0.arraylength hx (by rw [e0]; exact Ar166.1) (State.isArrayOf_alike hZ.alike Ar166.2.1) (g := (mkF m 4 #[.val (.ref a), .val (.ref b)] [(.ref b), (.int (0 : Int32)), (.ref b), (.ref a)])) rfl rfl (hb hby own_d_jdk_42_3_4)) ?_
  rw [len_of S166 N166]
  show own_Go p e below _ (s₁.setTop (mkF m 5 #[.val (.ref a), .val (.ref b)] [(.int (1 : Int32)), (.int (0 : Int32)), (.ref b), (.ref a)]))
  refine own_st (fun u_ k_ => XS.aconstNull X0.here hx rfl (hb hby own_d_jdk_42_3_5) k_) ?_
  obtain ⟨T167, v167, L167, X167, hQ167, st167⟩ := own_callN X0 hx hZ (y := own_y_172) rfl hown (own_w hw 8 rfl) (own_w hw 9 rfl) (own_w hw 3 rfl) (own_w hw 11 rfl) own_lm_181 (rmS4_1_0 l Z a0 hw [] wcs hS a b kb v0 h0 n0 O0 E Ea ga F1 F2 A1 (by assumption) (by assumption)) e0 own_pd_182 (a := a) (argsL := [(.ref b), (.int (0 : Int32)), (.int (1 : Int32)), .null]) (rest := []) rfl rfl (g := (mkF m 6 #[.val (.ref a), .val (.ref b)] [.null, (.int (1 : Int32)), (.int (0 : Int32)), (.ref b), (.ref a)])) rfl (by rw [hml]; rfl) rfl (hb hby own_d_jdk_42_3_6) (W := 0) rfl (by decide) (by decide) (by decide) (by decide)
  obtain ⟨r_168, kr_169, rfl, M167, K167, z170, F171, F172, F173, F174, F175⟩ := hQ167
  have N167 := Fr.app N0 M167
  refine own_st (fun u_ k_ => st167 u_ k_) ?_
  show own_Go p e below _ (T167.setTop (mkF m 9 #[.val (.ref a), .val (.ref b)] []))
  have K176 : Keep h0 T167.heap [a] := (Keep.refl h0 [a]).trans K167 (allS (Or.inl (List.mem_of_getElem? (i := 0) rfl)) all0)
  have z177 : h0.size ≤ r_168 := Nat.le_trans (Nat.le_refl _) z170
  exact own_retV X167 hx hlk hret (hb hby own_d_jdk_42_3_9) (by decide) (by decide) (show QrmS1_1_0 Z wcs a b kb v0 h0 n0 none T167.heap _ from (by exact ⟨r_168, kr_169, rfl, N167, K176, z177, F171, F172, F173, F174, F175⟩))
theorem own_ef_rmS1_1_1 (m : MethodId) (a : Addr) (b : Addr)  : entryFrame m #[(.ref a), (.ref b)] 2 = mkF m 0 #[.val (.ref a), .val (.ref b)] [] := by first | (simp [entryFrame, mkF, argsToLocals, Value.category, maxLocals]; done) | rfl
def QrmS1_1_1 (Z : State) (wcs : Int32) (a : Addr) (b : Addr) (kb : ClassId) (v0 : Int32) (h0 : Heap) (n0 : Nat) (v : Option Value) (h : Heap) (L : List Loc) : Prop := ∃ r : Addr, ∃ kr : ClassId, v = none ∧ Fr n0 L ∧ Keep h0 h [a] ∧ h0.size ≤ r ∧ Exa Z h a "java/lang/String" ∧ Fld Z h a "java/lang/String" "value" "[B" (.ref r) ∧ Fld Z h a "java/lang/String" "coder" "B" (.int (0 : Int32)) ∧ Exa Z h r "[B" ∧ Arv Z h r kr .byte (1 : Int32) [(.int (v0.toInt8.toInt32))] (.int (0 : Int32))
set_option maxRecDepth 65536 in
set_option maxHeartbeats 40000000 in
theorem rmS1_1_1 (l : Launch) (Z : State) (a0 : Array Value) (hw : own_H a0 Z) (ws : List Jvm.Cond) (wcs : Int32) (hS : own_S Z wcs) (a : Addr) (b : Addr) (kb : ClassId) (v0 : Int32) (h0 : Heap) (n0 : Nat) (O0 : Old Z n0 h0) (E : Exa Z h0 a "java/lang/String") (Ea : Exa Z h0 b "[C") (ga : n0 ≤ a) (F1 : Fld Z h0 a "java/lang/String" "value" "[B" .null) (F2 : Fld Z h0 a "java/lang/String" "coder" "B" (.int (0 : Int32))) (A1 : Arv Z h0 b kb .char (1 : Int32) [(.int v0)] (.int (0 : Int32))) (hq0 : ¬ (255 : Int32) < v0) :
    own_Met l own_y_198 jdk_42_method_3_code 2 none ws ({ frames := 5, cells := 2, slots := 3, locals := 74 } : Room) Z h0 #[(.ref a), (.ref b)] (QrmS1_1_1 Z wcs a b kb v0 h0 n0) := by
  refine own_body (plainFor_of_name own_pn_173) ?_
  intro p e s m below meth c s₁ hx hby hml hown hnm hret hlk hZ e0 X0
  have N0 := Fr.nil n0
  refine own_st (fun u_ k_ => castTop (own_ef_rmS1_1_1 m a b) k_) ?_
  show own_Go p e below _ (s₁.setTop (mkF m 0 #[.val (.ref a), .val (.ref b)] []))
  refine own_st (fun u_ k_ => XS.aloadN X0.here hx rfl (hb hby own_d_jdk_42_3_0) rfl rfl k_) ?_
  refine own_st (fun u_ k_ => XS.aloadN X0.here hx rfl (hb hby own_d_jdk_42_3_1) rfl rfl k_) ?_
  show own_Go p e below _ (s₁.setTop (mkF m 2 #[.val (.ref a), .val (.ref b)] [(.ref b), (.ref a)]))
  refine own_st (fun u_ k_ => XS.iconst X0.here hx rfl (hb hby own_d_jdk_42_3_2) k_) ?_
  refine own_st (fun u_ k_ => XS.aloadN X0.here hx rfl (hb hby own_d_jdk_42_3_3) rfl rfl k_) ?_
  show own_Go p e below _ (s₁.setTop (mkF m 4 #[.val (.ref a), .val (.ref b)] [(.ref b), (.int (0 : Int32)), (.ref b), (.ref a)]))
  obtain ⟨cl178, Ar178, -, S178, N178, -, -⟩ := id A1
  refine own_st (X0.arraylength hx (by rw [e0]; exact Ar178.1) (State.isArrayOf_alike hZ.alike Ar178.2.1) (g := (mkF m 4 #[.val (.ref a), .val (.ref b)] [(.ref b), (.int (0 : Int32)), (.ref b), (.ref a)])) rfl rfl (hb hby own_d_jdk_42_3_4)) ?_
  rw [len_of S178 N178]
  show own_Go p e below _ (s₁.setTop (mkF m 5 #[.val (.ref a), .val (.ref b)] [(.int (1 : Int32)), (.int (0 : Int32)), (.ref b), (.ref a)]))
  refine own_st (fun u_ k_ => XS.aconstNull X0.here hx rfl (hb hby own_d_jdk_42_3_5) k_) ?_
  obtain ⟨T179, v179, L179, X179, hQ179, st179⟩ := own_callN X0 hx hZ (y := own_y_172) rfl hown (own_w hw 8 rfl) (own_w hw 9 rfl) (own_w hw 3 rfl) (own_w hw 11 rfl) own_lm_181 (rmS4_1_1 l Z a0 hw [] wcs hS a b kb v0 h0 n0 O0 E Ea ga F1 F2 A1 (by assumption)) e0 own_pd_182 (a := a) (argsL := [(.ref b), (.int (0 : Int32)), (.int (1 : Int32)), .null]) (rest := []) rfl rfl (g := (mkF m 6 #[.val (.ref a), .val (.ref b)] [.null, (.int (1 : Int32)), (.int (0 : Int32)), (.ref b), (.ref a)])) rfl (by rw [hml]; rfl) rfl (hb hby own_d_jdk_42_3_6) (W := 0) rfl (by decide) (by decide) (by decide) (by decide)
  obtain ⟨r_180, kr_181, rfl, M179, K179, z182, F183, F184, F185, F186, F187⟩ := hQ179
  have N179 := Fr.app N0 M179
  refine own_st (fun u_ k_ => st179 u_ k_) ?_
  show own_Go p e below _ (T179.setTop (mkF m 9 #[.val (.ref a), .val (.ref b)] []))
  have K188 : Keep h0 T179.heap [a] := (Keep.refl h0 [a]).trans K179 (allS (Or.inl (List.mem_of_getElem? (i := 0) rfl)) all0)
  have z189 : h0.size ≤ r_180 := Nat.le_trans (Nat.le_refl _) z182
  exact own_retV X179 hx hlk hret (hb hby own_d_jdk_42_3_9) (by decide) (by decide) (show QrmS1_1_1 Z wcs a b kb v0 h0 n0 none T179.heap _ from (by exact ⟨r_180, kr_181, rfl, N179, K188, z189, F183, F184, F185, F186, F187⟩))
def QrmSJ_1 (Z : State) (wcs : Int32) (a : Addr) (b : Addr) (kb : ClassId) (v0 : Int32) (h0 : Heap) (n0 : Nat) (v : Option Value) (h : Heap) (L : List Loc) : Prop := ∃ r : Addr, ∃ kr : ClassId, ∃ cd : Int32, ∃ ln : Int32, ∃ us : List Value, v = none ∧ Fr n0 L ∧ Keep h0 h [a] ∧ h0.size ≤ r ∧ Exa Z h a "java/lang/String" ∧ Fld Z h a "java/lang/String" "value" "[B" (.ref r) ∧ Fld Z h a "java/lang/String" "coder" "B" (.int cd) ∧ Exa Z h r "[B" ∧ Arv Z h r kr .byte ln us (.int (0 : Int32)) ∧ (ln >>> (cd &&& 31)) = (1 : Int32) ∧ narrow .byte (.int cd) = .int cd
theorem rmSJ_1 (l : Launch) (Z : State) (a0 : Array Value) (hw : own_H a0 Z) (ws : List Jvm.Cond) (wcs : Int32) (hS : own_S Z wcs) (a : Addr) (b : Addr) (kb : ClassId) (v0 : Int32) (h0 : Heap) (n0 : Nat) (O0 : Old Z n0 h0) (E : Exa Z h0 a "java/lang/String") (Ea : Exa Z h0 b "[C") (ga : n0 ≤ a) (F1 : Fld Z h0 a "java/lang/String" "value" "[B" .null) (F2 : Fld Z h0 a "java/lang/String" "coder" "B" (.int (0 : Int32))) (A1 : Arv Z h0 b kb .char (1 : Int32) [(.int v0)] (.int (0 : Int32))) (hv0 : own_C16 v0) :
    own_Met l own_y_198 jdk_42_method_3_code 2 none ws ({ frames := 5, cells := 2, slots := 3, locals := 74 } : Room) Z h0 #[(.ref a), (.ref b)] (QrmSJ_1 Z wcs a b kb v0 h0 n0) := by
  by_cases hq0 : (255 : Int32) < v0
  · refine MetFree.imp (rmS1_1_0 l Z a0 hw ws wcs hS a b kb v0 h0 n0 O0 E Ea ga F1 F2 A1 hq0 hv0) ?_
    rintro _ _ _ _ ⟨v, L, e, ⟨r, kr, b1, b2, b3, b4, b5, b6, b7, b8, b9⟩, f⟩
    exact ⟨v, L, e, ⟨r, kr, (1 : Int32), (2 : Int32), [(.int ((v0 >>> ((0 : Int32) &&& 31)).toInt8.toInt32)), (.int ((v0 >>> ((8 : Int32) &&& 31)).toInt8.toInt32))], b1, b2, b3, b4, b5, b6, b7, b8, b9, by decide, rfl⟩, f⟩
  · skip
    refine MetFree.imp (rmS1_1_1 l Z a0 hw ws wcs hS a b kb v0 h0 n0 O0 E Ea ga F1 F2 A1 hq0) ?_
    rintro _ _ _ _ ⟨v, L, e, ⟨r, kr, b1, b2, b3, b4, b5, b6, b7, b8, b9⟩, f⟩
    exact ⟨v, L, e, ⟨r, kr, (0 : Int32), (1 : Int32), [(.int (v0.toInt8.toInt32))], b1, b2, b3, b4, b5, b6, b7, b8, b9, by decide, rfl⟩, f⟩
theorem own_ef_rmCp2_0 (m : MethodId) (a : Addr) (b : Addr)  : entryFrame m #[(.ref a), (.int (0 : Int32)), (.ref b), (.int (0 : Int32)), (.int (2 : Int32))] 7 = mkF m 0 #[.val (.ref a), .val (.int (0 : Int32)), .val (.ref b), .val (.int (0 : Int32)), .val (.int (2 : Int32)), .unset, .unset] [] := by first | (simp [entryFrame, mkF, argsToLocals, Value.category, maxLocals]; done) | rfl
def QrmCp2_0 (Z : State) (wcs : Int32) (a : Addr) (ka : ClassId) (b : Addr) (kb : ClassId) (v0 : Int32) (v1 : Int32) (h0 : Heap) (n0 : Nat) (v : Option Value) (h : Heap) (L : List Loc) : Prop := v = some (.int (0 : Int32)) ∧ Fr n0 L ∧ Keep h0 h [b] ∧ Exa Z h b "[B"
set_option maxRecDepth 65536 in
set_option maxHeartbeats 40000000 in
theorem rmCp2_0 (l : Launch) (Z : State) (a0 : Array Value) (hw : own_H a0 Z) (ws : List Jvm.Cond) (wcs : Int32) (hS : own_S Z wcs) (a : Addr) (ka : ClassId) (b : Addr) (kb : ClassId) (v0 : Int32) (v1 : Int32) (h0 : Heap) (n0 : Nat) (O0 : Old Z n0 h0) (Ea : Exa Z h0 a "[C") (Eb : Exa Z h0 b "[B") (gb : n0 ≤ b) (A1 : Arv Z h0 a ka .char (2 : Int32) [(.int v0), (.int v1)] (.int (0 : Int32))) (A2 : Arv Z h0 b kb .byte (2 : Int32) [(.int (0 : Int32)), (.int (0 : Int32))] (.int (0 : Int32))) (hq0 : (255 : Int32) < v0) :
    own_Met l own_y_14 jdk_52_method_21_code 7 (some .int) ws ({ frames := 0, cells := 0, slots := 0, locals := 0 } : Room) Z h0 #[(.ref a), (.int (0 : Int32)), (.ref b), (.int (0 : Int32)), (.int (2 : Int32))] (QrmCp2_0 Z wcs a ka b kb v0 v1 h0 n0) := by
  refine own_body (plainFor_of_name own_pn_15) ?_
  intro p e s m below meth c s₁ hx hby hml hown hnm hret hlk hZ e0 X0
  have N0 := Fr.nil n0
  refine own_st (fun u_ k_ => castTop (own_ef_rmCp2_0 m a b) k_) ?_
  show own_Go p e below _ (s₁.setTop (mkF m 0 #[.val (.ref a), .val (.int (0 : Int32)), .val (.ref b), .val (.int (0 : Int32)), .val (.int (2 : Int32)), .unset, .unset] []))
  refine own_st (fun u_ k_ => XS.iconst X0.here hx rfl (hb hby own_d_jdk_52_21_0) k_) ?_
  refine own_st (fun u_ k_ => XS.istore X0.here hx rfl (hb hby own_d_jdk_52_21_1) rfl (l' := #[.val (.ref a), .val (.int (0 : Int32)), .val (.ref b), .val (.int (0 : Int32)), .val (.int (2 : Int32)), .val (.int (0 : Int32)), .unset]) rfl k_) ?_
  show own_Go p e below _ (s₁.setTop (mkF m 3 #[.val (.ref a), .val (.int (0 : Int32)), .val (.ref b), .val (.int (0 : Int32)), .val (.int (2 : Int32)), .val (.int (0 : Int32)), .unset] []))
  refine own_st (fun u_ k_ => XS.iload X0.here hx rfl (hb hby own_d_jdk_52_21_3) rfl k_) ?_
  refine own_st (fun u_ k_ => XS.iload X0.here hx rfl (hb hby own_d_jdk_52_21_5) rfl k_) ?_
  show own_Go p e below _ (s₁.setTop (mkF m 7 #[.val (.ref a), .val (.int (0 : Int32)), .val (.ref b), .val (.int (0 : Int32)), .val (.int (2 : Int32)), .val (.int (0 : Int32)), .unset] [(.int (2 : Int32)), (.int (0 : Int32))]))
  refine own_st (fun u_ k_ => XS.icmpNo X0.here hx rfl (hb hby own_d_jdk_52_21_7) rfl (XT.ii_ge_f (by decide)) k_) ?_
  refine own_st (fun u_ k_ => XS.aloadN X0.here hx rfl (hb hby own_d_jdk_52_21_10) rfl rfl k_) ?_
  show own_Go p e below _ (s₁.setTop (mkF m 11 #[.val (.ref a), .val (.int (0 : Int32)), .val (.ref b), .val (.int (0 : Int32)), .val (.int (2 : Int32)), .val (.int (0 : Int32)), .unset] [(.ref a)]))
  refine own_st (fun u_ k_ => XS.iloadN X0.here hx rfl (hb hby own_d_jdk_52_21_11) rfl k_) ?_
  obtain ⟨cl190, Ar190, q190, S190, N190, H190, G190⟩ := id A1
  have hi190 : ¬ ((0 : Int32) < 0 ∨ cl190.slots.size ≤ ((0 : Int32)).toNatClampNeg) := inb_of S190 ⟨by decide, by decide⟩
  have ha190 : cl190.slots[((0 : Int32)).toNatClampNeg]? = some (.int v0) := H190.at hi190 rfl
  refine own_st (X0.caload hx (j := (0 : Int32)) (v := (.int v0)) (by rw [e0]; exact Ar190.1) (State.isArrayOf_alike hZ.alike Ar190.2.1) Ar190.2.2 hi190 ha190 (g := (mkF m 12 #[.val (.ref a), .val (.int (0 : Int32)), .val (.ref b), .val (.int (0 : Int32)), .val (.int (2 : Int32)), .val (.int (0 : Int32)), .unset] [(.int (0 : Int32)), (.ref a)])) rfl rfl (hb hby own_d_jdk_52_21_12)) ?_
  show own_Go p e below _ (s₁.setTop (mkF m 13 #[.val (.ref a), .val (.int (0 : Int32)), .val (.ref b), .val (.int (0 : Int32)), .val (.int (2 : Int32)), .val (.int (0 : Int32)), .unset] [(.int v0)]))
  refine own_st (fun u_ k_ => XS.istore X0.here hx rfl (hb hby own_d_jdk_52_21_13) rfl (l' := #[.val (.ref a), .val (.int (0 : Int32)), .val (.ref b), .val (.int (0 : Int32)), .val (.int (2 : Int32)), .val (.int (0 : Int32)), .val (.int v0)]) rfl k_) ?_
  show own_Go p e below _ (s₁.setTop (mkF m 15 #[.val (.ref a), .val (.int (0 : Int32)), .val (.ref b), .val (.int (0 : Int32)), .val (.int (2 : Int32)), .val (.int (0 : Int32)), .val (.int v0)] []))
  refine own_st (fun u_ k_ => XS.iload X0.here hx rfl (hb hby own_d_jdk_52_21_15) rfl k_) ?_
  refine own_st (fun u_ k_ => XS.sipush X0.here hx rfl (hb hby own_d_jdk_52_21_17) k_) ?_
  show own_Go p e below _ (s₁.setTop (mkF m 20 #[.val (.ref a), .val (.int (0 : Int32)), .val (.ref b), .val (.int (0 : Int32)), .val (.int (2 : Int32)), .val (.int (0 : Int32)), .val (.int v0)] [(.int (255 : Int32)), (.int v0)]))
  refine own_st (fun u_ k_ => XS.icmpNo X0.here hx rfl (hb hby own_d_jdk_52_21_20) rfl (XT.ii_le_f hq0) k_) ?_
  refine own_st (fun u_ k_ => XS.iload X0.here hx rfl (hb hby own_d_jdk_52_21_23) rfl k_) ?_
  show own_Go p e below _ (s₁.setTop (mkF m 25 #[.val (.ref a), .val (.int (0 : Int32)), .val (.ref b), .val (.int (0 : Int32)), .val (.int (2 : Int32)), .val (.int (0 : Int32)), .val (.int v0)] [(.int (0 : Int32))]))
  exact own_retX X0 hx hlk hret rfl (Or.inl ⟨rfl, by simp, _, rfl⟩) (hb hby own_d_jdk_52_21_25) (by decide) (by decide) (show QrmCp2_0 Z wcs a ka b kb v0 v1 h0 n0 (some (.int (0 : Int32))) s₁.heap _ from (by rw [e0]; exact ⟨rfl, N0, (Keep.refl h0 [b]), Eb⟩))
theorem own_ef_rmNL2 (m : MethodId)   : entryFrame m #[(.int (2 : Int32))] 1 = mkF m 0 #[.val (.int (2 : Int32))] [] := by first | (simp [entryFrame, mkF, argsToLocals, Value.category, maxLocals]; done) | rfl
def QrmNL2 (Z : State) (wcs : Int32)  (h0 : Heap) (n0 : Nat) (v : Option Value) (h : Heap) (L : List Loc) : Prop := v = some (.int (4 : Int32)) ∧ Fr n0 L ∧ h = h0
set_option maxRecDepth 65536 in
set_option maxHeartbeats 40000000 in
theorem rmNL2 (l : Launch) (Z : State) (a0 : Array Value) (hw : own_H a0 Z) (ws : List Jvm.Cond) (wcs : Int32) (hS : own_S Z wcs)  (h0 : Heap) (n0 : Nat) (O0 : Old Z n0 h0)  :
    own_Met l own_y_25 jdk_52_method_3_code 1 (some .int) ws ({ frames := 0, cells := 0, slots := 0, locals := 0 } : Room) Z h0 #[(.int (2 : Int32))] (QrmNL2 Z wcs  h0 n0) := by
  refine own_body (plainFor_of_name own_pn_15) ?_
  intro p e s m below meth c s₁ hx hby hml hown hnm hret hlk hZ e0 X0
  have N0 := Fr.nil n0
  refine own_st (fun u_ k_ => castTop (own_ef_rmNL2 m ) k_) ?_
  show own_Go p e below _ (s₁.setTop (mkF m 0 #[.val (.int (2 : Int32))] []))
  refine own_st (fun u_ k_ => XS.iloadN X0.here hx rfl (hb hby own_d_jdk_52_3_0) rfl k_) ?_
  refine own_st (fun u_ k_ => XS.ifYes X0.here hx rfl (pc0 := 1) (pc' := 12) rfl (hb hby own_d_jdk_52_3_1) rfl (XT.i0_ge_t (by decide)) (by decide) (by decide) k_) ?_
  show own_Go p e below _ (s₁.setTop (mkF m 12 #[.val (.int (2 : Int32))] []))
  refine own_st (fun u_ k_ => XS.iloadN X0.here hx rfl (hb hby own_d_jdk_52_3_12) rfl k_) ?_
  refine own_st (X0.ldcInt hx hown (mvT hZ (own_w hw 115 rfl)) (g := (mkF m 13 #[.val (.int (2 : Int32))] [(.int (2 : Int32))])) rfl (hb hby own_d_jdk_52_3_13)) ?_
  show own_Go p e below _ (s₁.setTop (mkF m 15 #[.val (.int (2 : Int32))] [(.int (1073741823 : Int32)), (.int (2 : Int32))]))
  refine own_st (fun u_ k_ => XS.icmpYes X0.here hx rfl (pc0 := 15) (pc' := 55) rfl (hb hby own_d_jdk_52_3_15) rfl (XT.ii_lt_t (by decide)) (by decide) (by decide) k_) ?_
  show own_Go p e below _ (s₁.setTop (mkF m 55 #[.val (.int (2 : Int32))] []))
  refine own_st (fun u_ k_ => XS.iloadN X0.here hx rfl (hb hby own_d_jdk_52_3_55) rfl k_) ?_
  refine own_st (fun u_ k_ => XS.iconst X0.here hx rfl (hb hby own_d_jdk_52_3_56) k_) ?_
  show own_Go p e below _ (s₁.setTop (mkF m 57 #[.val (.int (2 : Int32))] [(.int (1 : Int32)), (.int (2 : Int32))]))
  refine own_st (fun u_ k_ => XS.ishl X0.here hx rfl (hb hby own_d_jdk_52_3_57) rfl k_) ?_
  exact own_retX X0 hx hlk hret rfl (Or.inl ⟨rfl, by simp, _, rfl⟩) (hb hby own_d_jdk_52_3_58) (by decide) (by decide) (show QrmNL2 Z wcs  h0 n0 (some (.int (4 : Int32))) s₁.heap _ from (by rw [e0]; exact ⟨rfl, N0, rfl⟩))
theorem own_ef_rmNB2 (m : MethodId)   : entryFrame m #[(.int (2 : Int32))] 1 = mkF m 0 #[.val (.int (2 : Int32))] [] := by first | (simp [entryFrame, mkF, argsToLocals, Value.category, maxLocals]; done) | rfl
def QrmNB2 (Z : State) (wcs : Int32)  (h0 : Heap) (n0 : Nat) (v : Option Value) (h : Heap) (L : List Loc) : Prop := ∃ r : Addr, ∃ kr : ClassId, v = some (.ref r) ∧ Fr n0 L ∧ Keep h0 h [] ∧ h0.size ≤ r ∧ Exa Z h r "[B" ∧ Arv Z h r kr .byte (4 : Int32) [(.int (0 : Int32)), (.int (0 : Int32)), (.int (0 : Int32)), (.int (0 : Int32))] (.int (0 : Int32))
set_option maxRecDepth 65536 in
set_option maxHeartbeats 40000000 in
theorem rmNB2 (l : Launch) (Z : State) (a0 : Array Value) (hw : own_H a0 Z) (ws : List Jvm.Cond) (wcs : Int32) (hS : own_S Z wcs)  (h0 : Heap) (n0 : Nat) (O0 : Old Z n0 h0)  :
    own_Met l own_y_33 jdk_52_method_2_code 1 (some (.array .byte)) ws ({ frames := 1, cells := 1, slots := 4, locals := 12 } : Room) Z h0 #[(.int (2 : Int32))] (QrmNB2 Z wcs  h0 n0) := by
  refine own_body (plainFor_of_name own_pn_15) ?_
  intro p e s m below meth c s₁ hx hby hml hown hnm hret hlk hZ e0 X0
  have N0 := Fr.nil n0
  refine own_st (fun u_ k_ => castTop (own_ef_rmNB2 m ) k_) ?_
  show own_Go p e below _ (s₁.setTop (mkF m 0 #[.val (.int (2 : Int32))] []))
  refine own_st (fun u_ k_ => XS.iloadN X0.here hx rfl (hb hby own_d_jdk_52_2_0) rfl k_) ?_
  obtain ⟨T191, v191, L191, X191, hQ191, st191⟩ := own_callS X0 hx hZ (y := own_y_25) hown (own_w hw 112 rfl) (own_w hw 113 rfl) (own_w hw 98 rfl) (own_w hw 114 rfl) own_lm_28 (rmNL2 l Z a0 hw [] wcs hS  h0 n0 O0 ) e0 own_pd_29 (argsL := [(.int (2 : Int32))]) (rest := []) rfl rfl (g := (mkF m 1 #[.val (.int (2 : Int32))] [(.int (2 : Int32))])) rfl (by rw [hml]; rfl) rfl (hb hby own_d_jdk_52_2_1) (W := 0) rfl (by decide) (by decide) (by decide) (by decide)
  obtain ⟨rfl, M191, e191⟩ := hQ191
  have N191 := Fr.app N0 M191
  refine own_st (fun u_ k_ => st191 u_ k_) ?_
  show own_Go p e below _ (T191.setTop (mkF m 4 #[.val (.int (2 : Int32))] [(.int (4 : Int32))]))
  obtain ⟨T192, h192, k192, X192, e192, E192, A192, Y192, st192⟩ := newPE X191 hx hZ (own_w hw 16 rfl) e191 (g := (mkF m 4 #[.val (.int (2 : Int32))] [(.int (4 : Int32))])) rfl (hb hby own_d_jdk_52_2_4) rfl (by decide) (cap := 4) (by decide) (by decide) (by decide) (by decide) (ad := "[B") own_lm_31
  obtain ⟨b192, g192⟩ : ∃ z, z = h0.size := ⟨_, rfl⟩
  rw [← g192] at A192 Y192 st192
  have V192 : Arv Z h192 b192 k192 .byte (4 : Int32) [(.int (0 : Int32)), (.int (0 : Int32)), (.int (0 : Int32)), (.int (0 : Int32))] (.int (0 : Int32)) := (Arv.new A192 (by decide)).pad (pad_rep [] (.int (0 : Int32)) 4)
  refine own_st (fun u_ k_ => st192 u_ k_) ?_
  show own_Go p e below _ (T192.setTop (mkF m 6 #[.val (.int (2 : Int32))] [(.ref b192)]))
  have K193 : Keep h0 h192 [] := (Keep.refl h0 []).ext E192
  have z194 : h0.size ≤ b192 := Nat.le_trans (Nat.le_refl _) (Nat.le_of_eq g192.symm)
  exact own_retX X192 hx hlk hret rfl (Or.inr (Or.inr (Or.inr (Or.inr ⟨rfl, rfl, rfl⟩)))) (hb hby own_d_jdk_52_2_6) (by decide) (by decide) (show QrmNB2 Z wcs  h0 n0 (some (.ref b192)) T192.heap _ from (by rw [e192]; exact ⟨b192, k192, rfl, N191, K193, z194, Y192, V192⟩))
theorem own_ef_rmPC2_0 (m : MethodId) (b : Addr) (cv : Int32)  : entryFrame m #[(.ref b), (.int (0 : Int32)), (.int cv)] 3 = mkF m 0 #[.val (.ref b), .val (.int (0 : Int32)), .val (.int cv)] [] := by first | (simp [entryFrame, mkF, argsToLocals, Value.category, maxLocals]; done) | rfl
def QrmPC2_0 (Z : State) (wcs : Int32) (b : Addr) (kb : ClassId) (cv : Int32) (u0 : Int32) (u1 : Int32) (u2 : Int32) (u3 : Int32) (h0 : Heap) (n0 : Nat) (v : Option Value) (h : Heap) (L : List Loc) : Prop := v = none ∧ Fr n0 L ∧ Keep h0 h [b] ∧ Exa Z h b "[B" ∧ Arv Z h b kb .byte (4 : Int32) [(.int ((cv >>> ((0 : Int32) &&& 31)).toInt8.toInt32)), (.int ((cv >>> ((8 : Int32) &&& 31)).toInt8.toInt32)), (.int u2), (.int u3)] (.int (0 : Int32))
set_option maxRecDepth 65536 in
set_option maxHeartbeats 40000000 in
theorem rmPC2_0 (l : Launch) (Z : State) (a0 : Array Value) (hw : own_H a0 Z) (ws : List Jvm.Cond) (wcs : Int32) (hS : own_S Z wcs) (b : Addr) (kb : ClassId) (cv : Int32) (u0 : Int32) (u1 : Int32) (u2 : Int32) (u3 : Int32) (h0 : Heap) (n0 : Nat) (O0 : Old Z n0 h0) (Eb : Exa Z h0 b "[B") (gb : n0 ≤ b) (A2 : Arv Z h0 b kb .byte (4 : Int32) [(.int u0), (.int u1), (.int u2), (.int u3)] (.int (0 : Int32))) :
    own_Met l own_y_56 jdk_52_method_4_code 3 none ws ({ frames := 0, cells := 0, slots := 0, locals := 0 } : Room) Z h0 #[(.ref b), (.int (0 : Int32)), (.int cv)] (QrmPC2_0 Z wcs b kb cv u0 u1 u2 u3 h0 n0) := by
  refine own_body (plainFor_of_name own_pn_15) ?_
  intro p e s m below meth c s₁ hx hby hml hown hnm hret hlk hZ e0 X0
  have N0 := Fr.nil n0
  refine own_st (fun u_ k_ => castTop (own_ef_rmPC2_0 m b cv) k_) ?_
  show own_Go p e below _ (s₁.setTop (mkF m 0 #[.val (.ref b), .val (.int (0 : Int32)), .val (.int cv)] []))
  have F195 := Sta.ext O0.2 hS.2.2.1
  obtain ⟨T196, X196, e196, st196⟩ := getS2 X0 hx hZ hown (host := "") (Or.inl (own_w hw 119 rfl)) Via.refl e0 F195 (g := (mkF m 0 #[.val (.ref b), .val (.int (0 : Int32)), .val (.int cv)] [])) rfl (hb hby own_d_jdk_52_4_0)
  refine own_st (fun u_ k_ => st196 u_ k_) ?_
  show own_Go p e below _ (T196.setTop (mkF m 3 #[.val (.ref b), .val (.int (0 : Int32)), .val (.int cv)] [(.int (1 : Int32))]))
  refine own_st (fun u_ k_ => XS.ifYes X196.here hx rfl (pc0 := 3) (pc' := 28) rfl (hb hby own_d_jdk_52_4_3) rfl (XT.i0_ne_t (by decide)) (by decide) (by decide) k_) ?_
  refine own_st (fun u_ k_ => XS.iloadN X196.here hx rfl (hb hby own_d_jdk_52_4_28) rfl k_) ?_
  show own_Go p e below _ (T196.setTop (mkF m 29 #[.val (.ref b), .val (.int (0 : Int32)), .val (.int cv)] [(.int (0 : Int32))]))
  refine own_st (fun u_ k_ => XS.iconst X196.here hx rfl (hb hby own_d_jdk_52_4_29) k_) ?_
  refine own_st (fun u_ k_ => XS.ishl X196.here hx rfl (hb hby own_d_jdk_52_4_30) rfl k_) ?_
  show own_Go p e below _ (T196.setTop (mkF m 31 #[.val (.ref b), .val (.int (0 : Int32)), .val (.int cv)] [(.int (0 : Int32))]))
  refine own_st (fun u_ k_ => XS.istoreN X196.here hx rfl (hb hby own_d_jdk_52_4_31) rfl (l' := #[.val (.ref b), .val (.int (0 : Int32)), .val (.int cv)]) rfl k_) ?_
  refine own_st (fun u_ k_ => XS.aloadN X196.here hx rfl (hb hby own_d_jdk_52_4_32) rfl rfl k_) ?_
  show own_Go p e below _ (T196.setTop (mkF m 33 #[.val (.ref b), .val (.int (0 : Int32)), .val (.int cv)] [(.ref b)]))
  refine own_st (fun u_ k_ => XS.iloadN X196.here hx rfl (hb hby own_d_jdk_52_4_33) rfl k_) ?_
  refine own_st (fun u_ k_ => XS.iinc X196.here hx rfl (hb hby own_d_jdk_52_4_34) rfl (l' := #[.val (.ref b), .val (.int (1 : Int32)), .val (.int cv)]) rfl k_) ?_
  show own_Go p e below _ (T196.setTop (mkF m 37 #[.val (.ref b), .val (.int (1 : Int32)), .val (.int cv)] [(.int (0 : Int32)), (.ref b)]))
  refine own_st (fun u_ k_ => XS.iloadN X196.here hx rfl (hb hby own_d_jdk_52_4_37) rfl k_) ?_
  have F197 := Sta.ext O0.2 hS.2.2.2.1
  obtain ⟨T198, X198, e198, st198⟩ := getS2 X196 hx hZ hown (host := "") (Or.inl (own_w hw 120 rfl)) Via.refl e196 F197 (g := (mkF m 38 #[.val (.ref b), .val (.int (1 : Int32)), .val (.int cv)] [(.int cv), (.int (0 : Int32)), (.ref b)])) rfl (hb hby own_d_jdk_52_4_38)
  refine own_st (fun u_ k_ => st198 u_ k_) ?_
  show own_Go p e below _ (T198.setTop (mkF m 41 #[.val (.ref b), .val (.int (1 : Int32)), .val (.int cv)] [(.int (0 : Int32)), (.int cv), (.int (0 : Int32)), (.ref b)]))
  refine own_st (fun u_ k_ => XS.ishr X198.here hx rfl (hb hby own_d_jdk_52_4_41) rfl k_) ?_
  refine own_st (fun u_ k_ => XS.i2b X198.here hx rfl (hb hby own_d_jdk_52_4_42) rfl k_) ?_
  show own_Go p e below _ (T198.setTop (mkF m 43 #[.val (.ref b), .val (.int (1 : Int32)), .val (.int cv)] [(.int ((cv >>> ((0 : Int32) &&& 31)).toInt8.toInt32)), (.int (0 : Int32)), (.ref b)]))
  obtain ⟨cl199, Ar199, q199, S199, N199, H199, G199⟩ := id A2
  have hi199 : ¬ ((0 : Int32) < 0 ∨ cl199.slots.size ≤ ((0 : Int32)).toNatClampNeg) := inb_of S199 ⟨by decide, by decide⟩
  obtain ⟨T200, h200, X200, e200, W200, st200⟩ := stB X198 hx hZ e198 Ar199 (j := (0 : Int32)) hi199 (g := (mkF m 43 #[.val (.ref b), .val (.int (1 : Int32)), .val (.int cv)] [(.int ((cv >>> ((0 : Int32) &&& 31)).toInt8.toInt32)), (.int (0 : Int32)), (.ref b)])) rfl rfl (hb hby own_d_jdk_52_4_43)
  rw [own_bb] at W200
  have N200 := Fr.snoc X200 N0 gb
  have V200 : Arv Z h200 b kb .byte (4 : Int32) [(.int ((cv >>> ((0 : Int32) &&& 31)).toInt8.toInt32)), (.int u1), (.int u2), (.int u3)] (.int (0 : Int32)) := Arv.set Ar199 q199 S199 N199 H199 G199 (fits_nar_byte _) W200 0 rfl (Nat.le_of_ble_eq_true rfl)
  refine own_st (fun u_ k_ => st200 u_ k_) ?_
  show own_Go p e below _ (T200.setTop (mkF m 44 #[.val (.ref b), .val (.int (1 : Int32)), .val (.int cv)] []))
  refine own_st (fun u_ k_ => XS.aloadN X200.here hx rfl (hb hby own_d_jdk_52_4_44) rfl rfl k_) ?_
  refine own_st (fun u_ k_ => XS.iloadN X200.here hx rfl (hb hby own_d_jdk_52_4_45) rfl k_) ?_
  show own_Go p e below _ (T200.setTop (mkF m 46 #[.val (.ref b), .val (.int (1 : Int32)), .val (.int cv)] [(.int (1 : Int32)), (.ref b)]))
  refine own_st (fun u_ k_ => XS.iloadN X200.here hx rfl (hb hby own_d_jdk_52_4_46) rfl k_) ?_
  have O201 : Old Z n0 h200 := O0.wr W200 gb
  have F202 := Sta.ext O201.2 hS.2.2.2.2
  obtain ⟨T203, X203, e203, st203⟩ := getS2 X200 hx hZ hown (host := "") (Or.inl (own_w hw 121 rfl)) Via.refl e200 F202 (g := (mkF m 47 #[.val (.ref b), .val (.int (1 : Int32)), .val (.int cv)] [(.int cv), (.int (1 : Int32)), (.ref b)])) rfl (hb hby own_d_jdk_52_4_47)
  refine own_st (fun u_ k_ => st203 u_ k_) ?_
  show own_Go p e below _ (T203.setTop (mkF m 50 #[.val (.ref b), .val (.int (1 : Int32)), .val (.int cv)] [(.int (8 : Int32)), (.int cv), (.int (1 : Int32)), (.ref b)]))
  refine own_st (fun u_ k_ => XS.ishr X203.here hx rfl (hb hby own_d_jdk_52_4_50) rfl k_) ?_
  refine own_st (fun u_ k_ => XS.i2b X203.here hx rfl (hb hby own_d_jdk_52_4_51) rfl k_) ?_
  show own_Go p e below _ (T203.setTop (mkF m 52 #[.val (.ref b), .val (.int (1 : Int32)), .val (.int cv)] [(.int ((cv >>> ((8 : Int32) &&& 31)).toInt8.toInt32)), (.int (1 : Int32)), (.ref b)]))
  obtain ⟨cl204, Ar204, q204, S204, N204, H204, G204⟩ := id V200
  have hi204 : ¬ ((1 : Int32) < 0 ∨ cl204.slots.size ≤ ((1 : Int32)).toNatClampNeg) := inb_of S204 ⟨by decide, by decide⟩
  obtain ⟨T205, h205, X205, e205, W205, st205⟩ := stB X203 hx hZ e203 Ar204 (j := (1 : Int32)) hi204 (g := (mkF m 52 #[.val (.ref b), .val (.int (1 : Int32)), .val (.int cv)] [(.int ((cv >>> ((8 : Int32) &&& 31)).toInt8.toInt32)), (.int (1 : Int32)), (.ref b)])) rfl rfl (hb hby own_d_jdk_52_4_52)
  rw [own_bb] at W205
  have N205 := Fr.snoc X205 N200 gb
  have V205 : Arv Z h205 b kb .byte (4 : Int32) [(.int ((cv >>> ((0 : Int32) &&& 31)).toInt8.toInt32)), (.int ((cv >>> ((8 : Int32) &&& 31)).toInt8.toInt32)), (.int u2), (.int u3)] (.int (0 : Int32)) := Arv.set Ar204 q204 S204 N204 H204 G204 (fits_nar_byte _) W205 1 rfl (Nat.le_of_ble_eq_true rfl)
  refine own_st (fun u_ k_ => st205 u_ k_) ?_
  show own_Go p e below _ (T205.setTop (mkF m 53 #[.val (.ref b), .val (.int (1 : Int32)), .val (.int cv)] []))
  have K206 : Keep h0 h200 [b] := (Keep.refl h0 [b]).wr W200 (Or.inl (List.mem_of_getElem? (i := 0) rfl))
  have K207 : Keep h0 h205 [b] := K206.wr W205 (Or.inl (List.mem_of_getElem? (i := 0) rfl))
  have F208 := (Exa.wr W205 (Exa.wr W200 Eb))
  exact own_retV X205 hx hlk hret (hb hby own_d_jdk_52_4_53) (by decide) (by decide) (show QrmPC2_0 Z wcs b kb cv u0 u1 u2 u3 h0 n0 none T205.heap _ from (by rw [e205]; exact ⟨rfl, N205, K207, F208, V205⟩))
theorem own_ef_rmGC2_0 (m : MethodId) (b : Addr)  : entryFrame m #[(.ref b), (.int (0 : Int32))] 2 = mkF m 0 #[.val (.ref b), .val (.int (0 : Int32))] [] := by first | (simp [entryFrame, mkF, argsToLocals, Value.category, maxLocals]; done) | rfl
def QrmGC2_0 (Z : State) (wcs : Int32) (b : Addr) (kb : ClassId) (u0 : Int32) (u1 : Int32) (u2 : Int32) (u3 : Int32) (h0 : Heap) (n0 : Nat) (v : Option Value) (h : Heap) (L : List Loc) : Prop := v = some (.int ((((u0 &&& (255 : Int32)) <<< ((0 : Int32) &&& 31)) ||| ((u1 &&& (255 : Int32)) <<< ((8 : Int32) &&& 31))).toUInt32.toUInt16.toUInt32.toInt32)) ∧ Fr n0 L ∧ h = h0
set_option maxRecDepth 65536 in
set_option maxHeartbeats 40000000 in
theorem rmGC2_0 (l : Launch) (Z : State) (a0 : Array Value) (hw : own_H a0 Z) (ws : List Jvm.Cond) (wcs : Int32) (hS : own_S Z wcs) (b : Addr) (kb : ClassId) (u0 : Int32) (u1 : Int32) (u2 : Int32) (u3 : Int32) (h0 : Heap) (n0 : Nat) (O0 : Old Z n0 h0) (A2 : Arv Z h0 b kb .byte (4 : Int32) [(.int u0), (.int u1), (.int u2), (.int u3)] (.int (0 : Int32))) :
    own_Met l own_y_81 jdk_52_method_5_code 2 (some .char) ws ({ frames := 0, cells := 0, slots := 0, locals := 0 } : Room) Z h0 #[(.ref b), (.int (0 : Int32))] (QrmGC2_0 Z wcs b kb u0 u1 u2 u3 h0 n0) := by
  refine own_body (plainFor_of_name own_pn_15) ?_
  intro p e s m below meth c s₁ hx hby hml hown hnm hret hlk hZ e0 X0
  have N0 := Fr.nil n0
  refine own_st (fun u_ k_ => castTop (own_ef_rmGC2_0 m b) k_) ?_
  show own_Go p e below _ (s₁.setTop (mkF m 0 #[.val (.ref b), .val (.int (0 : Int32))] []))
  have F209 := Sta.ext O0.2 hS.2.2.1
  obtain ⟨T210, X210, e210, st210⟩ := getS2 X0 hx hZ hown (host := "") (Or.inl (own_w hw 119 rfl)) Via.refl e0 F209 (g := (mkF m 0 #[.val (.ref b), .val (.int (0 : Int32))] [])) rfl (hb hby own_d_jdk_52_5_0)
  refine own_st (fun u_ k_ => st210 u_ k_) ?_
  show own_Go p e below _ (T210.setTop (mkF m 3 #[.val (.ref b), .val (.int (0 : Int32))] [(.int (1 : Int32))]))
  refine own_st (fun u_ k_ => XS.ifYes X210.here hx rfl (pc0 := 3) (pc' := 28) rfl (hb hby own_d_jdk_52_5_3) rfl (XT.i0_ne_t (by decide)) (by decide) (by decide) k_) ?_
  refine own_st (fun u_ k_ => XS.iloadN X210.here hx rfl (hb hby own_d_jdk_52_5_28) rfl k_) ?_
  show own_Go p e below _ (T210.setTop (mkF m 29 #[.val (.ref b), .val (.int (0 : Int32))] [(.int (0 : Int32))]))
  refine own_st (fun u_ k_ => XS.iconst X210.here hx rfl (hb hby own_d_jdk_52_5_29) k_) ?_
  refine own_st (fun u_ k_ => XS.ishl X210.here hx rfl (hb hby own_d_jdk_52_5_30) rfl k_) ?_
  show own_Go p e below _ (T210.setTop (mkF m 31 #[.val (.ref b), .val (.int (0 : Int32))] [(.int (0 : Int32))]))
  refine own_st (fun u_ k_ => XS.istoreN X210.here hx rfl (hb hby own_d_jdk_52_5_31) rfl (l' := #[.val (.ref b), .val (.int (0 : Int32))]) rfl k_) ?_
  refine own_st (fun u_ k_ => XS.aloadN X210.here hx rfl (hb hby own_d_jdk_52_5_32) rfl rfl k_) ?_
  show own_Go p e below _ (T210.setTop (mkF m 33 #[.val (.ref b), .val (.int (0 : Int32))] [(.ref b)]))
  refine own_st (fun u_ k_ => XS.iloadN X210.here hx rfl (hb hby own_d_jdk_52_5_33) rfl k_) ?_
  refine own_st (fun u_ k_ => XS.iinc X210.here hx rfl (hb hby own_d_jdk_52_5_34) rfl (l' := #[.val (.ref b), .val (.int (1 : Int32))]) rfl k_) ?_
  show own_Go p e below _ (T210.setTop (mkF m 37 #[.val (.ref b), .val (.int (1 : Int32))] [(.int (0 : Int32)), (.ref b)]))
  obtain ⟨cl211, Ar211, q211, S211, N211, H211, G211⟩ := id A2
  have hi211 : ¬ ((0 : Int32) < 0 ∨ cl211.slots.size ≤ ((0 : Int32)).toNatClampNeg) := inb_of S211 ⟨by decide, by decide⟩
  have ha211 : cl211.slots[((0 : Int32)).toNatClampNeg]? = some (.int u0) := H211.at hi211 rfl
  refine own_st (X210.baloadBytes hx (j := (0 : Int32)) (v := (.int u0)) (by rw [e210]; exact Ar211.1) (State.isArrayOf_alike hZ.alike Ar211.2.1) Ar211.2.2 hi211 ha211 (g := (mkF m 37 #[.val (.ref b), .val (.int (1 : Int32))] [(.int (0 : Int32)), (.ref b)])) rfl rfl (hb hby own_d_jdk_52_5_37)) ?_
  show own_Go p e below _ (T210.setTop (mkF m 38 #[.val (.ref b), .val (.int (1 : Int32))] [(.int u0)]))
  refine own_st (fun u_ k_ => XS.sipush X210.here hx rfl (hb hby own_d_jdk_52_5_38) k_) ?_
  refine own_st (fun u_ k_ => XS.iand X210.here hx rfl (hb hby own_d_jdk_52_5_41) rfl k_) ?_
  show own_Go p e below _ (T210.setTop (mkF m 42 #[.val (.ref b), .val (.int (1 : Int32))] [(.int (u0 &&& (255 : Int32)))]))
  have F212 := Sta.ext O0.2 hS.2.2.2.1
  obtain ⟨T213, X213, e213, st213⟩ := getS2 X210 hx hZ hown (host := "") (Or.inl (own_w hw 120 rfl)) Via.refl e210 F212 (g := (mkF m 42 #[.val (.ref b), .val (.int (1 : Int32))] [(.int (u0 &&& (255 : Int32)))])) rfl (hb hby own_d_jdk_52_5_42)
  refine own_st (fun u_ k_ => st213 u_ k_) ?_
  show own_Go p e below _ (T213.setTop (mkF m 45 #[.val (.ref b), .val (.int (1 : Int32))] [(.int (0 : Int32)), (.int (u0 &&& (255 : Int32)))]))
  refine own_st (fun u_ k_ => XS.ishl X213.here hx rfl (hb hby own_d_jdk_52_5_45) rfl k_) ?_
  refine own_st (fun u_ k_ => XS.aloadN X213.here hx rfl (hb hby own_d_jdk_52_5_46) rfl rfl k_) ?_
  show own_Go p e below _ (T213.setTop (mkF m 47 #[.val (.ref b), .val (.int (1 : Int32))] [(.ref b), (.int ((u0 &&& (255 : Int32)) <<< ((0 : Int32) &&& 31)))]))
  refine own_st (fun u_ k_ => XS.iloadN X213.here hx rfl (hb hby own_d_jdk_52_5_47) rfl k_) ?_
  obtain ⟨cl214, Ar214, q214, S214, N214, H214, G214⟩ := id A2
  have hi214 : ¬ ((1 : Int32) < 0 ∨ cl214.slots.size ≤ ((1 : Int32)).toNatClampNeg) := inb_of S214 ⟨by decide, by decide⟩
  have ha214 : cl214.slots[((1 : Int32)).toNatClampNeg]? = some (.int u1) := H214.at hi214 rfl
  refine own_st (X213.baloadBytes hx (j := (1 : Int32)) (v := (.int u1)) (by rw [e213]; exact Ar214.1) (State.isArrayOf_alike hZ.alike Ar214.2.1) Ar214.2.2 hi214 ha214 (g := (mkF m 48 #[.val (.ref b), .val (.int (1 : Int32))] [(.int (1 : Int32)), (.ref b), (.int ((u0 &&& (255 : Int32)) <<< ((0 : Int32) &&& 31)))])) rfl rfl (hb hby own_d_jdk_52_5_48)) ?_
  show own_Go p e below _ (T213.setTop (mkF m 49 #[.val (.ref b), .val (.int (1 : Int32))] [(.int u1), (.int ((u0 &&& (255 : Int32)) <<< ((0 : Int32) &&& 31)))]))
  refine own_st (fun u_ k_ => XS.sipush X213.here hx rfl (hb hby own_d_jdk_52_5_49) k_) ?_
  show own_Go p e below _ (T213.setTop (mkF m 52 #[.val (.ref b), .val (.int (1 : Int32))] [(.int (255 : Int32)), (.int u1), (.int ((u0 &&& (255 : Int32)) <<< ((0 : Int32) &&& 31)))]))
  refine own_st (fun u_ k_ => XS.iand X213.here hx rfl (hb hby own_d_jdk_52_5_52) rfl k_) ?_
  have F215 := Sta.ext O0.2 hS.2.2.2.2
  obtain ⟨T216, X216, e216, st216⟩ := getS2 X213 hx hZ hown (host := "") (Or.inl (own_w hw 121 rfl)) Via.refl e213 F215 (g := (mkF m 53 #[.val (.ref b), .val (.int (1 : Int32))] [(.int (u1 &&& (255 : Int32))), (.int ((u0 &&& (255 : Int32)) <<< ((0 : Int32) &&& 31)))])) rfl (hb hby own_d_jdk_52_5_53)
  refine own_st (fun u_ k_ => st216 u_ k_) ?_
  show own_Go p e below _ (T216.setTop (mkF m 56 #[.val (.ref b), .val (.int (1 : Int32))] [(.int (8 : Int32)), (.int (u1 &&& (255 : Int32))), (.int ((u0 &&& (255 : Int32)) <<< ((0 : Int32) &&& 31)))]))
  refine own_st (fun u_ k_ => XS.ishl X216.here hx rfl (hb hby own_d_jdk_52_5_56) rfl k_) ?_
  refine own_st (fun u_ k_ => XS.ior X216.here hx rfl (hb hby own_d_jdk_52_5_57) rfl k_) ?_
  show own_Go p e below _ (T216.setTop (mkF m 58 #[.val (.ref b), .val (.int (1 : Int32))] [(.int (((u0 &&& (255 : Int32)) <<< ((0 : Int32) &&& 31)) ||| ((u1 &&& (255 : Int32)) <<< ((8 : Int32) &&& 31))))]))
  refine own_st (fun u_ k_ => XS.i2c X216.here hx rfl (hb hby own_d_jdk_52_5_58) rfl k_) ?_
  exact own_retX X216 hx hlk hret (own_narC _) (Or.inl ⟨rfl, by simp, _, rfl⟩) (hb hby own_d_jdk_52_5_59) (by decide) (by decide) (show QrmGC2_0 Z wcs b kb u0 u1 u2 u3 h0 n0 (some (.int ((((u0 &&& (255 : Int32)) <<< ((0 : Int32) &&& 31)) ||| ((u1 &&& (255 : Int32)) <<< ((8 : Int32) &&& 31))).toUInt32.toUInt16.toUInt32.toInt32))) T216.heap _ from (by rw [e216]; exact ⟨rfl, N0, rfl⟩))
theorem own_ef_rmPC2_1 (m : MethodId) (b : Addr) (cv : Int32)  : entryFrame m #[(.ref b), (.int (1 : Int32)), (.int cv)] 3 = mkF m 0 #[.val (.ref b), .val (.int (1 : Int32)), .val (.int cv)] [] := by first | (simp [entryFrame, mkF, argsToLocals, Value.category, maxLocals]; done) | rfl
def QrmPC2_1 (Z : State) (wcs : Int32) (b : Addr) (kb : ClassId) (cv : Int32) (u0 : Int32) (u1 : Int32) (u2 : Int32) (u3 : Int32) (h0 : Heap) (n0 : Nat) (v : Option Value) (h : Heap) (L : List Loc) : Prop := v = none ∧ Fr n0 L ∧ Keep h0 h [b] ∧ Exa Z h b "[B" ∧ Arv Z h b kb .byte (4 : Int32) [(.int u0), (.int u1), (.int ((cv >>> ((0 : Int32) &&& 31)).toInt8.toInt32)), (.int ((cv >>> ((8 : Int32) &&& 31)).toInt8.toInt32))] (.int (0 : Int32))
set_option maxRecDepth 65536 in
set_option maxHeartbeats 40000000 in
theorem rmPC2_1 (l : Launch) (Z : State) (a0 : Array Value) (hw : own_H a0 Z) (ws : List Jvm.Cond) (wcs : Int32) (hS : own_S Z wcs) (b : Addr) (kb : ClassId) (cv : Int32) (u0 : Int32) (u1 : Int32) (u2 : Int32) (u3 : Int32) (h0 : Heap) (n0 : Nat) (O0 : Old Z n0 h0) (Eb : Exa Z h0 b "[B") (gb : n0 ≤ b) (A2 : Arv Z h0 b kb .byte (4 : Int32) [(.int u0), (.int u1), (.int u2), (.int u3)] (.int (0 : Int32))) :
    own_Met l own_y_56 jdk_52_method_4_code 3 none ws ({ frames := 0, cells := 0, slots := 0, locals := 0 } : Room) Z h0 #[(.ref b), (.int (1 : Int32)), (.int cv)] (QrmPC2_1 Z wcs b kb cv u0 u1 u2 u3 h0 n0) := by
  refine own_body (plainFor_of_name own_pn_15) ?_
  intro p e s m below meth c s₁ hx hby hml hown hnm hret hlk hZ e0 X0
  have N0 := Fr.nil n0
  refine own_st (fun u_ k_ => castTop (own_ef_rmPC2_1 m b cv) k_) ?_
  show own_Go p e below _ (s₁.setTop (mkF m 0 #[.val (.ref b), .val (.int (1 : Int32)), .val (.int cv)] []))
  have F217 := Sta.ext O0.2 hS.2.2.1
  obtain ⟨T218, X218, e218, st218⟩ := getS2 X0 hx hZ hown (host := "") (Or.inl (own_w hw 119 rfl)) Via.refl e0 F217 (g := (mkF m 0 #[.val (.ref b), .val (.int (1 : Int32)), .val (.int cv)] [])) rfl (hb hby own_d_jdk_52_4_0)
  refine own_st (fun u_ k_ => st218 u_ k_) ?_
  show own_Go p e below _ (T218.setTop (mkF m 3 #[.val (.ref b), .val (.int (1 : Int32)), .val (.int cv)] [(.int (1 : Int32))]))
  refine own_st (fun u_ k_ => XS.ifYes X218.here hx rfl (pc0 := 3) (pc' := 28) rfl (hb hby own_d_jdk_52_4_3) rfl (XT.i0_ne_t (by decide)) (by decide) (by decide) k_) ?_
  refine own_st (fun u_ k_ => XS.iloadN X218.here hx rfl (hb hby own_d_jdk_52_4_28) rfl k_) ?_
  show own_Go p e below _ (T218.setTop (mkF m 29 #[.val (.ref b), .val (.int (1 : Int32)), .val (.int cv)] [(.int (1 : Int32))]))
  refine own_st (fun u_ k_ => XS.iconst X218.here hx rfl (hb hby own_d_jdk_52_4_29) k_) ?_
  refine own_st (fun u_ k_ => XS.ishl X218.here hx rfl (hb hby own_d_jdk_52_4_30) rfl k_) ?_
  show own_Go p e below _ (T218.setTop (mkF m 31 #[.val (.ref b), .val (.int (1 : Int32)), .val (.int cv)] [(.int (2 : Int32))]))
  refine own_st (fun u_ k_ => XS.istoreN X218.here hx rfl (hb hby own_d_jdk_52_4_31) rfl (l' := #[.val (.ref b), .val (.int (2 : Int32)), .val (.int cv)]) rfl k_) ?_
  refine own_st (fun u_ k_ => XS.aloadN X218.here hx rfl (hb hby own_d_jdk_52_4_32) rfl rfl k_) ?_
  show own_Go p e below _ (T218.setTop (mkF m 33 #[.val (.ref b), .val (.int (2 : Int32)), .val (.int cv)] [(.ref b)]))
  refine own_st (fun u_ k_ => XS.iloadN X218.here hx rfl (hb hby own_d_jdk_52_4_33) rfl k_) ?_
  refine own_st (fun u_ k_ => XS.iinc X218.here hx rfl (hb hby own_d_jdk_52_4_34) rfl (l' := #[.val (.ref b), .val (.int (3 : Int32)), .val (.int cv)]) rfl k_) ?_
  show own_Go p e below _ (T218.setTop (mkF m 37 #[.val (.ref b), .val (.int (3 : Int32)), .val (.int cv)] [(.int (2 : Int32)), (.ref b)]))
  refine own_st (fun u_ k_ => XS.iloadN X218.here hx rfl (hb hby own_d_jdk_52_4_37) rfl k_) ?_
  have F219 := Sta.ext O0.2 hS.2.2.2.1
  obtain ⟨T220, X220, e220, st220⟩ := getS2 X218 hx hZ hown (host := "") (Or.inl (own_w hw 120 rfl)) Via.refl e218 F219 (g := (mkF m 38 #[.val (.ref b), .val (.int (3 : Int32)), .val (.int cv)] [(.int cv), (.int (2 : Int32)), (.ref b)])) rfl (hb hby own_d_jdk_52_4_38)
  refine own_st (fun u_ k_ => st220 u_ k_) ?_
  show own_Go p e below _ (T220.setTop (mkF m 41 #[.val (.ref b), .val (.int (3 : Int32)), .val (.int cv)] [(.int (0 : Int32)), (.int cv), (.int (2 : Int32)), (.ref b)]))
  refine own_st (fun u_ k_ => XS.ishr X220.here hx rfl (hb hby own_d_jdk_52_4_41) rfl k_) ?_
  refine own_st (fun u_ k_ => XS.i2b X220.here hx rfl (hb hby own_d_jdk_52_4_42) rfl k_) ?_
  show own_Go p e below _ (T220.setTop (mkF m 43 #[.val (.ref b), .val (.int (3 : Int32)), .val (.int cv)] [(.int ((cv >>> ((0 : Int32) &&& 31)).toInt8.toInt32)), (.int (2 : Int32)), (.ref b)]))
  obtain ⟨cl221, Ar221, q221, S221, N221, H221, G221⟩ := id A2
  have hi221 : ¬ ((2 : Int32) < 0 ∨ cl221.slots.size ≤ ((2 : Int32)).toNatClampNeg) := inb_of S221 ⟨by decide, by decide⟩
  obtain ⟨T222, h222, X222, e222, W222, st222⟩ := stB X220 hx hZ e220 Ar221 (j := (2 : Int32)) hi221 (g := (mkF m 43 #[.val (.ref b), .val (.int (3 : Int32)), .val (.int cv)] [(.int ((cv >>> ((0 : Int32) &&& 31)).toInt8.toInt32)), (.int (2 : Int32)), (.ref b)])) rfl rfl (hb hby own_d_jdk_52_4_43)
  rw [own_bb] at W222
  have N222 := Fr.snoc X222 N0 gb
  have V222 : Arv Z h222 b kb .byte (4 : Int32) [(.int u0), (.int u1), (.int ((cv >>> ((0 : Int32) &&& 31)).toInt8.toInt32)), (.int u3)] (.int (0 : Int32)) := Arv.set Ar221 q221 S221 N221 H221 G221 (fits_nar_byte _) W222 2 rfl (Nat.le_of_ble_eq_true rfl)
  refine own_st (fun u_ k_ => st222 u_ k_) ?_
  show own_Go p e below _ (T222.setTop (mkF m 44 #[.val (.ref b), .val (.int (3 : Int32)), .val (.int cv)] []))
  refine own_st (fun u_ k_ => XS.aloadN X222.here hx rfl (hb hby own_d_jdk_52_4_44) rfl rfl k_) ?_
  refine own_st (fun u_ k_ => XS.iloadN X222.here hx rfl (hb hby own_d_jdk_52_4_45) rfl k_) ?_
  show own_Go p e below _ (T222.setTop (mkF m 46 #[.val (.ref b), .val (.int (3 : Int32)), .val (.int cv)] [(.int (3 : Int32)), (.ref b)]))
  refine own_st (fun u_ k_ => XS.iloadN X222.here hx rfl (hb hby own_d_jdk_52_4_46) rfl k_) ?_
  have O223 : Old Z n0 h222 := O0.wr W222 gb
  have F224 := Sta.ext O223.2 hS.2.2.2.2
  obtain ⟨T225, X225, e225, st225⟩ := getS2 X222 hx hZ hown (host := "") (Or.inl (own_w hw 121 rfl)) Via.refl e222 F224 (g := (mkF m 47 #[.val (.ref b), .val (.int (3 : Int32)), .val (.int cv)] [(.int cv), (.int (3 : Int32)), (.ref b)])) rfl (hb hby own_d_jdk_52_4_47)
  refine own_st (fun u_ k_ => st225 u_ k_) ?_
  show own_Go p e below _ (T225.setTop (mkF m 50 #[.val (.ref b), .val (.int (3 : Int32)), .val (.int cv)] [(.int (8 : Int32)), (.int cv), (.int (3 : Int32)), (.ref b)]))
  refine own_st (fun u_ k_ => XS.ishr X225.here hx rfl (hb hby own_d_jdk_52_4_50) rfl k_) ?_
  refine own_st (fun u_ k_ => XS.i2b X225.here hx rfl (hb hby own_d_jdk_52_4_51) rfl k_) ?_
  show own_Go p e below _ (T225.setTop (mkF m 52 #[.val (.ref b), .val (.int (3 : Int32)), .val (.int cv)] [(.int ((cv >>> ((8 : Int32) &&& 31)).toInt8.toInt32)), (.int (3 : Int32)), (.ref b)]))
  obtain ⟨cl226, Ar226, q226, S226, N226, H226, G226⟩ := id V222
  have hi226 : ¬ ((3 : Int32) < 0 ∨ cl226.slots.size ≤ ((3 : Int32)).toNatClampNeg) := inb_of S226 ⟨by decide, by decide⟩
  obtain ⟨T227, h227, X227, e227, W227, st227⟩ := stB X225 hx hZ e225 Ar226 (j := (3 : Int32)) hi226 (g := (mkF m 52 #[.val (.ref b), .val (.int (3 : Int32)), .val (.int cv)] [(.int ((cv >>> ((8 : Int32) &&& 31)).toInt8.toInt32)), (.int (3 : Int32)), (.ref b)])) rfl rfl (hb hby own_d_jdk_52_4_52)
  rw [own_bb] at W227
  have N227 := Fr.snoc X227 N222 gb
  have V227 : Arv Z h227 b kb .byte (4 : Int32) [(.int u0), (.int u1), (.int ((cv >>> ((0 : Int32) &&& 31)).toInt8.toInt32)), (.int ((cv >>> ((8 : Int32) &&& 31)).toInt8.toInt32))] (.int (0 : Int32)) := Arv.set Ar226 q226 S226 N226 H226 G226 (fits_nar_byte _) W227 3 rfl (Nat.le_of_ble_eq_true rfl)
  refine own_st (fun u_ k_ => st227 u_ k_) ?_
  show own_Go p e below _ (T227.setTop (mkF m 53 #[.val (.ref b), .val (.int (3 : Int32)), .val (.int cv)] []))
  have K228 : Keep h0 h222 [b] := (Keep.refl h0 [b]).wr W222 (Or.inl (List.mem_of_getElem? (i := 0) rfl))
  have K229 : Keep h0 h227 [b] := K228.wr W227 (Or.inl (List.mem_of_getElem? (i := 0) rfl))
  have F230 := (Exa.wr W227 (Exa.wr W222 Eb))
  exact own_retV X227 hx hlk hret (hb hby own_d_jdk_52_4_53) (by decide) (by decide) (show QrmPC2_1 Z wcs b kb cv u0 u1 u2 u3 h0 n0 none T227.heap _ from (by rw [e227]; exact ⟨rfl, N227, K229, F230, V227⟩))
theorem own_ef_rmGC2_1 (m : MethodId) (b : Addr)  : entryFrame m #[(.ref b), (.int (1 : Int32))] 2 = mkF m 0 #[.val (.ref b), .val (.int (1 : Int32))] [] := by first | (simp [entryFrame, mkF, argsToLocals, Value.category, maxLocals]; done) | rfl
def QrmGC2_1 (Z : State) (wcs : Int32) (b : Addr) (kb : ClassId) (u0 : Int32) (u1 : Int32) (u2 : Int32) (u3 : Int32) (h0 : Heap) (n0 : Nat) (v : Option Value) (h : Heap) (L : List Loc) : Prop := v = some (.int ((((u2 &&& (255 : Int32)) <<< ((0 : Int32) &&& 31)) ||| ((u3 &&& (255 : Int32)) <<< ((8 : Int32) &&& 31))).toUInt32.toUInt16.toUInt32.toInt32)) ∧ Fr n0 L ∧ h = h0
set_option maxRecDepth 65536 in
set_option maxHeartbeats 40000000 in
theorem rmGC2_1 (l : Launch) (Z : State) (a0 : Array Value) (hw : own_H a0 Z) (ws : List Jvm.Cond) (wcs : Int32) (hS : own_S Z wcs) (b : Addr) (kb : ClassId) (u0 : Int32) (u1 : Int32) (u2 : Int32) (u3 : Int32) (h0 : Heap) (n0 : Nat) (O0 : Old Z n0 h0) (A2 : Arv Z h0 b kb .byte (4 : Int32) [(.int u0), (.int u1), (.int u2), (.int u3)] (.int (0 : Int32))) :
    own_Met l own_y_81 jdk_52_method_5_code 2 (some .char) ws ({ frames := 0, cells := 0, slots := 0, locals := 0 } : Room) Z h0 #[(.ref b), (.int (1 : Int32))] (QrmGC2_1 Z wcs b kb u0 u1 u2 u3 h0 n0) := by
  refine own_body (plainFor_of_name own_pn_15) ?_
  intro p e s m below meth c s₁ hx hby hml hown hnm hret hlk hZ e0 X0
  have N0 := Fr.nil n0
  refine own_st (fun u_ k_ => castTop (own_ef_rmGC2_1 m b) k_) ?_
  show own_Go p e below _ (s₁.setTop (mkF m 0 #[.val (.ref b), .val (.int (1 : Int32))] []))
  have F231 := Sta.ext O0.2 hS.2.2.1
  obtain ⟨T232, X232, e232, st232⟩ := getS2 X0 hx hZ hown (host := "") (Or.inl (own_w hw 119 rfl)) Via.refl e0 F231 (g := (mkF m 0 #[.val (.ref b), .val (.int (1 : Int32))] [])) rfl (hb hby own_d_jdk_52_5_0)
  refine own_st (fun u_ k_ => st232 u_ k_) ?_
  show own_Go p e below _ (T232.setTop (mkF m 3 #[.val (.ref b), .val (.int (1 : Int32))] [(.int (1 : Int32))]))
  refine own_st (fun u_ k_ => XS.ifYes X232.here hx rfl (pc0 := 3) (pc' := 28) rfl (hb hby own_d_jdk_52_5_3) rfl (XT.i0_ne_t (by decide)) (by decide) (by decide) k_) ?_
  refine own_st (fun u_ k_ => XS.iloadN X232.here hx rfl (hb hby own_d_jdk_52_5_28) rfl k_) ?_
  show own_Go p e below _ (T232.setTop (mkF m 29 #[.val (.ref b), .val (.int (1 : Int32))] [(.int (1 : Int32))]))
  refine own_st (fun u_ k_ => XS.iconst X232.here hx rfl (hb hby own_d_jdk_52_5_29) k_) ?_
  refine own_st (fun u_ k_ => XS.ishl X232.here hx rfl (hb hby own_d_jdk_52_5_30) rfl k_) ?_
  show own_Go p e below _ (T232.setTop (mkF m 31 #[.val (.ref b), .val (.int (1 : Int32))] [(.int (2 : Int32))]))
  refine own_st (fun u_ k_ => XS.istoreN X232.here hx rfl (hb hby own_d_jdk_52_5_31) rfl (l' := #[.val (.ref b), .val (.int (2 : Int32))]) rfl k_) ?_
  refine own_st (fun u_ k_ => XS.aloadN X232.here hx rfl (hb hby own_d_jdk_52_5_32) rfl rfl k_) ?_
  show own_Go p e below _ (T232.setTop (mkF m 33 #[.val (.ref b), .val (.int (2 : Int32))] [(.ref b)]))
  refine own_st (fun u_ k_ => XS.iloadN X232.here hx rfl (hb hby own_d_jdk_52_5_33) rfl k_) ?_
  refine own_st (fun u_ k_ => XS.iinc X232.here hx rfl (hb hby own_d_jdk_52_5_34) rfl (l' := #[.val (.ref b), .val (.int (3 : Int32))]) rfl k_) ?_
  show own_Go p e below _ (T232.setTop (mkF m 37 #[.val (.ref b), .val (.int (3 : Int32))] [(.int (2 : Int32)), (.ref b)]))
  obtain ⟨cl233, Ar233, q233, S233, N233, H233, G233⟩ := id A2
  have hi233 : ¬ ((2 : Int32) < 0 ∨ cl233.slots.size ≤ ((2 : Int32)).toNatClampNeg) := inb_of S233 ⟨by decide, by decide⟩
  have ha233 : cl233.slots[((2 : Int32)).toNatClampNeg]? = some (.int u2) := H233.at hi233 rfl
  refine own_st (X232.baloadBytes hx (j := (2 : Int32)) (v := (.int u2)) (by rw [e232]; exact Ar233.1) (State.isArrayOf_alike hZ.alike Ar233.2.1) Ar233.2.2 hi233 ha233 (g := (mkF m 37 #[.val (.ref b), .val (.int (3 : Int32))] [(.int (2 : Int32)), (.ref b)])) rfl rfl (hb hby own_d_jdk_52_5_37)) ?_
  show own_Go p e below _ (T232.setTop (mkF m 38 #[.val (.ref b), .val (.int (3 : Int32))] [(.int u2)]))
  refine own_st (fun u_ k_ => XS.sipush X232.here hx rfl (hb hby own_d_jdk_52_5_38) k_) ?_
  refine own_st (fun u_ k_ => XS.iand X232.here hx rfl (hb hby own_d_jdk_52_5_41) rfl k_) ?_
  show own_Go p e below _ (T232.setTop (mkF m 42 #[.val (.ref b), .val (.int (3 : Int32))] [(.int (u2 &&& (255 : Int32)))]))
  have F234 := Sta.ext O0.2 hS.2.2.2.1
  obtain ⟨T235, X235, e235, st235⟩ := getS2 X232 hx hZ hown (host := "") (Or.inl (own_w hw 120 rfl)) Via.refl e232 F234 (g := (mkF m 42 #[.val (.ref b), .val (.int (3 : Int32))] [(.int (u2 &&& (255 : Int32)))])) rfl (hb hby own_d_jdk_52_5_42)
  refine own_st (fun u_ k_ => st235 u_ k_) ?_
  show own_Go p e below _ (T235.setTop (mkF m 45 #[.val (.ref b), .val (.int (3 : Int32))] [(.int (0 : Int32)), (.int (u2 &&& (255 : Int32)))]))
  refine own_st (fun u_ k_ => XS.ishl X235.here hx rfl (hb hby own_d_jdk_52_5_45) rfl k_) ?_
  refine own_st (fun u_ k_ => XS.aloadN X235.here hx rfl (hb hby own_d_jdk_52_5_46) rfl rfl k_) ?_
  show own_Go p e below _ (T235.setTop (mkF m 47 #[.val (.ref b), .val (.int (3 : Int32))] [(.ref b), (.int ((u2 &&& (255 : Int32)) <<< ((0 : Int32) &&& 31)))]))
  refine own_st (fun u_ k_ => XS.iloadN X235.here hx rfl (hb hby own_d_jdk_52_5_47) rfl k_) ?_
  obtain ⟨cl236, Ar236, q236, S236, N236, H236, G236⟩ := id A2
  have hi236 : ¬ ((3 : Int32) < 0 ∨ cl236.slots.size ≤ ((3 : Int32)).toNatClampNeg) := inb_of S236 ⟨by decide, by decide⟩
  have ha236 : cl236.slots[((3 : Int32)).toNatClampNeg]? = some (.int u3) := H236.at hi236 rfl
  refine own_st (X235.baloadBytes hx (j := (3 : Int32)) (v := (.int u3)) (by rw [e235]; exact Ar236.1) (State.isArrayOf_alike hZ.alike Ar236.2.1) Ar236.2.2 hi236 ha236 (g := (mkF m 48 #[.val (.ref b), .val (.int (3 : Int32))] [(.int (3 : Int32)), (.ref b), (.int ((u2 &&& (255 : Int32)) <<< ((0 : Int32) &&& 31)))])) rfl rfl (hb hby own_d_jdk_52_5_48)) ?_
  show own_Go p e below _ (T235.setTop (mkF m 49 #[.val (.ref b), .val (.int (3 : Int32))] [(.int u3), (.int ((u2 &&& (255 : Int32)) <<< ((0 : Int32) &&& 31)))]))
  refine own_st (fun u_ k_ => XS.sipush X235.here hx rfl (hb hby own_d_jdk_52_5_49) k_) ?_
  show own_Go p e below _ (T235.setTop (mkF m 52 #[.val (.ref b), .val (.int (3 : Int32))] [(.int (255 : Int32)), (.int u3), (.int ((u2 &&& (255 : Int32)) <<< ((0 : Int32) &&& 31)))]))
  refine own_st (fun u_ k_ => XS.iand X235.here hx rfl (hb hby own_d_jdk_52_5_52) rfl k_) ?_
  have F237 := Sta.ext O0.2 hS.2.2.2.2
  obtain ⟨T238, X238, e238, st238⟩ := getS2 X235 hx hZ hown (host := "") (Or.inl (own_w hw 121 rfl)) Via.refl e235 F237 (g := (mkF m 53 #[.val (.ref b), .val (.int (3 : Int32))] [(.int (u3 &&& (255 : Int32))), (.int ((u2 &&& (255 : Int32)) <<< ((0 : Int32) &&& 31)))])) rfl (hb hby own_d_jdk_52_5_53)
  refine own_st (fun u_ k_ => st238 u_ k_) ?_
  show own_Go p e below _ (T238.setTop (mkF m 56 #[.val (.ref b), .val (.int (3 : Int32))] [(.int (8 : Int32)), (.int (u3 &&& (255 : Int32))), (.int ((u2 &&& (255 : Int32)) <<< ((0 : Int32) &&& 31)))]))
  refine own_st (fun u_ k_ => XS.ishl X238.here hx rfl (hb hby own_d_jdk_52_5_56) rfl k_) ?_
  refine own_st (fun u_ k_ => XS.ior X238.here hx rfl (hb hby own_d_jdk_52_5_57) rfl k_) ?_
  show own_Go p e below _ (T238.setTop (mkF m 58 #[.val (.ref b), .val (.int (3 : Int32))] [(.int (((u2 &&& (255 : Int32)) <<< ((0 : Int32) &&& 31)) ||| ((u3 &&& (255 : Int32)) <<< ((8 : Int32) &&& 31))))]))
  refine own_st (fun u_ k_ => XS.i2c X238.here hx rfl (hb hby own_d_jdk_52_5_58) rfl k_) ?_
  exact own_retX X238 hx hlk hret (own_narC _) (Or.inl ⟨rfl, by simp, _, rfl⟩) (hb hby own_d_jdk_52_5_59) (by decide) (by decide) (show QrmGC2_1 Z wcs b kb u0 u1 u2 u3 h0 n0 (some (.int ((((u2 &&& (255 : Int32)) <<< ((0 : Int32) &&& 31)) ||| ((u3 &&& (255 : Int32)) <<< ((8 : Int32) &&& 31))).toUInt32.toUInt16.toUInt32.toInt32))) T238.heap _ from (by rw [e238]; exact ⟨rfl, N0, rfl⟩))
theorem own_ef_rmTB2 (m : MethodId) (a : Addr)  : entryFrame m #[(.ref a), (.int (0 : Int32)), (.int (2 : Int32))] 5 = mkF m 0 #[.val (.ref a), .val (.int (0 : Int32)), .val (.int (2 : Int32)), .unset, .unset] [] := by first | (simp [entryFrame, mkF, argsToLocals, Value.category, maxLocals]; done) | rfl
def QrmTB2 (Z : State) (wcs : Int32) (a : Addr) (ka : ClassId) (v0 : Int32) (v1 : Int32) (h0 : Heap) (n0 : Nat) (v : Option Value) (h : Heap) (L : List Loc) : Prop := ∃ r : Addr, ∃ kr : ClassId, v = some (.ref r) ∧ Fr n0 L ∧ Keep h0 h [] ∧ h0.size ≤ r ∧ Exa Z h r "[B" ∧ Arv Z h r kr .byte (4 : Int32) [(.int ((v0 >>> ((0 : Int32) &&& 31)).toInt8.toInt32)), (.int ((v0 >>> ((8 : Int32) &&& 31)).toInt8.toInt32)), (.int ((v1 >>> ((0 : Int32) &&& 31)).toInt8.toInt32)), (.int ((v1 >>> ((8 : Int32) &&& 31)).toInt8.toInt32))] (.int (0 : Int32))
set_option maxRecDepth 65536 in
set_option maxHeartbeats 40000000 in
theorem rmTB2 (l : Launch) (Z : State) (a0 : Array Value) (hw : own_H a0 Z) (ws : List Jvm.Cond) (wcs : Int32) (hS : own_S Z wcs) (a : Addr) (ka : ClassId) (v0 : Int32) (v1 : Int32) (h0 : Heap) (n0 : Nat) (O0 : Old Z n0 h0) (Ea : Exa Z h0 a "[C") (A1 : Arv Z h0 a ka .char (2 : Int32) [(.int v0), (.int v1)] (.int (0 : Int32))) :
    own_Met l own_y_104 jdk_52_method_14_code 5 (some (.array .byte)) ws ({ frames := 2, cells := 1, slots := 4, locals := 24 } : Room) Z h0 #[(.ref a), (.int (0 : Int32)), (.int (2 : Int32))] (QrmTB2 Z wcs a ka v0 v1 h0 n0) := by
  refine own_body (plainFor_of_name own_pn_15) ?_
  intro p e s m below meth c s₁ hx hby hml hown hnm hret hlk hZ e0 X0
  have N0 := Fr.nil n0
  refine own_st (fun u_ k_ => castTop (own_ef_rmTB2 m a) k_) ?_
  show own_Go p e below _ (s₁.setTop (mkF m 0 #[.val (.ref a), .val (.int (0 : Int32)), .val (.int (2 : Int32)), .unset, .unset] []))
  refine own_st (fun u_ k_ => XS.iloadN X0.here hx rfl (hb hby own_d_jdk_52_14_0) rfl k_) ?_
  obtain ⟨T239, v239, L239, X239, hQ239, st239⟩ := own_callS X0 hx hZ (y := own_y_33) hown (own_w hw 109 rfl) (own_w hw 110 rfl) (own_w hw 98 rfl) (own_w hw 111 rfl) own_lm_28 (rmNB2 l Z a0 hw [] wcs hS  h0 n0 O0 ) e0 own_pd_85 (argsL := [(.int (2 : Int32))]) (rest := []) rfl rfl (g := (mkF m 1 #[.val (.ref a), .val (.int (0 : Int32)), .val (.int (2 : Int32)), .unset, .unset] [(.int (2 : Int32))])) rfl (by rw [hml]; rfl) rfl (hb hby own_d_jdk_52_14_1) (W := 0) rfl (by decide) (by decide) (by decide) (by decide)
  obtain ⟨r_240, kr_241, rfl, M239, K239, z242, F243, F244⟩ := hQ239
  have N239 := Fr.app N0 M239
  refine own_st (fun u_ k_ => st239 u_ k_) ?_
  show own_Go p e below _ (T239.setTop (mkF m 4 #[.val (.ref a), .val (.int (0 : Int32)), .val (.int (2 : Int32)), .unset, .unset] [(.ref r_240)]))
  refine own_st (fun u_ k_ => XS.astoreN X239.here hx rfl (hb hby own_d_jdk_52_14_4) rfl rfl (l' := #[.val (.ref a), .val (.int (0 : Int32)), .val (.int (2 : Int32)), .val (.ref r_240), .unset]) rfl k_) ?_
  refine own_st (fun u_ k_ => XS.iconst X239.here hx rfl (hb hby own_d_jdk_52_14_5) k_) ?_
  show own_Go p e below _ (T239.setTop (mkF m 6 #[.val (.ref a), .val (.int (0 : Int32)), .val (.int (2 : Int32)), .val (.ref r_240), .unset] [(.int (0 : Int32))]))
  refine own_st (fun u_ k_ => XS.istore X239.here hx rfl (hb hby own_d_jdk_52_14_6) rfl (l' := #[.val (.ref a), .val (.int (0 : Int32)), .val (.int (2 : Int32)), .val (.ref r_240), .val (.int (0 : Int32))]) rfl k_) ?_
  refine own_st (fun u_ k_ => XS.iload X239.here hx rfl (hb hby own_d_jdk_52_14_8) rfl k_) ?_
  show own_Go p e below _ (T239.setTop (mkF m 10 #[.val (.ref a), .val (.int (0 : Int32)), .val (.int (2 : Int32)), .val (.ref r_240), .val (.int (0 : Int32))] [(.int (0 : Int32))]))
  refine own_st (fun u_ k_ => XS.iloadN X239.here hx rfl (hb hby own_d_jdk_52_14_10) rfl k_) ?_
  refine own_st (fun u_ k_ => XS.icmpNo X239.here hx rfl (hb hby own_d_jdk_52_14_11) rfl (XT.ii_ge_f (by decide)) k_) ?_
  show own_Go p e below _ (T239.setTop (mkF m 14 #[.val (.ref a), .val (.int (0 : Int32)), .val (.int (2 : Int32)), .val (.ref r_240), .val (.int (0 : Int32))] []))
  refine own_st (fun u_ k_ => XS.aloadN X239.here hx rfl (hb hby own_d_jdk_52_14_14) rfl rfl k_) ?_
  refine own_st (fun u_ k_ => XS.iload X239.here hx rfl (hb hby own_d_jdk_52_14_15) rfl k_) ?_
  show own_Go p e below _ (T239.setTop (mkF m 17 #[.val (.ref a), .val (.int (0 : Int32)), .val (.int (2 : Int32)), .val (.ref r_240), .val (.int (0 : Int32))] [(.int (0 : Int32)), (.ref r_240)]))
  refine own_st (fun u_ k_ => XS.aloadN X239.here hx rfl (hb hby own_d_jdk_52_14_17) rfl rfl k_) ?_
  refine own_st (fun u_ k_ => XS.iloadN X239.here hx rfl (hb hby own_d_jdk_52_14_18) rfl k_) ?_
  show own_Go p e below _ (T239.setTop (mkF m 19 #[.val (.ref a), .val (.int (0 : Int32)), .val (.int (2 : Int32)), .val (.ref r_240), .val (.int (0 : Int32))] [(.int (0 : Int32)), (.ref a), (.int (0 : Int32)), (.ref r_240)]))
  have F245 := (A1.keep K239 nin0)
  obtain ⟨cl246, Ar246, q246, S246, N246, H246, G246⟩ := id F245
  have hi246 : ¬ ((0 : Int32) < 0 ∨ cl246.slots.size ≤ ((0 : Int32)).toNatClampNeg) := inb_of S246 ⟨by decide, by decide⟩
  have ha246 : cl246.slots[((0 : Int32)).toNatClampNeg]? = some (.int v0) := H246.at hi246 rfl
  refine own_st (X239.caload hx (j := (0 : Int32)) (v := (.int v0)) Ar246.1 (State.isArrayOf_alike hZ.alike Ar246.2.1) Ar246.2.2 hi246 ha246 (g := (mkF m 19 #[.val (.ref a), .val (.int (0 : Int32)), .val (.int (2 : Int32)), .val (.ref r_240), .val (.int (0 : Int32))] [(.int (0 : Int32)), (.ref a), (.int (0 : Int32)), (.ref r_240)])) rfl rfl (hb hby own_d_jdk_52_14_19)) ?_
  show own_Go p e below _ (T239.setTop (mkF m 20 #[.val (.ref a), .val (.int (0 : Int32)), .val (.int (2 : Int32)), .val (.ref r_240), .val (.int (0 : Int32))] [(.int v0), (.int (0 : Int32)), (.ref r_240)]))
  have g247 : n0 ≤ r_240 := Nat.le_trans (own_nl O0) z242
  have O249 : Old Z n0 T239.heap := O0.keep K239 all0
  obtain ⟨T248, v248, L248, X248, hQ248, st248⟩ := own_callS X239 hx hZ (y := own_y_56) hown (own_w hw 116 rfl) (own_w hw 117 rfl) (own_w hw 98 rfl) (own_w hw 118 rfl) own_lm_28 (rmPC2_0 l Z a0 hw [] wcs hS r_240 kr_241 v0 (0 : Int32) (0 : Int32) (0 : Int32) (0 : Int32) T239.heap n0 O249 F243 g247 F244) rfl own_pd_98 (argsL := [(.ref r_240), (.int (0 : Int32)), (.int v0)]) (rest := []) rfl rfl (g := (mkF m 20 #[.val (.ref a), .val (.int (0 : Int32)), .val (.int (2 : Int32)), .val (.ref r_240), .val (.int (0 : Int32))] [(.int v0), (.int (0 : Int32)), (.ref r_240)])) rfl (by rw [hml]; rfl) rfl (hb hby own_d_jdk_52_14_20) (W := 0) rfl (by decide) (by decide) (by decide) (by decide)
  obtain ⟨rfl, M248, K248, F250, F251⟩ := hQ248
  have N248 := Fr.app N239 M248
  refine own_st (fun u_ k_ => st248 u_ k_) ?_
  show own_Go p e below _ (T248.setTop (mkF m 23 #[.val (.ref a), .val (.int (0 : Int32)), .val (.int (2 : Int32)), .val (.ref r_240), .val (.int (0 : Int32))] []))
  refine own_st (fun u_ k_ => XS.iinc X248.here hx rfl (hb hby own_d_jdk_52_14_23) rfl (l' := #[.val (.ref a), .val (.int (1 : Int32)), .val (.int (2 : Int32)), .val (.ref r_240), .val (.int (0 : Int32))]) rfl k_) ?_
  refine own_st (fun u_ k_ => XS.iinc X248.here hx rfl (hb hby own_d_jdk_52_14_26) rfl (l' := #[.val (.ref a), .val (.int (1 : Int32)), .val (.int (2 : Int32)), .val (.ref r_240), .val (.int (1 : Int32))]) rfl k_) ?_
  show own_Go p e below _ (T248.setTop (mkF m 29 #[.val (.ref a), .val (.int (1 : Int32)), .val (.int (2 : Int32)), .val (.ref r_240), .val (.int (1 : Int32))] []))
  refine own_st (fun u_ k_ => XS.goto X248.here hx rfl (pc0 := 29) (pc' := 8) rfl (hb hby own_d_jdk_52_14_29) (by decide) (by decide) k_) ?_
  refine own_st (fun u_ k_ => XS.iload X248.here hx rfl (hb hby own_d_jdk_52_14_8) rfl k_) ?_
  show own_Go p e below _ (T248.setTop (mkF m 10 #[.val (.ref a), .val (.int (1 : Int32)), .val (.int (2 : Int32)), .val (.ref r_240), .val (.int (1 : Int32))] [(.int (1 : Int32))]))
  refine own_st (fun u_ k_ => XS.iloadN X248.here hx rfl (hb hby own_d_jdk_52_14_10) rfl k_) ?_
  refine own_st (fun u_ k_ => XS.icmpNo X248.here hx rfl (hb hby own_d_jdk_52_14_11) rfl (XT.ii_ge_f (by decide)) k_) ?_
  show own_Go p e below _ (T248.setTop (mkF m 14 #[.val (.ref a), .val (.int (1 : Int32)), .val (.int (2 : Int32)), .val (.ref r_240), .val (.int (1 : Int32))] []))
  refine own_st (fun u_ k_ => XS.aloadN X248.here hx rfl (hb hby own_d_jdk_52_14_14) rfl rfl k_) ?_
  refine own_st (fun u_ k_ => XS.iload X248.here hx rfl (hb hby own_d_jdk_52_14_15) rfl k_) ?_
  show own_Go p e below _ (T248.setTop (mkF m 17 #[.val (.ref a), .val (.int (1 : Int32)), .val (.int (2 : Int32)), .val (.ref r_240), .val (.int (1 : Int32))] [(.int (1 : Int32)), (.ref r_240)]))
  refine own_st (fun u_ k_ => XS.aloadN X248.here hx rfl (hb hby own_d_jdk_52_14_17) rfl rfl k_) ?_
  refine own_st (fun u_ k_ => XS.iloadN X248.here hx rfl (hb hby own_d_jdk_52_14_18) rfl k_) ?_
  show own_Go p e below _ (T248.setTop (mkF m 19 #[.val (.ref a), .val (.int (1 : Int32)), .val (.int (2 : Int32)), .val (.ref r_240), .val (.int (1 : Int32))] [(.int (1 : Int32)), (.ref a), (.int (1 : Int32)), (.ref r_240)]))
  have ne252 : a ≠ r_240 := (Nat.ne_of_lt (Nat.lt_of_lt_of_le Ea.lt z242))
  have F253 := (F245.keep K248 (ninS ne252 nin0))
  obtain ⟨cl254, Ar254, q254, S254, N254, H254, G254⟩ := id F253
  have hi254 : ¬ ((1 : Int32) < 0 ∨ cl254.slots.size ≤ ((1 : Int32)).toNatClampNeg) := inb_of S254 ⟨by decide, by decide⟩
  have ha254 : cl254.slots[((1 : Int32)).toNatClampNeg]? = some (.int v1) := H254.at hi254 rfl
  refine own_st (X248.caload hx (j := (1 : Int32)) (v := (.int v1)) Ar254.1 (State.isArrayOf_alike hZ.alike Ar254.2.1) Ar254.2.2 hi254 ha254 (g := (mkF m 19 #[.val (.ref a), .val (.int (1 : Int32)), .val (.int (2 : Int32)), .val (.ref r_240), .val (.int (1 : Int32))] [(.int (1 : Int32)), (.ref a), (.int (1 : Int32)), (.ref r_240)])) rfl rfl (hb hby own_d_jdk_52_14_19)) ?_
  show own_Go p e below _ (T248.setTop (mkF m 20 #[.val (.ref a), .val (.int (1 : Int32)), .val (.int (2 : Int32)), .val (.ref r_240), .val (.int (1 : Int32))] [(.int v1), (.int (1 : Int32)), (.ref r_240)]))
  have O256 : Old Z n0 T248.heap := O249.keep K248 (allS g247 all0)
  obtain ⟨T255, v255, L255, X255, hQ255, st255⟩ := own_callS X248 hx hZ (y := own_y_56) hown (own_w hw 116 rfl) (own_w hw 117 rfl) (own_w hw 98 rfl) (own_w hw 118 rfl) own_lm_28 (rmPC2_1 l Z a0 hw [] wcs hS r_240 kr_241 v1 ((v0 >>> ((0 : Int32) &&& 31)).toInt8.toInt32) ((v0 >>> ((8 : Int32) &&& 31)).toInt8.toInt32) (0 : Int32) (0 : Int32) T248.heap n0 O256 F250 g247 F251) rfl own_pd_98 (argsL := [(.ref r_240), (.int (1 : Int32)), (.int v1)]) (rest := []) rfl rfl (g := (mkF m 20 #[.val (.ref a), .val (.int (1 : Int32)), .val (.int (2 : Int32)), .val (.ref r_240), .val (.int (1 : Int32))] [(.int v1), (.int (1 : Int32)), (.ref r_240)])) rfl (by rw [hml]; rfl) rfl (hb hby own_d_jdk_52_14_20) (W := 0) rfl (by decide) (by decide) (by decide) (by decide)
  obtain ⟨rfl, M255, K255, F257, F258⟩ := hQ255
  have N255 := Fr.app N248 M255
  refine own_st (fun u_ k_ => st255 u_ k_) ?_
  show own_Go p e below _ (T255.setTop (mkF m 23 #[.val (.ref a), .val (.int (1 : Int32)), .val (.int (2 : Int32)), .val (.ref r_240), .val (.int (1 : Int32))] []))
  refine own_st (fun u_ k_ => XS.iinc X255.here hx rfl (hb hby own_d_jdk_52_14_23) rfl (l' := #[.val (.ref a), .val (.int (2 : Int32)), .val (.int (2 : Int32)), .val (.ref r_240), .val (.int (1 : Int32))]) rfl k_) ?_
  refine own_st (fun u_ k_ => XS.iinc X255.here hx rfl (hb hby own_d_jdk_52_14_26) rfl (l' := #[.val (.ref a), .val (.int (2 : Int32)), .val (.int (2 : Int32)), .val (.ref r_240), .val (.int (2 : Int32))]) rfl k_) ?_
  show own_Go p e below _ (T255.setTop (mkF m 29 #[.val (.ref a), .val (.int (2 : Int32)), .val (.int (2 : Int32)), .val (.ref r_240), .val (.int (2 : Int32))] []))
  refine own_st (fun u_ k_ => XS.goto X255.here hx rfl (pc0 := 29) (pc' := 8) rfl (hb hby own_d_jdk_52_14_29) (by decide) (by decide) k_) ?_
  refine own_st (fun u_ k_ => XS.iload X255.here hx rfl (hb hby own_d_jdk_52_14_8) rfl k_) ?_
  show own_Go p e below _ (T255.setTop (mkF m 10 #[.val (.ref a), .val (.int (2 : Int32)), .val (.int (2 : Int32)), .val (.ref r_240), .val (.int (2 : Int32))] [(.int (2 : Int32))]))
  refine own_st (fun u_ k_ => XS.iloadN X255.here hx rfl (hb hby own_d_jdk_52_14_10) rfl k_) ?_
  refine own_st (fun u_ k_ => XS.icmpYes X255.here hx rfl (pc0 := 11) (pc' := 32) rfl (hb hby own_d_jdk_52_14_11) rfl (XT.ii_ge_t (by decide)) (by decide) (by decide) k_) ?_
  show own_Go p e below _ (T255.setTop (mkF m 32 #[.val (.ref a), .val (.int (2 : Int32)), .val (.int (2 : Int32)), .val (.ref r_240), .val (.int (2 : Int32))] []))
  refine own_st (fun u_ k_ => XS.aloadN X255.here hx rfl (hb hby own_d_jdk_52_14_32) rfl rfl k_) ?_
  have K259 : Keep h0 T239.heap [] := (Keep.refl h0 []).trans K239 all0
  have z261 : h0.size ≤ r_240 := Nat.le_trans (Nat.le_refl _) z242
  have K260 : Keep h0 T248.heap [] := K259.trans K248 (allS (Or.inr z261) all0)
  have K262 : Keep h0 T255.heap [] := K260.trans K255 (allS (Or.inr z261) all0)
  exact own_retX X255 hx hlk hret rfl (Or.inr (Or.inr (Or.inr (Or.inr ⟨rfl, rfl, rfl⟩)))) (hb hby own_d_jdk_52_14_33) (by decide) (by decide) (show QrmTB2 Z wcs a ka v0 v1 h0 n0 (some (.ref r_240)) T255.heap _ from (by exact ⟨r_240, kr_241, rfl, N255, K262, z261, F257, F258⟩))
theorem own_ef_rmCq2_0 (m : MethodId) (a : Addr)  : entryFrame m #[(.ref a), (.int (0 : Int32)), (.int (2 : Int32))] 6 = mkF m 0 #[.val (.ref a), .val (.int (0 : Int32)), .val (.int (2 : Int32)), .unset, .unset, .unset] [] := by first | (simp [entryFrame, mkF, argsToLocals, Value.category, maxLocals]; done) | rfl
def QrmCq2_0 (Z : State) (wcs : Int32) (a : Addr) (ka : ClassId) (v0 : Int32) (v1 : Int32) (h0 : Heap) (n0 : Nat) (v : Option Value) (h : Heap) (L : List Loc) : Prop := ∃ r : Addr, ∃ kr : ClassId, v = some (.ref r) ∧ Fr n0 L ∧ Keep h0 h [] ∧ h0.size ≤ r ∧ Exa Z h r "[B" ∧ Arv Z h r kr .byte (4 : Int32) [(.int ((v0 >>> ((0 : Int32) &&& 31)).toInt8.toInt32)), (.int ((v0 >>> ((8 : Int32) &&& 31)).toInt8.toInt32)), (.int ((v1 >>> ((0 : Int32) &&& 31)).toInt8.toInt32)), (.int ((v1 >>> ((8 : Int32) &&& 31)).toInt8.toInt32))] (.int (0 : Int32))
set_option maxRecDepth 65536 in
set_option maxHeartbeats 40000000 in
theorem rmCq2_0 (l : Launch) (Z : State) (a0 : Array Value) (hw : own_H a0 Z) (ws : List Jvm.Cond) (wcs : Int32) (hS : own_S Z wcs) (a : Addr) (ka : ClassId) (v0 : Int32) (v1 : Int32) (h0 : Heap) (n0 : Nat) (O0 : Old Z n0 h0) (Ea : Exa Z h0 a "[C") (A1 : Arv Z h0 a ka .char (2 : Int32) [(.int v0), (.int v1)] (.int (0 : Int32))) (hq0 : (255 : Int32) < v0) (hv0 : own_C16 v0) (hv1 : own_C16 v1) :
    own_Met l own_y_134 jdk_52_method_16_code 6 (some (.array .byte)) ws ({ frames := 3, cells := 2, slots := 6, locals := 40 } : Room) Z h0 #[(.ref a), (.int (0 : Int32)), (.int (2 : Int32))] (QrmCq2_0 Z wcs a ka v0 v1 h0 n0) := by
  refine own_body (plainFor_of_name own_pn_15) ?_
  intro p e s m below meth c s₁ hx hby hml hown hnm hret hlk hZ e0 X0
  have N0 := Fr.nil n0
  refine own_st (fun u_ k_ => castTop (own_ef_rmCq2_0 m a) k_) ?_
  show own_Go p e below _ (s₁.setTop (mkF m 0 #[.val (.ref a), .val (.int (0 : Int32)), .val (.int (2 : Int32)), .unset, .unset, .unset] []))
  refine own_st (fun u_ k_ => XS.iloadN X0.here hx rfl (hb hby own_d_jdk_52_16_0) rfl k_) ?_
  obtain ⟨T263, h263, k263, X263, e263, E263, A263, Y263, st263⟩ := newPE X0 hx hZ (own_w hw 16 rfl) e0 (g := (mkF m 1 #[.val (.ref a), .val (.int (0 : Int32)), .val (.int (2 : Int32)), .unset, .unset, .unset] [(.int (2 : Int32))])) rfl (hb hby own_d_jdk_52_16_1) rfl (by decide) (cap := 2) (by decide) (by decide) (by decide) (by decide) (ad := "[B") own_lm_31
  obtain ⟨b263, g263⟩ : ∃ z, z = h0.size := ⟨_, rfl⟩
  rw [← g263] at A263 Y263 st263
  have V263 : Arv Z h263 b263 k263 .byte (2 : Int32) [(.int (0 : Int32)), (.int (0 : Int32))] (.int (0 : Int32)) := (Arv.new A263 (by decide)).pad (pad_rep [] (.int (0 : Int32)) 2)
  refine own_st (fun u_ k_ => st263 u_ k_) ?_
  show own_Go p e below _ (T263.setTop (mkF m 3 #[.val (.ref a), .val (.int (0 : Int32)), .val (.int (2 : Int32)), .unset, .unset, .unset] [(.ref b263)]))
  refine own_st (fun u_ k_ => XS.astoreN X263.here hx rfl (hb hby own_d_jdk_52_16_3) rfl rfl (l' := #[.val (.ref a), .val (.int (0 : Int32)), .val (.int (2 : Int32)), .val (.ref b263), .unset, .unset]) rfl k_) ?_
  refine own_st (fun u_ k_ => XS.aloadN X263.here hx rfl (hb hby own_d_jdk_52_16_4) rfl rfl k_) ?_
  show own_Go p e below _ (T263.setTop (mkF m 5 #[.val (.ref a), .val (.int (0 : Int32)), .val (.int (2 : Int32)), .val (.ref b263), .unset, .unset] [(.ref a)]))
  refine own_st (fun u_ k_ => XS.iloadN X263.here hx rfl (hb hby own_d_jdk_52_16_5) rfl k_) ?_
  refine own_st (fun u_ k_ => XS.aloadN X263.here hx rfl (hb hby own_d_jdk_52_16_6) rfl rfl k_) ?_
  show own_Go p e below _ (T263.setTop (mkF m 7 #[.val (.ref a), .val (.int (0 : Int32)), .val (.int (2 : Int32)), .val (.ref b263), .unset, .unset] [(.ref b263), (.int (0 : Int32)), (.ref a)]))
  refine own_st (fun u_ k_ => XS.iconst X263.here hx rfl (hb hby own_d_jdk_52_16_7) k_) ?_
  refine own_st (fun u_ k_ => XS.iloadN X263.here hx rfl (hb hby own_d_jdk_52_16_8) rfl k_) ?_
  show own_Go p e below _ (T263.setTop (mkF m 9 #[.val (.ref a), .val (.int (0 : Int32)), .val (.int (2 : Int32)), .val (.ref b263), .unset, .unset] [(.int (2 : Int32)), (.int (0 : Int32)), (.ref b263), (.int (0 : Int32)), (.ref a)]))
  have F264 := (Exa.ext E263 Ea)
  have g265 : n0 ≤ b263 := Nat.le_trans (own_nl O0) (Nat.le_of_eq g263.symm)
  have F266 := (A1.ext E263)
  have O268 : Old Z n0 h263 := O0.ext E263
  obtain ⟨T267, v267, L267, X267, hQ267, st267⟩ := own_callS X263 hx hZ (y := own_y_14) hown (own_w hw 100 rfl) (own_w hw 101 rfl) (own_w hw 98 rfl) (own_w hw 102 rfl) own_lm_28 (rmCp2_0 l Z a0 hw [] wcs hS a ka b263 k263 v0 v1 h263 n0 O268 F264 Y263 g265 F266 V263 (by assumption)) e263 own_pd_115 (argsL := [(.ref a), (.int (0 : Int32)), (.ref b263), (.int (0 : Int32)), (.int (2 : Int32))]) (rest := []) rfl rfl (g := (mkF m 9 #[.val (.ref a), .val (.int (0 : Int32)), .val (.int (2 : Int32)), .val (.ref b263), .unset, .unset] [(.int (2 : Int32)), (.int (0 : Int32)), (.ref b263), (.int (0 : Int32)), (.ref a)])) rfl (by rw [hml]; rfl) rfl (hb hby own_d_jdk_52_16_9) (W := 0) rfl (by decide) (by decide) (by decide) (by decide)
  obtain ⟨rfl, M267, K267, F269⟩ := hQ267
  have N267 := Fr.app N0 M267
  refine own_st (fun u_ k_ => st267 u_ k_) ?_
  show own_Go p e below _ (T267.setTop (mkF m 12 #[.val (.ref a), .val (.int (0 : Int32)), .val (.int (2 : Int32)), .val (.ref b263), .unset, .unset] [(.int (0 : Int32))]))
  refine own_st (fun u_ k_ => XS.istore X267.here hx rfl (hb hby own_d_jdk_52_16_12) rfl (l' := #[.val (.ref a), .val (.int (0 : Int32)), .val (.int (2 : Int32)), .val (.ref b263), .val (.int (0 : Int32)), .unset]) rfl k_) ?_
  refine own_st (fun u_ k_ => XS.iload X267.here hx rfl (hb hby own_d_jdk_52_16_14) rfl k_) ?_
  show own_Go p e below _ (T267.setTop (mkF m 16 #[.val (.ref a), .val (.int (0 : Int32)), .val (.int (2 : Int32)), .val (.ref b263), .val (.int (0 : Int32)), .unset] [(.int (0 : Int32))]))
  refine own_st (fun u_ k_ => XS.iloadN X267.here hx rfl (hb hby own_d_jdk_52_16_16) rfl k_) ?_
  refine own_st (fun u_ k_ => XS.icmpNo X267.here hx rfl (hb hby own_d_jdk_52_16_17) rfl (XT.ii_eq_f (by decide)) k_) ?_
  show own_Go p e below _ (T267.setTop (mkF m 20 #[.val (.ref a), .val (.int (0 : Int32)), .val (.int (2 : Int32)), .val (.ref b263), .val (.int (0 : Int32)), .unset] []))
  refine own_st (fun u_ k_ => XS.aloadN X267.here hx rfl (hb hby own_d_jdk_52_16_20) rfl rfl k_) ?_
  refine own_st (fun u_ k_ => XS.iloadN X267.here hx rfl (hb hby own_d_jdk_52_16_21) rfl k_) ?_
  show own_Go p e below _ (T267.setTop (mkF m 22 #[.val (.ref a), .val (.int (0 : Int32)), .val (.int (2 : Int32)), .val (.ref b263), .val (.int (0 : Int32)), .unset] [(.int (0 : Int32)), (.ref a)]))
  refine own_st (fun u_ k_ => XS.iloadN X267.here hx rfl (hb hby own_d_jdk_52_16_22) rfl k_) ?_
  have F270 := (F264.keep K267)
  have ne271 : a ≠ b263 := (Nat.ne_of_lt (Nat.lt_of_lt_of_le Ea.lt (Nat.le_of_eq g263.symm)))
  have F272 := (F266.keep K267 (ninS ne271 nin0))
  have O274 : Old Z n0 T267.heap := O268.keep K267 (allS g265 all0)
  obtain ⟨T273, v273, L273, X273, hQ273, st273⟩ := own_callS X267 hx hZ (y := own_y_104) hown (own_w hw 106 rfl) (own_w hw 107 rfl) (own_w hw 98 rfl) (own_w hw 108 rfl) own_lm_28 (rmTB2 l Z a0 hw [] wcs hS a ka v0 v1 T267.heap n0 O274 F270 F272) rfl own_pd_124 (argsL := [(.ref a), (.int (0 : Int32)), (.int (2 : Int32))]) (rest := []) rfl rfl (g := (mkF m 23 #[.val (.ref a), .val (.int (0 : Int32)), .val (.int (2 : Int32)), .val (.ref b263), .val (.int (0 : Int32)), .unset] [(.int (2 : Int32)), (.int (0 : Int32)), (.ref a)])) rfl (by rw [hml]; rfl) rfl (hb hby own_d_jdk_52_16_23) (W := 0) rfl (by decide) (by decide) (by decide) (by decide)
  obtain ⟨r_275, kr_276, rfl, M273, K273, z277, F278, F279⟩ := hQ273
  have N273 := Fr.app N267 M273
  refine own_st (fun u_ k_ => st273 u_ k_) ?_
  show own_Go p e below _ (T273.setTop (mkF m 26 #[.val (.ref a), .val (.int (0 : Int32)), .val (.int (2 : Int32)), .val (.ref b263), .val (.int (0 : Int32)), .unset] [(.ref r_275)]))
  refine own_st (fun u_ k_ => XS.astore X273.here hx rfl (hb hby own_d_jdk_52_16_26) rfl rfl (l' := #[.val (.ref a), .val (.int (0 : Int32)), .val (.int (2 : Int32)), .val (.ref b263), .val (.int (0 : Int32)), .val (.ref r_275)]) rfl k_) ?_
  refine own_st (fun u_ k_ => XS.aload X273.here hx rfl (hb hby own_d_jdk_52_16_28) rfl rfl k_) ?_
  show own_Go p e below _ (T273.setTop (mkF m 30 #[.val (.ref a), .val (.int (0 : Int32)), .val (.int (2 : Int32)), .val (.ref b263), .val (.int (0 : Int32)), .val (.ref r_275)] [(.ref r_275)]))
  refine own_st (fun u_ k_ => XS.iload X273.here hx rfl (hb hby own_d_jdk_52_16_30) rfl k_) ?_
  have O281 : Old Z n0 T273.heap := O274.keep K273 all0
  obtain ⟨T280, v280, L280, X280, hQ280, st280⟩ := own_callS X273 hx hZ (y := own_y_81) hown (own_w hw 122 rfl) (own_w hw 123 rfl) (own_w hw 98 rfl) (own_w hw 124 rfl) own_lm_28 (rmGC2_0 l Z a0 hw [] wcs hS r_275 kr_276 ((v0 >>> ((0 : Int32) &&& 31)).toInt8.toInt32) ((v0 >>> ((8 : Int32) &&& 31)).toInt8.toInt32) ((v1 >>> ((0 : Int32) &&& 31)).toInt8.toInt32) ((v1 >>> ((8 : Int32) &&& 31)).toInt8.toInt32) T273.heap n0 O281 F279) rfl own_pd_129 (argsL := [(.ref r_275), (.int (0 : Int32))]) (rest := []) rfl rfl (g := (mkF m 32 #[.val (.ref a), .val (.int (0 : Int32)), .val (.int (2 : Int32)), .val (.ref b263), .val (.int (0 : Int32)), .val (.ref r_275)] [(.int (0 : Int32)), (.ref r_275)])) rfl (by rw [hml]; rfl) rfl (hb hby own_d_jdk_52_16_32) (W := 0) rfl (by decide) (by decide) (by decide) (by decide)
  obtain ⟨rfl, M280, e280⟩ := hQ280
  have N280 := Fr.app N273 M280
  refine own_st (fun u_ k_ => st280 u_ k_) ?_
  show own_Go p e below _ (T280.setTop (mkF m 35 #[.val (.ref a), .val (.int (0 : Int32)), .val (.int (2 : Int32)), .val (.ref b263), .val (.int (0 : Int32)), .val (.ref r_275)] [(.int ((((((v0 >>> ((0 : Int32) &&& 31)).toInt8.toInt32) &&& (255 : Int32)) <<< ((0 : Int32) &&& 31)) ||| ((((v0 >>> ((8 : Int32) &&& 31)).toInt8.toInt32) &&& (255 : Int32)) <<< ((8 : Int32) &&& 31))).toUInt32.toUInt16.toUInt32.toInt32))]))
  refine own_st (fun u_ k_ => XS.sipush X280.here hx rfl (hb hby own_d_jdk_52_16_35) k_) ?_
  refine own_st (fun u_ k_ => XS.icmpYes X280.here hx rfl (pc0 := 38) (pc' := 54) rfl (hb hby own_d_jdk_52_16_38) rfl (XT.ii_gt_t (by rw [own_gc _ hv0]; exact hq0)) (by decide) (by decide) k_) ?_
  show own_Go p e below _ (T280.setTop (mkF m 54 #[.val (.ref a), .val (.int (0 : Int32)), .val (.int (2 : Int32)), .val (.ref b263), .val (.int (0 : Int32)), .val (.ref r_275)] []))
  refine own_st (fun u_ k_ => XS.aload X280.here hx rfl (hb hby own_d_jdk_52_16_54) rfl rfl k_) ?_
  have K282 : Keep h0 h263 [] := (Keep.refl h0 []).ext E263
  have z284 : h0.size ≤ b263 := Nat.le_trans (Nat.le_refl _) (Nat.le_of_eq g263.symm)
  have K283 : Keep h0 T267.heap [] := K282.trans K267 (allS (Or.inr z284) all0)
  have K285 : Keep h0 T273.heap [] := K283.trans K273 all0
  have z286 : h0.size ≤ r_275 := Nat.le_trans (Nat.le_trans E263.1 K267.1) z277
  exact own_retX X280 hx hlk hret rfl (Or.inr (Or.inr (Or.inr (Or.inr ⟨rfl, rfl, rfl⟩)))) (hb hby own_d_jdk_52_16_56) (by decide) (by decide) (show QrmCq2_0 Z wcs a ka v0 v1 h0 n0 (some (.ref r_275)) T280.heap _ from (by rw [e280]; exact ⟨r_275, kr_276, rfl, N280, K285, z286, F278, F279⟩))
theorem own_ef_rmCo2_4 (m : MethodId) (b : Addr)  : entryFrame m #[(.ref b), (.int (2 : Int32))] 2 = mkF m 0 #[.val (.ref b), .val (.int (2 : Int32))] [] := by first | (simp [entryFrame, mkF, argsToLocals, Value.category, maxLocals]; done) | rfl
def QrmCo2_4 (Z : State) (wcs : Int32) (b : Addr) (kb : ClassId) (vs : List Value) (h0 : Heap) (n0 : Nat) (v : Option Value) (h : Heap) (L : List Loc) : Prop := v = some (.int (1 : Int32)) ∧ Fr n0 L ∧ h = h0
set_option maxRecDepth 65536 in
set_option maxHeartbeats 40000000 in
theorem rmCo2_4 (l : Launch) (Z : State) (a0 : Array Value) (hw : own_H a0 Z) (ws : List Jvm.Cond) (wcs : Int32) (hS : own_S Z wcs) (b : Addr) (kb : ClassId) (vs : List Value) (h0 : Heap) (n0 : Nat) (O0 : Old Z n0 h0) (A2 : Arv Z h0 b kb .byte (4 : Int32) vs (.int (0 : Int32))) :
    own_Met l own_y_143 jdk_52_method_15_code 2 (some .byte) ws ({ frames := 0, cells := 0, slots := 0, locals := 0 } : Room) Z h0 #[(.ref b), (.int (2 : Int32))] (QrmCo2_4 Z wcs b kb vs h0 n0) := by
  refine own_body (plainFor_of_name own_pn_15) ?_
  intro p e s m below meth c s₁ hx hby hml hown hnm hret hlk hZ e0 X0
  have N0 := Fr.nil n0
  refine own_st (fun u_ k_ => castTop (own_ef_rmCo2_4 m b) k_) ?_
  show own_Go p e below _ (s₁.setTop (mkF m 0 #[.val (.ref b), .val (.int (2 : Int32))] []))
  refine own_st (fun u_ k_ => XS.iloadN X0.here hx rfl (hb hby own_d_jdk_52_15_0) rfl k_) ?_
  refine own_st (fun u_ k_ => XS.aloadN X0.here hx rfl (hb hby own_d_jdk_52_15_1) rfl rfl k_) ?_
  show own_Go p e below _ (s₁.setTop (mkF m 2 #[.val (.ref b), .val (.int (2 : Int32))] [(.ref b), (.int (2 : Int32))]))
  obtain ⟨cl287, Ar287, -, S287, N287, -, -⟩ := id A2
  refine own_st (X0.arraylength hx (by rw [e0]; exact Ar287.1) (State.isArrayOf_alike hZ.alike Ar287.2.1) (g := (mkF m 2 #[.val (.ref b), .val (.int (2 : Int32))] [(.ref b), (.int (2 : Int32))])) rfl rfl (hb hby own_d_jdk_52_15_2)) ?_
  rw [len_of S287 N287]
  show own_Go p e below _ (s₁.setTop (mkF m 3 #[.val (.ref b), .val (.int (2 : Int32))] [(.int (4 : Int32)), (.int (2 : Int32))]))
  refine own_st (fun u_ k_ => XS.isub X0.here hx rfl (hb hby own_d_jdk_52_15_3) rfl k_) ?_
  refine own_st (fun u_ k_ => XS.bipush X0.here hx rfl (hb hby own_d_jdk_52_15_4) k_) ?_
  show own_Go p e below _ (s₁.setTop (mkF m 6 #[.val (.ref b), .val (.int (2 : Int32))] [(.int (31 : Int32)), (.int (-2 : Int32))]))
  refine own_st (fun u_ k_ => XS.iushr X0.here hx rfl (hb hby own_d_jdk_52_15_6) rfl k_) ?_
  refine own_st (fun u_ k_ => XS.i2b X0.here hx rfl (hb hby own_d_jdk_52_15_7) rfl k_) ?_
  show own_Go p e below _ (s₁.setTop (mkF m 8 #[.val (.ref b), .val (.int (2 : Int32))] [(.int (1 : Int32))]))
  exact own_retX X0 hx hlk hret rfl (Or.inl ⟨rfl, by simp, _, rfl⟩) (hb hby own_d_jdk_52_15_8) (by decide) (by decide) (show QrmCo2_4 Z wcs b kb vs h0 n0 (some (.int (1 : Int32))) s₁.heap _ from (by rw [e0]; exact ⟨rfl, N0, rfl⟩))
theorem own_ef_rmS4_2_0 (m : MethodId) (a : Addr) (b : Addr)  : entryFrame m #[(.ref a), (.ref b), (.int (0 : Int32)), (.int (2 : Int32)), .null] 6 = mkF m 0 #[.val (.ref a), .val (.ref b), .val (.int (0 : Int32)), .val (.int (2 : Int32)), .val .null, .unset] [] := by first | (simp [entryFrame, mkF, argsToLocals, Value.category, maxLocals]; done) | rfl
def QrmS4_2_0 (Z : State) (wcs : Int32) (a : Addr) (b : Addr) (kb : ClassId) (v0 : Int32) (v1 : Int32) (h0 : Heap) (n0 : Nat) (v : Option Value) (h : Heap) (L : List Loc) : Prop := ∃ r : Addr, ∃ kr : ClassId, v = none ∧ Fr n0 L ∧ Keep h0 h [a] ∧ h0.size ≤ r ∧ Exa Z h a "java/lang/String" ∧ Fld Z h a "java/lang/String" "value" "[B" (.ref r) ∧ Fld Z h a "java/lang/String" "coder" "B" (.int (1 : Int32)) ∧ Exa Z h r "[B" ∧ Arv Z h r kr .byte (4 : Int32) [(.int ((v0 >>> ((0 : Int32) &&& 31)).toInt8.toInt32)), (.int ((v0 >>> ((8 : Int32) &&& 31)).toInt8.toInt32)), (.int ((v1 >>> ((0 : Int32) &&& 31)).toInt8.toInt32)), (.int ((v1 >>> ((8 : Int32) &&& 31)).toInt8.toInt32))] (.int (0 : Int32))
set_option maxRecDepth 65536 in
set_option maxHeartbeats 40000000 in
theorem rmS4_2_0 (l : Launch) (Z : State) (a0 : Array Value) (hw : own_H a0 Z) (ws : List Jvm.Cond) (wcs : Int32) (hS : own_S Z wcs) (a : Addr) (b : Addr) (kb : ClassId) (v0 : Int32) (v1 : Int32) (h0 : Heap) (n0 : Nat) (O0 : Old Z n0 h0) (E : Exa Z h0 a "java/lang/String") (Ea : Exa Z h0 b "[C") (ga : n0 ≤ a) (F1 : Fld Z h0 a "java/lang/String" "value" "[B" .null) (F2 : Fld Z h0 a "java/lang/String" "coder" "B" (.int (0 : Int32))) (A1 : Arv Z h0 b kb .char (2 : Int32) [(.int v0), (.int v1)] (.int (0 : Int32))) (hq0 : (255 : Int32) < v0) (hv0 : own_C16 v0) (hv1 : own_C16 v1) :
    own_Met l own_y_172 jdk_42_method_149_code 6 none ws ({ frames := 4, cells := 2, slots := 6, locals := 57 } : Room) Z h0 #[(.ref a), (.ref b), (.int (0 : Int32)), (.int (2 : Int32)), .null] (QrmS4_2_0 Z wcs a b kb v0 v1 h0 n0) := by
  refine own_body (plainFor_of_name own_pn_173) ?_
  intro p e s m below meth c s₁ hx hby hml hown hnm hret hlk hZ e0 X0
  have N0 := Fr.nil n0
  refine own_st (fun u_ k_ => castTop (own_ef_rmS4_2_0 m a b) k_) ?_
  show own_Go p e below _ (s₁.setTop (mkF m 0 #[.val (.ref a), .val (.ref b), .val (.int (0 : Int32)), .val (.int (2 : Int32)), .val .null, .unset] []))
  refine own_st (fun u_ k_ => XS.aloadN X0.here hx rfl (hb hby own_d_jdk_42_149_0) rfl rfl k_) ?_
  obtain ⟨T288, X288, e288, st288⟩ := initO X0 hx hZ hown (own_w hw 12 rfl) (own_w hw 13 rfl) (own_w hw 14 rfl) e0 (g := (mkF m 1 #[.val (.ref a), .val (.ref b), .val (.int (0 : Int32)), .val (.int (2 : Int32)), .val .null, .unset] [(.ref a)])) rfl (by rw [hml]; rfl) rfl (hb hby own_d_jdk_42_149_1) (by decide) (W := 0) (by show 2 * 0 + _ ≤ _; exact Nat.le_of_eq rfl) (by decide)
  refine own_st (fun u_ k_ => st288 u_ k_) ?_
  show own_Go p e below _ (T288.setTop (mkF m 4 #[.val (.ref a), .val (.ref b), .val (.int (0 : Int32)), .val (.int (2 : Int32)), .val .null, .unset] []))
  refine own_st (fun u_ k_ => XS.iloadN X288.here hx rfl (hb hby own_d_jdk_42_149_4) rfl k_) ?_
  refine own_st (fun u_ k_ => XS.ifYes X288.here hx rfl (pc0 := 5) (pc' := 27) rfl (hb hby own_d_jdk_42_149_5) rfl (XT.i0_ne_t (by decide)) (by decide) (by decide) k_) ?_
  show own_Go p e below _ (T288.setTop (mkF m 27 #[.val (.ref a), .val (.ref b), .val (.int (0 : Int32)), .val (.int (2 : Int32)), .val .null, .unset] []))
  have F289 := Sta.ext O0.2 hS.1
  obtain ⟨T290, X290, e290, st290⟩ := getS2 X288 hx hZ hown (host := "") (Or.inl (own_w hw 90 rfl)) Via.refl e288 F289 (g := (mkF m 27 #[.val (.ref a), .val (.ref b), .val (.int (0 : Int32)), .val (.int (2 : Int32)), .val .null, .unset] [])) rfl (hb hby own_d_jdk_42_149_27)
  refine own_st (fun u_ k_ => st290 u_ k_) ?_
  show own_Go p e below _ (T290.setTop (mkF m 30 #[.val (.ref a), .val (.ref b), .val (.int (0 : Int32)), .val (.int (2 : Int32)), .val .null, .unset] [(.int wcs)]))
  refine own_st (fun u_ k_ => XS.ifNo X290.here hx rfl (hb hby own_d_jdk_42_149_30) rfl (XT.i0_eq_f hS.2.1) k_) ?_
  refine own_st (fun u_ k_ => XS.aloadN X290.here hx rfl (hb hby own_d_jdk_42_149_33) rfl rfl k_) ?_
  show own_Go p e below _ (T290.setTop (mkF m 34 #[.val (.ref a), .val (.ref b), .val (.int (0 : Int32)), .val (.int (2 : Int32)), .val .null, .unset] [(.ref b)]))
  refine own_st (fun u_ k_ => XS.iloadN X290.here hx rfl (hb hby own_d_jdk_42_149_34) rfl k_) ?_
  refine own_st (fun u_ k_ => XS.iloadN X290.here hx rfl (hb hby own_d_jdk_42_149_35) rfl k_) ?_
  show own_Go p e below _ (T290.setTop (mkF m 36 #[.val (.ref a), .val (.ref b), .val (.int (0 : Int32)), .val (.int (2 : Int32)), .val .null, .unset] [(.int (2 : Int32)), (.int (0 : Int32)), (.ref b)]))
  obtain ⟨T291, v291, L291, X291, hQ291, st291⟩ := own_callS X290 hx hZ (y := own_y_134) hown (own_w hw 96 rfl) (own_w hw 97 rfl) (own_w hw 98 rfl) (own_w hw 99 rfl) own_lm_28 (rmCq2_0 l Z a0 hw [] wcs hS b kb v0 v1 h0 n0 O0 Ea A1 (by assumption) (by assumption) (by assumption)) e290 own_pd_124 (argsL := [(.ref b), (.int (0 : Int32)), (.int (2 : Int32))]) (rest := []) rfl rfl (g := (mkF m 36 #[.val (.ref a), .val (.ref b), .val (.int (0 : Int32)), .val (.int (2 : Int32)), .val .null, .unset] [(.int (2 : Int32)), (.int (0 : Int32)), (.ref b)])) rfl (by rw [hml]; rfl) rfl (hb hby own_d_jdk_42_149_36) (W := 0) rfl (by decide) (by decide) (by decide) (by decide)
  obtain ⟨r_292, kr_293, rfl, M291, K291, z294, F295, F296⟩ := hQ291
  have N291 := Fr.app N0 M291
  refine own_st (fun u_ k_ => st291 u_ k_) ?_
  show own_Go p e below _ (T291.setTop (mkF m 39 #[.val (.ref a), .val (.ref b), .val (.int (0 : Int32)), .val (.int (2 : Int32)), .val .null, .unset] [(.ref r_292)]))
  refine own_st (fun u_ k_ => XS.astore X291.here hx rfl (hb hby own_d_jdk_42_149_39) rfl rfl (l' := #[.val (.ref a), .val (.ref b), .val (.int (0 : Int32)), .val (.int (2 : Int32)), .val .null, .val (.ref r_292)]) rfl k_) ?_
  refine own_st (fun u_ k_ => XS.aloadN X291.here hx rfl (hb hby own_d_jdk_42_149_41) rfl rfl k_) ?_
  show own_Go p e below _ (T291.setTop (mkF m 42 #[.val (.ref a), .val (.ref b), .val (.int (0 : Int32)), .val (.int (2 : Int32)), .val .null, .val (.ref r_292)] [(.ref a)]))
  refine own_st (fun u_ k_ => XS.aload X291.here hx rfl (hb hby own_d_jdk_42_149_42) rfl rfl k_) ?_
  refine own_st (fun u_ k_ => XS.iloadN X291.here hx rfl (hb hby own_d_jdk_42_149_44) rfl k_) ?_
  show own_Go p e below _ (T291.setTop (mkF m 45 #[.val (.ref a), .val (.ref b), .val (.int (0 : Int32)), .val (.int (2 : Int32)), .val .null, .val (.ref r_292)] [(.int (2 : Int32)), (.ref r_292), (.ref a)]))
  have O298 : Old Z n0 T291.heap := O0.keep K291 all0
  obtain ⟨T297, v297, L297, X297, hQ297, st297⟩ := own_callS X291 hx hZ (y := own_y_143) hown (own_w hw 103 rfl) (own_w hw 104 rfl) (own_w hw 98 rfl) (own_w hw 105 rfl) own_lm_28 (rmCo2_4 l Z a0 hw [] wcs hS r_292 kr_293 [(.int ((v0 >>> ((0 : Int32) &&& 31)).toInt8.toInt32)), (.int ((v0 >>> ((8 : Int32) &&& 31)).toInt8.toInt32)), (.int ((v1 >>> ((0 : Int32) &&& 31)).toInt8.toInt32)), (.int ((v1 >>> ((8 : Int32) &&& 31)).toInt8.toInt32))] T291.heap n0 O298 F296) rfl own_pd_160 (argsL := [(.ref r_292), (.int (2 : Int32))]) (rest := [(.ref a)]) rfl rfl (g := (mkF m 45 #[.val (.ref a), .val (.ref b), .val (.int (0 : Int32)), .val (.int (2 : Int32)), .val .null, .val (.ref r_292)] [(.int (2 : Int32)), (.ref r_292), (.ref a)])) rfl (by rw [hml]; rfl) rfl (hb hby own_d_jdk_42_149_45) (W := 1) rfl (by decide) (by decide) (by decide) (by decide)
  obtain ⟨rfl, M297, e297⟩ := hQ297
  have N297 := Fr.app N291 M297
  refine own_st (fun u_ k_ => st297 u_ k_) ?_
  show own_Go p e below _ (T297.setTop (mkF m 48 #[.val (.ref a), .val (.ref b), .val (.int (0 : Int32)), .val (.int (2 : Int32)), .val .null, .val (.ref r_292)] [(.int (1 : Int32)), (.ref a)]))
  have F299 := (E.keep K291)
  have F300 := (F2.keep K291 nin0)
  obtain ⟨T301, h301, X301, e301, W301, st301⟩ := putF X297 hx hZ hown (host := "") (Or.inl (own_w hw 22 rfl)) Via.refl e297 F300 F299 (Or.inr ⟨(own_w hw 18 rfl), rfl, hnm⟩) (own_w hw 2 rfl) (ty := .byte) own_lm_162 rfl rfl (g := (mkF m 48 #[.val (.ref a), .val (.ref b), .val (.int (0 : Int32)), .val (.int (2 : Int32)), .val .null, .val (.ref r_292)] [(.int (1 : Int32)), (.ref a)])) rfl rfl (hb hby own_d_jdk_42_149_48)
  have N301 := Fr.snoc X301 N297 ga
  have F302 : Fld Z h301 a "java/lang/String" "coder" "B" (.int (1 : Int32)) := Fld.same W301 F300
  refine own_st (fun u_ k_ => st301 u_ k_) ?_
  show own_Go p e below _ (T301.setTop (mkF m 51 #[.val (.ref a), .val (.ref b), .val (.int (0 : Int32)), .val (.int (2 : Int32)), .val .null, .val (.ref r_292)] []))
  refine own_st (fun u_ k_ => XS.aloadN X301.here hx rfl (hb hby own_d_jdk_42_149_51) rfl rfl k_) ?_
  refine own_st (fun u_ k_ => XS.aload X301.here hx rfl (hb hby own_d_jdk_42_149_52) rfl rfl k_) ?_
  show own_Go p e below _ (T301.setTop (mkF m 54 #[.val (.ref a), .val (.ref b), .val (.int (0 : Int32)), .val (.int (2 : Int32)), .val .null, .val (.ref r_292)] [(.ref r_292), (.ref a)]))
  have F303 := (Exa.wr W301 F299)
  have F304 := (Fld.other W301 (F1.keep K291 nin0) (Or.inr (own_sn_168 hw)))
  obtain ⟨T305, h305, X305, e305, W305, st305⟩ := putF X301 hx hZ hown (host := "") (Or.inl (own_w hw 21 rfl)) Via.refl e301 F304 F303 (Or.inr ⟨(own_w hw 17 rfl), rfl, hnm⟩) (own_w hw 2 rfl) (ty := (.array .byte)) own_lm_167 rfl rfl (g := (mkF m 54 #[.val (.ref a), .val (.ref b), .val (.int (0 : Int32)), .val (.int (2 : Int32)), .val .null, .val (.ref r_292)] [(.ref r_292), (.ref a)])) rfl rfl (hb hby own_d_jdk_42_149_54)
  have N305 := Fr.snoc X305 N301 ga
  have F306 : Fld Z h305 a "java/lang/String" "value" "[B" (.ref r_292) := Fld.same W305 F304
  refine own_st (fun u_ k_ => st305 u_ k_) ?_
  show own_Go p e below _ (T305.setTop (mkF m 57 #[.val (.ref a), .val (.ref b), .val (.int (0 : Int32)), .val (.int (2 : Int32)), .val .null, .val (.ref r_292)] []))
  have K307 : Keep h0 T291.heap [a] := (Keep.refl h0 [a]).trans K291 all0
  have K308 : Keep h0 h301 [a] := K307.wr W301 (Or.inl (List.mem_of_getElem? (i := 0) rfl))
  have K309 : Keep h0 h305 [a] := K308.wr W305 (Or.inl (List.mem_of_getElem? (i := 0) rfl))
  have z310 : h0.size ≤ r_292 := Nat.le_trans (Nat.le_refl _) z294
  have F311 := (Exa.wr W305 F303)
  have F312 := (Fld.other W305 F302 (Or.inr (own_sn_171 hw)))
  have F313 := (Exa.wr W305 (Exa.wr W301 F295))
  have ne314 : r_292 ≠ a := (Ne.symm (Nat.ne_of_lt (Nat.lt_of_lt_of_le E.lt z294)))
  have F315 := ((F296.other W301 ne314).other W305 ne314)
  exact own_retV X305 hx hlk hret (hb hby own_d_jdk_42_149_57) (by decide) (by decide) (show QrmS4_2_0 Z wcs a b kb v0 v1 h0 n0 none T305.heap _ from (by rw [e305]; exact ⟨r_292, kr_293, rfl, N305, K309, z310, F311, F306, F312, F313, F315⟩))
theorem own_lm_202 : ("[C" : String) ≠ "[B" := by decide +kernel
theorem own_ef_rmCp2_1 (m : MethodId) (a : Addr) (b : Addr)  : entryFrame m #[(.ref a), (.int (0 : Int32)), (.ref b), (.int (0 : Int32)), (.int (2 : Int32))] 7 = mkF m 0 #[.val (.ref a), .val (.int (0 : Int32)), .val (.ref b), .val (.int (0 : Int32)), .val (.int (2 : Int32)), .unset, .unset] [] := by first | (simp [entryFrame, mkF, argsToLocals, Value.category, maxLocals]; done) | rfl
def QrmCp2_1 (Z : State) (wcs : Int32) (a : Addr) (ka : ClassId) (b : Addr) (kb : ClassId) (v0 : Int32) (v1 : Int32) (h0 : Heap) (n0 : Nat) (v : Option Value) (h : Heap) (L : List Loc) : Prop := v = some (.int (1 : Int32)) ∧ Fr n0 L ∧ Keep h0 h [b] ∧ Exa Z h b "[B"
set_option maxRecDepth 65536 in
set_option maxHeartbeats 40000000 in
theorem rmCp2_1 (l : Launch) (Z : State) (a0 : Array Value) (hw : own_H a0 Z) (ws : List Jvm.Cond) (wcs : Int32) (hS : own_S Z wcs) (a : Addr) (ka : ClassId) (b : Addr) (kb : ClassId) (v0 : Int32) (v1 : Int32) (h0 : Heap) (n0 : Nat) (O0 : Old Z n0 h0) (Ea : Exa Z h0 a "[C") (Eb : Exa Z h0 b "[B") (gb : n0 ≤ b) (A1 : Arv Z h0 a ka .char (2 : Int32) [(.int v0), (.int v1)] (.int (0 : Int32))) (A2 : Arv Z h0 b kb .byte (2 : Int32) [(.int (0 : Int32)), (.int (0 : Int32))] (.int (0 : Int32))) (hq0 : ¬ (255 : Int32) < v0) (hq1 : (255 : Int32) < v1) :
    own_Met l own_y_14 jdk_52_method_21_code 7 (some .int) ws ({ frames := 0, cells := 0, slots := 0, locals := 0 } : Room) Z h0 #[(.ref a), (.int (0 : Int32)), (.ref b), (.int (0 : Int32)), (.int (2 : Int32))] (QrmCp2_1 Z wcs a ka b kb v0 v1 h0 n0) := by
  refine own_body (plainFor_of_name own_pn_15) ?_
  intro p e s m below meth c s₁ hx hby hml hown hnm hret hlk hZ e0 X0
  have N0 := Fr.nil n0
  refine own_st (fun u_ k_ => castTop (own_ef_rmCp2_1 m a b) k_) ?_
  show own_Go p e below _ (s₁.setTop (mkF m 0 #[.val (.ref a), .val (.int (0 : Int32)), .val (.ref b), .val (.int (0 : Int32)), .val (.int (2 : Int32)), .unset, .unset] []))
  refine own_st (fun u_ k_ => XS.iconst X0.here hx rfl (hb hby own_d_jdk_52_21_0) k_) ?_
  refine own_st (fun u_ k_ => XS.istore X0.here hx rfl (hb hby own_d_jdk_52_21_1) rfl (l' := #[.val (.ref a), .val (.int (0 : Int32)), .val (.ref b), .val (.int (0 : Int32)), .val (.int (2 : Int32)), .val (.int (0 : Int32)), .unset]) rfl k_) ?_
  show own_Go p e below _ (s₁.setTop (mkF m 3 #[.val (.ref a), .val (.int (0 : Int32)), .val (.ref b), .val (.int (0 : Int32)), .val (.int (2 : Int32)), .val (.int (0 : Int32)), .unset] []))
  refine own_st (fun u_ k_ => XS.iload X0.here hx rfl (hb hby own_d_jdk_52_21_3) rfl k_) ?_
  refine own_st (fun u_ k_ => XS.iload X0.here hx rfl (hb hby own_d_jdk_52_21_5) rfl k_) ?_
  show own_Go p e below _ (s₁.setTop (mkF m 7 #[.val (.ref a), .val (.int (0 : Int32)), .val (.ref b), .val (.int (0 : Int32)), .val (.int (2 : Int32)), .val (.int (0 : Int32)), .unset] [(.int (2 : Int32)), (.int (0 : Int32))]))
  refine own_st (fun u_ k_ => XS.icmpNo X0.here hx rfl (hb hby own_d_jdk_52_21_7) rfl (XT.ii_ge_f (by decide)) k_) ?_
  refine own_st (fun u_ k_ => XS.aloadN X0.here hx rfl (hb hby own_d_jdk_52_21_10) rfl rfl k_) ?_
  show own_Go p e below _ (s₁.setTop (mkF m 11 #[.val (.ref a), .val (.int (0 : Int32)), .val (.ref b), .val (.int (0 : Int32)), .val (.int (2 : Int32)), .val (.int (0 : Int32)), .unset] [(.ref a)]))
  refine own_st (fun u_ k_ => XS.iloadN X0.here hx rfl (hb hby own_d_jdk_52_21_11) rfl k_) ?_
  obtain ⟨cl328, Ar328, q328, S328, N328, H328, G328⟩ := id A1
  have hi328 : ¬ ((0 : Int32) < 0 ∨ cl328.slots.size ≤ ((0 : Int32)).toNatClampNeg) := inb_of S328 ⟨by decide, by decide⟩
  have ha328 : cl328.slots[((0 : Int32)).toNatClampNeg]? = some (.int v0) := H328.at hi328 rfl
  refine own_st (X0.caload hx (j := (0 : Int32)) (v := (.int v0)) (by rw [e0]; exact Ar328.1) (State.isArrayOf_alike hZ.alike Ar328.2.1) Ar328.2.2 hi328 ha328 (g := (mkF m 12 #[.val (.ref a), .val (.int (0 : Int32)), .val (.ref b), .val (.int (0 : Int32)), .val (.int (2 : Int32)), .val (.int (0 : Int32)), .unset] [(.int (0 : Int32)), (.ref a)])) rfl rfl (hb hby own_d_jdk_52_21_12)) ?_
  show own_Go p e below _ (s₁.setTop (mkF m 13 #[.val (.ref a), .val (.int (0 : Int32)), .val (.ref b), .val (.int (0 : Int32)), .val (.int (2 : Int32)), .val (.int (0 : Int32)), .unset] [(.int v0)]))
  refine own_st (fun u_ k_ => XS.istore X0.here hx rfl (hb hby own_d_jdk_52_21_13) rfl (l' := #[.val (.ref a), .val (.int (0 : Int32)), .val (.ref b), .val (.int (0 : Int32)), .val (.int (2 : Int32)), .val (.int (0 : Int32)), .val (.int v0)]) rfl k_) ?_
  show own_Go p e below _ (s₁.setTop (mkF m 15 #[.val (.ref a), .val (.int (0 : Int32)), .val (.ref b), .val (.int (0 : Int32)), .val (.int (2 : Int32)), .val (.int (0 : Int32)), .val (.int v0)] []))
  refine own_st (fun u_ k_ => XS.iload X0.here hx rfl (hb hby own_d_jdk_52_21_15) rfl k_) ?_
  refine own_st (fun u_ k_ => XS.sipush X0.here hx rfl (hb hby own_d_jdk_52_21_17) k_) ?_
  show own_Go p e below _ (s₁.setTop (mkF m 20 #[.val (.ref a), .val (.int (0 : Int32)), .val (.ref b), .val (.int (0 : Int32)), .val (.int (2 : Int32)), .val (.int (0 : Int32)), .val (.int v0)] [(.int (255 : Int32)), (.int v0)]))
  refine own_st (fun u_ k_ => XS.icmpYes X0.here hx rfl (pc0 := 20) (pc' := 26) rfl (hb hby own_d_jdk_52_21_20) rfl (XT.ii_le_t hq0) (by decide) (by decide) k_) ?_
  refine own_st (fun u_ k_ => XS.aloadN X0.here hx rfl (hb hby own_d_jdk_52_21_26) rfl rfl k_) ?_
  show own_Go p e below _ (s₁.setTop (mkF m 27 #[.val (.ref a), .val (.int (0 : Int32)), .val (.ref b), .val (.int (0 : Int32)), .val (.int (2 : Int32)), .val (.int (0 : Int32)), .val (.int v0)] [(.ref b)]))
  refine own_st (fun u_ k_ => XS.iloadN X0.here hx rfl (hb hby own_d_jdk_52_21_27) rfl k_) ?_
  refine own_st (fun u_ k_ => XS.iload X0.here hx rfl (hb hby own_d_jdk_52_21_28) rfl k_) ?_
  show own_Go p e below _ (s₁.setTop (mkF m 30 #[.val (.ref a), .val (.int (0 : Int32)), .val (.ref b), .val (.int (0 : Int32)), .val (.int (2 : Int32)), .val (.int (0 : Int32)), .val (.int v0)] [(.int v0), (.int (0 : Int32)), (.ref b)]))
  refine own_st (fun u_ k_ => XS.i2b X0.here hx rfl (hb hby own_d_jdk_52_21_30) rfl k_) ?_
  obtain ⟨cl329, Ar329, q329, S329, N329, H329, G329⟩ := id A2
  have hi329 : ¬ ((0 : Int32) < 0 ∨ cl329.slots.size ≤ ((0 : Int32)).toNatClampNeg) := inb_of S329 ⟨by decide, by decide⟩
  obtain ⟨T330, h330, X330, e330, W330, st330⟩ := stB X0 hx hZ e0 Ar329 (j := (0 : Int32)) hi329 (g := (mkF m 31 #[.val (.ref a), .val (.int (0 : Int32)), .val (.ref b), .val (.int (0 : Int32)), .val (.int (2 : Int32)), .val (.int (0 : Int32)), .val (.int v0)] [(.int (v0.toInt8.toInt32)), (.int (0 : Int32)), (.ref b)])) rfl rfl (hb hby own_d_jdk_52_21_31)
  rw [own_bb] at W330
  have N330 := Fr.snoc X330 N0 gb
  have V330 : Arv Z h330 b kb .byte (2 : Int32) [(.int (v0.toInt8.toInt32)), (.int (0 : Int32))] (.int (0 : Int32)) := Arv.set Ar329 q329 S329 N329 H329 G329 (fits_nar_byte _) W330 0 rfl (Nat.le_of_ble_eq_true rfl)
  refine own_st (fun u_ k_ => st330 u_ k_) ?_
  show own_Go p e below _ (T330.setTop (mkF m 32 #[.val (.ref a), .val (.int (0 : Int32)), .val (.ref b), .val (.int (0 : Int32)), .val (.int (2 : Int32)), .val (.int (0 : Int32)), .val (.int v0)] []))
  refine own_st (fun u_ k_ => XS.iinc X330.here hx rfl (hb hby own_d_jdk_52_21_32) rfl (l' := #[.val (.ref a), .val (.int (1 : Int32)), .val (.ref b), .val (.int (0 : Int32)), .val (.int (2 : Int32)), .val (.int (0 : Int32)), .val (.int v0)]) rfl k_) ?_
  refine own_st (fun u_ k_ => XS.iinc X330.here hx rfl (hb hby own_d_jdk_52_21_35) rfl (l' := #[.val (.ref a), .val (.int (1 : Int32)), .val (.ref b), .val (.int (1 : Int32)), .val (.int (2 : Int32)), .val (.int (0 : Int32)), .val (.int v0)]) rfl k_) ?_
  show own_Go p e below _ (T330.setTop (mkF m 38 #[.val (.ref a), .val (.int (1 : Int32)), .val (.ref b), .val (.int (1 : Int32)), .val (.int (2 : Int32)), .val (.int (0 : Int32)), .val (.int v0)] []))
  refine own_st (fun u_ k_ => XS.iinc X330.here hx rfl (hb hby own_d_jdk_52_21_38) rfl (l' := #[.val (.ref a), .val (.int (1 : Int32)), .val (.ref b), .val (.int (1 : Int32)), .val (.int (2 : Int32)), .val (.int (1 : Int32)), .val (.int v0)]) rfl k_) ?_
  refine own_st (fun u_ k_ => XS.goto X330.here hx rfl (pc0 := 41) (pc' := 3) rfl (hb hby own_d_jdk_52_21_41) (by decide) (by decide) k_) ?_
  show own_Go p e below _ (T330.setTop (mkF m 3 #[.val (.ref a), .val (.int (1 : Int32)), .val (.ref b), .val (.int (1 : Int32)), .val (.int (2 : Int32)), .val (.int (1 : Int32)), .val (.int v0)] []))
  refine own_st (fun u_ k_ => XS.iload X330.here hx rfl (hb hby own_d_jdk_52_21_3) rfl k_) ?_
  refine own_st (fun u_ k_ => XS.iload X330.here hx rfl (hb hby own_d_jdk_52_21_5) rfl k_) ?_
  show own_Go p e below _ (T330.setTop (mkF m 7 #[.val (.ref a), .val (.int (1 : Int32)), .val (.ref b), .val (.int (1 : Int32)), .val (.int (2 : Int32)), .val (.int (1 : Int32)), .val (.int v0)] [(.int (2 : Int32)), (.int (1 : Int32))]))
  refine own_st (fun u_ k_ => XS.icmpNo X330.here hx rfl (hb hby own_d_jdk_52_21_7) rfl (XT.ii_ge_f (by decide)) k_) ?_
  refine own_st (fun u_ k_ => XS.aloadN X330.here hx rfl (hb hby own_d_jdk_52_21_10) rfl rfl k_) ?_
  show own_Go p e below _ (T330.setTop (mkF m 11 #[.val (.ref a), .val (.int (1 : Int32)), .val (.ref b), .val (.int (1 : Int32)), .val (.int (2 : Int32)), .val (.int (1 : Int32)), .val (.int v0)] [(.ref a)]))
  refine own_st (fun u_ k_ => XS.iloadN X330.here hx rfl (hb hby own_d_jdk_52_21_11) rfl k_) ?_
  have ne331 : a ≠ b := (ne_exa Ea Eb own_lm_202)
  have F332 := (A1.other W330 ne331)
  obtain ⟨cl333, Ar333, q333, S333, N333, H333, G333⟩ := id F332
  have hi333 : ¬ ((1 : Int32) < 0 ∨ cl333.slots.size ≤ ((1 : Int32)).toNatClampNeg) := inb_of S333 ⟨by decide, by decide⟩
  have ha333 : cl333.slots[((1 : Int32)).toNatClampNeg]? = some (.int v1) := H333.at hi333 rfl
  refine own_st (X330.caload hx (j := (1 : Int32)) (v := (.int v1)) (by rw [e330]; exact Ar333.1) (State.isArrayOf_alike hZ.alike Ar333.2.1) Ar333.2.2 hi333 ha333 (g := (mkF m 12 #[.val (.ref a), .val (.int (1 : Int32)), .val (.ref b), .val (.int (1 : Int32)), .val (.int (2 : Int32)), .val (.int (1 : Int32)), .val (.int v0)] [(.int (1 : Int32)), (.ref a)])) rfl rfl (hb hby own_d_jdk_52_21_12)) ?_
  show own_Go p e below _ (T330.setTop (mkF m 13 #[.val (.ref a), .val (.int (1 : Int32)), .val (.ref b), .val (.int (1 : Int32)), .val (.int (2 : Int32)), .val (.int (1 : Int32)), .val (.int v0)] [(.int v1)]))
  refine own_st (fun u_ k_ => XS.istore X330.here hx rfl (hb hby own_d_jdk_52_21_13) rfl (l' := #[.val (.ref a), .val (.int (1 : Int32)), .val (.ref b), .val (.int (1 : Int32)), .val (.int (2 : Int32)), .val (.int (1 : Int32)), .val (.int v1)]) rfl k_) ?_
  show own_Go p e below _ (T330.setTop (mkF m 15 #[.val (.ref a), .val (.int (1 : Int32)), .val (.ref b), .val (.int (1 : Int32)), .val (.int (2 : Int32)), .val (.int (1 : Int32)), .val (.int v1)] []))
  refine own_st (fun u_ k_ => XS.iload X330.here hx rfl (hb hby own_d_jdk_52_21_15) rfl k_) ?_
  refine own_st (fun u_ k_ => XS.sipush X330.here hx rfl (hb hby own_d_jdk_52_21_17) k_) ?_
  show own_Go p e below _ (T330.setTop (mkF m 20 #[.val (.ref a), .val (.int (1 : Int32)), .val (.ref b), .val (.int (1 : Int32)), .val (.int (2 : Int32)), .val (.int (1 : Int32)), .val (.int v1)] [(.int (255 : Int32)), (.int v1)]))
  refine own_st (fun u_ k_ => XS.icmpNo X330.here hx rfl (hb hby own_d_jdk_52_21_20) rfl (XT.ii_le_f hq1) k_) ?_
  refine own_st (fun u_ k_ => XS.iload X330.here hx rfl (hb hby own_d_jdk_52_21_23) rfl k_) ?_
  show own_Go p e below _ (T330.setTop (mkF m 25 #[.val (.ref a), .val (.int (1 : Int32)), .val (.ref b), .val (.int (1 : Int32)), .val (.int (2 : Int32)), .val (.int (1 : Int32)), .val (.int v1)] [(.int (1 : Int32))]))
  have K334 : Keep h0 h330 [b] := (Keep.refl h0 [b]).wr W330 (Or.inl (List.mem_of_getElem? (i := 0) rfl))
  have F335 := (Exa.wr W330 Eb)
  exact own_retX X330 hx hlk hret rfl (Or.inl ⟨rfl, by simp, _, rfl⟩) (hb hby own_d_jdk_52_21_25) (by decide) (by decide) (show QrmCp2_1 Z wcs a ka b kb v0 v1 h0 n0 (some (.int (1 : Int32))) T330.heap _ from (by rw [e330]; exact ⟨rfl, N330, K334, F335⟩))
theorem own_ef_rmCq2_1 (m : MethodId) (a : Addr)  : entryFrame m #[(.ref a), (.int (0 : Int32)), (.int (2 : Int32))] 6 = mkF m 0 #[.val (.ref a), .val (.int (0 : Int32)), .val (.int (2 : Int32)), .unset, .unset, .unset] [] := by first | (simp [entryFrame, mkF, argsToLocals, Value.category, maxLocals]; done) | rfl
def QrmCq2_1 (Z : State) (wcs : Int32) (a : Addr) (ka : ClassId) (v0 : Int32) (v1 : Int32) (h0 : Heap) (n0 : Nat) (v : Option Value) (h : Heap) (L : List Loc) : Prop := ∃ r : Addr, ∃ kr : ClassId, v = some (.ref r) ∧ Fr n0 L ∧ Keep h0 h [] ∧ h0.size ≤ r ∧ Exa Z h r "[B" ∧ Arv Z h r kr .byte (4 : Int32) [(.int ((v0 >>> ((0 : Int32) &&& 31)).toInt8.toInt32)), (.int ((v0 >>> ((8 : Int32) &&& 31)).toInt8.toInt32)), (.int ((v1 >>> ((0 : Int32) &&& 31)).toInt8.toInt32)), (.int ((v1 >>> ((8 : Int32) &&& 31)).toInt8.toInt32))] (.int (0 : Int32))
set_option maxRecDepth 65536 in
set_option maxHeartbeats 40000000 in
theorem rmCq2_1 (l : Launch) (Z : State) (a0 : Array Value) (hw : own_H a0 Z) (ws : List Jvm.Cond) (wcs : Int32) (hS : own_S Z wcs) (a : Addr) (ka : ClassId) (v0 : Int32) (v1 : Int32) (h0 : Heap) (n0 : Nat) (O0 : Old Z n0 h0) (Ea : Exa Z h0 a "[C") (A1 : Arv Z h0 a ka .char (2 : Int32) [(.int v0), (.int v1)] (.int (0 : Int32))) (hq0 : ¬ (255 : Int32) < v0) (hq1 : (255 : Int32) < v1) (hv0 : own_C16 v0) (hv1 : own_C16 v1) :
    own_Met l own_y_134 jdk_52_method_16_code 6 (some (.array .byte)) ws ({ frames := 3, cells := 2, slots := 6, locals := 40 } : Room) Z h0 #[(.ref a), (.int (0 : Int32)), (.int (2 : Int32))] (QrmCq2_1 Z wcs a ka v0 v1 h0 n0) := by
  refine own_body (plainFor_of_name own_pn_15) ?_
  intro p e s m below meth c s₁ hx hby hml hown hnm hret hlk hZ e0 X0
  have N0 := Fr.nil n0
  refine own_st (fun u_ k_ => castTop (own_ef_rmCq2_1 m a) k_) ?_
  show own_Go p e below _ (s₁.setTop (mkF m 0 #[.val (.ref a), .val (.int (0 : Int32)), .val (.int (2 : Int32)), .unset, .unset, .unset] []))
  refine own_st (fun u_ k_ => XS.iloadN X0.here hx rfl (hb hby own_d_jdk_52_16_0) rfl k_) ?_
  obtain ⟨T336, h336, k336, X336, e336, E336, A336, Y336, st336⟩ := newPE X0 hx hZ (own_w hw 16 rfl) e0 (g := (mkF m 1 #[.val (.ref a), .val (.int (0 : Int32)), .val (.int (2 : Int32)), .unset, .unset, .unset] [(.int (2 : Int32))])) rfl (hb hby own_d_jdk_52_16_1) rfl (by decide) (cap := 2) (by decide) (by decide) (by decide) (by decide) (ad := "[B") own_lm_31
  obtain ⟨b336, g336⟩ : ∃ z, z = h0.size := ⟨_, rfl⟩
  rw [← g336] at A336 Y336 st336
  have V336 : Arv Z h336 b336 k336 .byte (2 : Int32) [(.int (0 : Int32)), (.int (0 : Int32))] (.int (0 : Int32)) := (Arv.new A336 (by decide)).pad (pad_rep [] (.int (0 : Int32)) 2)
  refine own_st (fun u_ k_ => st336 u_ k_) ?_
  show own_Go p e below _ (T336.setTop (mkF m 3 #[.val (.ref a), .val (.int (0 : Int32)), .val (.int (2 : Int32)), .unset, .unset, .unset] [(.ref b336)]))
  refine own_st (fun u_ k_ => XS.astoreN X336.here hx rfl (hb hby own_d_jdk_52_16_3) rfl rfl (l' := #[.val (.ref a), .val (.int (0 : Int32)), .val (.int (2 : Int32)), .val (.ref b336), .unset, .unset]) rfl k_) ?_
  refine own_st (fun u_ k_ => XS.aloadN X336.here hx rfl (hb hby own_d_jdk_52_16_4) rfl rfl k_) ?_
  show own_Go p e below _ (T336.setTop (mkF m 5 #[.val (.ref a), .val (.int (0 : Int32)), .val (.int (2 : Int32)), .val (.ref b336), .unset, .unset] [(.ref a)]))
  refine own_st (fun u_ k_ => XS.iloadN X336.here hx rfl (hb hby own_d_jdk_52_16_5) rfl k_) ?_
  refine own_st (fun u_ k_ => XS.aloadN X336.here hx rfl (hb hby own_d_jdk_52_16_6) rfl rfl k_) ?_
  show own_Go p e below _ (T336.setTop (mkF m 7 #[.val (.ref a), .val (.int (0 : Int32)), .val (.int (2 : Int32)), .val (.ref b336), .unset, .unset] [(.ref b336), (.int (0 : Int32)), (.ref a)]))
  refine own_st (fun u_ k_ => XS.iconst X336.here hx rfl (hb hby own_d_jdk_52_16_7) k_) ?_
  refine own_st (fun u_ k_ => XS.iloadN X336.here hx rfl (hb hby own_d_jdk_52_16_8) rfl k_) ?_
  show own_Go p e below _ (T336.setTop (mkF m 9 #[.val (.ref a), .val (.int (0 : Int32)), .val (.int (2 : Int32)), .val (.ref b336), .unset, .unset] [(.int (2 : Int32)), (.int (0 : Int32)), (.ref b336), (.int (0 : Int32)), (.ref a)]))
  have F337 := (Exa.ext E336 Ea)
  have g338 : n0 ≤ b336 := Nat.le_trans (own_nl O0) (Nat.le_of_eq g336.symm)
  have F339 := (A1.ext E336)
  have O341 : Old Z n0 h336 := O0.ext E336
  obtain ⟨T340, v340, L340, X340, hQ340, st340⟩ := own_callS X336 hx hZ (y := own_y_14) hown (own_w hw 100 rfl) (own_w hw 101 rfl) (own_w hw 98 rfl) (own_w hw 102 rfl) own_lm_28 (rmCp2_1 l Z a0 hw [] wcs hS a ka b336 k336 v0 v1 h336 n0 O341 F337 Y336 g338 F339 V336 (by assumption) (by assumption)) e336 own_pd_115 (argsL := [(.ref a), (.int (0 : Int32)), (.ref b336), (.int (0 : Int32)), (.int (2 : Int32))]) (rest := []) rfl rfl (g := (mkF m 9 #[.val (.ref a), .val (.int (0 : Int32)), .val (.int (2 : Int32)), .val (.ref b336), .unset, .unset] [(.int (2 : Int32)), (.int (0 : Int32)), (.ref b336), (.int (0 : Int32)), (.ref a)])) rfl (by rw [hml]; rfl) rfl (hb hby own_d_jdk_52_16_9) (W := 0) rfl (by decide) (by decide) (by decide) (by decide)
  obtain ⟨rfl, M340, K340, F342⟩ := hQ340
  have N340 := Fr.app N0 M340
  refine own_st (fun u_ k_ => st340 u_ k_) ?_
  show own_Go p e below _ (T340.setTop (mkF m 12 #[.val (.ref a), .val (.int (0 : Int32)), .val (.int (2 : Int32)), .val (.ref b336), .unset, .unset] [(.int (1 : Int32))]))
  refine own_st (fun u_ k_ => XS.istore X340.here hx rfl (hb hby own_d_jdk_52_16_12) rfl (l' := #[.val (.ref a), .val (.int (0 : Int32)), .val (.int (2 : Int32)), .val (.ref b336), .val (.int (1 : Int32)), .unset]) rfl k_) ?_
  refine own_st (fun u_ k_ => XS.iload X340.here hx rfl (hb hby own_d_jdk_52_16_14) rfl k_) ?_
  show own_Go p e below _ (T340.setTop (mkF m 16 #[.val (.ref a), .val (.int (0 : Int32)), .val (.int (2 : Int32)), .val (.ref b336), .val (.int (1 : Int32)), .unset] [(.int (1 : Int32))]))
  refine own_st (fun u_ k_ => XS.iloadN X340.here hx rfl (hb hby own_d_jdk_52_16_16) rfl k_) ?_
  refine own_st (fun u_ k_ => XS.icmpNo X340.here hx rfl (hb hby own_d_jdk_52_16_17) rfl (XT.ii_eq_f (by decide)) k_) ?_
  show own_Go p e below _ (T340.setTop (mkF m 20 #[.val (.ref a), .val (.int (0 : Int32)), .val (.int (2 : Int32)), .val (.ref b336), .val (.int (1 : Int32)), .unset] []))
  refine own_st (fun u_ k_ => XS.aloadN X340.here hx rfl (hb hby own_d_jdk_52_16_20) rfl rfl k_) ?_
  refine own_st (fun u_ k_ => XS.iloadN X340.here hx rfl (hb hby own_d_jdk_52_16_21) rfl k_) ?_
  show own_Go p e below _ (T340.setTop (mkF m 22 #[.val (.ref a), .val (.int (0 : Int32)), .val (.int (2 : Int32)), .val (.ref b336), .val (.int (1 : Int32)), .unset] [(.int (0 : Int32)), (.ref a)]))
  refine own_st (fun u_ k_ => XS.iloadN X340.here hx rfl (hb hby own_d_jdk_52_16_22) rfl k_) ?_
  have F343 := (F337.keep K340)
  have ne344 : a ≠ b336 := (Nat.ne_of_lt (Nat.lt_of_lt_of_le Ea.lt (Nat.le_of_eq g336.symm)))
  have F345 := (F339.keep K340 (ninS ne344 nin0))
  have O347 : Old Z n0 T340.heap := O341.keep K340 (allS g338 all0)
  obtain ⟨T346, v346, L346, X346, hQ346, st346⟩ := own_callS X340 hx hZ (y := own_y_104) hown (own_w hw 106 rfl) (own_w hw 107 rfl) (own_w hw 98 rfl) (own_w hw 108 rfl) own_lm_28 (rmTB2 l Z a0 hw [] wcs hS a ka v0 v1 T340.heap n0 O347 F343 F345) rfl own_pd_124 (argsL := [(.ref a), (.int (0 : Int32)), (.int (2 : Int32))]) (rest := []) rfl rfl (g := (mkF m 23 #[.val (.ref a), .val (.int (0 : Int32)), .val (.int (2 : Int32)), .val (.ref b336), .val (.int (1 : Int32)), .unset] [(.int (2 : Int32)), (.int (0 : Int32)), (.ref a)])) rfl (by rw [hml]; rfl) rfl (hb hby own_d_jdk_52_16_23) (W := 0) rfl (by decide) (by decide) (by decide) (by decide)
  obtain ⟨r_348, kr_349, rfl, M346, K346, z350, F351, F352⟩ := hQ346
  have N346 := Fr.app N340 M346
  refine own_st (fun u_ k_ => st346 u_ k_) ?_
  show own_Go p e below _ (T346.setTop (mkF m 26 #[.val (.ref a), .val (.int (0 : Int32)), .val (.int (2 : Int32)), .val (.ref b336), .val (.int (1 : Int32)), .unset] [(.ref r_348)]))
  refine own_st (fun u_ k_ => XS.astore X346.here hx rfl (hb hby own_d_jdk_52_16_26) rfl rfl (l' := #[.val (.ref a), .val (.int (0 : Int32)), .val (.int (2 : Int32)), .val (.ref b336), .val (.int (1 : Int32)), .val (.ref r_348)]) rfl k_) ?_
  refine own_st (fun u_ k_ => XS.aload X346.here hx rfl (hb hby own_d_jdk_52_16_28) rfl rfl k_) ?_
  show own_Go p e below _ (T346.setTop (mkF m 30 #[.val (.ref a), .val (.int (0 : Int32)), .val (.int (2 : Int32)), .val (.ref b336), .val (.int (1 : Int32)), .val (.ref r_348)] [(.ref r_348)]))
  refine own_st (fun u_ k_ => XS.iload X346.here hx rfl (hb hby own_d_jdk_52_16_30) rfl k_) ?_
  have O354 : Old Z n0 T346.heap := O347.keep K346 all0
  obtain ⟨T353, v353, L353, X353, hQ353, st353⟩ := own_callS X346 hx hZ (y := own_y_81) hown (own_w hw 122 rfl) (own_w hw 123 rfl) (own_w hw 98 rfl) (own_w hw 124 rfl) own_lm_28 (rmGC2_1 l Z a0 hw [] wcs hS r_348 kr_349 ((v0 >>> ((0 : Int32) &&& 31)).toInt8.toInt32) ((v0 >>> ((8 : Int32) &&& 31)).toInt8.toInt32) ((v1 >>> ((0 : Int32) &&& 31)).toInt8.toInt32) ((v1 >>> ((8 : Int32) &&& 31)).toInt8.toInt32) T346.heap n0 O354 F352) rfl own_pd_129 (argsL := [(.ref r_348), (.int (1 : Int32))]) (rest := []) rfl rfl (g := (mkF m 32 #[.val (.ref a), .val (.int (0 : Int32)), .val (.int (2 : Int32)), .val (.ref b336), .val (.int (1 : Int32)), .val (.ref r_348)] [(.int (1 : Int32)), (.ref r_348)])) rfl (by rw [hml]; rfl) rfl (hb hby own_d_jdk_52_16_32) (W := 0) rfl (by decide) (by decide) (by decide) (by decide)
  obtain ⟨rfl, M353, e353⟩ := hQ353
  have N353 := Fr.app N346 M353
  refine own_st (fun u_ k_ => st353 u_ k_) ?_
  show own_Go p e below _ (T353.setTop (mkF m 35 #[.val (.ref a), .val (.int (0 : Int32)), .val (.int (2 : Int32)), .val (.ref b336), .val (.int (1 : Int32)), .val (.ref r_348)] [(.int ((((((v1 >>> ((0 : Int32) &&& 31)).toInt8.toInt32) &&& (255 : Int32)) <<< ((0 : Int32) &&& 31)) ||| ((((v1 >>> ((8 : Int32) &&& 31)).toInt8.toInt32) &&& (255 : Int32)) <<< ((8 : Int32) &&& 31))).toUInt32.toUInt16.toUInt32.toInt32))]))
  refine own_st (fun u_ k_ => XS.sipush X353.here hx rfl (hb hby own_d_jdk_52_16_35) k_) ?_
  refine own_st (fun u_ k_ => XS.icmpYes X353.here hx rfl (pc0 := 38) (pc' := 54) rfl (hb hby own_d_jdk_52_16_38) rfl (XT.ii_gt_t (by rw [own_gc _ hv1]; exact hq1)) (by decide) (by decide) k_) ?_
  show own_Go p e below _ (T353.setTop (mkF m 54 #[.val (.ref a), .val (.int (0 : Int32)), .val (.int (2 : Int32)), .val (.ref b336), .val (.int (1 : Int32)), .val (.ref r_348)] []))
  refine own_st (fun u_ k_ => XS.aload X353.here hx rfl (hb hby own_d_jdk_52_16_54) rfl rfl k_) ?_
  have K355 : Keep h0 h336 [] := (Keep.refl h0 []).ext E336
  have z357 : h0.size ≤ b336 := Nat.le_trans (Nat.le_refl _) (Nat.le_of_eq g336.symm)
  have K356 : Keep h0 T340.heap [] := K355.trans K340 (allS (Or.inr z357) all0)
  have K358 : Keep h0 T346.heap [] := K356.trans K346 all0
  have z359 : h0.size ≤ r_348 := Nat.le_trans (Nat.le_trans E336.1 K340.1) z350
  exact own_retX X353 hx hlk hret rfl (Or.inr (Or.inr (Or.inr (Or.inr ⟨rfl, rfl, rfl⟩)))) (hb hby own_d_jdk_52_16_56) (by decide) (by decide) (show QrmCq2_1 Z wcs a ka v0 v1 h0 n0 (some (.ref r_348)) T353.heap _ from (by rw [e353]; exact ⟨r_348, kr_349, rfl, N353, K358, z359, F351, F352⟩))
theorem own_ef_rmS4_2_1 (m : MethodId) (a : Addr) (b : Addr)  : entryFrame m #[(.ref a), (.ref b), (.int (0 : Int32)), (.int (2 : Int32)), .null] 6 = mkF m 0 #[.val (.ref a), .val (.ref b), .val (.int (0 : Int32)), .val (.int (2 : Int32)), .val .null, .unset] [] := by first | (simp [entryFrame, mkF, argsToLocals, Value.category, maxLocals]; done) | rfl
def QrmS4_2_1 (Z : State) (wcs : Int32) (a : Addr) (b : Addr) (kb : ClassId) (v0 : Int32) (v1 : Int32) (h0 : Heap) (n0 : Nat) (v : Option Value) (h : Heap) (L : List Loc) : Prop := ∃ r : Addr, ∃ kr : ClassId, v = none ∧ Fr n0 L ∧ Keep h0 h [a] ∧ h0.size ≤ r ∧ Exa Z h a "java/lang/String" ∧ Fld Z h a "java/lang/String" "value" "[B" (.ref r) ∧ Fld Z h a "java/lang/String" "coder" "B" (.int (1 : Int32)) ∧ Exa Z h r "[B" ∧ Arv Z h r kr .byte (4 : Int32) [(.int ((v0 >>> ((0 : Int32) &&& 31)).toInt8.toInt32)), (.int ((v0 >>> ((8 : Int32) &&& 31)).toInt8.toInt32)), (.int ((v1 >>> ((0 : Int32) &&& 31)).toInt8.toInt32)), (.int ((v1 >>> ((8 : Int32) &&& 31)).toInt8.toInt32))] (.int (0 : Int32))
set_option maxRecDepth 65536 in
set_option maxHeartbeats 40000000 in
theorem rmS4_2_1 (l : Launch) (Z : State) (a0 : Array Value) (hw : own_H a0 Z) (ws : List Jvm.Cond) (wcs : Int32) (hS : own_S Z wcs) (a : Addr) (b : Addr) (kb : ClassId) (v0 : Int32) (v1 : Int32) (h0 : Heap) (n0 : Nat) (O0 : Old Z n0 h0) (E : Exa Z h0 a "java/lang/String") (Ea : Exa Z h0 b "[C") (ga : n0 ≤ a) (F1 : Fld Z h0 a "java/lang/String" "value" "[B" .null) (F2 : Fld Z h0 a "java/lang/String" "coder" "B" (.int (0 : Int32))) (A1 : Arv Z h0 b kb .char (2 : Int32) [(.int v0), (.int v1)] (.int (0 : Int32))) (hq0 : ¬ (255 : Int32) < v0) (hq1 : (255 : Int32) < v1) (hv0 : own_C16 v0) (hv1 : own_C16 v1) :
    own_Met l own_y_172 jdk_42_method_149_code 6 none ws ({ frames := 4, cells := 2, slots := 6, locals := 57 } : Room) Z h0 #[(.ref a), (.ref b), (.int (0 : Int32)), (.int (2 : Int32)), .null] (QrmS4_2_1 Z wcs a b kb v0 v1 h0 n0) := by
  refine own_body (plainFor_of_name own_pn_173) ?_
  intro p e s m below meth c s₁ hx hby hml hown hnm hret hlk hZ e0 X0
  have N0 := Fr.nil n0
  refine own_st (fun u_ k_ => castTop (own_ef_rmS4_2_1 m a b) k_) ?_
  show own_Go p e below _ (s₁.setTop (mkF m 0 #[.val (.ref a), .val (.ref b), .val (.int (0 : Int32)), .val (.int (2 : Int32)), .val .null, .unset] []))
  refine own_st (fun u_ k_ => XS.aloadN X0.here hx rfl (hb hby own_d_jdk_42_149_0) rfl rfl k_) ?_
  obtain ⟨T360, X360, e360, st360⟩ := initO X0 hx hZ hown (own_w hw 12 rfl) (own_w hw 13 rfl) (own_w hw 14 rfl) e0 (g := (mkF m 1 #[.val (.ref a), .val (.ref b), .val (.int (0 : Int32)), .val (.int (2 : Int32)), .val .null, .unset] [(.ref a)])) rfl (by rw [hml]; rfl) rfl (hb hby own_d_jdk_42_149_1) (by decide) (W := 0) (by show 2 * 0 + _ ≤ _; exact Nat.le_of_eq rfl) (by decide)
  refine own_st (fun u_ k_ => st360 u_ k_) ?_
  show own_Go p e below _ (T360.setTop (mkF m 4 #[.val (.ref a), .val (.ref b), .val (.int (0 : Int32)), .val (.int (2 : Int32)), .val .null, .unset] []))
  refine own_st (fun u_ k_ => XS.iloadN X360.here hx rfl (hb hby own_d_jdk_42_149_4) rfl k_) ?_
  refine own_st (fun u_ k_ => XS.ifYes X360.here hx rfl (pc0 := 5) (pc' := 27) rfl (hb hby own_d_jdk_42_149_5) rfl (XT.i0_ne_t (by decide)) (by decide) (by decide) k_) ?_
  show own_Go p e below _ (T360.setTop (mkF m 27 #[.val (.ref a), .val (.ref b), .val (.int (0 : Int32)), .val (.int (2 : Int32)), .val .null, .unset] []))
  have F361 := Sta.ext O0.2 hS.1
  obtain ⟨T362, X362, e362, st362⟩ := getS2 X360 hx hZ hown (host := "") (Or.inl (own_w hw 90 rfl)) Via.refl e360 F361 (g := (mkF m 27 #[.val (.ref a), .val (.ref b), .val (.int (0 : Int32)), .val (.int (2 : Int32)), .val .null, .unset] [])) rfl (hb hby own_d_jdk_42_149_27)
  refine own_st (fun u_ k_ => st362 u_ k_) ?_
  show own_Go p e below _ (T362.setTop (mkF m 30 #[.val (.ref a), .val (.ref b), .val (.int (0 : Int32)), .val (.int (2 : Int32)), .val .null, .unset] [(.int wcs)]))
  refine own_st (fun u_ k_ => XS.ifNo X362.here hx rfl (hb hby own_d_jdk_42_149_30) rfl (XT.i0_eq_f hS.2.1) k_) ?_
  refine own_st (fun u_ k_ => XS.aloadN X362.here hx rfl (hb hby own_d_jdk_42_149_33) rfl rfl k_) ?_
  show own_Go p e below _ (T362.setTop (mkF m 34 #[.val (.ref a), .val (.ref b), .val (.int (0 : Int32)), .val (.int (2 : Int32)), .val .null, .unset] [(.ref b)]))
  refine own_st (fun u_ k_ => XS.iloadN X362.here hx rfl (hb hby own_d_jdk_42_149_34) rfl k_) ?_
  refine own_st (fun u_ k_ => XS.iloadN X362.here hx rfl (hb hby own_d_jdk_42_149_35) rfl k_) ?_
  show own_Go p e below _ (T362.setTop (mkF m 36 #[.val (.ref a), .val (.ref b), .val (.int (0 : Int32)), .val (.int (2 : Int32)), .val .null, .unset] [(.int (2 : Int32)), (.int (0 : Int32)), (.ref b)]))
  obtain ⟨T363, v363, L363, X363, hQ363, st363⟩ := own_callS X362 hx hZ (y := own_y_134) hown (own_w hw 96 rfl) (own_w hw 97 rfl) (own_w hw 98 rfl) (own_w hw 99 rfl) own_lm_28 (rmCq2_1 l Z a0 hw [] wcs hS b kb v0 v1 h0 n0 O0 Ea A1 (by assumption) (by assumption) (by assumption) (by assumption)) e362 own_pd_124 (argsL := [(.ref b), (.int (0 : Int32)), (.int (2 : Int32))]) (rest := []) rfl rfl (g := (mkF m 36 #[.val (.ref a), .val (.ref b), .val (.int (0 : Int32)), .val (.int (2 : Int32)), .val .null, .unset] [(.int (2 : Int32)), (.int (0 : Int32)), (.ref b)])) rfl (by rw [hml]; rfl) rfl (hb hby own_d_jdk_42_149_36) (W := 0) rfl (by decide) (by decide) (by decide) (by decide)
  obtain ⟨r_364, kr_365, rfl, M363, K363, z366, F367, F368⟩ := hQ363
  have N363 := Fr.app N0 M363
  refine own_st (fun u_ k_ => st363 u_ k_) ?_
  show own_Go p e below _ (T363.setTop (mkF m 39 #[.val (.ref a), .val (.ref b), .val (.int (0 : Int32)), .val (.int (2 : Int32)), .val .null, .unset] [(.ref r_364)]))
  refine own_st (fun u_ k_ => XS.astore X363.here hx rfl (hb hby own_d_jdk_42_149_39) rfl rfl (l' := #[.val (.ref a), .val (.ref b), .val (.int (0 : Int32)), .val (.int (2 : Int32)), .val .null, .val (.ref r_364)]) rfl k_) ?_
  refine own_st (fun u_ k_ => XS.aloadN X363.here hx rfl (hb hby own_d_jdk_42_149_41) rfl rfl k_) ?_
  show own_Go p e below _ (T363.setTop (mkF m 42 #[.val (.ref a), .val (.ref b), .val (.int (0 : Int32)), .val (.int (2 : Int32)), .val .null, .val (.ref r_364)] [(.ref a)]))
  refine own_st (fun u_ k_ => XS.aload X363.here hx rfl (hb hby own_d_jdk_42_149_42) rfl rfl k_) ?_
  refine own_st (fun u_ k_ => XS.iloadN X363.here hx rfl (hb hby own_d_jdk_42_149_44) rfl k_) ?_
  show own_Go p e below _ (T363.setTop (mkF m 45 #[.val (.ref a), .val (.ref b), .val (.int (0 : Int32)), .val (.int (2 : Int32)), .val .null, .val (.ref r_364)] [(.int (2 : Int32)), (.ref r_364), (.ref a)]))
  have O370 : Old Z n0 T363.heap := O0.keep K363 all0
  obtain ⟨T369, v369, L369, X369, hQ369, st369⟩ := own_callS X363 hx hZ (y := own_y_143) hown (own_w hw 103 rfl) (own_w hw 104 rfl) (own_w hw 98 rfl) (own_w hw 105 rfl) own_lm_28 (rmCo2_4 l Z a0 hw [] wcs hS r_364 kr_365 [(.int ((v0 >>> ((0 : Int32) &&& 31)).toInt8.toInt32)), (.int ((v0 >>> ((8 : Int32) &&& 31)).toInt8.toInt32)), (.int ((v1 >>> ((0 : Int32) &&& 31)).toInt8.toInt32)), (.int ((v1 >>> ((8 : Int32) &&& 31)).toInt8.toInt32))] T363.heap n0 O370 F368) rfl own_pd_160 (argsL := [(.ref r_364), (.int (2 : Int32))]) (rest := [(.ref a)]) rfl rfl (g := (mkF m 45 #[.val (.ref a), .val (.ref b), .val (.int (0 : Int32)), .val (.int (2 : Int32)), .val .null, .val (.ref r_364)] [(.int (2 : Int32)), (.ref r_364), (.ref a)])) rfl (by rw [hml]; rfl) rfl (hb hby own_d_jdk_42_149_45) (W := 1) rfl (by decide) (by decide) (by decide) (by decide)
  obtain ⟨rfl, M369, e369⟩ := hQ369
  have N369 := Fr.app N363 M369
  refine own_st (fun u_ k_ => st369 u_ k_) ?_
  show own_Go p e below _ (T369.setTop (mkF m 48 #[.val (.ref a), .val (.ref b), .val (.int (0 : Int32)), .val (.int (2 : Int32)), .val .null, .val (.ref r_364)] [(.int (1 : Int32)), (.ref a)]))
  have F371 := (E.keep K363)
  have F372 := (F2.keep K363 nin0)
  obtain ⟨T373, h373, X373, e373, W373, st373⟩ := putF X369 hx hZ hown (host := "") (Or.inl (own_w hw 22 rfl)) Via.refl e369 F372 F371 (Or.inr ⟨(own_w hw 18 rfl), rfl, hnm⟩) (own_w hw 2 rfl) (ty := .byte) own_lm_162 rfl rfl (g := (mkF m 48 #[.val (.ref a), .val (.ref b), .val (.int (0 : Int32)), .val (.int (2 : Int32)), .val .null, .val (.ref r_364)] [(.int (1 : Int32)), (.ref a)])) rfl rfl (hb hby own_d_jdk_42_149_48)
  have N373 := Fr.snoc X373 N369 ga
  have F374 : Fld Z h373 a "java/lang/String" "coder" "B" (.int (1 : Int32)) := Fld.same W373 F372
  refine own_st (fun u_ k_ => st373 u_ k_) ?_
  show own_Go p e below _ (T373.setTop (mkF m 51 #[.val (.ref a), .val (.ref b), .val (.int (0 : Int32)), .val (.int (2 : Int32)), .val .null, .val (.ref r_364)] []))
  refine own_st (fun u_ k_ => XS.aloadN X373.here hx rfl (hb hby own_d_jdk_42_149_51) rfl rfl k_) ?_
  refine own_st (fun u_ k_ => XS.aload X373.here hx rfl (hb hby own_d_jdk_42_149_52) rfl rfl k_) ?_
  show own_Go p e below _ (T373.setTop (mkF m 54 #[.val (.ref a), .val (.ref b), .val (.int (0 : Int32)), .val (.int (2 : Int32)), .val .null, .val (.ref r_364)] [(.ref r_364), (.ref a)]))
  have F375 := (Exa.wr W373 F371)
  have F376 := (Fld.other W373 (F1.keep K363 nin0) (Or.inr (own_sn_168 hw)))
  obtain ⟨T377, h377, X377, e377, W377, st377⟩ := putF X373 hx hZ hown (host := "") (Or.inl (own_w hw 21 rfl)) Via.refl e373 F376 F375 (Or.inr ⟨(own_w hw 17 rfl), rfl, hnm⟩) (own_w hw 2 rfl) (ty := (.array .byte)) own_lm_167 rfl rfl (g := (mkF m 54 #[.val (.ref a), .val (.ref b), .val (.int (0 : Int32)), .val (.int (2 : Int32)), .val .null, .val (.ref r_364)] [(.ref r_364), (.ref a)])) rfl rfl (hb hby own_d_jdk_42_149_54)
  have N377 := Fr.snoc X377 N373 ga
  have F378 : Fld Z h377 a "java/lang/String" "value" "[B" (.ref r_364) := Fld.same W377 F376
  refine own_st (fun u_ k_ => st377 u_ k_) ?_
  show own_Go p e below _ (T377.setTop (mkF m 57 #[.val (.ref a), .val (.ref b), .val (.int (0 : Int32)), .val (.int (2 : Int32)), .val .null, .val (.ref r_364)] []))
  have K379 : Keep h0 T363.heap [a] := (Keep.refl h0 [a]).trans K363 all0
  have K380 : Keep h0 h373 [a] := K379.wr W373 (Or.inl (List.mem_of_getElem? (i := 0) rfl))
  have K381 : Keep h0 h377 [a] := K380.wr W377 (Or.inl (List.mem_of_getElem? (i := 0) rfl))
  have z382 : h0.size ≤ r_364 := Nat.le_trans (Nat.le_refl _) z366
  have F383 := (Exa.wr W377 F375)
  have F384 := (Fld.other W377 F374 (Or.inr (own_sn_171 hw)))
  have F385 := (Exa.wr W377 (Exa.wr W373 F367))
  have ne386 : r_364 ≠ a := (Ne.symm (Nat.ne_of_lt (Nat.lt_of_lt_of_le E.lt z366)))
  have F387 := ((F368.other W373 ne386).other W377 ne386)
  exact own_retV X377 hx hlk hret (hb hby own_d_jdk_42_149_57) (by decide) (by decide) (show QrmS4_2_1 Z wcs a b kb v0 v1 h0 n0 none T377.heap _ from (by rw [e377]; exact ⟨r_364, kr_365, rfl, N377, K381, z382, F383, F378, F384, F385, F387⟩))
theorem own_ef_rmCp2_2 (m : MethodId) (a : Addr) (b : Addr)  : entryFrame m #[(.ref a), (.int (0 : Int32)), (.ref b), (.int (0 : Int32)), (.int (2 : Int32))] 7 = mkF m 0 #[.val (.ref a), .val (.int (0 : Int32)), .val (.ref b), .val (.int (0 : Int32)), .val (.int (2 : Int32)), .unset, .unset] [] := by first | (simp [entryFrame, mkF, argsToLocals, Value.category, maxLocals]; done) | rfl
def QrmCp2_2 (Z : State) (wcs : Int32) (a : Addr) (ka : ClassId) (b : Addr) (kb : ClassId) (v0 : Int32) (v1 : Int32) (h0 : Heap) (n0 : Nat) (v : Option Value) (h : Heap) (L : List Loc) : Prop := v = some (.int (2 : Int32)) ∧ Fr n0 L ∧ Keep h0 h [b] ∧ Exa Z h b "[B" ∧ Arv Z h b kb .byte (2 : Int32) [(.int (v0.toInt8.toInt32)), (.int (v1.toInt8.toInt32))] (.int (0 : Int32))
set_option maxRecDepth 65536 in
set_option maxHeartbeats 40000000 in
theorem rmCp2_2 (l : Launch) (Z : State) (a0 : Array Value) (hw : own_H a0 Z) (ws : List Jvm.Cond) (wcs : Int32) (hS : own_S Z wcs) (a : Addr) (ka : ClassId) (b : Addr) (kb : ClassId) (v0 : Int32) (v1 : Int32) (h0 : Heap) (n0 : Nat) (O0 : Old Z n0 h0) (Ea : Exa Z h0 a "[C") (Eb : Exa Z h0 b "[B") (gb : n0 ≤ b) (A1 : Arv Z h0 a ka .char (2 : Int32) [(.int v0), (.int v1)] (.int (0 : Int32))) (A2 : Arv Z h0 b kb .byte (2 : Int32) [(.int (0 : Int32)), (.int (0 : Int32))] (.int (0 : Int32))) (hq0 : ¬ (255 : Int32) < v0) (hq1 : ¬ (255 : Int32) < v1) :
    own_Met l own_y_14 jdk_52_method_21_code 7 (some .int) ws ({ frames := 0, cells := 0, slots := 0, locals := 0 } : Room) Z h0 #[(.ref a), (.int (0 : Int32)), (.ref b), (.int (0 : Int32)), (.int (2 : Int32))] (QrmCp2_2 Z wcs a ka b kb v0 v1 h0 n0) := by
  refine own_body (plainFor_of_name own_pn_15) ?_
  intro p e s m below meth c s₁ hx hby hml hown hnm hret hlk hZ e0 X0
  have N0 := Fr.nil n0
  refine own_st (fun u_ k_ => castTop (own_ef_rmCp2_2 m a b) k_) ?_
  show own_Go p e below _ (s₁.setTop (mkF m 0 #[.val (.ref a), .val (.int (0 : Int32)), .val (.ref b), .val (.int (0 : Int32)), .val (.int (2 : Int32)), .unset, .unset] []))
  refine own_st (fun u_ k_ => XS.iconst X0.here hx rfl (hb hby own_d_jdk_52_21_0) k_) ?_
  refine own_st (fun u_ k_ => XS.istore X0.here hx rfl (hb hby own_d_jdk_52_21_1) rfl (l' := #[.val (.ref a), .val (.int (0 : Int32)), .val (.ref b), .val (.int (0 : Int32)), .val (.int (2 : Int32)), .val (.int (0 : Int32)), .unset]) rfl k_) ?_
  show own_Go p e below _ (s₁.setTop (mkF m 3 #[.val (.ref a), .val (.int (0 : Int32)), .val (.ref b), .val (.int (0 : Int32)), .val (.int (2 : Int32)), .val (.int (0 : Int32)), .unset] []))
  refine own_st (fun u_ k_ => XS.iload X0.here hx rfl (hb hby own_d_jdk_52_21_3) rfl k_) ?_
  refine own_st (fun u_ k_ => XS.iload X0.here hx rfl (hb hby own_d_jdk_52_21_5) rfl k_) ?_
  show own_Go p e below _ (s₁.setTop (mkF m 7 #[.val (.ref a), .val (.int (0 : Int32)), .val (.ref b), .val (.int (0 : Int32)), .val (.int (2 : Int32)), .val (.int (0 : Int32)), .unset] [(.int (2 : Int32)), (.int (0 : Int32))]))
  refine own_st (fun u_ k_ => XS.icmpNo X0.here hx rfl (hb hby own_d_jdk_52_21_7) rfl (XT.ii_ge_f (by decide)) k_) ?_
  refine own_st (fun u_ k_ => XS.aloadN X0.here hx rfl (hb hby own_d_jdk_52_21_10) rfl rfl k_) ?_
  show own_Go p e below _ (s₁.setTop (mkF m 11 #[.val (.ref a), .val (.int (0 : Int32)), .val (.ref b), .val (.int (0 : Int32)), .val (.int (2 : Int32)), .val (.int (0 : Int32)), .unset] [(.ref a)]))
  refine own_st (fun u_ k_ => XS.iloadN X0.here hx rfl (hb hby own_d_jdk_52_21_11) rfl k_) ?_
  obtain ⟨cl400, Ar400, q400, S400, N400, H400, G400⟩ := id A1
  have hi400 : ¬ ((0 : Int32) < 0 ∨ cl400.slots.size ≤ ((0 : Int32)).toNatClampNeg) := inb_of S400 ⟨by decide, by decide⟩
  have ha400 : cl400.slots[((0 : Int32)).toNatClampNeg]? = some (.int v0) := H400.at hi400 rfl
  refine own_st (X0.caload hx (j := (0 : Int32)) (v := (.int v0)) (by rw [e0]; exact Ar400.1) (State.isArrayOf_alike hZ.alike Ar400.2.1) Ar400.2.2 hi400 ha400 (g := (mkF m 12 #[.val (.ref a), .val (.int (0 : Int32)), .val (.ref b), .val (.int (0 : Int32)), .val (.int (2 : Int32)), .val (.int (0 : Int32)), .unset] [(.int (0 : Int32)), (.ref a)])) rfl rfl (hb hby own_d_jdk_52_21_12)) ?_
  show own_Go p e below _ (s₁.setTop (mkF m 13 #[.val (.ref a), .val (.int (0 : Int32)), .val (.ref b), .val (.int (0 : Int32)), .val (.int (2 : Int32)), .val (.int (0 : Int32)), .unset] [(.int v0)]))
  refine own_st (fun u_ k_ => XS.istore X0.here hx rfl (hb hby own_d_jdk_52_21_13) rfl (l' := #[.val (.ref a), .val (.int (0 : Int32)), .val (.ref b), .val (.int (0 : Int32)), .val (.int (2 : Int32)), .val (.int (0 : Int32)), .val (.int v0)]) rfl k_) ?_
  show own_Go p e below _ (s₁.setTop (mkF m 15 #[.val (.ref a), .val (.int (0 : Int32)), .val (.ref b), .val (.int (0 : Int32)), .val (.int (2 : Int32)), .val (.int (0 : Int32)), .val (.int v0)] []))
  refine own_st (fun u_ k_ => XS.iload X0.here hx rfl (hb hby own_d_jdk_52_21_15) rfl k_) ?_
  refine own_st (fun u_ k_ => XS.sipush X0.here hx rfl (hb hby own_d_jdk_52_21_17) k_) ?_
  show own_Go p e below _ (s₁.setTop (mkF m 20 #[.val (.ref a), .val (.int (0 : Int32)), .val (.ref b), .val (.int (0 : Int32)), .val (.int (2 : Int32)), .val (.int (0 : Int32)), .val (.int v0)] [(.int (255 : Int32)), (.int v0)]))
  refine own_st (fun u_ k_ => XS.icmpYes X0.here hx rfl (pc0 := 20) (pc' := 26) rfl (hb hby own_d_jdk_52_21_20) rfl (XT.ii_le_t hq0) (by decide) (by decide) k_) ?_
  refine own_st (fun u_ k_ => XS.aloadN X0.here hx rfl (hb hby own_d_jdk_52_21_26) rfl rfl k_) ?_
  show own_Go p e below _ (s₁.setTop (mkF m 27 #[.val (.ref a), .val (.int (0 : Int32)), .val (.ref b), .val (.int (0 : Int32)), .val (.int (2 : Int32)), .val (.int (0 : Int32)), .val (.int v0)] [(.ref b)]))
  refine own_st (fun u_ k_ => XS.iloadN X0.here hx rfl (hb hby own_d_jdk_52_21_27) rfl k_) ?_
  refine own_st (fun u_ k_ => XS.iload X0.here hx rfl (hb hby own_d_jdk_52_21_28) rfl k_) ?_
  show own_Go p e below _ (s₁.setTop (mkF m 30 #[.val (.ref a), .val (.int (0 : Int32)), .val (.ref b), .val (.int (0 : Int32)), .val (.int (2 : Int32)), .val (.int (0 : Int32)), .val (.int v0)] [(.int v0), (.int (0 : Int32)), (.ref b)]))
  refine own_st (fun u_ k_ => XS.i2b X0.here hx rfl (hb hby own_d_jdk_52_21_30) rfl k_) ?_
  obtain ⟨cl401, Ar401, q401, S401, N401, H401, G401⟩ := id A2
  have hi401 : ¬ ((0 : Int32) < 0 ∨ cl401.slots.size ≤ ((0 : Int32)).toNatClampNeg) := inb_of S401 ⟨by decide, by decide⟩
  obtain ⟨T402, h402, X402, e402, W402, st402⟩ := stB X0 hx hZ e0 Ar401 (j := (0 : Int32)) hi401 (g := (mkF m 31 #[.val (.ref a), .val (.int (0 : Int32)), .val (.ref b), .val (.int (0 : Int32)), .val (.int (2 : Int32)), .val (.int (0 : Int32)), .val (.int v0)] [(.int (v0.toInt8.toInt32)), (.int (0 : Int32)), (.ref b)])) rfl rfl (hb hby own_d_jdk_52_21_31)
  rw [own_bb] at W402
  have N402 := Fr.snoc X402 N0 gb
  have V402 : Arv Z h402 b kb .byte (2 : Int32) [(.int (v0.toInt8.toInt32)), (.int (0 : Int32))] (.int (0 : Int32)) := Arv.set Ar401 q401 S401 N401 H401 G401 (fits_nar_byte _) W402 0 rfl (Nat.le_of_ble_eq_true rfl)
  refine own_st (fun u_ k_ => st402 u_ k_) ?_
  show own_Go p e below _ (T402.setTop (mkF m 32 #[.val (.ref a), .val (.int (0 : Int32)), .val (.ref b), .val (.int (0 : Int32)), .val (.int (2 : Int32)), .val (.int (0 : Int32)), .val (.int v0)] []))
  refine own_st (fun u_ k_ => XS.iinc X402.here hx rfl (hb hby own_d_jdk_52_21_32) rfl (l' := #[.val (.ref a), .val (.int (1 : Int32)), .val (.ref b), .val (.int (0 : Int32)), .val (.int (2 : Int32)), .val (.int (0 : Int32)), .val (.int v0)]) rfl k_) ?_
  refine own_st (fun u_ k_ => XS.iinc X402.here hx rfl (hb hby own_d_jdk_52_21_35) rfl (l' := #[.val (.ref a), .val (.int (1 : Int32)), .val (.ref b), .val (.int (1 : Int32)), .val (.int (2 : Int32)), .val (.int (0 : Int32)), .val (.int v0)]) rfl k_) ?_
  show own_Go p e below _ (T402.setTop (mkF m 38 #[.val (.ref a), .val (.int (1 : Int32)), .val (.ref b), .val (.int (1 : Int32)), .val (.int (2 : Int32)), .val (.int (0 : Int32)), .val (.int v0)] []))
  refine own_st (fun u_ k_ => XS.iinc X402.here hx rfl (hb hby own_d_jdk_52_21_38) rfl (l' := #[.val (.ref a), .val (.int (1 : Int32)), .val (.ref b), .val (.int (1 : Int32)), .val (.int (2 : Int32)), .val (.int (1 : Int32)), .val (.int v0)]) rfl k_) ?_
  refine own_st (fun u_ k_ => XS.goto X402.here hx rfl (pc0 := 41) (pc' := 3) rfl (hb hby own_d_jdk_52_21_41) (by decide) (by decide) k_) ?_
  show own_Go p e below _ (T402.setTop (mkF m 3 #[.val (.ref a), .val (.int (1 : Int32)), .val (.ref b), .val (.int (1 : Int32)), .val (.int (2 : Int32)), .val (.int (1 : Int32)), .val (.int v0)] []))
  refine own_st (fun u_ k_ => XS.iload X402.here hx rfl (hb hby own_d_jdk_52_21_3) rfl k_) ?_
  refine own_st (fun u_ k_ => XS.iload X402.here hx rfl (hb hby own_d_jdk_52_21_5) rfl k_) ?_
  show own_Go p e below _ (T402.setTop (mkF m 7 #[.val (.ref a), .val (.int (1 : Int32)), .val (.ref b), .val (.int (1 : Int32)), .val (.int (2 : Int32)), .val (.int (1 : Int32)), .val (.int v0)] [(.int (2 : Int32)), (.int (1 : Int32))]))
  refine own_st (fun u_ k_ => XS.icmpNo X402.here hx rfl (hb hby own_d_jdk_52_21_7) rfl (XT.ii_ge_f (by decide)) k_) ?_
  refine own_st (fun u_ k_ => XS.aloadN X402.here hx rfl (hb hby own_d_jdk_52_21_10) rfl rfl k_) ?_
  show own_Go p e below _ (T402.setTop (mkF m 11 #[.val (.ref a), .val (.int (1 : Int32)), .val (.ref b), .val (.int (1 : Int32)), .val (.int (2 : Int32)), .val (.int (1 : Int32)), .val (.int v0)] [(.ref a)]))
  refine own_st (fun u_ k_ => XS.iloadN X402.here hx rfl (hb hby own_d_jdk_52_21_11) rfl k_) ?_
  have ne403 : a ≠ b := (ne_exa Ea Eb own_lm_202)
  have F404 := (A1.other W402 ne403)
  obtain ⟨cl405, Ar405, q405, S405, N405, H405, G405⟩ := id F404
  have hi405 : ¬ ((1 : Int32) < 0 ∨ cl405.slots.size ≤ ((1 : Int32)).toNatClampNeg) := inb_of S405 ⟨by decide, by decide⟩
  have ha405 : cl405.slots[((1 : Int32)).toNatClampNeg]? = some (.int v1) := H405.at hi405 rfl
  refine own_st (X402.caload hx (j := (1 : Int32)) (v := (.int v1)) (by rw [e402]; exact Ar405.1) (State.isArrayOf_alike hZ.alike Ar405.2.1) Ar405.2.2 hi405 ha405 (g := (mkF m 12 #[.val (.ref a), .val (.int (1 : Int32)), .val (.ref b), .val (.int (1 : Int32)), .val (.int (2 : Int32)), .val (.int (1 : Int32)), .val (.int v0)] [(.int (1 : Int32)), (.ref a)])) rfl rfl (hb hby own_d_jdk_52_21_12)) ?_
  show own_Go p e below _ (T402.setTop (mkF m 13 #[.val (.ref a), .val (.int (1 : Int32)), .val (.ref b), .val (.int (1 : Int32)), .val (.int (2 : Int32)), .val (.int (1 : Int32)), .val (.int v0)] [(.int v1)]))
  refine own_st (fun u_ k_ => XS.istore X402.here hx rfl (hb hby own_d_jdk_52_21_13) rfl (l' := #[.val (.ref a), .val (.int (1 : Int32)), .val (.ref b), .val (.int (1 : Int32)), .val (.int (2 : Int32)), .val (.int (1 : Int32)), .val (.int v1)]) rfl k_) ?_
  show own_Go p e below _ (T402.setTop (mkF m 15 #[.val (.ref a), .val (.int (1 : Int32)), .val (.ref b), .val (.int (1 : Int32)), .val (.int (2 : Int32)), .val (.int (1 : Int32)), .val (.int v1)] []))
  refine own_st (fun u_ k_ => XS.iload X402.here hx rfl (hb hby own_d_jdk_52_21_15) rfl k_) ?_
  refine own_st (fun u_ k_ => XS.sipush X402.here hx rfl (hb hby own_d_jdk_52_21_17) k_) ?_
  show own_Go p e below _ (T402.setTop (mkF m 20 #[.val (.ref a), .val (.int (1 : Int32)), .val (.ref b), .val (.int (1 : Int32)), .val (.int (2 : Int32)), .val (.int (1 : Int32)), .val (.int v1)] [(.int (255 : Int32)), (.int v1)]))
  refine own_st (fun u_ k_ => XS.icmpYes X402.here hx rfl (pc0 := 20) (pc' := 26) rfl (hb hby own_d_jdk_52_21_20) rfl (XT.ii_le_t hq1) (by decide) (by decide) k_) ?_
  refine own_st (fun u_ k_ => XS.aloadN X402.here hx rfl (hb hby own_d_jdk_52_21_26) rfl rfl k_) ?_
  show own_Go p e below _ (T402.setTop (mkF m 27 #[.val (.ref a), .val (.int (1 : Int32)), .val (.ref b), .val (.int (1 : Int32)), .val (.int (2 : Int32)), .val (.int (1 : Int32)), .val (.int v1)] [(.ref b)]))
  refine own_st (fun u_ k_ => XS.iloadN X402.here hx rfl (hb hby own_d_jdk_52_21_27) rfl k_) ?_
  refine own_st (fun u_ k_ => XS.iload X402.here hx rfl (hb hby own_d_jdk_52_21_28) rfl k_) ?_
  show own_Go p e below _ (T402.setTop (mkF m 30 #[.val (.ref a), .val (.int (1 : Int32)), .val (.ref b), .val (.int (1 : Int32)), .val (.int (2 : Int32)), .val (.int (1 : Int32)), .val (.int v1)] [(.int v1), (.int (1 : Int32)), (.ref b)]))
  refine own_st (fun u_ k_ => XS.i2b X402.here hx rfl (hb hby own_d_jdk_52_21_30) rfl k_) ?_
  obtain ⟨cl406, Ar406, q406, S406, N406, H406, G406⟩ := id V402
  have hi406 : ¬ ((1 : Int32) < 0 ∨ cl406.slots.size ≤ ((1 : Int32)).toNatClampNeg) := inb_of S406 ⟨by decide, by decide⟩
  obtain ⟨T407, h407, X407, e407, W407, st407⟩ := stB X402 hx hZ e402 Ar406 (j := (1 : Int32)) hi406 (g := (mkF m 31 #[.val (.ref a), .val (.int (1 : Int32)), .val (.ref b), .val (.int (1 : Int32)), .val (.int (2 : Int32)), .val (.int (1 : Int32)), .val (.int v1)] [(.int (v1.toInt8.toInt32)), (.int (1 : Int32)), (.ref b)])) rfl rfl (hb hby own_d_jdk_52_21_31)
  rw [own_bb] at W407
  have N407 := Fr.snoc X407 N402 gb
  have V407 : Arv Z h407 b kb .byte (2 : Int32) [(.int (v0.toInt8.toInt32)), (.int (v1.toInt8.toInt32))] (.int (0 : Int32)) := Arv.set Ar406 q406 S406 N406 H406 G406 (fits_nar_byte _) W407 1 rfl (Nat.le_of_ble_eq_true rfl)
  refine own_st (fun u_ k_ => st407 u_ k_) ?_
  show own_Go p e below _ (T407.setTop (mkF m 32 #[.val (.ref a), .val (.int (1 : Int32)), .val (.ref b), .val (.int (1 : Int32)), .val (.int (2 : Int32)), .val (.int (1 : Int32)), .val (.int v1)] []))
  refine own_st (fun u_ k_ => XS.iinc X407.here hx rfl (hb hby own_d_jdk_52_21_32) rfl (l' := #[.val (.ref a), .val (.int (2 : Int32)), .val (.ref b), .val (.int (1 : Int32)), .val (.int (2 : Int32)), .val (.int (1 : Int32)), .val (.int v1)]) rfl k_) ?_
  refine own_st (fun u_ k_ => XS.iinc X407.here hx rfl (hb hby own_d_jdk_52_21_35) rfl (l' := #[.val (.ref a), .val (.int (2 : Int32)), .val (.ref b), .val (.int (2 : Int32)), .val (.int (2 : Int32)), .val (.int (1 : Int32)), .val (.int v1)]) rfl k_) ?_
  show own_Go p e below _ (T407.setTop (mkF m 38 #[.val (.ref a), .val (.int (2 : Int32)), .val (.ref b), .val (.int (2 : Int32)), .val (.int (2 : Int32)), .val (.int (1 : Int32)), .val (.int v1)] []))
  refine own_st (fun u_ k_ => XS.iinc X407.here hx rfl (hb hby own_d_jdk_52_21_38) rfl (l' := #[.val (.ref a), .val (.int (2 : Int32)), .val (.ref b), .val (.int (2 : Int32)), .val (.int (2 : Int32)), .val (.int (2 : Int32)), .val (.int v1)]) rfl k_) ?_
  refine own_st (fun u_ k_ => XS.goto X407.here hx rfl (pc0 := 41) (pc' := 3) rfl (hb hby own_d_jdk_52_21_41) (by decide) (by decide) k_) ?_
  show own_Go p e below _ (T407.setTop (mkF m 3 #[.val (.ref a), .val (.int (2 : Int32)), .val (.ref b), .val (.int (2 : Int32)), .val (.int (2 : Int32)), .val (.int (2 : Int32)), .val (.int v1)] []))
  refine own_st (fun u_ k_ => XS.iload X407.here hx rfl (hb hby own_d_jdk_52_21_3) rfl k_) ?_
  refine own_st (fun u_ k_ => XS.iload X407.here hx rfl (hb hby own_d_jdk_52_21_5) rfl k_) ?_
  show own_Go p e below _ (T407.setTop (mkF m 7 #[.val (.ref a), .val (.int (2 : Int32)), .val (.ref b), .val (.int (2 : Int32)), .val (.int (2 : Int32)), .val (.int (2 : Int32)), .val (.int v1)] [(.int (2 : Int32)), (.int (2 : Int32))]))
  refine own_st (fun u_ k_ => XS.icmpYes X407.here hx rfl (pc0 := 7) (pc' := 44) rfl (hb hby own_d_jdk_52_21_7) rfl (XT.ii_ge_t (by decide)) (by decide) (by decide) k_) ?_
  refine own_st (fun u_ k_ => XS.iload X407.here hx rfl (hb hby own_d_jdk_52_21_44) rfl k_) ?_
  show own_Go p e below _ (T407.setTop (mkF m 46 #[.val (.ref a), .val (.int (2 : Int32)), .val (.ref b), .val (.int (2 : Int32)), .val (.int (2 : Int32)), .val (.int (2 : Int32)), .val (.int v1)] [(.int (2 : Int32))]))
  have K408 : Keep h0 h402 [b] := (Keep.refl h0 [b]).wr W402 (Or.inl (List.mem_of_getElem? (i := 0) rfl))
  have K409 : Keep h0 h407 [b] := K408.wr W407 (Or.inl (List.mem_of_getElem? (i := 0) rfl))
  have F410 := (Exa.wr W407 (Exa.wr W402 Eb))
  exact own_retX X407 hx hlk hret rfl (Or.inl ⟨rfl, by simp, _, rfl⟩) (hb hby own_d_jdk_52_21_46) (by decide) (by decide) (show QrmCp2_2 Z wcs a ka b kb v0 v1 h0 n0 (some (.int (2 : Int32))) T407.heap _ from (by rw [e407]; exact ⟨rfl, N407, K409, F410, V407⟩))
theorem own_ef_rmCq2_2 (m : MethodId) (a : Addr)  : entryFrame m #[(.ref a), (.int (0 : Int32)), (.int (2 : Int32))] 6 = mkF m 0 #[.val (.ref a), .val (.int (0 : Int32)), .val (.int (2 : Int32)), .unset, .unset, .unset] [] := by first | (simp [entryFrame, mkF, argsToLocals, Value.category, maxLocals]; done) | rfl
def QrmCq2_2 (Z : State) (wcs : Int32) (a : Addr) (ka : ClassId) (v0 : Int32) (v1 : Int32) (h0 : Heap) (n0 : Nat) (v : Option Value) (h : Heap) (L : List Loc) : Prop := ∃ r : Addr, ∃ kr : ClassId, v = some (.ref r) ∧ Fr n0 L ∧ Keep h0 h [] ∧ h0.size ≤ r ∧ Exa Z h r "[B" ∧ Arv Z h r kr .byte (2 : Int32) [(.int (v0.toInt8.toInt32)), (.int (v1.toInt8.toInt32))] (.int (0 : Int32))
set_option maxRecDepth 65536 in
set_option maxHeartbeats 40000000 in
theorem rmCq2_2 (l : Launch) (Z : State) (a0 : Array Value) (hw : own_H a0 Z) (ws : List Jvm.Cond) (wcs : Int32) (hS : own_S Z wcs) (a : Addr) (ka : ClassId) (v0 : Int32) (v1 : Int32) (h0 : Heap) (n0 : Nat) (O0 : Old Z n0 h0) (Ea : Exa Z h0 a "[C") (A1 : Arv Z h0 a ka .char (2 : Int32) [(.int v0), (.int v1)] (.int (0 : Int32))) (hq0 : ¬ (255 : Int32) < v0) (hq1 : ¬ (255 : Int32) < v1) :
    own_Met l own_y_134 jdk_52_method_16_code 6 (some (.array .byte)) ws ({ frames := 1, cells := 1, slots := 2, locals := 18 } : Room) Z h0 #[(.ref a), (.int (0 : Int32)), (.int (2 : Int32))] (QrmCq2_2 Z wcs a ka v0 v1 h0 n0) := by
  refine own_body (plainFor_of_name own_pn_15) ?_
  intro p e s m below meth c s₁ hx hby hml hown hnm hret hlk hZ e0 X0
  have N0 := Fr.nil n0
  refine own_st (fun u_ k_ => castTop (own_ef_rmCq2_2 m a) k_) ?_
  show own_Go p e below _ (s₁.setTop (mkF m 0 #[.val (.ref a), .val (.int (0 : Int32)), .val (.int (2 : Int32)), .unset, .unset, .unset] []))
  refine own_st (fun u_ k_ => XS.iloadN X0.here hx rfl (hb hby own_d_jdk_52_16_0) rfl k_) ?_
  obtain ⟨T411, h411, k411, X411, e411, E411, A411, Y411, st411⟩ := newPE X0 hx hZ (own_w hw 16 rfl) e0 (g := (mkF m 1 #[.val (.ref a), .val (.int (0 : Int32)), .val (.int (2 : Int32)), .unset, .unset, .unset] [(.int (2 : Int32))])) rfl (hb hby own_d_jdk_52_16_1) rfl (by decide) (cap := 2) (by decide) (by decide) (by decide) (by decide) (ad := "[B") own_lm_31
  obtain ⟨b411, g411⟩ : ∃ z, z = h0.size := ⟨_, rfl⟩
  rw [← g411] at A411 Y411 st411
  have V411 : Arv Z h411 b411 k411 .byte (2 : Int32) [(.int (0 : Int32)), (.int (0 : Int32))] (.int (0 : Int32)) := (Arv.new A411 (by decide)).pad (pad_rep [] (.int (0 : Int32)) 2)
  refine own_st (fun u_ k_ => st411 u_ k_) ?_
  show own_Go p e below _ (T411.setTop (mkF m 3 #[.val (.ref a), .val (.int (0 : Int32)), .val (.int (2 : Int32)), .unset, .unset, .unset] [(.ref b411)]))
  refine own_st (fun u_ k_ => XS.astoreN X411.here hx rfl (hb hby own_d_jdk_52_16_3) rfl rfl (l' := #[.val (.ref a), .val (.int (0 : Int32)), .val (.int (2 : Int32)), .val (.ref b411), .unset, .unset]) rfl k_) ?_
  refine own_st (fun u_ k_ => XS.aloadN X411.here hx rfl (hb hby own_d_jdk_52_16_4) rfl rfl k_) ?_
  show own_Go p e below _ (T411.setTop (mkF m 5 #[.val (.ref a), .val (.int (0 : Int32)), .val (.int (2 : Int32)), .val (.ref b411), .unset, .unset] [(.ref a)]))
  refine own_st (fun u_ k_ => XS.iloadN X411.here hx rfl (hb hby own_d_jdk_52_16_5) rfl k_) ?_
  refine own_st (fun u_ k_ => XS.aloadN X411.here hx rfl (hb hby own_d_jdk_52_16_6) rfl rfl k_) ?_
  show own_Go p e below _ (T411.setTop (mkF m 7 #[.val (.ref a), .val (.int (0 : Int32)), .val (.int (2 : Int32)), .val (.ref b411), .unset, .unset] [(.ref b411), (.int (0 : Int32)), (.ref a)]))
  refine own_st (fun u_ k_ => XS.iconst X411.here hx rfl (hb hby own_d_jdk_52_16_7) k_) ?_
  refine own_st (fun u_ k_ => XS.iloadN X411.here hx rfl (hb hby own_d_jdk_52_16_8) rfl k_) ?_
  show own_Go p e below _ (T411.setTop (mkF m 9 #[.val (.ref a), .val (.int (0 : Int32)), .val (.int (2 : Int32)), .val (.ref b411), .unset, .unset] [(.int (2 : Int32)), (.int (0 : Int32)), (.ref b411), (.int (0 : Int32)), (.ref a)]))
  have F412 := (Exa.ext E411 Ea)
  have g413 : n0 ≤ b411 := Nat.le_trans (own_nl O0) (Nat.le_of_eq g411.symm)
  have F414 := (A1.ext E411)
  have O416 : Old Z n0 h411 := O0.ext E411
  obtain ⟨T415, v415, L415, X415, hQ415, st415⟩ := own_callS X411 hx hZ (y := own_y_14) hown (own_w hw 100 rfl) (own_w hw 101 rfl) (own_w hw 98 rfl) (own_w hw 102 rfl) own_lm_28 (rmCp2_2 l Z a0 hw [] wcs hS a ka b411 k411 v0 v1 h411 n0 O416 F412 Y411 g413 F414 V411 (by assumption) (by assumption)) e411 own_pd_115 (argsL := [(.ref a), (.int (0 : Int32)), (.ref b411), (.int (0 : Int32)), (.int (2 : Int32))]) (rest := []) rfl rfl (g := (mkF m 9 #[.val (.ref a), .val (.int (0 : Int32)), .val (.int (2 : Int32)), .val (.ref b411), .unset, .unset] [(.int (2 : Int32)), (.int (0 : Int32)), (.ref b411), (.int (0 : Int32)), (.ref a)])) rfl (by rw [hml]; rfl) rfl (hb hby own_d_jdk_52_16_9) (W := 0) rfl (by decide) (by decide) (by decide) (by decide)
  obtain ⟨rfl, M415, K415, F417, F418⟩ := hQ415
  have N415 := Fr.app N0 M415
  refine own_st (fun u_ k_ => st415 u_ k_) ?_
  show own_Go p e below _ (T415.setTop (mkF m 12 #[.val (.ref a), .val (.int (0 : Int32)), .val (.int (2 : Int32)), .val (.ref b411), .unset, .unset] [(.int (2 : Int32))]))
  refine own_st (fun u_ k_ => XS.istore X415.here hx rfl (hb hby own_d_jdk_52_16_12) rfl (l' := #[.val (.ref a), .val (.int (0 : Int32)), .val (.int (2 : Int32)), .val (.ref b411), .val (.int (2 : Int32)), .unset]) rfl k_) ?_
  refine own_st (fun u_ k_ => XS.iload X415.here hx rfl (hb hby own_d_jdk_52_16_14) rfl k_) ?_
  show own_Go p e below _ (T415.setTop (mkF m 16 #[.val (.ref a), .val (.int (0 : Int32)), .val (.int (2 : Int32)), .val (.ref b411), .val (.int (2 : Int32)), .unset] [(.int (2 : Int32))]))
  refine own_st (fun u_ k_ => XS.iloadN X415.here hx rfl (hb hby own_d_jdk_52_16_16) rfl k_) ?_
  refine own_st (fun u_ k_ => XS.icmpYes X415.here hx rfl (pc0 := 17) (pc' := 57) rfl (hb hby own_d_jdk_52_16_17) rfl (XT.ii_eq_t (by decide)) (by decide) (by decide) k_) ?_
  show own_Go p e below _ (T415.setTop (mkF m 57 #[.val (.ref a), .val (.int (0 : Int32)), .val (.int (2 : Int32)), .val (.ref b411), .val (.int (2 : Int32)), .unset] []))
  refine own_st (fun u_ k_ => XS.aloadN X415.here hx rfl (hb hby own_d_jdk_52_16_57) rfl rfl k_) ?_
  have K419 : Keep h0 h411 [] := (Keep.refl h0 []).ext E411
  have z421 : h0.size ≤ b411 := Nat.le_trans (Nat.le_refl _) (Nat.le_of_eq g411.symm)
  have K420 : Keep h0 T415.heap [] := K419.trans K415 (allS (Or.inr z421) all0)
  exact own_retX X415 hx hlk hret rfl (Or.inr (Or.inr (Or.inr (Or.inr ⟨rfl, rfl, rfl⟩)))) (hb hby own_d_jdk_52_16_58) (by decide) (by decide) (show QrmCq2_2 Z wcs a ka v0 v1 h0 n0 (some (.ref b411)) T415.heap _ from (by exact ⟨b411, k411, rfl, N415, K420, z421, F417, F418⟩))
theorem own_ef_rmCo2_2 (m : MethodId) (b : Addr)  : entryFrame m #[(.ref b), (.int (2 : Int32))] 2 = mkF m 0 #[.val (.ref b), .val (.int (2 : Int32))] [] := by first | (simp [entryFrame, mkF, argsToLocals, Value.category, maxLocals]; done) | rfl
def QrmCo2_2 (Z : State) (wcs : Int32) (b : Addr) (kb : ClassId) (vs : List Value) (h0 : Heap) (n0 : Nat) (v : Option Value) (h : Heap) (L : List Loc) : Prop := v = some (.int (0 : Int32)) ∧ Fr n0 L ∧ h = h0
set_option maxRecDepth 65536 in
set_option maxHeartbeats 40000000 in
theorem rmCo2_2 (l : Launch) (Z : State) (a0 : Array Value) (hw : own_H a0 Z) (ws : List Jvm.Cond) (wcs : Int32) (hS : own_S Z wcs) (b : Addr) (kb : ClassId) (vs : List Value) (h0 : Heap) (n0 : Nat) (O0 : Old Z n0 h0) (A2 : Arv Z h0 b kb .byte (2 : Int32) vs (.int (0 : Int32))) :
    own_Met l own_y_143 jdk_52_method_15_code 2 (some .byte) ws ({ frames := 0, cells := 0, slots := 0, locals := 0 } : Room) Z h0 #[(.ref b), (.int (2 : Int32))] (QrmCo2_2 Z wcs b kb vs h0 n0) := by
  refine own_body (plainFor_of_name own_pn_15) ?_
  intro p e s m below meth c s₁ hx hby hml hown hnm hret hlk hZ e0 X0
  have N0 := Fr.nil n0
  refine own_st (fun u_ k_ => castTop (own_ef_rmCo2_2 m b) k_) ?_
  show own_Go p e below _ (s₁.setTop (mkF m 0 #[.val (.ref b), .val (.int (2 : Int32))] []))
  refine own_st (fun u_ k_ => XS.iloadN X0.here hx rfl (hb hby own_d_jdk_52_15_0) rfl k_) ?_
  refine own_st (fun u_ k_ => XS.aloadN X0.here hx rfl (hb hby own_d_jdk_52_15_1) rfl rfl k_) ?_
  show own_Go p e below _ (s₁.setTop (mkF m 2 #[.val (.ref b), .val (.int (2 : Int32))] [(.ref b), (.int (2 : Int32))]))
  obtain ⟨cl422, Ar422, -, S422, N422, -, -⟩ := id A2
  refine own_st (X0.arraylength hx (by rw [e0]; exact Ar422.1) (State.isArrayOf_alike hZ.alike Ar422.2.1) (g := (mkF m 2 #[.val (.ref b), .val (.int (2 : Int32))] [(.ref b), (.int (2 : Int32))])) rfl rfl (hb hby own_d_jdk_52_15_2)) ?_
  rw [len_of S422 N422]
  show own_Go p e below _ (s₁.setTop (mkF m 3 #[.val (.ref b), .val (.int (2 : Int32))] [(.int (2 : Int32)), (.int (2 : Int32))]))
  refine own_st (fun u_ k_ => XS.isub X0.here hx rfl (hb hby own_d_jdk_52_15_3) rfl k_) ?_
  refine own_st (fun u_ k_ => XS.bipush X0.here hx rfl (hb hby own_d_jdk_52_15_4) k_) ?_
  show own_Go p e below _ (s₁.setTop (mkF m 6 #[.val (.ref b), .val (.int (2 : Int32))] [(.int (31 : Int32)), (.int (0 : Int32))]))
  refine own_st (fun u_ k_ => XS.iushr X0.here hx rfl (hb hby own_d_jdk_52_15_6) rfl k_) ?_
  refine own_st (fun u_ k_ => XS.i2b X0.here hx rfl (hb hby own_d_jdk_52_15_7) rfl k_) ?_
  show own_Go p e below _ (s₁.setTop (mkF m 8 #[.val (.ref b), .val (.int (2 : Int32))] [(.int (0 : Int32))]))
  exact own_retX X0 hx hlk hret rfl (Or.inl ⟨rfl, by simp, _, rfl⟩) (hb hby own_d_jdk_52_15_8) (by decide) (by decide) (show QrmCo2_2 Z wcs b kb vs h0 n0 (some (.int (0 : Int32))) s₁.heap _ from (by rw [e0]; exact ⟨rfl, N0, rfl⟩))
theorem own_ef_rmS4_2_2 (m : MethodId) (a : Addr) (b : Addr)  : entryFrame m #[(.ref a), (.ref b), (.int (0 : Int32)), (.int (2 : Int32)), .null] 6 = mkF m 0 #[.val (.ref a), .val (.ref b), .val (.int (0 : Int32)), .val (.int (2 : Int32)), .val .null, .unset] [] := by first | (simp [entryFrame, mkF, argsToLocals, Value.category, maxLocals]; done) | rfl
def QrmS4_2_2 (Z : State) (wcs : Int32) (a : Addr) (b : Addr) (kb : ClassId) (v0 : Int32) (v1 : Int32) (h0 : Heap) (n0 : Nat) (v : Option Value) (h : Heap) (L : List Loc) : Prop := ∃ r : Addr, ∃ kr : ClassId, v = none ∧ Fr n0 L ∧ Keep h0 h [a] ∧ h0.size ≤ r ∧ Exa Z h a "java/lang/String" ∧ Fld Z h a "java/lang/String" "value" "[B" (.ref r) ∧ Fld Z h a "java/lang/String" "coder" "B" (.int (0 : Int32)) ∧ Exa Z h r "[B" ∧ Arv Z h r kr .byte (2 : Int32) [(.int (v0.toInt8.toInt32)), (.int (v1.toInt8.toInt32))] (.int (0 : Int32))
set_option maxRecDepth 65536 in
set_option maxHeartbeats 40000000 in
theorem rmS4_2_2 (l : Launch) (Z : State) (a0 : Array Value) (hw : own_H a0 Z) (ws : List Jvm.Cond) (wcs : Int32) (hS : own_S Z wcs) (a : Addr) (b : Addr) (kb : ClassId) (v0 : Int32) (v1 : Int32) (h0 : Heap) (n0 : Nat) (O0 : Old Z n0 h0) (E : Exa Z h0 a "java/lang/String") (Ea : Exa Z h0 b "[C") (ga : n0 ≤ a) (F1 : Fld Z h0 a "java/lang/String" "value" "[B" .null) (F2 : Fld Z h0 a "java/lang/String" "coder" "B" (.int (0 : Int32))) (A1 : Arv Z h0 b kb .char (2 : Int32) [(.int v0), (.int v1)] (.int (0 : Int32))) (hq0 : ¬ (255 : Int32) < v0) (hq1 : ¬ (255 : Int32) < v1) :
    own_Met l own_y_172 jdk_42_method_149_code 6 none ws ({ frames := 2, cells := 1, slots := 2, locals := 35 } : Room) Z h0 #[(.ref a), (.ref b), (.int (0 : Int32)), (.int (2 : Int32)), .null] (QrmS4_2_2 Z wcs a b kb v0 v1 h0 n0) := by
  refine own_body (plainFor_of_name own_pn_173) ?_
  intro p e s m below meth c s₁ hx hby hml hown hnm hret hlk hZ e0 X0
  have N0 := Fr.nil n0
  refine own_st (fun u_ k_ => castTop (own_ef_rmS4_2_2 m a b) k_) ?_
  show own_Go p e below _ (s₁.setTop (mkF m 0 #[.val (.ref a), .val (.ref b), .val (.int (0 : Int32)), .val (.int (2 : Int32)), .val .null, .unset] []))
  refine own_st (fun u_ k_ => XS.aloadN X0.here hx rfl (hb hby own_d_jdk_42_149_0) rfl rfl k_) ?_
  obtain ⟨T423, X423, e423, st423⟩ := initO X0 hx hZ hown (own_w hw 12 rfl) (own_w hw 13 rfl) (own_w hw 14 rfl) e0 (g := (mkF m 1 #[.val (.ref a), .val (.ref b), .val (.int (0 : Int32)), .val (.int (2 : Int32)), .val .null, .unset] [(.ref a)])) rfl (by rw [hml]; rfl) rfl (hb hby own_d_jdk_42_149_1) (by decide) (W := 0) (by show 2 * 0 + _ ≤ _; exact Nat.le_of_eq rfl) (by decide)
  refine own_st (fun u_ k_ => st423 u_ k_) ?_
  show own_Go p e below _ (T423.setTop (mkF m 4 #[.val (.ref a), .val (.ref b), .val (.int (0 : Int32)), .val (.int (2 : Int32)), .val .null, .unset] []))
  refine own_st (fun u_ k_ => XS.iloadN X423.here hx rfl (hb hby own_d_jdk_42_149_4) rfl k_) ?_
  refine own_st (fun u_ k_ => XS.ifYes X423.here hx rfl (pc0 := 5) (pc' := 27) rfl (hb hby own_d_jdk_42_149_5) rfl (XT.i0_ne_t (by decide)) (by decide) (by decide) k_) ?_
  show own_Go p e below _ (T423.setTop (mkF m 27 #[.val (.ref a), .val (.ref b), .val (.int (0 : Int32)), .val (.int (2 : Int32)), .val .null, .unset] []))
  have F424 := Sta.ext O0.2 hS.1
  obtain ⟨T425, X425, e425, st425⟩ := getS2 X423 hx hZ hown (host := "") (Or.inl (own_w hw 90 rfl)) Via.refl e423 F424 (g := (mkF m 27 #[.val (.ref a), .val (.ref b), .val (.int (0 : Int32)), .val (.int (2 : Int32)), .val .null, .unset] [])) rfl (hb hby own_d_jdk_42_149_27)
  refine own_st (fun u_ k_ => st425 u_ k_) ?_
  show own_Go p e below _ (T425.setTop (mkF m 30 #[.val (.ref a), .val (.ref b), .val (.int (0 : Int32)), .val (.int (2 : Int32)), .val .null, .unset] [(.int wcs)]))
  refine own_st (fun u_ k_ => XS.ifNo X425.here hx rfl (hb hby own_d_jdk_42_149_30) rfl (XT.i0_eq_f hS.2.1) k_) ?_
  refine own_st (fun u_ k_ => XS.aloadN X425.here hx rfl (hb hby own_d_jdk_42_149_33) rfl rfl k_) ?_
  show own_Go p e below _ (T425.setTop (mkF m 34 #[.val (.ref a), .val (.ref b), .val (.int (0 : Int32)), .val (.int (2 : Int32)), .val .null, .unset] [(.ref b)]))
  refine own_st (fun u_ k_ => XS.iloadN X425.here hx rfl (hb hby own_d_jdk_42_149_34) rfl k_) ?_
  refine own_st (fun u_ k_ => XS.iloadN X425.here hx rfl (hb hby own_d_jdk_42_149_35) rfl k_) ?_
  show own_Go p e below _ (T425.setTop (mkF m 36 #[.val (.ref a), .val (.ref b), .val (.int (0 : Int32)), .val (.int (2 : Int32)), .val .null, .unset] [(.int (2 : Int32)), (.int (0 : Int32)), (.ref b)]))
  obtain ⟨T426, v426, L426, X426, hQ426, st426⟩ := own_callS X425 hx hZ (y := own_y_134) hown (own_w hw 96 rfl) (own_w hw 97 rfl) (own_w hw 98 rfl) (own_w hw 99 rfl) own_lm_28 (rmCq2_2 l Z a0 hw [] wcs hS b kb v0 v1 h0 n0 O0 Ea A1 (by assumption) (by assumption)) e425 own_pd_124 (argsL := [(.ref b), (.int (0 : Int32)), (.int (2 : Int32))]) (rest := []) rfl rfl (g := (mkF m 36 #[.val (.ref a), .val (.ref b), .val (.int (0 : Int32)), .val (.int (2 : Int32)), .val .null, .unset] [(.int (2 : Int32)), (.int (0 : Int32)), (.ref b)])) rfl (by rw [hml]; rfl) rfl (hb hby own_d_jdk_42_149_36) (W := 0) rfl (by decide) (by decide) (by decide) (by decide)
  obtain ⟨r_427, kr_428, rfl, M426, K426, z429, F430, F431⟩ := hQ426
  have N426 := Fr.app N0 M426
  refine own_st (fun u_ k_ => st426 u_ k_) ?_
  show own_Go p e below _ (T426.setTop (mkF m 39 #[.val (.ref a), .val (.ref b), .val (.int (0 : Int32)), .val (.int (2 : Int32)), .val .null, .unset] [(.ref r_427)]))
  refine own_st (fun u_ k_ => XS.astore X426.here hx rfl (hb hby own_d_jdk_42_149_39) rfl rfl (l' := #[.val (.ref a), .val (.ref b), .val (.int (0 : Int32)), .val (.int (2 : Int32)), .val .null, .val (.ref r_427)]) rfl k_) ?_
  refine own_st (fun u_ k_ => XS.aloadN X426.here hx rfl (hb hby own_d_jdk_42_149_41) rfl rfl k_) ?_
  show own_Go p e below _ (T426.setTop (mkF m 42 #[.val (.ref a), .val (.ref b), .val (.int (0 : Int32)), .val (.int (2 : Int32)), .val .null, .val (.ref r_427)] [(.ref a)]))
  refine own_st (fun u_ k_ => XS.aload X426.here hx rfl (hb hby own_d_jdk_42_149_42) rfl rfl k_) ?_
  refine own_st (fun u_ k_ => XS.iloadN X426.here hx rfl (hb hby own_d_jdk_42_149_44) rfl k_) ?_
  show own_Go p e below _ (T426.setTop (mkF m 45 #[.val (.ref a), .val (.ref b), .val (.int (0 : Int32)), .val (.int (2 : Int32)), .val .null, .val (.ref r_427)] [(.int (2 : Int32)), (.ref r_427), (.ref a)]))
  have O433 : Old Z n0 T426.heap := O0.keep K426 all0
  obtain ⟨T432, v432, L432, X432, hQ432, st432⟩ := own_callS X426 hx hZ (y := own_y_143) hown (own_w hw 103 rfl) (own_w hw 104 rfl) (own_w hw 98 rfl) (own_w hw 105 rfl) own_lm_28 (rmCo2_2 l Z a0 hw [] wcs hS r_427 kr_428 [(.int (v0.toInt8.toInt32)), (.int (v1.toInt8.toInt32))] T426.heap n0 O433 F431) rfl own_pd_160 (argsL := [(.ref r_427), (.int (2 : Int32))]) (rest := [(.ref a)]) rfl rfl (g := (mkF m 45 #[.val (.ref a), .val (.ref b), .val (.int (0 : Int32)), .val (.int (2 : Int32)), .val .null, .val (.ref r_427)] [(.int (2 : Int32)), (.ref r_427), (.ref a)])) rfl (by rw [hml]; rfl) rfl (hb hby own_d_jdk_42_149_45) (W := 1) rfl (by decide) (by decide) (by decide) (by decide)
  obtain ⟨rfl, M432, e432⟩ := hQ432
  have N432 := Fr.app N426 M432
  refine own_st (fun u_ k_ => st432 u_ k_) ?_
  show own_Go p e below _ (T432.setTop (mkF m 48 #[.val (.ref a), .val (.ref b), .val (.int (0 : Int32)), .val (.int (2 : Int32)), .val .null, .val (.ref r_427)] [(.int (0 : Int32)), (.ref a)]))
  have F434 := (E.keep K426)
  have F435 := (F2.keep K426 nin0)
  obtain ⟨T436, h436, X436, e436, W436, st436⟩ := putF X432 hx hZ hown (host := "") (Or.inl (own_w hw 22 rfl)) Via.refl e432 F435 F434 (Or.inr ⟨(own_w hw 18 rfl), rfl, hnm⟩) (own_w hw 2 rfl) (ty := .byte) own_lm_162 rfl rfl (g := (mkF m 48 #[.val (.ref a), .val (.ref b), .val (.int (0 : Int32)), .val (.int (2 : Int32)), .val .null, .val (.ref r_427)] [(.int (0 : Int32)), (.ref a)])) rfl rfl (hb hby own_d_jdk_42_149_48)
  have N436 := Fr.snoc X436 N432 ga
  have F437 : Fld Z h436 a "java/lang/String" "coder" "B" (.int (0 : Int32)) := Fld.same W436 F435
  refine own_st (fun u_ k_ => st436 u_ k_) ?_
  show own_Go p e below _ (T436.setTop (mkF m 51 #[.val (.ref a), .val (.ref b), .val (.int (0 : Int32)), .val (.int (2 : Int32)), .val .null, .val (.ref r_427)] []))
  refine own_st (fun u_ k_ => XS.aloadN X436.here hx rfl (hb hby own_d_jdk_42_149_51) rfl rfl k_) ?_
  refine own_st (fun u_ k_ => XS.aload X436.here hx rfl (hb hby own_d_jdk_42_149_52) rfl rfl k_) ?_
  show own_Go p e below _ (T436.setTop (mkF m 54 #[.val (.ref a), .val (.ref b), .val (.int (0 : Int32)), .val (.int (2 : Int32)), .val .null, .val (.ref r_427)] [(.ref r_427), (.ref a)]))
  have F438 := (Exa.wr W436 F434)
  have F439 := (Fld.other W436 (F1.keep K426 nin0) (Or.inr (own_sn_168 hw)))
  obtain ⟨T440, h440, X440, e440, W440, st440⟩ := putF X436 hx hZ hown (host := "") (Or.inl (own_w hw 21 rfl)) Via.refl e436 F439 F438 (Or.inr ⟨(own_w hw 17 rfl), rfl, hnm⟩) (own_w hw 2 rfl) (ty := (.array .byte)) own_lm_167 rfl rfl (g := (mkF m 54 #[.val (.ref a), .val (.ref b), .val (.int (0 : Int32)), .val (.int (2 : Int32)), .val .null, .val (.ref r_427)] [(.ref r_427), (.ref a)])) rfl rfl (hb hby own_d_jdk_42_149_54)
  have N440 := Fr.snoc X440 N436 ga
  have F441 : Fld Z h440 a "java/lang/String" "value" "[B" (.ref r_427) := Fld.same W440 F439
  refine own_st (fun u_ k_ => st440 u_ k_) ?_
  show own_Go p e below _ (T440.setTop (mkF m 57 #[.val (.ref a), .val (.ref b), .val (.int (0 : Int32)), .val (.int (2 : Int32)), .val .null, .val (.ref r_427)] []))
  have K442 : Keep h0 T426.heap [a] := (Keep.refl h0 [a]).trans K426 all0
  have K443 : Keep h0 h436 [a] := K442.wr W436 (Or.inl (List.mem_of_getElem? (i := 0) rfl))
  have K444 : Keep h0 h440 [a] := K443.wr W440 (Or.inl (List.mem_of_getElem? (i := 0) rfl))
  have z445 : h0.size ≤ r_427 := Nat.le_trans (Nat.le_refl _) z429
  have F446 := (Exa.wr W440 F438)
  have F447 := (Fld.other W440 F437 (Or.inr (own_sn_171 hw)))
  have F448 := (Exa.wr W440 (Exa.wr W436 F430))
  have ne449 : r_427 ≠ a := (Ne.symm (Nat.ne_of_lt (Nat.lt_of_lt_of_le E.lt z429)))
  have F450 := ((F431.other W436 ne449).other W440 ne449)
  exact own_retV X440 hx hlk hret (hb hby own_d_jdk_42_149_57) (by decide) (by decide) (show QrmS4_2_2 Z wcs a b kb v0 v1 h0 n0 none T440.heap _ from (by rw [e440]; exact ⟨r_427, kr_428, rfl, N440, K444, z445, F446, F441, F447, F448, F450⟩))
theorem own_ef_rmS1_2_0 (m : MethodId) (a : Addr) (b : Addr)  : entryFrame m #[(.ref a), (.ref b)] 2 = mkF m 0 #[.val (.ref a), .val (.ref b)] [] := by first | (simp [entryFrame, mkF, argsToLocals, Value.category, maxLocals]; done) | rfl
def QrmS1_2_0 (Z : State) (wcs : Int32) (a : Addr) (b : Addr) (kb : ClassId) (v0 : Int32) (v1 : Int32) (h0 : Heap) (n0 : Nat) (v : Option Value) (h : Heap) (L : List Loc) : Prop := ∃ r : Addr, ∃ kr : ClassId, v = none ∧ Fr n0 L ∧ Keep h0 h [a] ∧ h0.size ≤ r ∧ Exa Z h a "java/lang/String" ∧ Fld Z h a "java/lang/String" "value" "[B" (.ref r) ∧ Fld Z h a "java/lang/String" "coder" "B" (.int (1 : Int32)) ∧ Exa Z h r "[B" ∧ Arv Z h r kr .byte (4 : Int32) [(.int ((v0 >>> ((0 : Int32) &&& 31)).toInt8.toInt32)), (.int ((v0 >>> ((8 : Int32) &&& 31)).toInt8.toInt32)), (.int ((v1 >>> ((0 : Int32) &&& 31)).toInt8.toInt32)), (.int ((v1 >>> ((8 : Int32) &&& 31)).toInt8.toInt32))] (.int (0 : Int32))
set_option maxRecDepth 65536 in
set_option maxHeartbeats 40000000 in
theorem rmS1_2_0 (l : Launch) (Z : State) (a0 : Array Value) (hw : own_H a0 Z) (ws : List Jvm.Cond) (wcs : Int32) (hS : own_S Z wcs) (a : Addr) (b : Addr) (kb : ClassId) (v0 : Int32) (v1 : Int32) (h0 : Heap) (n0 : Nat) (O0 : Old Z n0 h0) (E : Exa Z h0 a "java/lang/String") (Ea : Exa Z h0 b "[C") (ga : n0 ≤ a) (F1 : Fld Z h0 a "java/lang/String" "value" "[B" .null) (F2 : Fld Z h0 a "java/lang/String" "coder" "B" (.int (0 : Int32))) (A1 : Arv Z h0 b kb .char (2 : Int32) [(.int v0), (.int v1)] (.int (0 : Int32))) (hq0 : (255 : Int32) < v0) (hv0 : own_C16 v0) (hv1 : own_C16 v1) :
    own_Met l own_y_198 jdk_42_method_3_code 2 none ws ({ frames := 5, cells := 2, slots := 6, locals := 74 } : Room) Z h0 #[(.ref a), (.ref b)] (QrmS1_2_0 Z wcs a b kb v0 v1 h0 n0) := by
  refine own_body (plainFor_of_name own_pn_173) ?_
  intro p e s m below meth c s₁ hx hby hml hown hnm hret hlk hZ e0 X0
  have N0 := Fr.nil n0
  refine own_st (fun u_ k_ => castTop (own_ef_rmS1_2_0 m a b) k_) ?_
  show own_Go p e below _ (s₁.setTop (mkF m 0 #[.val (.ref a), .val (.ref b)] []))
  refine own_st (fun u_ k_ => XS.aloadN X0.here hx rfl (hb hby own_d_jdk_42_3_0) rfl rfl k_) ?_
  refine own_st (fun u_ k_ => XS.aloadN X0.here hx rfl (hb hby own_d_jdk_42_3_1) rfl rfl k_) ?_
  show own_Go p e below _ (s₁.setTop (mkF m 2 #[.val (.ref a), .val (.ref b)] [(.ref b), (.ref a)]))
  refine own_st (fun u_ k_ => XS.iconst X0.here hx rfl (hb hby own_d_jdk_42_3_2) k_) ?_
  refine own_st (fun u_ k_ => XS.aloadN X0.here hx rfl (hb hby own_d_jdk_42_3_3) rfl rfl k_) ?_
  show own_Go p e below _ (s₁.setTop (mkF m 4 #[.val (.ref a), .val (.ref b)] [(.ref b), (.int (0 : Int32)), (.ref b), (.ref a)]))
  obtain ⟨cl463, Ar463, -, S463, N463, -, -⟩ := id A1
  refine own_st (X0.arraylength hx (by rw [e0]; exact Ar463.1) (State.isArrayOf_alike hZ.alike Ar463.2.1) (g := (mkF m 4 #[.val (.ref a), .val (.ref b)] [(.ref b), (.int (0 : Int32)), (.ref b), (.ref a)])) rfl rfl (hb hby own_d_jdk_42_3_4)) ?_
  rw [len_of S463 N463]
  show own_Go p e below _ (s₁.setTop (mkF m 5 #[.val (.ref a), .val (.ref b)] [(.int (2 : Int32)), (.int (0 : Int32)), (.ref b), (.ref a)]))
  refine own_st (fun u_ k_ => XS.aconstNull X0.here hx rfl (hb hby own_d_jdk_42_3_5) k_) ?_
  obtain ⟨T464, v464, L464, X464, hQ464, st464⟩ := own_callN X0 hx hZ (y := own_y_172) rfl hown (own_w hw 8 rfl) (own_w hw 9 rfl) (own_w hw 3 rfl) (own_w hw 11 rfl) own_lm_181 (rmS4_2_0 l Z a0 hw [] wcs hS a b kb v0 v1 h0 n0 O0 E Ea ga F1 F2 A1 (by assumption) (by assumption) (by assumption)) e0 own_pd_182 (a := a) (argsL := [(.ref b), (.int (0 : Int32)), (.int (2 : Int32)), .null]) (rest := []) rfl rfl (g := (mkF m 6 #[.val (.ref a), .val (.ref b)] [.null, (.int (2 : Int32)), (.int (0 : Int32)), (.ref b), (.ref a)])) rfl (by rw [hml]; rfl) rfl (hb hby own_d_jdk_42_3_6) (W := 0) rfl (by decide) (by decide) (by decide) (by decide)
  obtain ⟨r_465, kr_466, rfl, M464, K464, z467, F468, F469, F470, F471, F472⟩ := hQ464
  have N464 := Fr.app N0 M464
  refine own_st (fun u_ k_ => st464 u_ k_) ?_
  show own_Go p e below _ (T464.setTop (mkF m 9 #[.val (.ref a), .val (.ref b)] []))
  have K473 : Keep h0 T464.heap [a] := (Keep.refl h0 [a]).trans K464 (allS (Or.inl (List.mem_of_getElem? (i := 0) rfl)) all0)
  have z474 : h0.size ≤ r_465 := Nat.le_trans (Nat.le_refl _) z467
  exact own_retV X464 hx hlk hret (hb hby own_d_jdk_42_3_9) (by decide) (by decide) (show QrmS1_2_0 Z wcs a b kb v0 v1 h0 n0 none T464.heap _ from (by exact ⟨r_465, kr_466, rfl, N464, K473, z474, F468, F469, F470, F471, F472⟩))
theorem own_ef_rmS1_2_1 (m : MethodId) (a : Addr) (b : Addr)  : entryFrame m #[(.ref a), (.ref b)] 2 = mkF m 0 #[.val (.ref a), .val (.ref b)] [] := by first | (simp [entryFrame, mkF, argsToLocals, Value.category, maxLocals]; done) | rfl
def QrmS1_2_1 (Z : State) (wcs : Int32) (a : Addr) (b : Addr) (kb : ClassId) (v0 : Int32) (v1 : Int32) (h0 : Heap) (n0 : Nat) (v : Option Value) (h : Heap) (L : List Loc) : Prop := ∃ r : Addr, ∃ kr : ClassId, v = none ∧ Fr n0 L ∧ Keep h0 h [a] ∧ h0.size ≤ r ∧ Exa Z h a "java/lang/String" ∧ Fld Z h a "java/lang/String" "value" "[B" (.ref r) ∧ Fld Z h a "java/lang/String" "coder" "B" (.int (1 : Int32)) ∧ Exa Z h r "[B" ∧ Arv Z h r kr .byte (4 : Int32) [(.int ((v0 >>> ((0 : Int32) &&& 31)).toInt8.toInt32)), (.int ((v0 >>> ((8 : Int32) &&& 31)).toInt8.toInt32)), (.int ((v1 >>> ((0 : Int32) &&& 31)).toInt8.toInt32)), (.int ((v1 >>> ((8 : Int32) &&& 31)).toInt8.toInt32))] (.int (0 : Int32))
set_option maxRecDepth 65536 in
set_option maxHeartbeats 40000000 in
theorem rmS1_2_1 (l : Launch) (Z : State) (a0 : Array Value) (hw : own_H a0 Z) (ws : List Jvm.Cond) (wcs : Int32) (hS : own_S Z wcs) (a : Addr) (b : Addr) (kb : ClassId) (v0 : Int32) (v1 : Int32) (h0 : Heap) (n0 : Nat) (O0 : Old Z n0 h0) (E : Exa Z h0 a "java/lang/String") (Ea : Exa Z h0 b "[C") (ga : n0 ≤ a) (F1 : Fld Z h0 a "java/lang/String" "value" "[B" .null) (F2 : Fld Z h0 a "java/lang/String" "coder" "B" (.int (0 : Int32))) (A1 : Arv Z h0 b kb .char (2 : Int32) [(.int v0), (.int v1)] (.int (0 : Int32))) (hq0 : ¬ (255 : Int32) < v0) (hq1 : (255 : Int32) < v1) (hv0 : own_C16 v0) (hv1 : own_C16 v1) :
    own_Met l own_y_198 jdk_42_method_3_code 2 none ws ({ frames := 5, cells := 2, slots := 6, locals := 74 } : Room) Z h0 #[(.ref a), (.ref b)] (QrmS1_2_1 Z wcs a b kb v0 v1 h0 n0) := by
  refine own_body (plainFor_of_name own_pn_173) ?_
  intro p e s m below meth c s₁ hx hby hml hown hnm hret hlk hZ e0 X0
  have N0 := Fr.nil n0
  refine own_st (fun u_ k_ => castTop (own_ef_rmS1_2_1 m a b) k_) ?_
  show own_Go p e below _ (s₁.setTop (mkF m 0 #[.val (.ref a), .val (.ref b)] []))
  refine own_st (fun u_ k_ => XS.aloadN X0.here hx rfl (hb hby own_d_jdk_42_3_0) rfl rfl k_) ?_
  refine own_st (fun u_ k_ => XS.aloadN X0.here hx rfl (hb hby own_d_jdk_42_3_1) rfl rfl k_) ?_
  show own_Go p e below _ (s₁.setTop (mkF m 2 #[.val (.ref a), .val (.ref b)] [(.ref b), (.ref a)]))
  refine own_st (fun u_ k_ => XS.iconst X0.here hx rfl (hb hby own_d_jdk_42_3_2) k_) ?_
  refine own_st (fun u_ k_ => XS.aloadN X0.here hx rfl (hb hby own_d_jdk_42_3_3) rfl rfl k_) ?_
  show own_Go p e below _ (s₁.setTop (mkF m 4 #[.val (.ref a), .val (.ref b)] [(.ref b), (.int (0 : Int32)), (.ref b), (.ref a)]))
  obtain ⟨cl475, Ar475, -, S475, N475, -, -⟩ := id A1
  refine own_st (X0.arraylength hx (by rw [e0]; exact Ar475.1) (State.isArrayOf_alike hZ.alike Ar475.2.1) (g := (mkF m 4 #[.val (.ref a), .val (.ref b)] [(.ref b), (.int (0 : Int32)), (.ref b), (.ref a)])) rfl rfl (hb hby own_d_jdk_42_3_4)) ?_
  rw [len_of S475 N475]
  show own_Go p e below _ (s₁.setTop (mkF m 5 #[.val (.ref a), .val (.ref b)] [(.int (2 : Int32)), (.int (0 : Int32)), (.ref b), (.ref a)]))
  refine own_st (fun u_ k_ => XS.aconstNull X0.here hx rfl (hb hby own_d_jdk_42_3_5) k_) ?_
  obtain ⟨T476, v476, L476, X476, hQ476, st476⟩ := own_callN X0 hx hZ (y := own_y_172) rfl hown (own_w hw 8 rfl) (own_w hw 9 rfl) (own_w hw 3 rfl) (own_w hw 11 rfl) own_lm_181 (rmS4_2_1 l Z a0 hw [] wcs hS a b kb v0 v1 h0 n0 O0 E Ea ga F1 F2 A1 (by assumption) (by assumption) (by assumption) (by assumption)) e0 own_pd_182 (a := a) (argsL := [(.ref b), (.int (0 : Int32)), (.int (2 : Int32)), .null]) (rest := []) rfl rfl (g := (mkF m 6 #[.val (.ref a), .val (.ref b)] [.null, (.int (2 : Int32)), (.int (0 : Int32)), (.ref b), (.ref a)])) rfl (by rw [hml]; rfl) rfl (hb hby own_d_jdk_42_3_6) (W := 0) rfl (by decide) (by decide) (by decide) (by decide)
  obtain ⟨r_477, kr_478, rfl, M476, K476, z479, F480, F481, F482, F483, F484⟩ := hQ476
  have N476 := Fr.app N0 M476
  refine own_st (fun u_ k_ => st476 u_ k_) ?_
  show own_Go p e below _ (T476.setTop (mkF m 9 #[.val (.ref a), .val (.ref b)] []))
  have K485 : Keep h0 T476.heap [a] := (Keep.refl h0 [a]).trans K476 (allS (Or.inl (List.mem_of_getElem? (i := 0) rfl)) all0)
  have z486 : h0.size ≤ r_477 := Nat.le_trans (Nat.le_refl _) z479
  exact own_retV X476 hx hlk hret (hb hby own_d_jdk_42_3_9) (by decide) (by decide) (show QrmS1_2_1 Z wcs a b kb v0 v1 h0 n0 none T476.heap _ from (by exact ⟨r_477, kr_478, rfl, N476, K485, z486, F480, F481, F482, F483, F484⟩))
theorem own_ef_rmS1_2_2 (m : MethodId) (a : Addr) (b : Addr)  : entryFrame m #[(.ref a), (.ref b)] 2 = mkF m 0 #[.val (.ref a), .val (.ref b)] [] := by first | (simp [entryFrame, mkF, argsToLocals, Value.category, maxLocals]; done) | rfl
def QrmS1_2_2 (Z : State) (wcs : Int32) (a : Addr) (b : Addr) (kb : ClassId) (v0 : Int32) (v1 : Int32) (h0 : Heap) (n0 : Nat) (v : Option Value) (h : Heap) (L : List Loc) : Prop := ∃ r : Addr, ∃ kr : ClassId, v = none ∧ Fr n0 L ∧ Keep h0 h [a] ∧ h0.size ≤ r ∧ Exa Z h a "java/lang/String" ∧ Fld Z h a "java/lang/String" "value" "[B" (.ref r) ∧ Fld Z h a "java/lang/String" "coder" "B" (.int (0 : Int32)) ∧ Exa Z h r "[B" ∧ Arv Z h r kr .byte (2 : Int32) [(.int (v0.toInt8.toInt32)), (.int (v1.toInt8.toInt32))] (.int (0 : Int32))
set_option maxRecDepth 65536 in
set_option maxHeartbeats 40000000 in
theorem rmS1_2_2 (l : Launch) (Z : State) (a0 : Array Value) (hw : own_H a0 Z) (ws : List Jvm.Cond) (wcs : Int32) (hS : own_S Z wcs) (a : Addr) (b : Addr) (kb : ClassId) (v0 : Int32) (v1 : Int32) (h0 : Heap) (n0 : Nat) (O0 : Old Z n0 h0) (E : Exa Z h0 a "java/lang/String") (Ea : Exa Z h0 b "[C") (ga : n0 ≤ a) (F1 : Fld Z h0 a "java/lang/String" "value" "[B" .null) (F2 : Fld Z h0 a "java/lang/String" "coder" "B" (.int (0 : Int32))) (A1 : Arv Z h0 b kb .char (2 : Int32) [(.int v0), (.int v1)] (.int (0 : Int32))) (hq0 : ¬ (255 : Int32) < v0) (hq1 : ¬ (255 : Int32) < v1) :
    own_Met l own_y_198 jdk_42_method_3_code 2 none ws ({ frames := 5, cells := 2, slots := 6, locals := 74 } : Room) Z h0 #[(.ref a), (.ref b)] (QrmS1_2_2 Z wcs a b kb v0 v1 h0 n0) := by
  refine own_body (plainFor_of_name own_pn_173) ?_
  intro p e s m below meth c s₁ hx hby hml hown hnm hret hlk hZ e0 X0
  have N0 := Fr.nil n0
  refine own_st (fun u_ k_ => castTop (own_ef_rmS1_2_2 m a b) k_) ?_
  show own_Go p e below _ (s₁.setTop (mkF m 0 #[.val (.ref a), .val (.ref b)] []))
  refine own_st (fun u_ k_ => XS.aloadN X0.here hx rfl (hb hby own_d_jdk_42_3_0) rfl rfl k_) ?_
  refine own_st (fun u_ k_ => XS.aloadN X0.here hx rfl (hb hby own_d_jdk_42_3_1) rfl rfl k_) ?_
  show own_Go p e below _ (s₁.setTop (mkF m 2 #[.val (.ref a), .val (.ref b)] [(.ref b), (.ref a)]))
  refine own_st (fun u_ k_ => XS.iconst X0.here hx rfl (hb hby own_d_jdk_42_3_2) k_) ?_
  refine own_st (fun u_ k_ => XS.aloadN X0.here hx rfl (hb hby own_d_jdk_42_3_3) rfl rfl k_) ?_
  show own_Go p e below _ (s₁.setTop (mkF m 4 #[.val (.ref a), .val (.ref b)] [(.ref b), (.int (0 : Int32)), (.ref b), (.ref a)]))
  obtain ⟨cl487, Ar487, -, S487, N487, -, -⟩ := id A1
  refine own_st (X0.arraylength hx (by rw [e0]; exact Ar487.1) (State.isArrayOf_alike hZ.alike Ar487.2.1) (g := (mkF m 4 #[.val (.ref a), .val (.ref b)] [(.ref b), (.int (0 : Int32)), (.ref b), (.ref a)])) rfl rfl (hb hby own_d_jdk_42_3_4)) ?_
  rw [len_of S487 N487]
  show own_Go p e below _ (s₁.setTop (mkF m 5 #[.val (.ref a), .val (.ref b)] [(.int (2 : Int32)), (.int (0 : Int32)), (.ref b), (.ref a)]))
  refine own_st (fun u_ k_ => XS.aconstNull X0.here hx rfl (hb hby own_d_jdk_42_3_5) k_) ?_
  obtain ⟨T488, v488, L488, X488, hQ488, st488⟩ := own_callN X0 hx hZ (y := own_y_172) rfl hown (own_w hw 8 rfl) (own_w hw 9 rfl) (own_w hw 3 rfl) (own_w hw 11 rfl) own_lm_181 (rmS4_2_2 l Z a0 hw [] wcs hS a b kb v0 v1 h0 n0 O0 E Ea ga F1 F2 A1 (by assumption) (by assumption)) e0 own_pd_182 (a := a) (argsL := [(.ref b), (.int (0 : Int32)), (.int (2 : Int32)), .null]) (rest := []) rfl rfl (g := (mkF m 6 #[.val (.ref a), .val (.ref b)] [.null, (.int (2 : Int32)), (.int (0 : Int32)), (.ref b), (.ref a)])) rfl (by rw [hml]; rfl) rfl (hb hby own_d_jdk_42_3_6) (W := 0) rfl (by decide) (by decide) (by decide) (by decide)
  obtain ⟨r_489, kr_490, rfl, M488, K488, z491, F492, F493, F494, F495, F496⟩ := hQ488
  have N488 := Fr.app N0 M488
  refine own_st (fun u_ k_ => st488 u_ k_) ?_
  show own_Go p e below _ (T488.setTop (mkF m 9 #[.val (.ref a), .val (.ref b)] []))
  have K497 : Keep h0 T488.heap [a] := (Keep.refl h0 [a]).trans K488 (allS (Or.inl (List.mem_of_getElem? (i := 0) rfl)) all0)
  have z498 : h0.size ≤ r_489 := Nat.le_trans (Nat.le_refl _) z491
  exact own_retV X488 hx hlk hret (hb hby own_d_jdk_42_3_9) (by decide) (by decide) (show QrmS1_2_2 Z wcs a b kb v0 v1 h0 n0 none T488.heap _ from (by exact ⟨r_489, kr_490, rfl, N488, K497, z498, F492, F493, F494, F495, F496⟩))
def QrmSJ_2 (Z : State) (wcs : Int32) (a : Addr) (b : Addr) (kb : ClassId) (v0 : Int32) (v1 : Int32) (h0 : Heap) (n0 : Nat) (v : Option Value) (h : Heap) (L : List Loc) : Prop := ∃ r : Addr, ∃ kr : ClassId, ∃ cd : Int32, ∃ ln : Int32, ∃ us : List Value, v = none ∧ Fr n0 L ∧ Keep h0 h [a] ∧ h0.size ≤ r ∧ Exa Z h a "java/lang/String" ∧ Fld Z h a "java/lang/String" "value" "[B" (.ref r) ∧ Fld Z h a "java/lang/String" "coder" "B" (.int cd) ∧ Exa Z h r "[B" ∧ Arv Z h r kr .byte ln us (.int (0 : Int32)) ∧ (ln >>> (cd &&& 31)) = (2 : Int32) ∧ narrow .byte (.int cd) = .int cd
theorem rmSJ_2 (l : Launch) (Z : State) (a0 : Array Value) (hw : own_H a0 Z) (ws : List Jvm.Cond) (wcs : Int32) (hS : own_S Z wcs) (a : Addr) (b : Addr) (kb : ClassId) (v0 : Int32) (v1 : Int32) (h0 : Heap) (n0 : Nat) (O0 : Old Z n0 h0) (E : Exa Z h0 a "java/lang/String") (Ea : Exa Z h0 b "[C") (ga : n0 ≤ a) (F1 : Fld Z h0 a "java/lang/String" "value" "[B" .null) (F2 : Fld Z h0 a "java/lang/String" "coder" "B" (.int (0 : Int32))) (A1 : Arv Z h0 b kb .char (2 : Int32) [(.int v0), (.int v1)] (.int (0 : Int32))) (hv0 : own_C16 v0) (hv1 : own_C16 v1) :
    own_Met l own_y_198 jdk_42_method_3_code 2 none ws ({ frames := 5, cells := 2, slots := 6, locals := 74 } : Room) Z h0 #[(.ref a), (.ref b)] (QrmSJ_2 Z wcs a b kb v0 v1 h0 n0) := by
  by_cases hq0 : (255 : Int32) < v0
  · refine MetFree.imp (rmS1_2_0 l Z a0 hw ws wcs hS a b kb v0 v1 h0 n0 O0 E Ea ga F1 F2 A1 hq0 hv0 hv1) ?_
    rintro _ _ _ _ ⟨v, L, e, ⟨r, kr, b1, b2, b3, b4, b5, b6, b7, b8, b9⟩, f⟩
    exact ⟨v, L, e, ⟨r, kr, (1 : Int32), (4 : Int32), [(.int ((v0 >>> ((0 : Int32) &&& 31)).toInt8.toInt32)), (.int ((v0 >>> ((8 : Int32) &&& 31)).toInt8.toInt32)), (.int ((v1 >>> ((0 : Int32) &&& 31)).toInt8.toInt32)), (.int ((v1 >>> ((8 : Int32) &&& 31)).toInt8.toInt32))], b1, b2, b3, b4, b5, b6, b7, b8, b9, by decide, rfl⟩, f⟩
  · skip
    by_cases hq1 : (255 : Int32) < v1
    · refine MetFree.imp (rmS1_2_1 l Z a0 hw ws wcs hS a b kb v0 v1 h0 n0 O0 E Ea ga F1 F2 A1 hq0 hq1 hv0 hv1) ?_
      rintro _ _ _ _ ⟨v, L, e, ⟨r, kr, b1, b2, b3, b4, b5, b6, b7, b8, b9⟩, f⟩
      exact ⟨v, L, e, ⟨r, kr, (1 : Int32), (4 : Int32), [(.int ((v0 >>> ((0 : Int32) &&& 31)).toInt8.toInt32)), (.int ((v0 >>> ((8 : Int32) &&& 31)).toInt8.toInt32)), (.int ((v1 >>> ((0 : Int32) &&& 31)).toInt8.toInt32)), (.int ((v1 >>> ((8 : Int32) &&& 31)).toInt8.toInt32))], b1, b2, b3, b4, b5, b6, b7, b8, b9, by decide, rfl⟩, f⟩
    · skip
      refine MetFree.imp (rmS1_2_2 l Z a0 hw ws wcs hS a b kb v0 v1 h0 n0 O0 E Ea ga F1 F2 A1 hq0 hq1) ?_
      rintro _ _ _ _ ⟨v, L, e, ⟨r, kr, b1, b2, b3, b4, b5, b6, b7, b8, b9⟩, f⟩
      exact ⟨v, L, e, ⟨r, kr, (0 : Int32), (2 : Int32), [(.int (v0.toInt8.toInt32)), (.int (v1.toInt8.toInt32))], b1, b2, b3, b4, b5, b6, b7, b8, b9, by decide, rfl⟩, f⟩
theorem own_ef_rmCp3_0 (m : MethodId) (a : Addr) (b : Addr)  : entryFrame m #[(.ref a), (.int (0 : Int32)), (.ref b), (.int (0 : Int32)), (.int (3 : Int32))] 7 = mkF m 0 #[.val (.ref a), .val (.int (0 : Int32)), .val (.ref b), .val (.int (0 : Int32)), .val (.int (3 : Int32)), .unset, .unset] [] := by first | (simp [entryFrame, mkF, argsToLocals, Value.category, maxLocals]; done) | rfl
def QrmCp3_0 (Z : State) (wcs : Int32) (a : Addr) (ka : ClassId) (b : Addr) (kb : ClassId) (v0 : Int32) (v1 : Int32) (v2 : Int32) (h0 : Heap) (n0 : Nat) (v : Option Value) (h : Heap) (L : List Loc) : Prop := v = some (.int (0 : Int32)) ∧ Fr n0 L ∧ Keep h0 h [b] ∧ Exa Z h b "[B"
set_option maxRecDepth 65536 in
set_option maxHeartbeats 40000000 in
theorem rmCp3_0 (l : Launch) (Z : State) (a0 : Array Value) (hw : own_H a0 Z) (ws : List Jvm.Cond) (wcs : Int32) (hS : own_S Z wcs) (a : Addr) (ka : ClassId) (b : Addr) (kb : ClassId) (v0 : Int32) (v1 : Int32) (v2 : Int32) (h0 : Heap) (n0 : Nat) (O0 : Old Z n0 h0) (Ea : Exa Z h0 a "[C") (Eb : Exa Z h0 b "[B") (gb : n0 ≤ b) (A1 : Arv Z h0 a ka .char (3 : Int32) [(.int v0), (.int v1), (.int v2)] (.int (0 : Int32))) (A2 : Arv Z h0 b kb .byte (3 : Int32) [(.int (0 : Int32)), (.int (0 : Int32)), (.int (0 : Int32))] (.int (0 : Int32))) (hq0 : (255 : Int32) < v0) :
    own_Met l own_y_14 jdk_52_method_21_code 7 (some .int) ws ({ frames := 0, cells := 0, slots := 0, locals := 0 } : Room) Z h0 #[(.ref a), (.int (0 : Int32)), (.ref b), (.int (0 : Int32)), (.int (3 : Int32))] (QrmCp3_0 Z wcs a ka b kb v0 v1 v2 h0 n0) := by
  refine own_body (plainFor_of_name own_pn_15) ?_
  intro p e s m below meth c s₁ hx hby hml hown hnm hret hlk hZ e0 X0
  have N0 := Fr.nil n0
  refine own_st (fun u_ k_ => castTop (own_ef_rmCp3_0 m a b) k_) ?_
  show own_Go p e below _ (s₁.setTop (mkF m 0 #[.val (.ref a), .val (.int (0 : Int32)), .val (.ref b), .val (.int (0 : Int32)), .val (.int (3 : Int32)), .unset, .unset] []))
  refine own_st (fun u_ k_ => XS.iconst X0.here hx rfl (hb hby own_d_jdk_52_21_0) k_) ?_
  refine own_st (fun u_ k_ => XS.istore X0.here hx rfl (hb hby own_d_jdk_52_21_1) rfl (l' := #[.val (.ref a), .val (.int (0 : Int32)), .val (.ref b), .val (.int (0 : Int32)), .val (.int (3 : Int32)), .val (.int (0 : Int32)), .unset]) rfl k_) ?_
  show own_Go p e below _ (s₁.setTop (mkF m 3 #[.val (.ref a), .val (.int (0 : Int32)), .val (.ref b), .val (.int (0 : Int32)), .val (.int (3 : Int32)), .val (.int (0 : Int32)), .unset] []))
  refine own_st (fun u_ k_ => XS.iload X0.here hx rfl (hb hby own_d_jdk_52_21_3) rfl k_) ?_
  refine own_st (fun u_ k_ => XS.iload X0.here hx rfl (hb hby own_d_jdk_52_21_5) rfl k_) ?_
  show own_Go p e below _ (s₁.setTop (mkF m 7 #[.val (.ref a), .val (.int (0 : Int32)), .val (.ref b), .val (.int (0 : Int32)), .val (.int (3 : Int32)), .val (.int (0 : Int32)), .unset] [(.int (3 : Int32)), (.int (0 : Int32))]))
  refine own_st (fun u_ k_ => XS.icmpNo X0.here hx rfl (hb hby own_d_jdk_52_21_7) rfl (XT.ii_ge_f (by decide)) k_) ?_
  refine own_st (fun u_ k_ => XS.aloadN X0.here hx rfl (hb hby own_d_jdk_52_21_10) rfl rfl k_) ?_
  show own_Go p e below _ (s₁.setTop (mkF m 11 #[.val (.ref a), .val (.int (0 : Int32)), .val (.ref b), .val (.int (0 : Int32)), .val (.int (3 : Int32)), .val (.int (0 : Int32)), .unset] [(.ref a)]))
  refine own_st (fun u_ k_ => XS.iloadN X0.here hx rfl (hb hby own_d_jdk_52_21_11) rfl k_) ?_
  obtain ⟨cl499, Ar499, q499, S499, N499, H499, G499⟩ := id A1
  have hi499 : ¬ ((0 : Int32) < 0 ∨ cl499.slots.size ≤ ((0 : Int32)).toNatClampNeg) := inb_of S499 ⟨by decide, by decide⟩
  have ha499 : cl499.slots[((0 : Int32)).toNatClampNeg]? = some (.int v0) := H499.at hi499 rfl
  refine own_st (X0.caload hx (j := (0 : Int32)) (v := (.int v0)) (by rw [e0]; exact Ar499.1) (State.isArrayOf_alike hZ.alike Ar499.2.1) Ar499.2.2 hi499 ha499 (g := (mkF m 12 #[.val (.ref a), .val (.int (0 : Int32)), .val (.ref b), .val (.int (0 : Int32)), .val (.int (3 : Int32)), .val (.int (0 : Int32)), .unset] [(.int (0 : Int32)), (.ref a)])) rfl rfl (hb hby own_d_jdk_52_21_12)) ?_
  show own_Go p e below _ (s₁.setTop (mkF m 13 #[.val (.ref a), .val (.int (0 : Int32)), .val (.ref b), .val (.int (0 : Int32)), .val (.int (3 : Int32)), .val (.int (0 : Int32)), .unset] [(.int v0)]))
  refine own_st (fun u_ k_ => XS.istore X0.here hx rfl (hb hby own_d_jdk_52_21_13) rfl (l' := #[.val (.ref a), .val (.int (0 : Int32)), .val (.ref b), .val (.int (0 : Int32)), .val (.int (3 : Int32)), .val (.int (0 : Int32)), .val (.int v0)]) rfl k_) ?_
  show own_Go p e below _ (s₁.setTop (mkF m 15 #[.val (.ref a), .val (.int (0 : Int32)), .val (.ref b), .val (.int (0 : Int32)), .val (.int (3 : Int32)), .val (.int (0 : Int32)), .val (.int v0)] []))
  refine own_st (fun u_ k_ => XS.iload X0.here hx rfl (hb hby own_d_jdk_52_21_15) rfl k_) ?_
  refine own_st (fun u_ k_ => XS.sipush X0.here hx rfl (hb hby own_d_jdk_52_21_17) k_) ?_
  show own_Go p e below _ (s₁.setTop (mkF m 20 #[.val (.ref a), .val (.int (0 : Int32)), .val (.ref b), .val (.int (0 : Int32)), .val (.int (3 : Int32)), .val (.int (0 : Int32)), .val (.int v0)] [(.int (255 : Int32)), (.int v0)]))
  refine own_st (fun u_ k_ => XS.icmpNo X0.here hx rfl (hb hby own_d_jdk_52_21_20) rfl (XT.ii_le_f hq0) k_) ?_
  refine own_st (fun u_ k_ => XS.iload X0.here hx rfl (hb hby own_d_jdk_52_21_23) rfl k_) ?_
  show own_Go p e below _ (s₁.setTop (mkF m 25 #[.val (.ref a), .val (.int (0 : Int32)), .val (.ref b), .val (.int (0 : Int32)), .val (.int (3 : Int32)), .val (.int (0 : Int32)), .val (.int v0)] [(.int (0 : Int32))]))
  exact own_retX X0 hx hlk hret rfl (Or.inl ⟨rfl, by simp, _, rfl⟩) (hb hby own_d_jdk_52_21_25) (by decide) (by decide) (show QrmCp3_0 Z wcs a ka b kb v0 v1 v2 h0 n0 (some (.int (0 : Int32))) s₁.heap _ from (by rw [e0]; exact ⟨rfl, N0, (Keep.refl h0 [b]), Eb⟩))
theorem own_ef_rmNL3 (m : MethodId)   : entryFrame m #[(.int (3 : Int32))] 1 = mkF m 0 #[.val (.int (3 : Int32))] [] := by first | (simp [entryFrame, mkF, argsToLocals, Value.category, maxLocals]; done) | rfl
def QrmNL3 (Z : State) (wcs : Int32)  (h0 : Heap) (n0 : Nat) (v : Option Value) (h : Heap) (L : List Loc) : Prop := v = some (.int (6 : Int32)) ∧ Fr n0 L ∧ h = h0
set_option maxRecDepth 65536 in
set_option maxHeartbeats 40000000 in
theorem rmNL3 (l : Launch) (Z : State) (a0 : Array Value) (hw : own_H a0 Z) (ws : List Jvm.Cond) (wcs : Int32) (hS : own_S Z wcs)  (h0 : Heap) (n0 : Nat) (O0 : Old Z n0 h0)  :
    own_Met l own_y_25 jdk_52_method_3_code 1 (some .int) ws ({ frames := 0, cells := 0, slots := 0, locals := 0 } : Room) Z h0 #[(.int (3 : Int32))] (QrmNL3 Z wcs  h0 n0) := by
  refine own_body (plainFor_of_name own_pn_15) ?_
  intro p e s m below meth c s₁ hx hby hml hown hnm hret hlk hZ e0 X0
  have N0 := Fr.nil n0
  refine own_st (fun u_ k_ => castTop (own_ef_rmNL3 m ) k_) ?_
  show own_Go p e below _ (s₁.setTop (mkF m 0 #[.val (.int (3 : Int32))] []))
  refine own_st (fun u_ k_ => XS.iloadN X0.here hx rfl (hb hby own_d_jdk_52_3_0) rfl k_) ?_
  refine own_st (fun u_ k_ => XS.ifYes X0.here hx rfl (pc0 := 1) (pc' := 12) rfl (hb hby own_d_jdk_52_3_1) rfl (XT.i0_ge_t (by decide)) (by decide) (by decide) k_) ?_
  show own_Go p e below _ (s₁.setTop (mkF m 12 #[.val (.int (3 : Int32))] []))
  refine own_st (fun u_ k_ => XS.iloadN X0.here hx rfl (hb hby own_d_jdk_52_3_12) rfl k_) ?_
  refine own_st (X0.ldcInt hx hown (mvT hZ (own_w hw 115 rfl)) (g := (mkF m 13 #[.val (.int (3 : Int32))] [(.int (3 : Int32))])) rfl (hb hby own_d_jdk_52_3_13)) ?_
  show own_Go p e below _ (s₁.setTop (mkF m 15 #[.val (.int (3 : Int32))] [(.int (1073741823 : Int32)), (.int (3 : Int32))]))
  refine own_st (fun u_ k_ => XS.icmpYes X0.here hx rfl (pc0 := 15) (pc' := 55) rfl (hb hby own_d_jdk_52_3_15) rfl (XT.ii_lt_t (by decide)) (by decide) (by decide) k_) ?_
  show own_Go p e below _ (s₁.setTop (mkF m 55 #[.val (.int (3 : Int32))] []))
  refine own_st (fun u_ k_ => XS.iloadN X0.here hx rfl (hb hby own_d_jdk_52_3_55) rfl k_) ?_
  refine own_st (fun u_ k_ => XS.iconst X0.here hx rfl (hb hby own_d_jdk_52_3_56) k_) ?_
  show own_Go p e below _ (s₁.setTop (mkF m 57 #[.val (.int (3 : Int32))] [(.int (1 : Int32)), (.int (3 : Int32))]))
  refine own_st (fun u_ k_ => XS.ishl X0.here hx rfl (hb hby own_d_jdk_52_3_57) rfl k_) ?_
  exact own_retX X0 hx hlk hret rfl (Or.inl ⟨rfl, by simp, _, rfl⟩) (hb hby own_d_jdk_52_3_58) (by decide) (by decide) (show QrmNL3 Z wcs  h0 n0 (some (.int (6 : Int32))) s₁.heap _ from (by rw [e0]; exact ⟨rfl, N0, rfl⟩))
theorem own_ef_rmNB3 (m : MethodId)   : entryFrame m #[(.int (3 : Int32))] 1 = mkF m 0 #[.val (.int (3 : Int32))] [] := by first | (simp [entryFrame, mkF, argsToLocals, Value.category, maxLocals]; done) | rfl
def QrmNB3 (Z : State) (wcs : Int32)  (h0 : Heap) (n0 : Nat) (v : Option Value) (h : Heap) (L : List Loc) : Prop := ∃ r : Addr, ∃ kr : ClassId, v = some (.ref r) ∧ Fr n0 L ∧ Keep h0 h [] ∧ h0.size ≤ r ∧ Exa Z h r "[B" ∧ Arv Z h r kr .byte (6 : Int32) [(.int (0 : Int32)), (.int (0 : Int32)), (.int (0 : Int32)), (.int (0 : Int32)), (.int (0 : Int32)), (.int (0 : Int32))] (.int (0 : Int32))
set_option maxRecDepth 65536 in
set_option maxHeartbeats 40000000 in
theorem rmNB3 (l : Launch) (Z : State) (a0 : Array Value) (hw : own_H a0 Z) (ws : List Jvm.Cond) (wcs : Int32) (hS : own_S Z wcs)  (h0 : Heap) (n0 : Nat) (O0 : Old Z n0 h0)  :
    own_Met l own_y_33 jdk_52_method_2_code 1 (some (.array .byte)) ws ({ frames := 1, cells := 1, slots := 6, locals := 12 } : Room) Z h0 #[(.int (3 : Int32))] (QrmNB3 Z wcs  h0 n0) := by
  refine own_body (plainFor_of_name own_pn_15) ?_
  intro p e s m below meth c s₁ hx hby hml hown hnm hret hlk hZ e0 X0
  have N0 := Fr.nil n0
  refine own_st (fun u_ k_ => castTop (own_ef_rmNB3 m ) k_) ?_
  show own_Go p e below _ (s₁.setTop (mkF m 0 #[.val (.int (3 : Int32))] []))
  refine own_st (fun u_ k_ => XS.iloadN X0.here hx rfl (hb hby own_d_jdk_52_2_0) rfl k_) ?_
  obtain ⟨T500, v500, L500, X500, hQ500, st500⟩ := own_callS X0 hx hZ (y := own_y_25) hown (own_w hw 112 rfl) (own_w hw 113 rfl) (own_w hw 98 rfl) (own_w hw 114 rfl) own_lm_28 (rmNL3 l Z a0 hw [] wcs hS  h0 n0 O0 ) e0 own_pd_29 (argsL := [(.int (3 : Int32))]) (rest := []) rfl rfl (g := (mkF m 1 #[.val (.int (3 : Int32))] [(.int (3 : Int32))])) rfl (by rw [hml]; rfl) rfl (hb hby own_d_jdk_52_2_1) (W := 0) rfl (by decide) (by decide) (by decide) (by decide)
  obtain ⟨rfl, M500, e500⟩ := hQ500
  have N500 := Fr.app N0 M500
  refine own_st (fun u_ k_ => st500 u_ k_) ?_
  show own_Go p e below _ (T500.setTop (mkF m 4 #[.val (.int (3 : Int32))] [(.int (6 : Int32))]))
  obtain ⟨T501, h501, k501, X501, e501, E501, A501, Y501, st501⟩ := newPE X500 hx hZ (own_w hw 16 rfl) e500 (g := (mkF m 4 #[.val (.int (3 : Int32))] [(.int (6 : Int32))])) rfl (hb hby own_d_jdk_52_2_4) rfl (by decide) (cap := 6) (by decide) (by decide) (by decide) (by decide) (ad := "[B") own_lm_31
  obtain ⟨b501, g501⟩ : ∃ z, z = h0.size := ⟨_, rfl⟩
  rw [← g501] at A501 Y501 st501
  have V501 : Arv Z h501 b501 k501 .byte (6 : Int32) [(.int (0 : Int32)), (.int (0 : Int32)), (.int (0 : Int32)), (.int (0 : Int32)), (.int (0 : Int32)), (.int (0 : Int32))] (.int (0 : Int32)) := (Arv.new A501 (by decide)).pad (pad_rep [] (.int (0 : Int32)) 6)
  refine own_st (fun u_ k_ => st501 u_ k_) ?_
  show own_Go p e below _ (T501.setTop (mkF m 6 #[.val (.int (3 : Int32))] [(.ref b501)]))
  have K502 : Keep h0 h501 [] := (Keep.refl h0 []).ext E501
  have z503 : h0.size ≤ b501 := Nat.le_trans (Nat.le_refl _) (Nat.le_of_eq g501.symm)
  exact own_retX X501 hx hlk hret rfl (Or.inr (Or.inr (Or.inr (Or.inr ⟨rfl, rfl, rfl⟩)))) (hb hby own_d_jdk_52_2_6) (by decide) (by decide) (show QrmNB3 Z wcs  h0 n0 (some (.ref b501)) T501.heap _ from (by rw [e501]; exact ⟨b501, k501, rfl, N500, K502, z503, Y501, V501⟩))
theorem own_ef_rmPC3_0 (m : MethodId) (b : Addr) (cv : Int32)  : entryFrame m #[(.ref b), (.int (0 : Int32)), (.int cv)] 3 = mkF m 0 #[.val (.ref b), .val (.int (0 : Int32)), .val (.int cv)] [] := by first | (simp [entryFrame, mkF, argsToLocals, Value.category, maxLocals]; done) | rfl
def QrmPC3_0 (Z : State) (wcs : Int32) (b : Addr) (kb : ClassId) (cv : Int32) (u0 : Int32) (u1 : Int32) (u2 : Int32) (u3 : Int32) (u4 : Int32) (u5 : Int32) (h0 : Heap) (n0 : Nat) (v : Option Value) (h : Heap) (L : List Loc) : Prop := v = none ∧ Fr n0 L ∧ Keep h0 h [b] ∧ Exa Z h b "[B" ∧ Arv Z h b kb .byte (6 : Int32) [(.int ((cv >>> ((0 : Int32) &&& 31)).toInt8.toInt32)), (.int ((cv >>> ((8 : Int32) &&& 31)).toInt8.toInt32)), (.int u2), (.int u3), (.int u4), (.int u5)] (.int (0 : Int32))
set_option maxRecDepth 65536 in
set_option maxHeartbeats 40000000 in
theorem rmPC3_0 (l : Launch) (Z : State) (a0 : Array Value) (hw : own_H a0 Z) (ws : List Jvm.Cond) (wcs : Int32) (hS : own_S Z wcs) (b : Addr) (kb : ClassId) (cv : Int32) (u0 : Int32) (u1 : Int32) (u2 : Int32) (u3 : Int32) (u4 : Int32) (u5 : Int32) (h0 : Heap) (n0 : Nat) (O0 : Old Z n0 h0) (Eb : Exa Z h0 b "[B") (gb : n0 ≤ b) (A2 : Arv Z h0 b kb .byte (6 : Int32) [(.int u0), (.int u1), (.int u2), (.int u3), (.int u4), (.int u5)] (.int (0 : Int32))) :
    own_Met l own_y_56 jdk_52_method_4_code 3 none ws ({ frames := 0, cells := 0, slots := 0, locals := 0 } : Room) Z h0 #[(.ref b), (.int (0 : Int32)), (.int cv)] (QrmPC3_0 Z wcs b kb cv u0 u1 u2 u3 u4 u5 h0 n0) := by
  refine own_body (plainFor_of_name own_pn_15) ?_
  intro p e s m below meth c s₁ hx hby hml hown hnm hret hlk hZ e0 X0
  have N0 := Fr.nil n0
  refine own_st (fun u_ k_ => castTop (own_ef_rmPC3_0 m b cv) k_) ?_
  show own_Go p e below _ (s₁.setTop (mkF m 0 #[.val (.ref b), .val (.int (0 : Int32)), .val (.int cv)] []))
  have F504 := Sta.ext O0.2 hS.2.2.1
  obtain ⟨T505, X505, e505, st505⟩ := getS2 X0 hx hZ hown (host := "") (Or.inl (own_w hw 119 rfl)) Via.refl e0 F504 (g := (mkF m 0 #[.val (.ref b), .val (.int (0 : Int32)), .val (.int cv)] [])) rfl (hb hby own_d_jdk_52_4_0)
  refine own_st (fun u_ k_ => st505 u_ k_) ?_
  show own_Go p e below _ (T505.setTop (mkF m 3 #[.val (.ref b), .val (.int (0 : Int32)), .val (.int cv)] [(.int (1 : Int32))]))
  refine own_st (fun u_ k_ => XS.ifYes X505.here hx rfl (pc0 := 3) (pc' := 28) rfl (hb hby own_d_jdk_52_4_3) rfl (XT.i0_ne_t (by decide)) (by decide) (by decide) k_) ?_
  refine own_st (fun u_ k_ => XS.iloadN X505.here hx rfl (hb hby own_d_jdk_52_4_28) rfl k_) ?_
  show own_Go p e below _ (T505.setTop (mkF m 29 #[.val (.ref b), .val (.int (0 : Int32)), .val (.int cv)] [(.int (0 : Int32))]))
  refine own_st (fun u_ k_ => XS.iconst X505.here hx rfl (hb hby own_d_jdk_52_4_29) k_) ?_
  refine own_st (fun u_ k_ => XS.ishl X505.here hx rfl (hb hby own_d_jdk_52_4_30) rfl k_) ?_
  show own_Go p e below _ (T505.setTop (mkF m 31 #[.val (.ref b), .val (.int (0 : Int32)), .val (.int cv)] [(.int (0 : Int32))]))
  refine own_st (fun u_ k_ => XS.istoreN X505.here hx rfl (hb hby own_d_jdk_52_4_31) rfl (l' := #[.val (.ref b), .val (.int (0 : Int32)), .val (.int cv)]) rfl k_) ?_
  refine own_st (fun u_ k_ => XS.aloadN X505.here hx rfl (hb hby own_d_jdk_52_4_32) rfl rfl k_) ?_
  show own_Go p e below _ (T505.setTop (mkF m 33 #[.val (.ref b), .val (.int (0 : Int32)), .val (.int cv)] [(.ref b)]))
  refine own_st (fun u_ k_ => XS.iloadN X505.here hx rfl (hb hby own_d_jdk_52_4_33) rfl k_) ?_
  refine own_st (fun u_ k_ => XS.iinc X505.here hx rfl (hb hby own_d_jdk_52_4_34) rfl (l' := #[.val (.ref b), .val (.int (1 : Int32)), .val (.int cv)]) rfl k_) ?_
  show own_Go p e below _ (T505.setTop (mkF m 37 #[.val (.ref b), .val (.int (1 : Int32)), .val (.int cv)] [(.int (0 : Int32)), (.ref b)]))
  refine own_st (fun u_ k_ => XS.iloadN X505.here hx rfl (hb hby own_d_jdk_52_4_37) rfl k_) ?_
  have F506 := Sta.ext O0.2 hS.2.2.2.1
  obtain ⟨T507, X507, e507, st507⟩ := getS2 X505 hx hZ hown (host := "") (Or.inl (own_w hw 120 rfl)) Via.refl e505 F506 (g := (mkF m 38 #[.val (.ref b), .val (.int (1 : Int32)), .val (.int cv)] [(.int cv), (.int (0 : Int32)), (.ref b)])) rfl (hb hby own_d_jdk_52_4_38)
  refine own_st (fun u_ k_ => st507 u_ k_) ?_
  show own_Go p e below _ (T507.setTop (mkF m 41 #[.val (.ref b), .val (.int (1 : Int32)), .val (.int cv)] [(.int (0 : Int32)), (.int cv), (.int (0 : Int32)), (.ref b)]))
  refine own_st (fun u_ k_ => XS.ishr X507.here hx rfl (hb hby own_d_jdk_52_4_41) rfl k_) ?_
  refine own_st (fun u_ k_ => XS.i2b X507.here hx rfl (hb hby own_d_jdk_52_4_42) rfl k_) ?_
  show own_Go p e below _ (T507.setTop (mkF m 43 #[.val (.ref b), .val (.int (1 : Int32)), .val (.int cv)] [(.int ((cv >>> ((0 : Int32) &&& 31)).toInt8.toInt32)), (.int (0 : Int32)), (.ref b)]))
  obtain ⟨cl508, Ar508, q508, S508, N508, H508, G508⟩ := id A2
  have hi508 : ¬ ((0 : Int32) < 0 ∨ cl508.slots.size ≤ ((0 : Int32)).toNatClampNeg) := inb_of S508 ⟨by decide, by decide⟩
  obtain ⟨T509, h509, X509, e509, W509, st509⟩ := stB X507 hx hZ e507 Ar508 (j := (0 : Int32)) hi508 (g := (mkF m 43 #[.val (.ref b), .val (.int (1 : Int32)), .val (.int cv)] [(.int ((cv >>> ((0 : Int32) &&& 31)).toInt8.toInt32)), (.int (0 : Int32)), (.ref b)])) rfl rfl (hb hby own_d_jdk_52_4_43)
  rw [own_bb] at W509
  have N509 := Fr.snoc X509 N0 gb
  have V509 : Arv Z h509 b kb .byte (6 : Int32) [(.int ((cv >>> ((0 : Int32) &&& 31)).toInt8.toInt32)), (.int u1), (.int u2), (.int u3), (.int u4), (.int u5)] (.int (0 : Int32)) := Arv.set Ar508 q508 S508 N508 H508 G508 (fits_nar_byte _) W509 0 rfl (Nat.le_of_ble_eq_true rfl)
  refine own_st (fun u_ k_ => st509 u_ k_) ?_
  show own_Go p e below _ (T509.setTop (mkF m 44 #[.val (.ref b), .val (.int (1 : Int32)), .val (.int cv)] []))
  refine own_st (fun u_ k_ => XS.aloadN X509.here hx rfl (hb hby own_d_jdk_52_4_44) rfl rfl k_) ?_
  refine own_st (fun u_ k_ => XS.iloadN X509.here hx rfl (hb hby own_d_jdk_52_4_45) rfl k_) ?_
  show own_Go p e below _ (T509.setTop (mkF m 46 #[.val (.ref b), .val (.int (1 : Int32)), .val (.int cv)] [(.int (1 : Int32)), (.ref b)]))
  refine own_st (fun u_ k_ => XS.iloadN X509.here hx rfl (hb hby own_d_jdk_52_4_46) rfl k_) ?_
  have O510 : Old Z n0 h509 := O0.wr W509 gb
  have F511 := Sta.ext O510.2 hS.2.2.2.2
  obtain ⟨T512, X512, e512, st512⟩ := getS2 X509 hx hZ hown (host := "") (Or.inl (own_w hw 121 rfl)) Via.refl e509 F511 (g := (mkF m 47 #[.val (.ref b), .val (.int (1 : Int32)), .val (.int cv)] [(.int cv), (.int (1 : Int32)), (.ref b)])) rfl (hb hby own_d_jdk_52_4_47)
  refine own_st (fun u_ k_ => st512 u_ k_) ?_
  show own_Go p e below _ (T512.setTop (mkF m 50 #[.val (.ref b), .val (.int (1 : Int32)), .val (.int cv)] [(.int (8 : Int32)), (.int cv), (.int (1 : Int32)), (.ref b)]))
  refine own_st (fun u_ k_ => XS.ishr X512.here hx rfl (hb hby own_d_jdk_52_4_50) rfl k_) ?_
  refine own_st (fun u_ k_ => XS.i2b X512.here hx rfl (hb hby own_d_jdk_52_4_51) rfl k_) ?_
  show own_Go p e below _ (T512.setTop (mkF m 52 #[.val (.ref b), .val (.int (1 : Int32)), .val (.int cv)] [(.int ((cv >>> ((8 : Int32) &&& 31)).toInt8.toInt32)), (.int (1 : Int32)), (.ref b)]))
  obtain ⟨cl513, Ar513, q513, S513, N513, H513, G513⟩ := id V509
  have hi513 : ¬ ((1 : Int32) < 0 ∨ cl513.slots.size ≤ ((1 : Int32)).toNatClampNeg) := inb_of S513 ⟨by decide, by decide⟩
  obtain ⟨T514, h514, X514, e514, W514, st514⟩ := stB X512 hx hZ e512 Ar513 (j := (1 : Int32)) hi513 (g := (mkF m 52 #[.val (.ref b), .val (.int (1 : Int32)), .val (.int cv)] [(.int ((cv >>> ((8 : Int32) &&& 31)).toInt8.toInt32)), (.int (1 : Int32)), (.ref b)])) rfl rfl (hb hby own_d_jdk_52_4_52)
  rw [own_bb] at W514
  have N514 := Fr.snoc X514 N509 gb
  have V514 : Arv Z h514 b kb .byte (6 : Int32) [(.int ((cv >>> ((0 : Int32) &&& 31)).toInt8.toInt32)), (.int ((cv >>> ((8 : Int32) &&& 31)).toInt8.toInt32)), (.int u2), (.int u3), (.int u4), (.int u5)] (.int (0 : Int32)) := Arv.set Ar513 q513 S513 N513 H513 G513 (fits_nar_byte _) W514 1 rfl (Nat.le_of_ble_eq_true rfl)
  refine own_st (fun u_ k_ => st514 u_ k_) ?_
  show own_Go p e below _ (T514.setTop (mkF m 53 #[.val (.ref b), .val (.int (1 : Int32)), .val (.int cv)] []))
  have K515 : Keep h0 h509 [b] := (Keep.refl h0 [b]).wr W509 (Or.inl (List.mem_of_getElem? (i := 0) rfl))
  have K516 : Keep h0 h514 [b] := K515.wr W514 (Or.inl (List.mem_of_getElem? (i := 0) rfl))
  have F517 := (Exa.wr W514 (Exa.wr W509 Eb))
  exact own_retV X514 hx hlk hret (hb hby own_d_jdk_52_4_53) (by decide) (by decide) (show QrmPC3_0 Z wcs b kb cv u0 u1 u2 u3 u4 u5 h0 n0 none T514.heap _ from (by rw [e514]; exact ⟨rfl, N514, K516, F517, V514⟩))
theorem own_ef_rmGC3_0 (m : MethodId) (b : Addr)  : entryFrame m #[(.ref b), (.int (0 : Int32))] 2 = mkF m 0 #[.val (.ref b), .val (.int (0 : Int32))] [] := by first | (simp [entryFrame, mkF, argsToLocals, Value.category, maxLocals]; done) | rfl
def QrmGC3_0 (Z : State) (wcs : Int32) (b : Addr) (kb : ClassId) (u0 : Int32) (u1 : Int32) (u2 : Int32) (u3 : Int32) (u4 : Int32) (u5 : Int32) (h0 : Heap) (n0 : Nat) (v : Option Value) (h : Heap) (L : List Loc) : Prop := v = some (.int ((((u0 &&& (255 : Int32)) <<< ((0 : Int32) &&& 31)) ||| ((u1 &&& (255 : Int32)) <<< ((8 : Int32) &&& 31))).toUInt32.toUInt16.toUInt32.toInt32)) ∧ Fr n0 L ∧ h = h0
set_option maxRecDepth 65536 in
set_option maxHeartbeats 40000000 in
theorem rmGC3_0 (l : Launch) (Z : State) (a0 : Array Value) (hw : own_H a0 Z) (ws : List Jvm.Cond) (wcs : Int32) (hS : own_S Z wcs) (b : Addr) (kb : ClassId) (u0 : Int32) (u1 : Int32) (u2 : Int32) (u3 : Int32) (u4 : Int32) (u5 : Int32) (h0 : Heap) (n0 : Nat) (O0 : Old Z n0 h0) (A2 : Arv Z h0 b kb .byte (6 : Int32) [(.int u0), (.int u1), (.int u2), (.int u3), (.int u4), (.int u5)] (.int (0 : Int32))) :
    own_Met l own_y_81 jdk_52_method_5_code 2 (some .char) ws ({ frames := 0, cells := 0, slots := 0, locals := 0 } : Room) Z h0 #[(.ref b), (.int (0 : Int32))] (QrmGC3_0 Z wcs b kb u0 u1 u2 u3 u4 u5 h0 n0) := by
  refine own_body (plainFor_of_name own_pn_15) ?_
  intro p e s m below meth c s₁ hx hby hml hown hnm hret hlk hZ e0 X0
  have N0 := Fr.nil n0
  refine own_st (fun u_ k_ => castTop (own_ef_rmGC3_0 m b) k_) ?_
  show own_Go p e below _ (s₁.setTop (mkF m 0 #[.val (.ref b), .val (.int (0 : Int32))] []))
  have F518 := Sta.ext O0.2 hS.2.2.1
  obtain ⟨T519, X519, e519, st519⟩ := getS2 X0 hx hZ hown (host := "") (Or.inl (own_w hw 119 rfl)) Via.refl e0 F518 (g := (mkF m 0 #[.val (.ref b), .val (.int (0 : Int32))] [])) rfl (hb hby own_d_jdk_52_5_0)
  refine own_st (fun u_ k_ => st519 u_ k_) ?_
  show own_Go p e below _ (T519.setTop (mkF m 3 #[.val (.ref b), .val (.int (0 : Int32))] [(.int (1 : Int32))]))
  refine own_st (fun u_ k_ => XS.ifYes X519.here hx rfl (pc0 := 3) (pc' := 28) rfl (hb hby own_d_jdk_52_5_3) rfl (XT.i0_ne_t (by decide)) (by decide) (by decide) k_) ?_
  refine own_st (fun u_ k_ => XS.iloadN X519.here hx rfl (hb hby own_d_jdk_52_5_28) rfl k_) ?_
  show own_Go p e below _ (T519.setTop (mkF m 29 #[.val (.ref b), .val (.int (0 : Int32))] [(.int (0 : Int32))]))
  refine own_st (fun u_ k_ => XS.iconst X519.here hx rfl (hb hby own_d_jdk_52_5_29) k_) ?_
  refine own_st (fun u_ k_ => XS.ishl X519.here hx rfl (hb hby own_d_jdk_52_5_30) rfl k_) ?_
  show own_Go p e below _ (T519.setTop (mkF m 31 #[.val (.ref b), .val (.int (0 : Int32))] [(.int (0 : Int32))]))
  refine own_st (fun u_ k_ => XS.istoreN X519.here hx rfl (hb hby own_d_jdk_52_5_31) rfl (l' := #[.val (.ref b), .val (.int (0 : Int32))]) rfl k_) ?_
  refine own_st (fun u_ k_ => XS.aloadN X519.here hx rfl (hb hby own_d_jdk_52_5_32) rfl rfl k_) ?_
  show own_Go p e below _ (T519.setTop (mkF m 33 #[.val (.ref b), .val (.int (0 : Int32))] [(.ref b)]))
  refine own_st (fun u_ k_ => XS.iloadN X519.here hx rfl (hb hby own_d_jdk_52_5_33) rfl k_) ?_
  refine own_st (fun u_ k_ => XS.iinc X519.here hx rfl (hb hby own_d_jdk_52_5_34) rfl (l' := #[.val (.ref b), .val (.int (1 : Int32))]) rfl k_) ?_
  show own_Go p e below _ (T519.setTop (mkF m 37 #[.val (.ref b), .val (.int (1 : Int32))] [(.int (0 : Int32)), (.ref b)]))
  obtain ⟨cl520, Ar520, q520, S520, N520, H520, G520⟩ := id A2
  have hi520 : ¬ ((0 : Int32) < 0 ∨ cl520.slots.size ≤ ((0 : Int32)).toNatClampNeg) := inb_of S520 ⟨by decide, by decide⟩
  have ha520 : cl520.slots[((0 : Int32)).toNatClampNeg]? = some (.int u0) := H520.at hi520 rfl
  refine own_st (X519.baloadBytes hx (j := (0 : Int32)) (v := (.int u0)) (by rw [e519]; exact Ar520.1) (State.isArrayOf_alike hZ.alike Ar520.2.1) Ar520.2.2 hi520 ha520 (g := (mkF m 37 #[.val (.ref b), .val (.int (1 : Int32))] [(.int (0 : Int32)), (.ref b)])) rfl rfl (hb hby own_d_jdk_52_5_37)) ?_
  show own_Go p e below _ (T519.setTop (mkF m 38 #[.val (.ref b), .val (.int (1 : Int32))] [(.int u0)]))
  refine own_st (fun u_ k_ => XS.sipush X519.here hx rfl (hb hby own_d_jdk_52_5_38) k_) ?_
  refine own_st (fun u_ k_ => XS.iand X519.here hx rfl (hb hby own_d_jdk_52_5_41) rfl k_) ?_
  show own_Go p e below _ (T519.setTop (mkF m 42 #[.val (.ref b), .val (.int (1 : Int32))] [(.int (u0 &&& (255 : Int32)))]))
  have F521 := Sta.ext O0.2 hS.2.2.2.1
  obtain ⟨T522, X522, e522, st522⟩ := getS2 X519 hx hZ hown (host := "") (Or.inl (own_w hw 120 rfl)) Via.refl e519 F521 (g := (mkF m 42 #[.val (.ref b), .val (.int (1 : Int32))] [(.int (u0 &&& (255 : Int32)))])) rfl (hb hby own_d_jdk_52_5_42)
  refine own_st (fun u_ k_ => st522 u_ k_) ?_
  show own_Go p e below _ (T522.setTop (mkF m 45 #[.val (.ref b), .val (.int (1 : Int32))] [(.int (0 : Int32)), (.int (u0 &&& (255 : Int32)))]))
  refine own_st (fun u_ k_ => XS.ishl X522.here hx rfl (hb hby own_d_jdk_52_5_45) rfl k_) ?_
  refine own_st (fun u_ k_ => XS.aloadN X522.here hx rfl (hb hby own_d_jdk_52_5_46) rfl rfl k_) ?_
  show own_Go p e below _ (T522.setTop (mkF m 47 #[.val (.ref b), .val (.int (1 : Int32))] [(.ref b), (.int ((u0 &&& (255 : Int32)) <<< ((0 : Int32) &&& 31)))]))
  refine own_st (fun u_ k_ => XS.iloadN X522.here hx rfl (hb hby own_d_jdk_52_5_47) rfl k_) ?_
  obtain ⟨cl523, Ar523, q523, S523, N523, H523, G523⟩ := id A2
  have hi523 : ¬ ((1 : Int32) < 0 ∨ cl523.slots.size ≤ ((1 : Int32)).toNatClampNeg) := inb_of S523 ⟨by decide, by decide⟩
  have ha523 : cl523.slots[((1 : Int32)).toNatClampNeg]? = some (.int u1) := H523.at hi523 rfl
  refine own_st (X522.baloadBytes hx (j := (1 : Int32)) (v := (.int u1)) (by rw [e522]; exact Ar523.1) (State.isArrayOf_alike hZ.alike Ar523.2.1) Ar523.2.2 hi523 ha523 (g := (mkF m 48 #[.val (.ref b), .val (.int (1 : Int32))] [(.int (1 : Int32)), (.ref b), (.int ((u0 &&& (255 : Int32)) <<< ((0 : Int32) &&& 31)))])) rfl rfl (hb hby own_d_jdk_52_5_48)) ?_
  show own_Go p e below _ (T522.setTop (mkF m 49 #[.val (.ref b), .val (.int (1 : Int32))] [(.int u1), (.int ((u0 &&& (255 : Int32)) <<< ((0 : Int32) &&& 31)))]))
  refine own_st (fun u_ k_ => XS.sipush X522.here hx rfl (hb hby own_d_jdk_52_5_49) k_) ?_
  show own_Go p e below _ (T522.setTop (mkF m 52 #[.val (.ref b), .val (.int (1 : Int32))] [(.int (255 : Int32)), (.int u1), (.int ((u0 &&& (255 : Int32)) <<< ((0 : Int32) &&& 31)))]))
  refine own_st (fun u_ k_ => XS.iand X522.here hx rfl (hb hby own_d_jdk_52_5_52) rfl k_) ?_
  have F524 := Sta.ext O0.2 hS.2.2.2.2
  obtain ⟨T525, X525, e525, st525⟩ := getS2 X522 hx hZ hown (host := "") (Or.inl (own_w hw 121 rfl)) Via.refl e522 F524 (g := (mkF m 53 #[.val (.ref b), .val (.int (1 : Int32))] [(.int (u1 &&& (255 : Int32))), (.int ((u0 &&& (255 : Int32)) <<< ((0 : Int32) &&& 31)))])) rfl (hb hby own_d_jdk_52_5_53)
  refine own_st (fun u_ k_ => st525 u_ k_) ?_
  show own_Go p e below _ (T525.setTop (mkF m 56 #[.val (.ref b), .val (.int (1 : Int32))] [(.int (8 : Int32)), (.int (u1 &&& (255 : Int32))), (.int ((u0 &&& (255 : Int32)) <<< ((0 : Int32) &&& 31)))]))
  refine own_st (fun u_ k_ => XS.ishl X525.here hx rfl (hb hby own_d_jdk_52_5_56) rfl k_) ?_
  refine own_st (fun u_ k_ => XS.ior X525.here hx rfl (hb hby own_d_jdk_52_5_57) rfl k_) ?_
  show own_Go p e below _ (T525.setTop (mkF m 58 #[.val (.ref b), .val (.int (1 : Int32))] [(.int (((u0 &&& (255 : Int32)) <<< ((0 : Int32) &&& 31)) ||| ((u1 &&& (255 : Int32)) <<< ((8 : Int32) &&& 31))))]))
  refine own_st (fun u_ k_ => XS.i2c X525.here hx rfl (hb hby own_d_jdk_52_5_58) rfl k_) ?_
  exact own_retX X525 hx hlk hret (own_narC _) (Or.inl ⟨rfl, by simp, _, rfl⟩) (hb hby own_d_jdk_52_5_59) (by decide) (by decide) (show QrmGC3_0 Z wcs b kb u0 u1 u2 u3 u4 u5 h0 n0 (some (.int ((((u0 &&& (255 : Int32)) <<< ((0 : Int32) &&& 31)) ||| ((u1 &&& (255 : Int32)) <<< ((8 : Int32) &&& 31))).toUInt32.toUInt16.toUInt32.toInt32))) T525.heap _ from (by rw [e525]; exact ⟨rfl, N0, rfl⟩))
theorem own_ef_rmPC3_1 (m : MethodId) (b : Addr) (cv : Int32)  : entryFrame m #[(.ref b), (.int (1 : Int32)), (.int cv)] 3 = mkF m 0 #[.val (.ref b), .val (.int (1 : Int32)), .val (.int cv)] [] := by first | (simp [entryFrame, mkF, argsToLocals, Value.category, maxLocals]; done) | rfl
def QrmPC3_1 (Z : State) (wcs : Int32) (b : Addr) (kb : ClassId) (cv : Int32) (u0 : Int32) (u1 : Int32) (u2 : Int32) (u3 : Int32) (u4 : Int32) (u5 : Int32) (h0 : Heap) (n0 : Nat) (v : Option Value) (h : Heap) (L : List Loc) : Prop := v = none ∧ Fr n0 L ∧ Keep h0 h [b] ∧ Exa Z h b "[B" ∧ Arv Z h b kb .byte (6 : Int32) [(.int u0), (.int u1), (.int ((cv >>> ((0 : Int32) &&& 31)).toInt8.toInt32)), (.int ((cv >>> ((8 : Int32) &&& 31)).toInt8.toInt32)), (.int u4), (.int u5)] (.int (0 : Int32))
set_option maxRecDepth 65536 in
set_option maxHeartbeats 40000000 in
theorem rmPC3_1 (l : Launch) (Z : State) (a0 : Array Value) (hw : own_H a0 Z) (ws : List Jvm.Cond) (wcs : Int32) (hS : own_S Z wcs) (b : Addr) (kb : ClassId) (cv : Int32) (u0 : Int32) (u1 : Int32) (u2 : Int32) (u3 : Int32) (u4 : Int32) (u5 : Int32) (h0 : Heap) (n0 : Nat) (O0 : Old Z n0 h0) (Eb : Exa Z h0 b "[B") (gb : n0 ≤ b) (A2 : Arv Z h0 b kb .byte (6 : Int32) [(.int u0), (.int u1), (.int u2), (.int u3), (.int u4), (.int u5)] (.int (0 : Int32))) :
    own_Met l own_y_56 jdk_52_method_4_code 3 none ws ({ frames := 0, cells := 0, slots := 0, locals := 0 } : Room) Z h0 #[(.ref b), (.int (1 : Int32)), (.int cv)] (QrmPC3_1 Z wcs b kb cv u0 u1 u2 u3 u4 u5 h0 n0) := by
  refine own_body (plainFor_of_name own_pn_15) ?_
  intro p e s m below meth c s₁ hx hby hml hown hnm hret hlk hZ e0 X0
  have N0 := Fr.nil n0
  refine own_st (fun u_ k_ => castTop (own_ef_rmPC3_1 m b cv) k_) ?_
  show own_Go p e below _ (s₁.setTop (mkF m 0 #[.val (.ref b), .val (.int (1 : Int32)), .val (.int cv)] []))
  have F526 := Sta.ext O0.2 hS.2.2.1
  obtain ⟨T527, X527, e527, st527⟩ := getS2 X0 hx hZ hown (host := "") (Or.inl (own_w hw 119 rfl)) Via.refl e0 F526 (g := (mkF m 0 #[.val (.ref b), .val (.int (1 : Int32)), .val (.int cv)] [])) rfl (hb hby own_d_jdk_52_4_0)
  refine own_st (fun u_ k_ => st527 u_ k_) ?_
  show own_Go p e below _ (T527.setTop (mkF m 3 #[.val (.ref b), .val (.int (1 : Int32)), .val (.int cv)] [(.int (1 : Int32))]))
  refine own_st (fun u_ k_ => XS.ifYes X527.here hx rfl (pc0 := 3) (pc' := 28) rfl (hb hby own_d_jdk_52_4_3) rfl (XT.i0_ne_t (by decide)) (by decide) (by decide) k_) ?_
  refine own_st (fun u_ k_ => XS.iloadN X527.here hx rfl (hb hby own_d_jdk_52_4_28) rfl k_) ?_
  show own_Go p e below _ (T527.setTop (mkF m 29 #[.val (.ref b), .val (.int (1 : Int32)), .val (.int cv)] [(.int (1 : Int32))]))
  refine own_st (fun u_ k_ => XS.iconst X527.here hx rfl (hb hby own_d_jdk_52_4_29) k_) ?_
  refine own_st (fun u_ k_ => XS.ishl X527.here hx rfl (hb hby own_d_jdk_52_4_30) rfl k_) ?_
  show own_Go p e below _ (T527.setTop (mkF m 31 #[.val (.ref b), .val (.int (1 : Int32)), .val (.int cv)] [(.int (2 : Int32))]))
  refine own_st (fun u_ k_ => XS.istoreN X527.here hx rfl (hb hby own_d_jdk_52_4_31) rfl (l' := #[.val (.ref b), .val (.int (2 : Int32)), .val (.int cv)]) rfl k_) ?_
  refine own_st (fun u_ k_ => XS.aloadN X527.here hx rfl (hb hby own_d_jdk_52_4_32) rfl rfl k_) ?_
  show own_Go p e below _ (T527.setTop (mkF m 33 #[.val (.ref b), .val (.int (2 : Int32)), .val (.int cv)] [(.ref b)]))
  refine own_st (fun u_ k_ => XS.iloadN X527.here hx rfl (hb hby own_d_jdk_52_4_33) rfl k_) ?_
  refine own_st (fun u_ k_ => XS.iinc X527.here hx rfl (hb hby own_d_jdk_52_4_34) rfl (l' := #[.val (.ref b), .val (.int (3 : Int32)), .val (.int cv)]) rfl k_) ?_
  show own_Go p e below _ (T527.setTop (mkF m 37 #[.val (.ref b), .val (.int (3 : Int32)), .val (.int cv)] [(.int (2 : Int32)), (.ref b)]))
  refine own_st (fun u_ k_ => XS.iloadN X527.here hx rfl (hb hby own_d_jdk_52_4_37) rfl k_) ?_
  have F528 := Sta.ext O0.2 hS.2.2.2.1
  obtain ⟨T529, X529, e529, st529⟩ := getS2 X527 hx hZ hown (host := "") (Or.inl (own_w hw 120 rfl)) Via.refl e527 F528 (g := (mkF m 38 #[.val (.ref b), .val (.int (3 : Int32)), .val (.int cv)] [(.int cv), (.int (2 : Int32)), (.ref b)])) rfl (hb hby own_d_jdk_52_4_38)
  refine own_st (fun u_ k_ => st529 u_ k_) ?_
  show own_Go p e below _ (T529.setTop (mkF m 41 #[.val (.ref b), .val (.int (3 : Int32)), .val (.int cv)] [(.int (0 : Int32)), (.int cv), (.int (2 : Int32)), (.ref b)]))
  refine own_st (fun u_ k_ => XS.ishr X529.here hx rfl (hb hby own_d_jdk_52_4_41) rfl k_) ?_
  refine own_st (fun u_ k_ => XS.i2b X529.here hx rfl (hb hby own_d_jdk_52_4_42) rfl k_) ?_
  show own_Go p e below _ (T529.setTop (mkF m 43 #[.val (.ref b), .val (.int (3 : Int32)), .val (.int cv)] [(.int ((cv >>> ((0 : Int32) &&& 31)).toInt8.toInt32)), (.int (2 : Int32)), (.ref b)]))
  obtain ⟨cl530, Ar530, q530, S530, N530, H530, G530⟩ := id A2
  have hi530 : ¬ ((2 : Int32) < 0 ∨ cl530.slots.size ≤ ((2 : Int32)).toNatClampNeg) := inb_of S530 ⟨by decide, by decide⟩
  obtain ⟨T531, h531, X531, e531, W531, st531⟩ := stB X529 hx hZ e529 Ar530 (j := (2 : Int32)) hi530 (g := (mkF m 43 #[.val (.ref b), .val (.int (3 : Int32)), .val (.int cv)] [(.int ((cv >>> ((0 : Int32) &&& 31)).toInt8.toInt32)), (.int (2 : Int32)), (.ref b)])) rfl rfl (hb hby own_d_jdk_52_4_43)
  rw [own_bb] at W531
  have N531 := Fr.snoc X531 N0 gb
  have V531 : Arv Z h531 b kb .byte (6 : Int32) [(.int u0), (.int u1), (.int ((cv >>> ((0 : Int32) &&& 31)).toInt8.toInt32)), (.int u3), (.int u4), (.int u5)] (.int (0 : Int32)) := Arv.set Ar530 q530 S530 N530 H530 G530 (fits_nar_byte _) W531 2 rfl (Nat.le_of_ble_eq_true rfl)
  refine own_st (fun u_ k_ => st531 u_ k_) ?_
  show own_Go p e below _ (T531.setTop (mkF m 44 #[.val (.ref b), .val (.int (3 : Int32)), .val (.int cv)] []))
  refine own_st (fun u_ k_ => XS.aloadN X531.here hx rfl (hb hby own_d_jdk_52_4_44) rfl rfl k_) ?_
  refine own_st (fun u_ k_ => XS.iloadN X531.here hx rfl (hb hby own_d_jdk_52_4_45) rfl k_) ?_
  show own_Go p e below _ (T531.setTop (mkF m 46 #[.val (.ref b), .val (.int (3 : Int32)), .val (.int cv)] [(.int (3 : Int32)), (.ref b)]))
  refine own_st (fun u_ k_ => XS.iloadN X531.here hx rfl (hb hby own_d_jdk_52_4_46) rfl k_) ?_
  have O532 : Old Z n0 h531 := O0.wr W531 gb
  have F533 := Sta.ext O532.2 hS.2.2.2.2
  obtain ⟨T534, X534, e534, st534⟩ := getS2 X531 hx hZ hown (host := "") (Or.inl (own_w hw 121 rfl)) Via.refl e531 F533 (g := (mkF m 47 #[.val (.ref b), .val (.int (3 : Int32)), .val (.int cv)] [(.int cv), (.int (3 : Int32)), (.ref b)])) rfl (hb hby own_d_jdk_52_4_47)
  refine own_st (fun u_ k_ => st534 u_ k_) ?_
  show own_Go p e below _ (T534.setTop (mkF m 50 #[.val (.ref b), .val (.int (3 : Int32)), .val (.int cv)] [(.int (8 : Int32)), (.int cv), (.int (3 : Int32)), (.ref b)]))
  refine own_st (fun u_ k_ => XS.ishr X534.here hx rfl (hb hby own_d_jdk_52_4_50) rfl k_) ?_
  refine own_st (fun u_ k_ => XS.i2b X534.here hx rfl (hb hby own_d_jdk_52_4_51) rfl k_) ?_
  show own_Go p e below _ (T534.setTop (mkF m 52 #[.val (.ref b), .val (.int (3 : Int32)), .val (.int cv)] [(.int ((cv >>> ((8 : Int32) &&& 31)).toInt8.toInt32)), (.int (3 : Int32)), (.ref b)]))
  obtain ⟨cl535, Ar535, q535, S535, N535, H535, G535⟩ := id V531
  have hi535 : ¬ ((3 : Int32) < 0 ∨ cl535.slots.size ≤ ((3 : Int32)).toNatClampNeg) := inb_of S535 ⟨by decide, by decide⟩
  obtain ⟨T536, h536, X536, e536, W536, st536⟩ := stB X534 hx hZ e534 Ar535 (j := (3 : Int32)) hi535 (g := (mkF m 52 #[.val (.ref b), .val (.int (3 : Int32)), .val (.int cv)] [(.int ((cv >>> ((8 : Int32) &&& 31)).toInt8.toInt32)), (.int (3 : Int32)), (.ref b)])) rfl rfl (hb hby own_d_jdk_52_4_52)
  rw [own_bb] at W536
  have N536 := Fr.snoc X536 N531 gb
  have V536 : Arv Z h536 b kb .byte (6 : Int32) [(.int u0), (.int u1), (.int ((cv >>> ((0 : Int32) &&& 31)).toInt8.toInt32)), (.int ((cv >>> ((8 : Int32) &&& 31)).toInt8.toInt32)), (.int u4), (.int u5)] (.int (0 : Int32)) := Arv.set Ar535 q535 S535 N535 H535 G535 (fits_nar_byte _) W536 3 rfl (Nat.le_of_ble_eq_true rfl)
  refine own_st (fun u_ k_ => st536 u_ k_) ?_
  show own_Go p e below _ (T536.setTop (mkF m 53 #[.val (.ref b), .val (.int (3 : Int32)), .val (.int cv)] []))
  have K537 : Keep h0 h531 [b] := (Keep.refl h0 [b]).wr W531 (Or.inl (List.mem_of_getElem? (i := 0) rfl))
  have K538 : Keep h0 h536 [b] := K537.wr W536 (Or.inl (List.mem_of_getElem? (i := 0) rfl))
  have F539 := (Exa.wr W536 (Exa.wr W531 Eb))
  exact own_retV X536 hx hlk hret (hb hby own_d_jdk_52_4_53) (by decide) (by decide) (show QrmPC3_1 Z wcs b kb cv u0 u1 u2 u3 u4 u5 h0 n0 none T536.heap _ from (by rw [e536]; exact ⟨rfl, N536, K538, F539, V536⟩))
theorem own_ef_rmGC3_1 (m : MethodId) (b : Addr)  : entryFrame m #[(.ref b), (.int (1 : Int32))] 2 = mkF m 0 #[.val (.ref b), .val (.int (1 : Int32))] [] := by first | (simp [entryFrame, mkF, argsToLocals, Value.category, maxLocals]; done) | rfl
def QrmGC3_1 (Z : State) (wcs : Int32) (b : Addr) (kb : ClassId) (u0 : Int32) (u1 : Int32) (u2 : Int32) (u3 : Int32) (u4 : Int32) (u5 : Int32) (h0 : Heap) (n0 : Nat) (v : Option Value) (h : Heap) (L : List Loc) : Prop := v = some (.int ((((u2 &&& (255 : Int32)) <<< ((0 : Int32) &&& 31)) ||| ((u3 &&& (255 : Int32)) <<< ((8 : Int32) &&& 31))).toUInt32.toUInt16.toUInt32.toInt32)) ∧ Fr n0 L ∧ h = h0
set_option maxRecDepth 65536 in
set_option maxHeartbeats 40000000 in
theorem rmGC3_1 (l : Launch) (Z : State) (a0 : Array Value) (hw : own_H a0 Z) (ws : List Jvm.Cond) (wcs : Int32) (hS : own_S Z wcs) (b : Addr) (kb : ClassId) (u0 : Int32) (u1 : Int32) (u2 : Int32) (u3 : Int32) (u4 : Int32) (u5 : Int32) (h0 : Heap) (n0 : Nat) (O0 : Old Z n0 h0) (A2 : Arv Z h0 b kb .byte (6 : Int32) [(.int u0), (.int u1), (.int u2), (.int u3), (.int u4), (.int u5)] (.int (0 : Int32))) :
    own_Met l own_y_81 jdk_52_method_5_code 2 (some .char) ws ({ frames := 0, cells := 0, slots := 0, locals := 0 } : Room) Z h0 #[(.ref b), (.int (1 : Int32))] (QrmGC3_1 Z wcs b kb u0 u1 u2 u3 u4 u5 h0 n0) := by
  refine own_body (plainFor_of_name own_pn_15) ?_
  intro p e s m below meth c s₁ hx hby hml hown hnm hret hlk hZ e0 X0
  have N0 := Fr.nil n0
  refine own_st (fun u_ k_ => castTop (own_ef_rmGC3_1 m b) k_) ?_
  show own_Go p e below _ (s₁.setTop (mkF m 0 #[.val (.ref b), .val (.int (1 : Int32))] []))
  have F540 := Sta.ext O0.2 hS.2.2.1
  obtain ⟨T541, X541, e541, st541⟩ := getS2 X0 hx hZ hown (host := "") (Or.inl (own_w hw 119 rfl)) Via.refl e0 F540 (g := (mkF m 0 #[.val (.ref b), .val (.int (1 : Int32))] [])) rfl (hb hby own_d_jdk_52_5_0)
  refine own_st (fun u_ k_ => st541 u_ k_) ?_
  show own_Go p e below _ (T541.setTop (mkF m 3 #[.val (.ref b), .val (.int (1 : Int32))] [(.int (1 : Int32))]))
  refine own_st (fun u_ k_ => XS.ifYes X541.here hx rfl (pc0 := 3) (pc' := 28) rfl (hb hby own_d_jdk_52_5_3) rfl (XT.i0_ne_t (by decide)) (by decide) (by decide) k_) ?_
  refine own_st (fun u_ k_ => XS.iloadN X541.here hx rfl (hb hby own_d_jdk_52_5_28) rfl k_) ?_
  show own_Go p e below _ (T541.setTop (mkF m 29 #[.val (.ref b), .val (.int (1 : Int32))] [(.int (1 : Int32))]))
  refine own_st (fun u_ k_ => XS.iconst X541.here hx rfl (hb hby own_d_jdk_52_5_29) k_) ?_
  refine own_st (fun u_ k_ => XS.ishl X541.here hx rfl (hb hby own_d_jdk_52_5_30) rfl k_) ?_
  show own_Go p e below _ (T541.setTop (mkF m 31 #[.val (.ref b), .val (.int (1 : Int32))] [(.int (2 : Int32))]))
  refine own_st (fun u_ k_ => XS.istoreN X541.here hx rfl (hb hby own_d_jdk_52_5_31) rfl (l' := #[.val (.ref b), .val (.int (2 : Int32))]) rfl k_) ?_
  refine own_st (fun u_ k_ => XS.aloadN X541.here hx rfl (hb hby own_d_jdk_52_5_32) rfl rfl k_) ?_
  show own_Go p e below _ (T541.setTop (mkF m 33 #[.val (.ref b), .val (.int (2 : Int32))] [(.ref b)]))
  refine own_st (fun u_ k_ => XS.iloadN X541.here hx rfl (hb hby own_d_jdk_52_5_33) rfl k_) ?_
  refine own_st (fun u_ k_ => XS.iinc X541.here hx rfl (hb hby own_d_jdk_52_5_34) rfl (l' := #[.val (.ref b), .val (.int (3 : Int32))]) rfl k_) ?_
  show own_Go p e below _ (T541.setTop (mkF m 37 #[.val (.ref b), .val (.int (3 : Int32))] [(.int (2 : Int32)), (.ref b)]))
  obtain ⟨cl542, Ar542, q542, S542, N542, H542, G542⟩ := id A2
  have hi542 : ¬ ((2 : Int32) < 0 ∨ cl542.slots.size ≤ ((2 : Int32)).toNatClampNeg) := inb_of S542 ⟨by decide, by decide⟩
  have ha542 : cl542.slots[((2 : Int32)).toNatClampNeg]? = some (.int u2) := H542.at hi542 rfl
  refine own_st (X541.baloadBytes hx (j := (2 : Int32)) (v := (.int u2)) (by rw [e541]; exact Ar542.1) (State.isArrayOf_alike hZ.alike Ar542.2.1) Ar542.2.2 hi542 ha542 (g := (mkF m 37 #[.val (.ref b), .val (.int (3 : Int32))] [(.int (2 : Int32)), (.ref b)])) rfl rfl (hb hby own_d_jdk_52_5_37)) ?_
  show own_Go p e below _ (T541.setTop (mkF m 38 #[.val (.ref b), .val (.int (3 : Int32))] [(.int u2)]))
  refine own_st (fun u_ k_ => XS.sipush X541.here hx rfl (hb hby own_d_jdk_52_5_38) k_) ?_
  refine own_st (fun u_ k_ => XS.iand X541.here hx rfl (hb hby own_d_jdk_52_5_41) rfl k_) ?_
  show own_Go p e below _ (T541.setTop (mkF m 42 #[.val (.ref b), .val (.int (3 : Int32))] [(.int (u2 &&& (255 : Int32)))]))
  have F543 := Sta.ext O0.2 hS.2.2.2.1
  obtain ⟨T544, X544, e544, st544⟩ := getS2 X541 hx hZ hown (host := "") (Or.inl (own_w hw 120 rfl)) Via.refl e541 F543 (g := (mkF m 42 #[.val (.ref b), .val (.int (3 : Int32))] [(.int (u2 &&& (255 : Int32)))])) rfl (hb hby own_d_jdk_52_5_42)
  refine own_st (fun u_ k_ => st544 u_ k_) ?_
  show own_Go p e below _ (T544.setTop (mkF m 45 #[.val (.ref b), .val (.int (3 : Int32))] [(.int (0 : Int32)), (.int (u2 &&& (255 : Int32)))]))
  refine own_st (fun u_ k_ => XS.ishl X544.here hx rfl (hb hby own_d_jdk_52_5_45) rfl k_) ?_
  refine own_st (fun u_ k_ => XS.aloadN X544.here hx rfl (hb hby own_d_jdk_52_5_46) rfl rfl k_) ?_
  show own_Go p e below _ (T544.setTop (mkF m 47 #[.val (.ref b), .val (.int (3 : Int32))] [(.ref b), (.int ((u2 &&& (255 : Int32)) <<< ((0 : Int32) &&& 31)))]))
  refine own_st (fun u_ k_ => XS.iloadN X544.here hx rfl (hb hby own_d_jdk_52_5_47) rfl k_) ?_
  obtain ⟨cl545, Ar545, q545, S545, N545, H545, G545⟩ := id A2
  have hi545 : ¬ ((3 : Int32) < 0 ∨ cl545.slots.size ≤ ((3 : Int32)).toNatClampNeg) := inb_of S545 ⟨by decide, by decide⟩
  have ha545 : cl545.slots[((3 : Int32)).toNatClampNeg]? = some (.int u3) := H545.at hi545 rfl
  refine own_st (X544.baloadBytes hx (j := (3 : Int32)) (v := (.int u3)) (by rw [e544]; exact Ar545.1) (State.isArrayOf_alike hZ.alike Ar545.2.1) Ar545.2.2 hi545 ha545 (g := (mkF m 48 #[.val (.ref b), .val (.int (3 : Int32))] [(.int (3 : Int32)), (.ref b), (.int ((u2 &&& (255 : Int32)) <<< ((0 : Int32) &&& 31)))])) rfl rfl (hb hby own_d_jdk_52_5_48)) ?_
  show own_Go p e below _ (T544.setTop (mkF m 49 #[.val (.ref b), .val (.int (3 : Int32))] [(.int u3), (.int ((u2 &&& (255 : Int32)) <<< ((0 : Int32) &&& 31)))]))
  refine own_st (fun u_ k_ => XS.sipush X544.here hx rfl (hb hby own_d_jdk_52_5_49) k_) ?_
  show own_Go p e below _ (T544.setTop (mkF m 52 #[.val (.ref b), .val (.int (3 : Int32))] [(.int (255 : Int32)), (.int u3), (.int ((u2 &&& (255 : Int32)) <<< ((0 : Int32) &&& 31)))]))
  refine own_st (fun u_ k_ => XS.iand X544.here hx rfl (hb hby own_d_jdk_52_5_52) rfl k_) ?_
  have F546 := Sta.ext O0.2 hS.2.2.2.2
  obtain ⟨T547, X547, e547, st547⟩ := getS2 X544 hx hZ hown (host := "") (Or.inl (own_w hw 121 rfl)) Via.refl e544 F546 (g := (mkF m 53 #[.val (.ref b), .val (.int (3 : Int32))] [(.int (u3 &&& (255 : Int32))), (.int ((u2 &&& (255 : Int32)) <<< ((0 : Int32) &&& 31)))])) rfl (hb hby own_d_jdk_52_5_53)
  refine own_st (fun u_ k_ => st547 u_ k_) ?_
  show own_Go p e below _ (T547.setTop (mkF m 56 #[.val (.ref b), .val (.int (3 : Int32))] [(.int (8 : Int32)), (.int (u3 &&& (255 : Int32))), (.int ((u2 &&& (255 : Int32)) <<< ((0 : Int32) &&& 31)))]))
  refine own_st (fun u_ k_ => XS.ishl X547.here hx rfl (hb hby own_d_jdk_52_5_56) rfl k_) ?_
  refine own_st (fun u_ k_ => XS.ior X547.here hx rfl (hb hby own_d_jdk_52_5_57) rfl k_) ?_
  show own_Go p e below _ (T547.setTop (mkF m 58 #[.val (.ref b), .val (.int (3 : Int32))] [(.int (((u2 &&& (255 : Int32)) <<< ((0 : Int32) &&& 31)) ||| ((u3 &&& (255 : Int32)) <<< ((8 : Int32) &&& 31))))]))
  refine own_st (fun u_ k_ => XS.i2c X547.here hx rfl (hb hby own_d_jdk_52_5_58) rfl k_) ?_
  exact own_retX X547 hx hlk hret (own_narC _) (Or.inl ⟨rfl, by simp, _, rfl⟩) (hb hby own_d_jdk_52_5_59) (by decide) (by decide) (show QrmGC3_1 Z wcs b kb u0 u1 u2 u3 u4 u5 h0 n0 (some (.int ((((u2 &&& (255 : Int32)) <<< ((0 : Int32) &&& 31)) ||| ((u3 &&& (255 : Int32)) <<< ((8 : Int32) &&& 31))).toUInt32.toUInt16.toUInt32.toInt32))) T547.heap _ from (by rw [e547]; exact ⟨rfl, N0, rfl⟩))
theorem own_ef_rmPC3_2 (m : MethodId) (b : Addr) (cv : Int32)  : entryFrame m #[(.ref b), (.int (2 : Int32)), (.int cv)] 3 = mkF m 0 #[.val (.ref b), .val (.int (2 : Int32)), .val (.int cv)] [] := by first | (simp [entryFrame, mkF, argsToLocals, Value.category, maxLocals]; done) | rfl
def QrmPC3_2 (Z : State) (wcs : Int32) (b : Addr) (kb : ClassId) (cv : Int32) (u0 : Int32) (u1 : Int32) (u2 : Int32) (u3 : Int32) (u4 : Int32) (u5 : Int32) (h0 : Heap) (n0 : Nat) (v : Option Value) (h : Heap) (L : List Loc) : Prop := v = none ∧ Fr n0 L ∧ Keep h0 h [b] ∧ Exa Z h b "[B" ∧ Arv Z h b kb .byte (6 : Int32) [(.int u0), (.int u1), (.int u2), (.int u3), (.int ((cv >>> ((0 : Int32) &&& 31)).toInt8.toInt32)), (.int ((cv >>> ((8 : Int32) &&& 31)).toInt8.toInt32))] (.int (0 : Int32))
set_option maxRecDepth 65536 in
set_option maxHeartbeats 40000000 in
theorem rmPC3_2 (l : Launch) (Z : State) (a0 : Array Value) (hw : own_H a0 Z) (ws : List Jvm.Cond) (wcs : Int32) (hS : own_S Z wcs) (b : Addr) (kb : ClassId) (cv : Int32) (u0 : Int32) (u1 : Int32) (u2 : Int32) (u3 : Int32) (u4 : Int32) (u5 : Int32) (h0 : Heap) (n0 : Nat) (O0 : Old Z n0 h0) (Eb : Exa Z h0 b "[B") (gb : n0 ≤ b) (A2 : Arv Z h0 b kb .byte (6 : Int32) [(.int u0), (.int u1), (.int u2), (.int u3), (.int u4), (.int u5)] (.int (0 : Int32))) :
    own_Met l own_y_56 jdk_52_method_4_code 3 none ws ({ frames := 0, cells := 0, slots := 0, locals := 0 } : Room) Z h0 #[(.ref b), (.int (2 : Int32)), (.int cv)] (QrmPC3_2 Z wcs b kb cv u0 u1 u2 u3 u4 u5 h0 n0) := by
  refine own_body (plainFor_of_name own_pn_15) ?_
  intro p e s m below meth c s₁ hx hby hml hown hnm hret hlk hZ e0 X0
  have N0 := Fr.nil n0
  refine own_st (fun u_ k_ => castTop (own_ef_rmPC3_2 m b cv) k_) ?_
  show own_Go p e below _ (s₁.setTop (mkF m 0 #[.val (.ref b), .val (.int (2 : Int32)), .val (.int cv)] []))
  have F548 := Sta.ext O0.2 hS.2.2.1
  obtain ⟨T549, X549, e549, st549⟩ := getS2 X0 hx hZ hown (host := "") (Or.inl (own_w hw 119 rfl)) Via.refl e0 F548 (g := (mkF m 0 #[.val (.ref b), .val (.int (2 : Int32)), .val (.int cv)] [])) rfl (hb hby own_d_jdk_52_4_0)
  refine own_st (fun u_ k_ => st549 u_ k_) ?_
  show own_Go p e below _ (T549.setTop (mkF m 3 #[.val (.ref b), .val (.int (2 : Int32)), .val (.int cv)] [(.int (1 : Int32))]))
  refine own_st (fun u_ k_ => XS.ifYes X549.here hx rfl (pc0 := 3) (pc' := 28) rfl (hb hby own_d_jdk_52_4_3) rfl (XT.i0_ne_t (by decide)) (by decide) (by decide) k_) ?_
  refine own_st (fun u_ k_ => XS.iloadN X549.here hx rfl (hb hby own_d_jdk_52_4_28) rfl k_) ?_
  show own_Go p e below _ (T549.setTop (mkF m 29 #[.val (.ref b), .val (.int (2 : Int32)), .val (.int cv)] [(.int (2 : Int32))]))
  refine own_st (fun u_ k_ => XS.iconst X549.here hx rfl (hb hby own_d_jdk_52_4_29) k_) ?_
  refine own_st (fun u_ k_ => XS.ishl X549.here hx rfl (hb hby own_d_jdk_52_4_30) rfl k_) ?_
  show own_Go p e below _ (T549.setTop (mkF m 31 #[.val (.ref b), .val (.int (2 : Int32)), .val (.int cv)] [(.int (4 : Int32))]))
  refine own_st (fun u_ k_ => XS.istoreN X549.here hx rfl (hb hby own_d_jdk_52_4_31) rfl (l' := #[.val (.ref b), .val (.int (4 : Int32)), .val (.int cv)]) rfl k_) ?_
  refine own_st (fun u_ k_ => XS.aloadN X549.here hx rfl (hb hby own_d_jdk_52_4_32) rfl rfl k_) ?_
  show own_Go p e below _ (T549.setTop (mkF m 33 #[.val (.ref b), .val (.int (4 : Int32)), .val (.int cv)] [(.ref b)]))
  refine own_st (fun u_ k_ => XS.iloadN X549.here hx rfl (hb hby own_d_jdk_52_4_33) rfl k_) ?_
  refine own_st (fun u_ k_ => XS.iinc X549.here hx rfl (hb hby own_d_jdk_52_4_34) rfl (l' := #[.val (.ref b), .val (.int (5 : Int32)), .val (.int cv)]) rfl k_) ?_
  show own_Go p e below _ (T549.setTop (mkF m 37 #[.val (.ref b), .val (.int (5 : Int32)), .val (.int cv)] [(.int (4 : Int32)), (.ref b)]))
  refine own_st (fun u_ k_ => XS.iloadN X549.here hx rfl (hb hby own_d_jdk_52_4_37) rfl k_) ?_
  have F550 := Sta.ext O0.2 hS.2.2.2.1
  obtain ⟨T551, X551, e551, st551⟩ := getS2 X549 hx hZ hown (host := "") (Or.inl (own_w hw 120 rfl)) Via.refl e549 F550 (g := (mkF m 38 #[.val (.ref b), .val (.int (5 : Int32)), .val (.int cv)] [(.int cv), (.int (4 : Int32)), (.ref b)])) rfl (hb hby own_d_jdk_52_4_38)
  refine own_st (fun u_ k_ => st551 u_ k_) ?_
  show own_Go p e below _ (T551.setTop (mkF m 41 #[.val (.ref b), .val (.int (5 : Int32)), .val (.int cv)] [(.int (0 : Int32)), (.int cv), (.int (4 : Int32)), (.ref b)]))
  refine own_st (fun u_ k_ => XS.ishr X551.here hx rfl (hb hby own_d_jdk_52_4_41) rfl k_) ?_
  refine own_st (fun u_ k_ => XS.i2b X551.here hx rfl (hb hby own_d_jdk_52_4_42) rfl k_) ?_
  show own_Go p e below _ (T551.setTop (mkF m 43 #[.val (.ref b), .val (.int (5 : Int32)), .val (.int cv)] [(.int ((cv >>> ((0 : Int32) &&& 31)).toInt8.toInt32)), (.int (4 : Int32)), (.ref b)]))
  obtain ⟨cl552, Ar552, q552, S552, N552, H552, G552⟩ := id A2
  have hi552 : ¬ ((4 : Int32) < 0 ∨ cl552.slots.size ≤ ((4 : Int32)).toNatClampNeg) := inb_of S552 ⟨by decide, by decide⟩
  obtain ⟨T553, h553, X553, e553, W553, st553⟩ := stB X551 hx hZ e551 Ar552 (j := (4 : Int32)) hi552 (g := (mkF m 43 #[.val (.ref b), .val (.int (5 : Int32)), .val (.int cv)] [(.int ((cv >>> ((0 : Int32) &&& 31)).toInt8.toInt32)), (.int (4 : Int32)), (.ref b)])) rfl rfl (hb hby own_d_jdk_52_4_43)
  rw [own_bb] at W553
  have N553 := Fr.snoc X553 N0 gb
  have V553 : Arv Z h553 b kb .byte (6 : Int32) [(.int u0), (.int u1), (.int u2), (.int u3), (.int ((cv >>> ((0 : Int32) &&& 31)).toInt8.toInt32)), (.int u5)] (.int (0 : Int32)) := Arv.set Ar552 q552 S552 N552 H552 G552 (fits_nar_byte _) W553 4 rfl (Nat.le_of_ble_eq_true rfl)
  refine own_st (fun u_ k_ => st553 u_ k_) ?_
  show own_Go p e below _ (T553.setTop (mkF m 44 #[.val (.ref b), .val (.int (5 : Int32)), .val (.int cv)] []))
  refine own_st (fun u_ k_ => XS.aloadN X553.here hx rfl (hb hby own_d_jdk_52_4_44) rfl rfl k_) ?_
  refine own_st (fun u_ k_ => XS.iloadN X553.here hx rfl (hb hby own_d_jdk_52_4_45) rfl k_) ?_
  show own_Go p e below _ (T553.setTop (mkF m 46 #[.val (.ref b), .val (.int (5 : Int32)), .val (.int cv)] [(.int (5 : Int32)), (.ref b)]))
  refine own_st (fun u_ k_ => XS.iloadN X553.here hx rfl (hb hby own_d_jdk_52_4_46) rfl k_) ?_
  have O554 : Old Z n0 h553 := O0.wr W553 gb
  have F555 := Sta.ext O554.2 hS.2.2.2.2
  obtain ⟨T556, X556, e556, st556⟩ := getS2 X553 hx hZ hown (host := "") (Or.inl (own_w hw 121 rfl)) Via.refl e553 F555 (g := (mkF m 47 #[.val (.ref b), .val (.int (5 : Int32)), .val (.int cv)] [(.int cv), (.int (5 : Int32)), (.ref b)])) rfl (hb hby own_d_jdk_52_4_47)
  refine own_st (fun u_ k_ => st556 u_ k_) ?_
  show own_Go p e below _ (T556.setTop (mkF m 50 #[.val (.ref b), .val (.int (5 : Int32)), .val (.int cv)] [(.int (8 : Int32)), (.int cv), (.int (5 : Int32)), (.ref b)]))
  refine own_st (fun u_ k_ => XS.ishr X556.here hx rfl (hb hby own_d_jdk_52_4_50) rfl k_) ?_
  refine own_st (fun u_ k_ => XS.i2b X556.here hx rfl (hb hby own_d_jdk_52_4_51) rfl k_) ?_
  show own_Go p e below _ (T556.setTop (mkF m 52 #[.val (.ref b), .val (.int (5 : Int32)), .val (.int cv)] [(.int ((cv >>> ((8 : Int32) &&& 31)).toInt8.toInt32)), (.int (5 : Int32)), (.ref b)]))
  obtain ⟨cl557, Ar557, q557, S557, N557, H557, G557⟩ := id V553
  have hi557 : ¬ ((5 : Int32) < 0 ∨ cl557.slots.size ≤ ((5 : Int32)).toNatClampNeg) := inb_of S557 ⟨by decide, by decide⟩
  obtain ⟨T558, h558, X558, e558, W558, st558⟩ := stB X556 hx hZ e556 Ar557 (j := (5 : Int32)) hi557 (g := (mkF m 52 #[.val (.ref b), .val (.int (5 : Int32)), .val (.int cv)] [(.int ((cv >>> ((8 : Int32) &&& 31)).toInt8.toInt32)), (.int (5 : Int32)), (.ref b)])) rfl rfl (hb hby own_d_jdk_52_4_52)
  rw [own_bb] at W558
  have N558 := Fr.snoc X558 N553 gb
  have V558 : Arv Z h558 b kb .byte (6 : Int32) [(.int u0), (.int u1), (.int u2), (.int u3), (.int ((cv >>> ((0 : Int32) &&& 31)).toInt8.toInt32)), (.int ((cv >>> ((8 : Int32) &&& 31)).toInt8.toInt32))] (.int (0 : Int32)) := Arv.set Ar557 q557 S557 N557 H557 G557 (fits_nar_byte _) W558 5 rfl (Nat.le_of_ble_eq_true rfl)
  refine own_st (fun u_ k_ => st558 u_ k_) ?_
  show own_Go p e below _ (T558.setTop (mkF m 53 #[.val (.ref b), .val (.int (5 : Int32)), .val (.int cv)] []))
  have K559 : Keep h0 h553 [b] := (Keep.refl h0 [b]).wr W553 (Or.inl (List.mem_of_getElem? (i := 0) rfl))
  have K560 : Keep h0 h558 [b] := K559.wr W558 (Or.inl (List.mem_of_getElem? (i := 0) rfl))
  have F561 := (Exa.wr W558 (Exa.wr W553 Eb))
  exact own_retV X558 hx hlk hret (hb hby own_d_jdk_52_4_53) (by decide) (by decide) (show QrmPC3_2 Z wcs b kb cv u0 u1 u2 u3 u4 u5 h0 n0 none T558.heap _ from (by rw [e558]; exact ⟨rfl, N558, K560, F561, V558⟩))
theorem own_ef_rmGC3_2 (m : MethodId) (b : Addr)  : entryFrame m #[(.ref b), (.int (2 : Int32))] 2 = mkF m 0 #[.val (.ref b), .val (.int (2 : Int32))] [] := by first | (simp [entryFrame, mkF, argsToLocals, Value.category, maxLocals]; done) | rfl
def QrmGC3_2 (Z : State) (wcs : Int32) (b : Addr) (kb : ClassId) (u0 : Int32) (u1 : Int32) (u2 : Int32) (u3 : Int32) (u4 : Int32) (u5 : Int32) (h0 : Heap) (n0 : Nat) (v : Option Value) (h : Heap) (L : List Loc) : Prop := v = some (.int ((((u4 &&& (255 : Int32)) <<< ((0 : Int32) &&& 31)) ||| ((u5 &&& (255 : Int32)) <<< ((8 : Int32) &&& 31))).toUInt32.toUInt16.toUInt32.toInt32)) ∧ Fr n0 L ∧ h = h0
set_option maxRecDepth 65536 in
set_option maxHeartbeats 40000000 in
theorem rmGC3_2 (l : Launch) (Z : State) (a0 : Array Value) (hw : own_H a0 Z) (ws : List Jvm.Cond) (wcs : Int32) (hS : own_S Z wcs) (b : Addr) (kb : ClassId) (u0 : Int32) (u1 : Int32) (u2 : Int32) (u3 : Int32) (u4 : Int32) (u5 : Int32) (h0 : Heap) (n0 : Nat) (O0 : Old Z n0 h0) (A2 : Arv Z h0 b kb .byte (6 : Int32) [(.int u0), (.int u1), (.int u2), (.int u3), (.int u4), (.int u5)] (.int (0 : Int32))) :
    own_Met l own_y_81 jdk_52_method_5_code 2 (some .char) ws ({ frames := 0, cells := 0, slots := 0, locals := 0 } : Room) Z h0 #[(.ref b), (.int (2 : Int32))] (QrmGC3_2 Z wcs b kb u0 u1 u2 u3 u4 u5 h0 n0) := by
  refine own_body (plainFor_of_name own_pn_15) ?_
  intro p e s m below meth c s₁ hx hby hml hown hnm hret hlk hZ e0 X0
  have N0 := Fr.nil n0
  refine own_st (fun u_ k_ => castTop (own_ef_rmGC3_2 m b) k_) ?_
  show own_Go p e below _ (s₁.setTop (mkF m 0 #[.val (.ref b), .val (.int (2 : Int32))] []))
  have F562 := Sta.ext O0.2 hS.2.2.1
  obtain ⟨T563, X563, e563, st563⟩ := getS2 X0 hx hZ hown (host := "") (Or.inl (own_w hw 119 rfl)) Via.refl e0 F562 (g := (mkF m 0 #[.val (.ref b), .val (.int (2 : Int32))] [])) rfl (hb hby own_d_jdk_52_5_0)
  refine own_st (fun u_ k_ => st563 u_ k_) ?_
  show own_Go p e below _ (T563.setTop (mkF m 3 #[.val (.ref b), .val (.int (2 : Int32))] [(.int (1 : Int32))]))
  refine own_st (fun u_ k_ => XS.ifYes X563.here hx rfl (pc0 := 3) (pc' := 28) rfl (hb hby own_d_jdk_52_5_3) rfl (XT.i0_ne_t (by decide)) (by decide) (by decide) k_) ?_
  refine own_st (fun u_ k_ => XS.iloadN X563.here hx rfl (hb hby own_d_jdk_52_5_28) rfl k_) ?_
  show own_Go p e below _ (T563.setTop (mkF m 29 #[.val (.ref b), .val (.int (2 : Int32))] [(.int (2 : Int32))]))
  refine own_st (fun u_ k_ => XS.iconst X563.here hx rfl (hb hby own_d_jdk_52_5_29) k_) ?_
  refine own_st (fun u_ k_ => XS.ishl X563.here hx rfl (hb hby own_d_jdk_52_5_30) rfl k_) ?_
  show own_Go p e below _ (T563.setTop (mkF m 31 #[.val (.ref b), .val (.int (2 : Int32))] [(.int (4 : Int32))]))
  refine own_st (fun u_ k_ => XS.istoreN X563.here hx rfl (hb hby own_d_jdk_52_5_31) rfl (l' := #[.val (.ref b), .val (.int (4 : Int32))]) rfl k_) ?_
  refine own_st (fun u_ k_ => XS.aloadN X563.here hx rfl (hb hby own_d_jdk_52_5_32) rfl rfl k_) ?_
  show own_Go p e below _ (T563.setTop (mkF m 33 #[.val (.ref b), .val (.int (4 : Int32))] [(.ref b)]))
  refine own_st (fun u_ k_ => XS.iloadN X563.here hx rfl (hb hby own_d_jdk_52_5_33) rfl k_) ?_
  refine own_st (fun u_ k_ => XS.iinc X563.here hx rfl (hb hby own_d_jdk_52_5_34) rfl (l' := #[.val (.ref b), .val (.int (5 : Int32))]) rfl k_) ?_
  show own_Go p e below _ (T563.setTop (mkF m 37 #[.val (.ref b), .val (.int (5 : Int32))] [(.int (4 : Int32)), (.ref b)]))
  obtain ⟨cl564, Ar564, q564, S564, N564, H564, G564⟩ := id A2
  have hi564 : ¬ ((4 : Int32) < 0 ∨ cl564.slots.size ≤ ((4 : Int32)).toNatClampNeg) := inb_of S564 ⟨by decide, by decide⟩
  have ha564 : cl564.slots[((4 : Int32)).toNatClampNeg]? = some (.int u4) := H564.at hi564 rfl
  refine own_st (X563.baloadBytes hx (j := (4 : Int32)) (v := (.int u4)) (by rw [e563]; exact Ar564.1) (State.isArrayOf_alike hZ.alike Ar564.2.1) Ar564.2.2 hi564 ha564 (g := (mkF m 37 #[.val (.ref b), .val (.int (5 : Int32))] [(.int (4 : Int32)), (.ref b)])) rfl rfl (hb hby own_d_jdk_52_5_37)) ?_
  show own_Go p e below _ (T563.setTop (mkF m 38 #[.val (.ref b), .val (.int (5 : Int32))] [(.int u4)]))
  refine own_st (fun u_ k_ => XS.sipush X563.here hx rfl (hb hby own_d_jdk_52_5_38) k_) ?_
  refine own_st (fun u_ k_ => XS.iand X563.here hx rfl (hb hby own_d_jdk_52_5_41) rfl k_) ?_
  show own_Go p e below _ (T563.setTop (mkF m 42 #[.val (.ref b), .val (.int (5 : Int32))] [(.int (u4 &&& (255 : Int32)))]))
  have F565 := Sta.ext O0.2 hS.2.2.2.1
  obtain ⟨T566, X566, e566, st566⟩ := getS2 X563 hx hZ hown (host := "") (Or.inl (own_w hw 120 rfl)) Via.refl e563 F565 (g := (mkF m 42 #[.val (.ref b), .val (.int (5 : Int32))] [(.int (u4 &&& (255 : Int32)))])) rfl (hb hby own_d_jdk_52_5_42)
  refine own_st (fun u_ k_ => st566 u_ k_) ?_
  show own_Go p e below _ (T566.setTop (mkF m 45 #[.val (.ref b), .val (.int (5 : Int32))] [(.int (0 : Int32)), (.int (u4 &&& (255 : Int32)))]))
  refine own_st (fun u_ k_ => XS.ishl X566.here hx rfl (hb hby own_d_jdk_52_5_45) rfl k_) ?_
  refine own_st (fun u_ k_ => XS.aloadN X566.here hx rfl (hb hby own_d_jdk_52_5_46) rfl rfl k_) ?_
  show own_Go p e below _ (T566.setTop (mkF m 47 #[.val (.ref b), .val (.int (5 : Int32))] [(.ref b), (.int ((u4 &&& (255 : Int32)) <<< ((0 : Int32) &&& 31)))]))
  refine own_st (fun u_ k_ => XS.iloadN X566.here hx rfl (hb hby own_d_jdk_52_5_47) rfl k_) ?_
  obtain ⟨cl567, Ar567, q567, S567, N567, H567, G567⟩ := id A2
  have hi567 : ¬ ((5 : Int32) < 0 ∨ cl567.slots.size ≤ ((5 : Int32)).toNatClampNeg) := inb_of S567 ⟨by decide, by decide⟩
  have ha567 : cl567.slots[((5 : Int32)).toNatClampNeg]? = some (.int u5) := H567.at hi567 rfl
  refine own_st (X566.baloadBytes hx (j := (5 : Int32)) (v := (.int u5)) (by rw [e566]; exact Ar567.1) (State.isArrayOf_alike hZ.alike Ar567.2.1) Ar567.2.2 hi567 ha567 (g := (mkF m 48 #[.val (.ref b), .val (.int (5 : Int32))] [(.int (5 : Int32)), (.ref b), (.int ((u4 &&& (255 : Int32)) <<< ((0 : Int32) &&& 31)))])) rfl rfl (hb hby own_d_jdk_52_5_48)) ?_
  show own_Go p e below _ (T566.setTop (mkF m 49 #[.val (.ref b), .val (.int (5 : Int32))] [(.int u5), (.int ((u4 &&& (255 : Int32)) <<< ((0 : Int32) &&& 31)))]))
  refine own_st (fun u_ k_ => XS.sipush X566.here hx rfl (hb hby own_d_jdk_52_5_49) k_) ?_
  show own_Go p e below _ (T566.setTop (mkF m 52 #[.val (.ref b), .val (.int (5 : Int32))] [(.int (255 : Int32)), (.int u5), (.int ((u4 &&& (255 : Int32)) <<< ((0 : Int32) &&& 31)))]))
  refine own_st (fun u_ k_ => XS.iand X566.here hx rfl (hb hby own_d_jdk_52_5_52) rfl k_) ?_
  have F568 := Sta.ext O0.2 hS.2.2.2.2
  obtain ⟨T569, X569, e569, st569⟩ := getS2 X566 hx hZ hown (host := "") (Or.inl (own_w hw 121 rfl)) Via.refl e566 F568 (g := (mkF m 53 #[.val (.ref b), .val (.int (5 : Int32))] [(.int (u5 &&& (255 : Int32))), (.int ((u4 &&& (255 : Int32)) <<< ((0 : Int32) &&& 31)))])) rfl (hb hby own_d_jdk_52_5_53)
  refine own_st (fun u_ k_ => st569 u_ k_) ?_
  show own_Go p e below _ (T569.setTop (mkF m 56 #[.val (.ref b), .val (.int (5 : Int32))] [(.int (8 : Int32)), (.int (u5 &&& (255 : Int32))), (.int ((u4 &&& (255 : Int32)) <<< ((0 : Int32) &&& 31)))]))
  refine own_st (fun u_ k_ => XS.ishl X569.here hx rfl (hb hby own_d_jdk_52_5_56) rfl k_) ?_
  refine own_st (fun u_ k_ => XS.ior X569.here hx rfl (hb hby own_d_jdk_52_5_57) rfl k_) ?_
  show own_Go p e below _ (T569.setTop (mkF m 58 #[.val (.ref b), .val (.int (5 : Int32))] [(.int (((u4 &&& (255 : Int32)) <<< ((0 : Int32) &&& 31)) ||| ((u5 &&& (255 : Int32)) <<< ((8 : Int32) &&& 31))))]))
  refine own_st (fun u_ k_ => XS.i2c X569.here hx rfl (hb hby own_d_jdk_52_5_58) rfl k_) ?_
  exact own_retX X569 hx hlk hret (own_narC _) (Or.inl ⟨rfl, by simp, _, rfl⟩) (hb hby own_d_jdk_52_5_59) (by decide) (by decide) (show QrmGC3_2 Z wcs b kb u0 u1 u2 u3 u4 u5 h0 n0 (some (.int ((((u4 &&& (255 : Int32)) <<< ((0 : Int32) &&& 31)) ||| ((u5 &&& (255 : Int32)) <<< ((8 : Int32) &&& 31))).toUInt32.toUInt16.toUInt32.toInt32))) T569.heap _ from (by rw [e569]; exact ⟨rfl, N0, rfl⟩))
theorem own_ef_rmTB3 (m : MethodId) (a : Addr)  : entryFrame m #[(.ref a), (.int (0 : Int32)), (.int (3 : Int32))] 5 = mkF m 0 #[.val (.ref a), .val (.int (0 : Int32)), .val (.int (3 : Int32)), .unset, .unset] [] := by first | (simp [entryFrame, mkF, argsToLocals, Value.category, maxLocals]; done) | rfl
def QrmTB3 (Z : State) (wcs : Int32) (a : Addr) (ka : ClassId) (v0 : Int32) (v1 : Int32) (v2 : Int32) (h0 : Heap) (n0 : Nat) (v : Option Value) (h : Heap) (L : List Loc) : Prop := ∃ r : Addr, ∃ kr : ClassId, v = some (.ref r) ∧ Fr n0 L ∧ Keep h0 h [] ∧ h0.size ≤ r ∧ Exa Z h r "[B" ∧ Arv Z h r kr .byte (6 : Int32) [(.int ((v0 >>> ((0 : Int32) &&& 31)).toInt8.toInt32)), (.int ((v0 >>> ((8 : Int32) &&& 31)).toInt8.toInt32)), (.int ((v1 >>> ((0 : Int32) &&& 31)).toInt8.toInt32)), (.int ((v1 >>> ((8 : Int32) &&& 31)).toInt8.toInt32)), (.int ((v2 >>> ((0 : Int32) &&& 31)).toInt8.toInt32)), (.int ((v2 >>> ((8 : Int32) &&& 31)).toInt8.toInt32))] (.int (0 : Int32))
set_option maxRecDepth 65536 in
set_option maxHeartbeats 40000000 in
theorem rmTB3 (l : Launch) (Z : State) (a0 : Array Value) (hw : own_H a0 Z) (ws : List Jvm.Cond) (wcs : Int32) (hS : own_S Z wcs) (a : Addr) (ka : ClassId) (v0 : Int32) (v1 : Int32) (v2 : Int32) (h0 : Heap) (n0 : Nat) (O0 : Old Z n0 h0) (Ea : Exa Z h0 a "[C") (A1 : Arv Z h0 a ka .char (3 : Int32) [(.int v0), (.int v1), (.int v2)] (.int (0 : Int32))) :
    own_Met l own_y_104 jdk_52_method_14_code 5 (some (.array .byte)) ws ({ frames := 2, cells := 1, slots := 6, locals := 24 } : Room) Z h0 #[(.ref a), (.int (0 : Int32)), (.int (3 : Int32))] (QrmTB3 Z wcs a ka v0 v1 v2 h0 n0) := by
  refine own_body (plainFor_of_name own_pn_15) ?_
  intro p e s m below meth c s₁ hx hby hml hown hnm hret hlk hZ e0 X0
  have N0 := Fr.nil n0
  refine own_st (fun u_ k_ => castTop (own_ef_rmTB3 m a) k_) ?_
  show own_Go p e below _ (s₁.setTop (mkF m 0 #[.val (.ref a), .val (.int (0 : Int32)), .val (.int (3 : Int32)), .unset, .unset] []))
  refine own_st (fun u_ k_ => XS.iloadN X0.here hx rfl (hb hby own_d_jdk_52_14_0) rfl k_) ?_
  obtain ⟨T570, v570, L570, X570, hQ570, st570⟩ := own_callS X0 hx hZ (y := own_y_33) hown (own_w hw 109 rfl) (own_w hw 110 rfl) (own_w hw 98 rfl) (own_w hw 111 rfl) own_lm_28 (rmNB3 l Z a0 hw [] wcs hS  h0 n0 O0 ) e0 own_pd_85 (argsL := [(.int (3 : Int32))]) (rest := []) rfl rfl (g := (mkF m 1 #[.val (.ref a), .val (.int (0 : Int32)), .val (.int (3 : Int32)), .unset, .unset] [(.int (3 : Int32))])) rfl (by rw [hml]; rfl) rfl (hb hby own_d_jdk_52_14_1) (W := 0) rfl (by decide) (by decide) (by decide) (by decide)
  obtain ⟨r_571, kr_572, rfl, M570, K570, z573, F574, F575⟩ := hQ570
  have N570 := Fr.app N0 M570
  refine own_st (fun u_ k_ => st570 u_ k_) ?_
  show own_Go p e below _ (T570.setTop (mkF m 4 #[.val (.ref a), .val (.int (0 : Int32)), .val (.int (3 : Int32)), .unset, .unset] [(.ref r_571)]))
  refine own_st (fun u_ k_ => XS.astoreN X570.here hx rfl (hb hby own_d_jdk_52_14_4) rfl rfl (l' := #[.val (.ref a), .val (.int (0 : Int32)), .val (.int (3 : Int32)), .val (.ref r_571), .unset]) rfl k_) ?_
  refine own_st (fun u_ k_ => XS.iconst X570.here hx rfl (hb hby own_d_jdk_52_14_5) k_) ?_
  show own_Go p e below _ (T570.setTop (mkF m 6 #[.val (.ref a), .val (.int (0 : Int32)), .val (.int (3 : Int32)), .val (.ref r_571), .unset] [(.int (0 : Int32))]))
  refine own_st (fun u_ k_ => XS.istore X570.here hx rfl (hb hby own_d_jdk_52_14_6) rfl (l' := #[.val (.ref a), .val (.int (0 : Int32)), .val (.int (3 : Int32)), .val (.ref r_571), .val (.int (0 : Int32))]) rfl k_) ?_
  refine own_st (fun u_ k_ => XS.iload X570.here hx rfl (hb hby own_d_jdk_52_14_8) rfl k_) ?_
  show own_Go p e below _ (T570.setTop (mkF m 10 #[.val (.ref a), .val (.int (0 : Int32)), .val (.int (3 : Int32)), .val (.ref r_571), .val (.int (0 : Int32))] [(.int (0 : Int32))]))
  refine own_st (fun u_ k_ => XS.iloadN X570.here hx rfl (hb hby own_d_jdk_52_14_10) rfl k_) ?_
  refine own_st (fun u_ k_ => XS.icmpNo X570.here hx rfl (hb hby own_d_jdk_52_14_11) rfl (XT.ii_ge_f (by decide)) k_) ?_
  show own_Go p e below _ (T570.setTop (mkF m 14 #[.val (.ref a), .val (.int (0 : Int32)), .val (.int (3 : Int32)), .val (.ref r_571), .val (.int (0 : Int32))] []))
  refine own_st (fun u_ k_ => XS.aloadN X570.here hx rfl (hb hby own_d_jdk_52_14_14) rfl rfl k_) ?_
  refine own_st (fun u_ k_ => XS.iload X570.here hx rfl (hb hby own_d_jdk_52_14_15) rfl k_) ?_
  show own_Go p e below _ (T570.setTop (mkF m 17 #[.val (.ref a), .val (.int (0 : Int32)), .val (.int (3 : Int32)), .val (.ref r_571), .val (.int (0 : Int32))] [(.int (0 : Int32)), (.ref r_571)]))
  refine own_st (fun u_ k_ => XS.aloadN X570.here hx rfl (hb hby own_d_jdk_52_14_17) rfl rfl k_) ?_
  refine own_st (fun u_ k_ => XS.iloadN X570.here hx rfl (hb hby own_d_jdk_52_14_18) rfl k_) ?_
  show own_Go p e below _ (T570.setTop (mkF m 19 #[.val (.ref a), .val (.int (0 : Int32)), .val (.int (3 : Int32)), .val (.ref r_571), .val (.int (0 : Int32))] [(.int (0 : Int32)), (.ref a), (.int (0 : Int32)), (.ref r_571)]))
  have F576 := (A1.keep K570 nin0)
  obtain ⟨cl577, Ar577, q577, S577, N577, H577, G577⟩ := id F576
  have hi577 : ¬ ((0 : Int32) < 0 ∨ cl577.slots.size ≤ ((0 : Int32)).toNatClampNeg) := inb_of S577 ⟨by decide, by decide⟩
  have ha577 : cl577.slots[((0 : Int32)).toNatClampNeg]? = some (.int v0) := H577.at hi577 rfl
  refine own_st (X570.caload hx (j := (0 : Int32)) (v := (.int v0)) Ar577.1 (State.isArrayOf_alike hZ.alike Ar577.2.1) Ar577.2.2 hi577 ha577 (g := (mkF m 19 #[.val (.ref a), .val (.int (0 : Int32)), .val (.int (3 : Int32)), .val (.ref r_571), .val (.int (0 : Int32))] [(.int (0 : Int32)), (.ref a), (.int (0 : Int32)), (.ref r_571)])) rfl rfl (hb hby own_d_jdk_52_14_19)) ?_
  show own_Go p e below _ (T570.setTop (mkF m 20 #[.val (.ref a), .val (.int (0 : Int32)), .val (.int (3 : Int32)), .val (.ref r_571), .val (.int (0 : Int32))] [(.int v0), (.int (0 : Int32)), (.ref r_571)]))
  have g578 : n0 ≤ r_571 := Nat.le_trans (own_nl O0) z573
  have O580 : Old Z n0 T570.heap := O0.keep K570 all0
  obtain ⟨T579, v579, L579, X579, hQ579, st579⟩ := own_callS X570 hx hZ (y := own_y_56) hown (own_w hw 116 rfl) (own_w hw 117 rfl) (own_w hw 98 rfl) (own_w hw 118 rfl) own_lm_28 (rmPC3_0 l Z a0 hw [] wcs hS r_571 kr_572 v0 (0 : Int32) (0 : Int32) (0 : Int32) (0 : Int32) (0 : Int32) (0 : Int32) T570.heap n0 O580 F574 g578 F575) rfl own_pd_98 (argsL := [(.ref r_571), (.int (0 : Int32)), (.int v0)]) (rest := []) rfl rfl (g := (mkF m 20 #[.val (.ref a), .val (.int (0 : Int32)), .val (.int (3 : Int32)), .val (.ref r_571), .val (.int (0 : Int32))] [(.int v0), (.int (0 : Int32)), (.ref r_571)])) rfl (by rw [hml]; rfl) rfl (hb hby own_d_jdk_52_14_20) (W := 0) rfl (by decide) (by decide) (by decide) (by decide)
  obtain ⟨rfl, M579, K579, F581, F582⟩ := hQ579
  have N579 := Fr.app N570 M579
  refine own_st (fun u_ k_ => st579 u_ k_) ?_
  show own_Go p e below _ (T579.setTop (mkF m 23 #[.val (.ref a), .val (.int (0 : Int32)), .val (.int (3 : Int32)), .val (.ref r_571), .val (.int (0 : Int32))] []))
  refine own_st (fun u_ k_ => XS.iinc X579.here hx rfl (hb hby own_d_jdk_52_14_23) rfl (l' := #[.val (.ref a), .val (.int (1 : Int32)), .val (.int (3 : Int32)), .val (.ref r_571), .val (.int (0 : Int32))]) rfl k_) ?_
  refine own_st (fun u_ k_ => XS.iinc X579.here hx rfl (hb hby own_d_jdk_52_14_26) rfl (l' := #[.val (.ref a), .val (.int (1 : Int32)), .val (.int (3 : Int32)), .val (.ref r_571), .val (.int (1 : Int32))]) rfl k_) ?_
  show own_Go p e below _ (T579.setTop (mkF m 29 #[.val (.ref a), .val (.int (1 : Int32)), .val (.int (3 : Int32)), .val (.ref r_571), .val (.int (1 : Int32))] []))
  refine own_st (fun u_ k_ => XS.goto X579.here hx rfl (pc0 := 29) (pc' := 8) rfl (hb hby own_d_jdk_52_14_29) (by decide) (by decide) k_) ?_
  refine own_st (fun u_ k_ => XS.iload X579.here hx rfl (hb hby own_d_jdk_52_14_8) rfl k_) ?_
  show own_Go p e below _ (T579.setTop (mkF m 10 #[.val (.ref a), .val (.int (1 : Int32)), .val (.int (3 : Int32)), .val (.ref r_571), .val (.int (1 : Int32))] [(.int (1 : Int32))]))
  refine own_st (fun u_ k_ => XS.iloadN X579.here hx rfl (hb hby own_d_jdk_52_14_10) rfl k_) ?_
  refine own_st (fun u_ k_ => XS.icmpNo X579.here hx rfl (hb hby own_d_jdk_52_14_11) rfl (XT.ii_ge_f (by decide)) k_) ?_
  show own_Go p e below _ (T579.setTop (mkF m 14 #[.val (.ref a), .val (.int (1 : Int32)), .val (.int (3 : Int32)), .val (.ref r_571), .val (.int (1 : Int32))] []))
  refine own_st (fun u_ k_ => XS.aloadN X579.here hx rfl (hb hby own_d_jdk_52_14_14) rfl rfl k_) ?_
  refine own_st (fun u_ k_ => XS.iload X579.here hx rfl (hb hby own_d_jdk_52_14_15) rfl k_) ?_
  show own_Go p e below _ (T579.setTop (mkF m 17 #[.val (.ref a), .val (.int (1 : Int32)), .val (.int (3 : Int32)), .val (.ref r_571), .val (.int (1 : Int32))] [(.int (1 : Int32)), (.ref r_571)]))
  refine own_st (fun u_ k_ => XS.aloadN X579.here hx rfl (hb hby own_d_jdk_52_14_17) rfl rfl k_) ?_
  refine own_st (fun u_ k_ => XS.iloadN X579.here hx rfl (hb hby own_d_jdk_52_14_18) rfl k_) ?_
  show own_Go p e below _ (T579.setTop (mkF m 19 #[.val (.ref a), .val (.int (1 : Int32)), .val (.int (3 : Int32)), .val (.ref r_571), .val (.int (1 : Int32))] [(.int (1 : Int32)), (.ref a), (.int (1 : Int32)), (.ref r_571)]))
  have ne583 : a ≠ r_571 := (Nat.ne_of_lt (Nat.lt_of_lt_of_le Ea.lt z573))
  have F584 := (F576.keep K579 (ninS ne583 nin0))
  obtain ⟨cl585, Ar585, q585, S585, N585, H585, G585⟩ := id F584
  have hi585 : ¬ ((1 : Int32) < 0 ∨ cl585.slots.size ≤ ((1 : Int32)).toNatClampNeg) := inb_of S585 ⟨by decide, by decide⟩
  have ha585 : cl585.slots[((1 : Int32)).toNatClampNeg]? = some (.int v1) := H585.at hi585 rfl
  refine own_st (X579.caload hx (j := (1 : Int32)) (v := (.int v1)) Ar585.1 (State.isArrayOf_alike hZ.alike Ar585.2.1) Ar585.2.2 hi585 ha585 (g := (mkF m 19 #[.val (.ref a), .val (.int (1 : Int32)), .val (.int (3 : Int32)), .val (.ref r_571), .val (.int (1 : Int32))] [(.int (1 : Int32)), (.ref a), (.int (1 : Int32)), (.ref r_571)])) rfl rfl (hb hby own_d_jdk_52_14_19)) ?_
  show own_Go p e below _ (T579.setTop (mkF m 20 #[.val (.ref a), .val (.int (1 : Int32)), .val (.int (3 : Int32)), .val (.ref r_571), .val (.int (1 : Int32))] [(.int v1), (.int (1 : Int32)), (.ref r_571)]))
  have O587 : Old Z n0 T579.heap := O580.keep K579 (allS g578 all0)
  obtain ⟨T586, v586, L586, X586, hQ586, st586⟩ := own_callS X579 hx hZ (y := own_y_56) hown (own_w hw 116 rfl) (own_w hw 117 rfl) (own_w hw 98 rfl) (own_w hw 118 rfl) own_lm_28 (rmPC3_1 l Z a0 hw [] wcs hS r_571 kr_572 v1 ((v0 >>> ((0 : Int32) &&& 31)).toInt8.toInt32) ((v0 >>> ((8 : Int32) &&& 31)).toInt8.toInt32) (0 : Int32) (0 : Int32) (0 : Int32) (0 : Int32) T579.heap n0 O587 F581 g578 F582) rfl own_pd_98 (argsL := [(.ref r_571), (.int (1 : Int32)), (.int v1)]) (rest := []) rfl rfl (g := (mkF m 20 #[.val (.ref a), .val (.int (1 : Int32)), .val (.int (3 : Int32)), .val (.ref r_571), .val (.int (1 : Int32))] [(.int v1), (.int (1 : Int32)), (.ref r_571)])) rfl (by rw [hml]; rfl) rfl (hb hby own_d_jdk_52_14_20) (W := 0) rfl (by decide) (by decide) (by decide) (by decide)
  obtain ⟨rfl, M586, K586, F588, F589⟩ := hQ586
  have N586 := Fr.app N579 M586
  refine own_st (fun u_ k_ => st586 u_ k_) ?_
  show own_Go p e below _ (T586.setTop (mkF m 23 #[.val (.ref a), .val (.int (1 : Int32)), .val (.int (3 : Int32)), .val (.ref r_571), .val (.int (1 : Int32))] []))
  refine own_st (fun u_ k_ => XS.iinc X586.here hx rfl (hb hby own_d_jdk_52_14_23) rfl (l' := #[.val (.ref a), .val (.int (2 : Int32)), .val (.int (3 : Int32)), .val (.ref r_571), .val (.int (1 : Int32))]) rfl k_) ?_
  refine own_st (fun u_ k_ => XS.iinc X586.here hx rfl (hb hby own_d_jdk_52_14_26) rfl (l' := #[.val (.ref a), .val (.int (2 : Int32)), .val (.int (3 : Int32)), .val (.ref r_571), .val (.int (2 : Int32))]) rfl k_) ?_
  show own_Go p e below _ (T586.setTop (mkF m 29 #[.val (.ref a), .val (.int (2 : Int32)), .val (.int (3 : Int32)), .val (.ref r_571), .val (.int (2 : Int32))] []))
  refine own_st (fun u_ k_ => XS.goto X586.here hx rfl (pc0 := 29) (pc' := 8) rfl (hb hby own_d_jdk_52_14_29) (by decide) (by decide) k_) ?_
  refine own_st (fun u_ k_ => XS.iload X586.here hx rfl (hb hby own_d_jdk_52_14_8) rfl k_) ?_
  show own_Go p e below _ (T586.setTop (mkF m 10 #[.val (.ref a), .val (.int (2 : Int32)), .val (.int (3 : Int32)), .val (.ref r_571), .val (.int (2 : Int32))] [(.int (2 : Int32))]))
  refine own_st (fun u_ k_ => XS.iloadN X586.here hx rfl (hb hby own_d_jdk_52_14_10) rfl k_) ?_
  refine own_st (fun u_ k_ => XS.icmpNo X586.here hx rfl (hb hby own_d_jdk_52_14_11) rfl (XT.ii_ge_f (by decide)) k_) ?_
  show own_Go p e below _ (T586.setTop (mkF m 14 #[.val (.ref a), .val (.int (2 : Int32)), .val (.int (3 : Int32)), .val (.ref r_571), .val (.int (2 : Int32))] []))
  refine own_st (fun u_ k_ => XS.aloadN X586.here hx rfl (hb hby own_d_jdk_52_14_14) rfl rfl k_) ?_
  refine own_st (fun u_ k_ => XS.iload X586.here hx rfl (hb hby own_d_jdk_52_14_15) rfl k_) ?_
  show own_Go p e below _ (T586.setTop (mkF m 17 #[.val (.ref a), .val (.int (2 : Int32)), .val (.int (3 : Int32)), .val (.ref r_571), .val (.int (2 : Int32))] [(.int (2 : Int32)), (.ref r_571)]))
  refine own_st (fun u_ k_ => XS.aloadN X586.here hx rfl (hb hby own_d_jdk_52_14_17) rfl rfl k_) ?_
  refine own_st (fun u_ k_ => XS.iloadN X586.here hx rfl (hb hby own_d_jdk_52_14_18) rfl k_) ?_
  show own_Go p e below _ (T586.setTop (mkF m 19 #[.val (.ref a), .val (.int (2 : Int32)), .val (.int (3 : Int32)), .val (.ref r_571), .val (.int (2 : Int32))] [(.int (2 : Int32)), (.ref a), (.int (2 : Int32)), (.ref r_571)]))
  have F590 := (F584.keep K586 (ninS ne583 nin0))
  obtain ⟨cl591, Ar591, q591, S591, N591, H591, G591⟩ := id F590
  have hi591 : ¬ ((2 : Int32) < 0 ∨ cl591.slots.size ≤ ((2 : Int32)).toNatClampNeg) := inb_of S591 ⟨by decide, by decide⟩
  have ha591 : cl591.slots[((2 : Int32)).toNatClampNeg]? = some (.int v2) := H591.at hi591 rfl
  refine own_st (X586.caload hx (j := (2 : Int32)) (v := (.int v2)) Ar591.1 (State.isArrayOf_alike hZ.alike Ar591.2.1) Ar591.2.2 hi591 ha591 (g := (mkF m 19 #[.val (.ref a), .val (.int (2 : Int32)), .val (.int (3 : Int32)), .val (.ref r_571), .val (.int (2 : Int32))] [(.int (2 : Int32)), (.ref a), (.int (2 : Int32)), (.ref r_571)])) rfl rfl (hb hby own_d_jdk_52_14_19)) ?_
  show own_Go p e below _ (T586.setTop (mkF m 20 #[.val (.ref a), .val (.int (2 : Int32)), .val (.int (3 : Int32)), .val (.ref r_571), .val (.int (2 : Int32))] [(.int v2), (.int (2 : Int32)), (.ref r_571)]))
  have O593 : Old Z n0 T586.heap := O587.keep K586 (allS g578 all0)
  obtain ⟨T592, v592, L592, X592, hQ592, st592⟩ := own_callS X586 hx hZ (y := own_y_56) hown (own_w hw 116 rfl) (own_w hw 117 rfl) (own_w hw 98 rfl) (own_w hw 118 rfl) own_lm_28 (rmPC3_2 l Z a0 hw [] wcs hS r_571 kr_572 v2 ((v0 >>> ((0 : Int32) &&& 31)).toInt8.toInt32) ((v0 >>> ((8 : Int32) &&& 31)).toInt8.toInt32) ((v1 >>> ((0 : Int32) &&& 31)).toInt8.toInt32) ((v1 >>> ((8 : Int32) &&& 31)).toInt8.toInt32) (0 : Int32) (0 : Int32) T586.heap n0 O593 F588 g578 F589) rfl own_pd_98 (argsL := [(.ref r_571), (.int (2 : Int32)), (.int v2)]) (rest := []) rfl rfl (g := (mkF m 20 #[.val (.ref a), .val (.int (2 : Int32)), .val (.int (3 : Int32)), .val (.ref r_571), .val (.int (2 : Int32))] [(.int v2), (.int (2 : Int32)), (.ref r_571)])) rfl (by rw [hml]; rfl) rfl (hb hby own_d_jdk_52_14_20) (W := 0) rfl (by decide) (by decide) (by decide) (by decide)
  obtain ⟨rfl, M592, K592, F594, F595⟩ := hQ592
  have N592 := Fr.app N586 M592
  refine own_st (fun u_ k_ => st592 u_ k_) ?_
  show own_Go p e below _ (T592.setTop (mkF m 23 #[.val (.ref a), .val (.int (2 : Int32)), .val (.int (3 : Int32)), .val (.ref r_571), .val (.int (2 : Int32))] []))
  refine own_st (fun u_ k_ => XS.iinc X592.here hx rfl (hb hby own_d_jdk_52_14_23) rfl (l' := #[.val (.ref a), .val (.int (3 : Int32)), .val (.int (3 : Int32)), .val (.ref r_571), .val (.int (2 : Int32))]) rfl k_) ?_
  refine own_st (fun u_ k_ => XS.iinc X592.here hx rfl (hb hby own_d_jdk_52_14_26) rfl (l' := #[.val (.ref a), .val (.int (3 : Int32)), .val (.int (3 : Int32)), .val (.ref r_571), .val (.int (3 : Int32))]) rfl k_) ?_
  show own_Go p e below _ (T592.setTop (mkF m 29 #[.val (.ref a), .val (.int (3 : Int32)), .val (.int (3 : Int32)), .val (.ref r_571), .val (.int (3 : Int32))] []))
  refine own_st (fun u_ k_ => XS.goto X592.here hx rfl (pc0 := 29) (pc' := 8) rfl (hb hby own_d_jdk_52_14_29) (by decide) (by decide) k_) ?_
  refine own_st (fun u_ k_ => XS.iload X592.here hx rfl (hb hby own_d_jdk_52_14_8) rfl k_) ?_
  show own_Go p e below _ (T592.setTop (mkF m 10 #[.val (.ref a), .val (.int (3 : Int32)), .val (.int (3 : Int32)), .val (.ref r_571), .val (.int (3 : Int32))] [(.int (3 : Int32))]))
  refine own_st (fun u_ k_ => XS.iloadN X592.here hx rfl (hb hby own_d_jdk_52_14_10) rfl k_) ?_
  refine own_st (fun u_ k_ => XS.icmpYes X592.here hx rfl (pc0 := 11) (pc' := 32) rfl (hb hby own_d_jdk_52_14_11) rfl (XT.ii_ge_t (by decide)) (by decide) (by decide) k_) ?_
  show own_Go p e below _ (T592.setTop (mkF m 32 #[.val (.ref a), .val (.int (3 : Int32)), .val (.int (3 : Int32)), .val (.ref r_571), .val (.int (3 : Int32))] []))
  refine own_st (fun u_ k_ => XS.aloadN X592.here hx rfl (hb hby own_d_jdk_52_14_32) rfl rfl k_) ?_
  have K596 : Keep h0 T570.heap [] := (Keep.refl h0 []).trans K570 all0
  have z598 : h0.size ≤ r_571 := Nat.le_trans (Nat.le_refl _) z573
  have K597 : Keep h0 T579.heap [] := K596.trans K579 (allS (Or.inr z598) all0)
  have K599 : Keep h0 T586.heap [] := K597.trans K586 (allS (Or.inr z598) all0)
  have K600 : Keep h0 T592.heap [] := K599.trans K592 (allS (Or.inr z598) all0)
  exact own_retX X592 hx hlk hret rfl (Or.inr (Or.inr (Or.inr (Or.inr ⟨rfl, rfl, rfl⟩)))) (hb hby own_d_jdk_52_14_33) (by decide) (by decide) (show QrmTB3 Z wcs a ka v0 v1 v2 h0 n0 (some (.ref r_571)) T592.heap _ from (by exact ⟨r_571, kr_572, rfl, N592, K600, z598, F594, F595⟩))
theorem own_ef_rmCq3_0 (m : MethodId) (a : Addr)  : entryFrame m #[(.ref a), (.int (0 : Int32)), (.int (3 : Int32))] 6 = mkF m 0 #[.val (.ref a), .val (.int (0 : Int32)), .val (.int (3 : Int32)), .unset, .unset, .unset] [] := by first | (simp [entryFrame, mkF, argsToLocals, Value.category, maxLocals]; done) | rfl
def QrmCq3_0 (Z : State) (wcs : Int32) (a : Addr) (ka : ClassId) (v0 : Int32) (v1 : Int32) (v2 : Int32) (h0 : Heap) (n0 : Nat) (v : Option Value) (h : Heap) (L : List Loc) : Prop := ∃ r : Addr, ∃ kr : ClassId, v = some (.ref r) ∧ Fr n0 L ∧ Keep h0 h [] ∧ h0.size ≤ r ∧ Exa Z h r "[B" ∧ Arv Z h r kr .byte (6 : Int32) [(.int ((v0 >>> ((0 : Int32) &&& 31)).toInt8.toInt32)), (.int ((v0 >>> ((8 : Int32) &&& 31)).toInt8.toInt32)), (.int ((v1 >>> ((0 : Int32) &&& 31)).toInt8.toInt32)), (.int ((v1 >>> ((8 : Int32) &&& 31)).toInt8.toInt32)), (.int ((v2 >>> ((0 : Int32) &&& 31)).toInt8.toInt32)), (.int ((v2 >>> ((8 : Int32) &&& 31)).toInt8.toInt32))] (.int (0 : Int32))
set_option maxRecDepth 65536 in
set_option maxHeartbeats 40000000 in
theorem rmCq3_0 (l : Launch) (Z : State) (a0 : Array Value) (hw : own_H a0 Z) (ws : List Jvm.Cond) (wcs : Int32) (hS : own_S Z wcs) (a : Addr) (ka : ClassId) (v0 : Int32) (v1 : Int32) (v2 : Int32) (h0 : Heap) (n0 : Nat) (O0 : Old Z n0 h0) (Ea : Exa Z h0 a "[C") (A1 : Arv Z h0 a ka .char (3 : Int32) [(.int v0), (.int v1), (.int v2)] (.int (0 : Int32))) (hq0 : (255 : Int32) < v0) (hv0 : own_C16 v0) (hv1 : own_C16 v1) (hv2 : own_C16 v2) :
    own_Met l own_y_134 jdk_52_method_16_code 6 (some (.array .byte)) ws ({ frames := 3, cells := 2, slots := 9, locals := 40 } : Room) Z h0 #[(.ref a), (.int (0 : Int32)), (.int (3 : Int32))] (QrmCq3_0 Z wcs a ka v0 v1 v2 h0 n0) := by
  refine own_body (plainFor_of_name own_pn_15) ?_
  intro p e s m below meth c s₁ hx hby hml hown hnm hret hlk hZ e0 X0
  have N0 := Fr.nil n0
  refine own_st (fun u_ k_ => castTop (own_ef_rmCq3_0 m a) k_) ?_
  show own_Go p e below _ (s₁.setTop (mkF m 0 #[.val (.ref a), .val (.int (0 : Int32)), .val (.int (3 : Int32)), .unset, .unset, .unset] []))
  refine own_st (fun u_ k_ => XS.iloadN X0.here hx rfl (hb hby own_d_jdk_52_16_0) rfl k_) ?_
  obtain ⟨T601, h601, k601, X601, e601, E601, A601, Y601, st601⟩ := newPE X0 hx hZ (own_w hw 16 rfl) e0 (g := (mkF m 1 #[.val (.ref a), .val (.int (0 : Int32)), .val (.int (3 : Int32)), .unset, .unset, .unset] [(.int (3 : Int32))])) rfl (hb hby own_d_jdk_52_16_1) rfl (by decide) (cap := 3) (by decide) (by decide) (by decide) (by decide) (ad := "[B") own_lm_31
  obtain ⟨b601, g601⟩ : ∃ z, z = h0.size := ⟨_, rfl⟩
  rw [← g601] at A601 Y601 st601
  have V601 : Arv Z h601 b601 k601 .byte (3 : Int32) [(.int (0 : Int32)), (.int (0 : Int32)), (.int (0 : Int32))] (.int (0 : Int32)) := (Arv.new A601 (by decide)).pad (pad_rep [] (.int (0 : Int32)) 3)
  refine own_st (fun u_ k_ => st601 u_ k_) ?_
  show own_Go p e below _ (T601.setTop (mkF m 3 #[.val (.ref a), .val (.int (0 : Int32)), .val (.int (3 : Int32)), .unset, .unset, .unset] [(.ref b601)]))
  refine own_st (fun u_ k_ => XS.astoreN X601.here hx rfl (hb hby own_d_jdk_52_16_3) rfl rfl (l' := #[.val (.ref a), .val (.int (0 : Int32)), .val (.int (3 : Int32)), .val (.ref b601), .unset, .unset]) rfl k_) ?_
  refine own_st (fun u_ k_ => XS.aloadN X601.here hx rfl (hb hby own_d_jdk_52_16_4) rfl rfl k_) ?_
  show own_Go p e below _ (T601.setTop (mkF m 5 #[.val (.ref a), .val (.int (0 : Int32)), .val (.int (3 : Int32)), .val (.ref b601), .unset, .unset] [(.ref a)]))
  refine own_st (fun u_ k_ => XS.iloadN X601.here hx rfl (hb hby own_d_jdk_52_16_5) rfl k_) ?_
  refine own_st (fun u_ k_ => XS.aloadN X601.here hx rfl (hb hby own_d_jdk_52_16_6) rfl rfl k_) ?_
  show own_Go p e below _ (T601.setTop (mkF m 7 #[.val (.ref a), .val (.int (0 : Int32)), .val (.int (3 : Int32)), .val (.ref b601), .unset, .unset] [(.ref b601), (.int (0 : Int32)), (.ref a)]))
  refine own_st (fun u_ k_ => XS.iconst X601.here hx rfl (hb hby own_d_jdk_52_16_7) k_) ?_
  refine own_st (fun u_ k_ => XS.iloadN X601.here hx rfl (hb hby own_d_jdk_52_16_8) rfl k_) ?_
  show own_Go p e below _ (T601.setTop (mkF m 9 #[.val (.ref a), .val (.int (0 : Int32)), .val (.int (3 : Int32)), .val (.ref b601), .unset, .unset] [(.int (3 : Int32)), (.int (0 : Int32)), (.ref b601), (.int (0 : Int32)), (.ref a)]))
  have F602 := (Exa.ext E601 Ea)
  have g603 : n0 ≤ b601 := Nat.le_trans (own_nl O0) (Nat.le_of_eq g601.symm)
  have F604 := (A1.ext E601)
  have O606 : Old Z n0 h601 := O0.ext E601
  obtain ⟨T605, v605, L605, X605, hQ605, st605⟩ := own_callS X601 hx hZ (y := own_y_14) hown (own_w hw 100 rfl) (own_w hw 101 rfl) (own_w hw 98 rfl) (own_w hw 102 rfl) own_lm_28 (rmCp3_0 l Z a0 hw [] wcs hS a ka b601 k601 v0 v1 v2 h601 n0 O606 F602 Y601 g603 F604 V601 (by assumption)) e601 own_pd_115 (argsL := [(.ref a), (.int (0 : Int32)), (.ref b601), (.int (0 : Int32)), (.int (3 : Int32))]) (rest := []) rfl rfl (g := (mkF m 9 #[.val (.ref a), .val (.int (0 : Int32)), .val (.int (3 : Int32)), .val (.ref b601), .unset, .unset] [(.int (3 : Int32)), (.int (0 : Int32)), (.ref b601), (.int (0 : Int32)), (.ref a)])) rfl (by rw [hml]; rfl) rfl (hb hby own_d_jdk_52_16_9) (W := 0) rfl (by decide) (by decide) (by decide) (by decide)
  obtain ⟨rfl, M605, K605, F607⟩ := hQ605
  have N605 := Fr.app N0 M605
  refine own_st (fun u_ k_ => st605 u_ k_) ?_
  show own_Go p e below _ (T605.setTop (mkF m 12 #[.val (.ref a), .val (.int (0 : Int32)), .val (.int (3 : Int32)), .val (.ref b601), .unset, .unset] [(.int (0 : Int32))]))
  refine own_st (fun u_ k_ => XS.istore X605.here hx rfl (hb hby own_d_jdk_52_16_12) rfl (l' := #[.val (.ref a), .val (.int (0 : Int32)), .val (.int (3 : Int32)), .val (.ref b601), .val (.int (0 : Int32)), .unset]) rfl k_) ?_
  refine own_st (fun u_ k_ => XS.iload X605.here hx rfl (hb hby own_d_jdk_52_16_14) rfl k_) ?_
  show own_Go p e below _ (T605.setTop (mkF m 16 #[.val (.ref a), .val (.int (0 : Int32)), .val (.int (3 : Int32)), .val (.ref b601), .val (.int (0 : Int32)), .unset] [(.int (0 : Int32))]))
  refine own_st (fun u_ k_ => XS.iloadN X605.here hx rfl (hb hby own_d_jdk_52_16_16) rfl k_) ?_
  refine own_st (fun u_ k_ => XS.icmpNo X605.here hx rfl (hb hby own_d_jdk_52_16_17) rfl (XT.ii_eq_f (by decide)) k_) ?_
  show own_Go p e below _ (T605.setTop (mkF m 20 #[.val (.ref a), .val (.int (0 : Int32)), .val (.int (3 : Int32)), .val (.ref b601), .val (.int (0 : Int32)), .unset] []))
  refine own_st (fun u_ k_ => XS.aloadN X605.here hx rfl (hb hby own_d_jdk_52_16_20) rfl rfl k_) ?_
  refine own_st (fun u_ k_ => XS.iloadN X605.here hx rfl (hb hby own_d_jdk_52_16_21) rfl k_) ?_
  show own_Go p e below _ (T605.setTop (mkF m 22 #[.val (.ref a), .val (.int (0 : Int32)), .val (.int (3 : Int32)), .val (.ref b601), .val (.int (0 : Int32)), .unset] [(.int (0 : Int32)), (.ref a)]))
  refine own_st (fun u_ k_ => XS.iloadN X605.here hx rfl (hb hby own_d_jdk_52_16_22) rfl k_) ?_
  have F608 := (F602.keep K605)
  have ne609 : a ≠ b601 := (Nat.ne_of_lt (Nat.lt_of_lt_of_le Ea.lt (Nat.le_of_eq g601.symm)))
  have F610 := (F604.keep K605 (ninS ne609 nin0))
  have O612 : Old Z n0 T605.heap := O606.keep K605 (allS g603 all0)
  obtain ⟨T611, v611, L611, X611, hQ611, st611⟩ := own_callS X605 hx hZ (y := own_y_104) hown (own_w hw 106 rfl) (own_w hw 107 rfl) (own_w hw 98 rfl) (own_w hw 108 rfl) own_lm_28 (rmTB3 l Z a0 hw [] wcs hS a ka v0 v1 v2 T605.heap n0 O612 F608 F610) rfl own_pd_124 (argsL := [(.ref a), (.int (0 : Int32)), (.int (3 : Int32))]) (rest := []) rfl rfl (g := (mkF m 23 #[.val (.ref a), .val (.int (0 : Int32)), .val (.int (3 : Int32)), .val (.ref b601), .val (.int (0 : Int32)), .unset] [(.int (3 : Int32)), (.int (0 : Int32)), (.ref a)])) rfl (by rw [hml]; rfl) rfl (hb hby own_d_jdk_52_16_23) (W := 0) rfl (by decide) (by decide) (by decide) (by decide)
  obtain ⟨r_613, kr_614, rfl, M611, K611, z615, F616, F617⟩ := hQ611
  have N611 := Fr.app N605 M611
  refine own_st (fun u_ k_ => st611 u_ k_) ?_
  show own_Go p e below _ (T611.setTop (mkF m 26 #[.val (.ref a), .val (.int (0 : Int32)), .val (.int (3 : Int32)), .val (.ref b601), .val (.int (0 : Int32)), .unset] [(.ref r_613)]))
  refine own_st (fun u_ k_ => XS.astore X611.here hx rfl (hb hby own_d_jdk_52_16_26) rfl rfl (l' := #[.val (.ref a), .val (.int (0 : Int32)), .val (.int (3 : Int32)), .val (.ref b601), .val (.int (0 : Int32)), .val (.ref r_613)]) rfl k_) ?_
  refine own_st (fun u_ k_ => XS.aload X611.here hx rfl (hb hby own_d_jdk_52_16_28) rfl rfl k_) ?_
  show own_Go p e below _ (T611.setTop (mkF m 30 #[.val (.ref a), .val (.int (0 : Int32)), .val (.int (3 : Int32)), .val (.ref b601), .val (.int (0 : Int32)), .val (.ref r_613)] [(.ref r_613)]))
  refine own_st (fun u_ k_ => XS.iload X611.here hx rfl (hb hby own_d_jdk_52_16_30) rfl k_) ?_
  have O619 : Old Z n0 T611.heap := O612.keep K611 all0
  obtain ⟨T618, v618, L618, X618, hQ618, st618⟩ := own_callS X611 hx hZ (y := own_y_81) hown (own_w hw 122 rfl) (own_w hw 123 rfl) (own_w hw 98 rfl) (own_w hw 124 rfl) own_lm_28 (rmGC3_0 l Z a0 hw [] wcs hS r_613 kr_614 ((v0 >>> ((0 : Int32) &&& 31)).toInt8.toInt32) ((v0 >>> ((8 : Int32) &&& 31)).toInt8.toInt32) ((v1 >>> ((0 : Int32) &&& 31)).toInt8.toInt32) ((v1 >>> ((8 : Int32) &&& 31)).toInt8.toInt32) ((v2 >>> ((0 : Int32) &&& 31)).toInt8.toInt32) ((v2 >>> ((8 : Int32) &&& 31)).toInt8.toInt32) T611.heap n0 O619 F617) rfl own_pd_129 (argsL := [(.ref r_613), (.int (0 : Int32))]) (rest := []) rfl rfl (g := (mkF m 32 #[.val (.ref a), .val (.int (0 : Int32)), .val (.int (3 : Int32)), .val (.ref b601), .val (.int (0 : Int32)), .val (.ref r_613)] [(.int (0 : Int32)), (.ref r_613)])) rfl (by rw [hml]; rfl) rfl (hb hby own_d_jdk_52_16_32) (W := 0) rfl (by decide) (by decide) (by decide) (by decide)
  obtain ⟨rfl, M618, e618⟩ := hQ618
  have N618 := Fr.app N611 M618
  refine own_st (fun u_ k_ => st618 u_ k_) ?_
  show own_Go p e below _ (T618.setTop (mkF m 35 #[.val (.ref a), .val (.int (0 : Int32)), .val (.int (3 : Int32)), .val (.ref b601), .val (.int (0 : Int32)), .val (.ref r_613)] [(.int ((((((v0 >>> ((0 : Int32) &&& 31)).toInt8.toInt32) &&& (255 : Int32)) <<< ((0 : Int32) &&& 31)) ||| ((((v0 >>> ((8 : Int32) &&& 31)).toInt8.toInt32) &&& (255 : Int32)) <<< ((8 : Int32) &&& 31))).toUInt32.toUInt16.toUInt32.toInt32))]))
  refine own_st (fun u_ k_ => XS.sipush X618.here hx rfl (hb hby own_d_jdk_52_16_35) k_) ?_
  refine own_st (fun u_ k_ => XS.icmpYes X618.here hx rfl (pc0 := 38) (pc' := 54) rfl (hb hby own_d_jdk_52_16_38) rfl (XT.ii_gt_t (by rw [own_gc _ hv0]; exact hq0)) (by decide) (by decide) k_) ?_
  show own_Go p e below _ (T618.setTop (mkF m 54 #[.val (.ref a), .val (.int (0 : Int32)), .val (.int (3 : Int32)), .val (.ref b601), .val (.int (0 : Int32)), .val (.ref r_613)] []))
  refine own_st (fun u_ k_ => XS.aload X618.here hx rfl (hb hby own_d_jdk_52_16_54) rfl rfl k_) ?_
  have K620 : Keep h0 h601 [] := (Keep.refl h0 []).ext E601
  have z622 : h0.size ≤ b601 := Nat.le_trans (Nat.le_refl _) (Nat.le_of_eq g601.symm)
  have K621 : Keep h0 T605.heap [] := K620.trans K605 (allS (Or.inr z622) all0)
  have K623 : Keep h0 T611.heap [] := K621.trans K611 all0
  have z624 : h0.size ≤ r_613 := Nat.le_trans (Nat.le_trans E601.1 K605.1) z615
  exact own_retX X618 hx hlk hret rfl (Or.inr (Or.inr (Or.inr (Or.inr ⟨rfl, rfl, rfl⟩)))) (hb hby own_d_jdk_52_16_56) (by decide) (by decide) (show QrmCq3_0 Z wcs a ka v0 v1 v2 h0 n0 (some (.ref r_613)) T618.heap _ from (by rw [e618]; exact ⟨r_613, kr_614, rfl, N618, K623, z624, F616, F617⟩))
theorem own_ef_rmCo3_6 (m : MethodId) (b : Addr)  : entryFrame m #[(.ref b), (.int (3 : Int32))] 2 = mkF m 0 #[.val (.ref b), .val (.int (3 : Int32))] [] := by first | (simp [entryFrame, mkF, argsToLocals, Value.category, maxLocals]; done) | rfl
def QrmCo3_6 (Z : State) (wcs : Int32) (b : Addr) (kb : ClassId) (vs : List Value) (h0 : Heap) (n0 : Nat) (v : Option Value) (h : Heap) (L : List Loc) : Prop := v = some (.int (1 : Int32)) ∧ Fr n0 L ∧ h = h0
set_option maxRecDepth 65536 in
set_option maxHeartbeats 40000000 in
theorem rmCo3_6 (l : Launch) (Z : State) (a0 : Array Value) (hw : own_H a0 Z) (ws : List Jvm.Cond) (wcs : Int32) (hS : own_S Z wcs) (b : Addr) (kb : ClassId) (vs : List Value) (h0 : Heap) (n0 : Nat) (O0 : Old Z n0 h0) (A2 : Arv Z h0 b kb .byte (6 : Int32) vs (.int (0 : Int32))) :
    own_Met l own_y_143 jdk_52_method_15_code 2 (some .byte) ws ({ frames := 0, cells := 0, slots := 0, locals := 0 } : Room) Z h0 #[(.ref b), (.int (3 : Int32))] (QrmCo3_6 Z wcs b kb vs h0 n0) := by
  refine own_body (plainFor_of_name own_pn_15) ?_
  intro p e s m below meth c s₁ hx hby hml hown hnm hret hlk hZ e0 X0
  have N0 := Fr.nil n0
  refine own_st (fun u_ k_ => castTop (own_ef_rmCo3_6 m b) k_) ?_
  show own_Go p e below _ (s₁.setTop (mkF m 0 #[.val (.ref b), .val (.int (3 : Int32))] []))
  refine own_st (fun u_ k_ => XS.iloadN X0.here hx rfl (hb hby own_d_jdk_52_15_0) rfl k_) ?_
  refine own_st (fun u_ k_ => XS.aloadN X0.here hx rfl (hb hby own_d_jdk_52_15_1) rfl rfl k_) ?_
  show own_Go p e below _ (s₁.setTop (mkF m 2 #[.val (.ref b), .val (.int (3 : Int32))] [(.ref b), (.int (3 : Int32))]))
  obtain ⟨cl625, Ar625, -, S625, N625, -, -⟩ := id A2
  refine own_st (X0.arraylength hx (by rw [e0]; exact Ar625.1) (State.isArrayOf_alike hZ.alike Ar625.2.1) (g := (mkF m 2 #[.val (.ref b), .val (.int (3 : Int32))] [(.ref b), (.int (3 : Int32))])) rfl rfl (hb hby own_d_jdk_52_15_2)) ?_
  rw [len_of S625 N625]
  show own_Go p e below _ (s₁.setTop (mkF m 3 #[.val (.ref b), .val (.int (3 : Int32))] [(.int (6 : Int32)), (.int (3 : Int32))]))
  refine own_st (fun u_ k_ => XS.isub X0.here hx rfl (hb hby own_d_jdk_52_15_3) rfl k_) ?_
  refine own_st (fun u_ k_ => XS.bipush X0.here hx rfl (hb hby own_d_jdk_52_15_4) k_) ?_
  show own_Go p e below _ (s₁.setTop (mkF m 6 #[.val (.ref b), .val (.int (3 : Int32))] [(.int (31 : Int32)), (.int (-3 : Int32))]))
  refine own_st (fun u_ k_ => XS.iushr X0.here hx rfl (hb hby own_d_jdk_52_15_6) rfl k_) ?_
  refine own_st (fun u_ k_ => XS.i2b X0.here hx rfl (hb hby own_d_jdk_52_15_7) rfl k_) ?_
  show own_Go p e below _ (s₁.setTop (mkF m 8 #[.val (.ref b), .val (.int (3 : Int32))] [(.int (1 : Int32))]))
  exact own_retX X0 hx hlk hret rfl (Or.inl ⟨rfl, by simp, _, rfl⟩) (hb hby own_d_jdk_52_15_8) (by decide) (by decide) (show QrmCo3_6 Z wcs b kb vs h0 n0 (some (.int (1 : Int32))) s₁.heap _ from (by rw [e0]; exact ⟨rfl, N0, rfl⟩))
theorem own_ef_rmS4_3_0 (m : MethodId) (a : Addr) (b : Addr)  : entryFrame m #[(.ref a), (.ref b), (.int (0 : Int32)), (.int (3 : Int32)), .null] 6 = mkF m 0 #[.val (.ref a), .val (.ref b), .val (.int (0 : Int32)), .val (.int (3 : Int32)), .val .null, .unset] [] := by first | (simp [entryFrame, mkF, argsToLocals, Value.category, maxLocals]; done) | rfl
def QrmS4_3_0 (Z : State) (wcs : Int32) (a : Addr) (b : Addr) (kb : ClassId) (v0 : Int32) (v1 : Int32) (v2 : Int32) (h0 : Heap) (n0 : Nat) (v : Option Value) (h : Heap) (L : List Loc) : Prop := ∃ r : Addr, ∃ kr : ClassId, v = none ∧ Fr n0 L ∧ Keep h0 h [a] ∧ h0.size ≤ r ∧ Exa Z h a "java/lang/String" ∧ Fld Z h a "java/lang/String" "value" "[B" (.ref r) ∧ Fld Z h a "java/lang/String" "coder" "B" (.int (1 : Int32)) ∧ Exa Z h r "[B" ∧ Arv Z h r kr .byte (6 : Int32) [(.int ((v0 >>> ((0 : Int32) &&& 31)).toInt8.toInt32)), (.int ((v0 >>> ((8 : Int32) &&& 31)).toInt8.toInt32)), (.int ((v1 >>> ((0 : Int32) &&& 31)).toInt8.toInt32)), (.int ((v1 >>> ((8 : Int32) &&& 31)).toInt8.toInt32)), (.int ((v2 >>> ((0 : Int32) &&& 31)).toInt8.toInt32)), (.int ((v2 >>> ((8 : Int32) &&& 31)).toInt8.toInt32))] (.int (0 : Int32))
set_option maxRecDepth 65536 in
set_option maxHeartbeats 40000000 in
theorem rmS4_3_0 (l : Launch) (Z : State) (a0 : Array Value) (hw : own_H a0 Z) (ws : List Jvm.Cond) (wcs : Int32) (hS : own_S Z wcs) (a : Addr) (b : Addr) (kb : ClassId) (v0 : Int32) (v1 : Int32) (v2 : Int32) (h0 : Heap) (n0 : Nat) (O0 : Old Z n0 h0) (E : Exa Z h0 a "java/lang/String") (Ea : Exa Z h0 b "[C") (ga : n0 ≤ a) (F1 : Fld Z h0 a "java/lang/String" "value" "[B" .null) (F2 : Fld Z h0 a "java/lang/String" "coder" "B" (.int (0 : Int32))) (A1 : Arv Z h0 b kb .char (3 : Int32) [(.int v0), (.int v1), (.int v2)] (.int (0 : Int32))) (hq0 : (255 : Int32) < v0) (hv0 : own_C16 v0) (hv1 : own_C16 v1) (hv2 : own_C16 v2) :
    own_Met l own_y_172 jdk_42_method_149_code 6 none ws ({ frames := 4, cells := 2, slots := 9, locals := 57 } : Room) Z h0 #[(.ref a), (.ref b), (.int (0 : Int32)), (.int (3 : Int32)), .null] (QrmS4_3_0 Z wcs a b kb v0 v1 v2 h0 n0) := by
  refine own_body (plainFor_of_name own_pn_173) ?_
  intro p e s m below meth c s₁ hx hby hml hown hnm hret hlk hZ e0 X0
  have N0 := Fr.nil n0
  refine own_st (fun u_ k_ => castTop (own_ef_rmS4_3_0 m a b) k_) ?_
  show own_Go p e below _ (s₁.setTop (mkF m 0 #[.val (.ref a), .val (.ref b), .val (.int (0 : Int32)), .val (.int (3 : Int32)), .val .null, .unset] []))
  refine own_st (fun u_ k_ => XS.aloadN X0.here hx rfl (hb hby own_d_jdk_42_149_0) rfl rfl k_) ?_
  obtain ⟨T626, X626, e626, st626⟩ := initO X0 hx hZ hown (own_w hw 12 rfl) (own_w hw 13 rfl) (own_w hw 14 rfl) e0 (g := (mkF m 1 #[.val (.ref a), .val (.ref b), .val (.int (0 : Int32)), .val (.int (3 : Int32)), .val .null, .unset] [(.ref a)])) rfl (by rw [hml]; rfl) rfl (hb hby own_d_jdk_42_149_1) (by decide) (W := 0) (by show 2 * 0 + _ ≤ _; exact Nat.le_of_eq rfl) (by decide)
  refine own_st (fun u_ k_ => st626 u_ k_) ?_
  show own_Go p e below _ (T626.setTop (mkF m 4 #[.val (.ref a), .val (.ref b), .val (.int (0 : Int32)), .val (.int (3 : Int32)), .val .null, .unset] []))
  refine own_st (fun u_ k_ => XS.iloadN X626.here hx rfl (hb hby own_d_jdk_42_149_4) rfl k_) ?_
  refine own_st (fun u_ k_ => XS.ifYes X626.here hx rfl (pc0 := 5) (pc' := 27) rfl (hb hby own_d_jdk_42_149_5) rfl (XT.i0_ne_t (by decide)) (by decide) (by decide) k_) ?_
  show own_Go p e below _ (T626.setTop (mkF m 27 #[.val (.ref a), .val (.ref b), .val (.int (0 : Int32)), .val (.int (3 : Int32)), .val .null, .unset] []))
  have F627 := Sta.ext O0.2 hS.1
  obtain ⟨T628, X628, e628, st628⟩ := getS2 X626 hx hZ hown (host := "") (Or.inl (own_w hw 90 rfl)) Via.refl e626 F627 (g := (mkF m 27 #[.val (.ref a), .val (.ref b), .val (.int (0 : Int32)), .val (.int (3 : Int32)), .val .null, .unset] [])) rfl (hb hby own_d_jdk_42_149_27)
  refine own_st (fun u_ k_ => st628 u_ k_) ?_
  show own_Go p e below _ (T628.setTop (mkF m 30 #[.val (.ref a), .val (.ref b), .val (.int (0 : Int32)), .val (.int (3 : Int32)), .val .null, .unset] [(.int wcs)]))
  refine own_st (fun u_ k_ => XS.ifNo X628.here hx rfl (hb hby own_d_jdk_42_149_30) rfl (XT.i0_eq_f hS.2.1) k_) ?_
  refine own_st (fun u_ k_ => XS.aloadN X628.here hx rfl (hb hby own_d_jdk_42_149_33) rfl rfl k_) ?_
  show own_Go p e below _ (T628.setTop (mkF m 34 #[.val (.ref a), .val (.ref b), .val (.int (0 : Int32)), .val (.int (3 : Int32)), .val .null, .unset] [(.ref b)]))
  refine own_st (fun u_ k_ => XS.iloadN X628.here hx rfl (hb hby own_d_jdk_42_149_34) rfl k_) ?_
  refine own_st (fun u_ k_ => XS.iloadN X628.here hx rfl (hb hby own_d_jdk_42_149_35) rfl k_) ?_
  show own_Go p e below _ (T628.setTop (mkF m 36 #[.val (.ref a), .val (.ref b), .val (.int (0 : Int32)), .val (.int (3 : Int32)), .val .null, .unset] [(.int (3 : Int32)), (.int (0 : Int32)), (.ref b)]))
  obtain ⟨T629, v629, L629, X629, hQ629, st629⟩ := own_callS X628 hx hZ (y := own_y_134) hown (own_w hw 96 rfl) (own_w hw 97 rfl) (own_w hw 98 rfl) (own_w hw 99 rfl) own_lm_28 (rmCq3_0 l Z a0 hw [] wcs hS b kb v0 v1 v2 h0 n0 O0 Ea A1 (by assumption) (by assumption) (by assumption) (by assumption)) e628 own_pd_124 (argsL := [(.ref b), (.int (0 : Int32)), (.int (3 : Int32))]) (rest := []) rfl rfl (g := (mkF m 36 #[.val (.ref a), .val (.ref b), .val (.int (0 : Int32)), .val (.int (3 : Int32)), .val .null, .unset] [(.int (3 : Int32)), (.int (0 : Int32)), (.ref b)])) rfl (by rw [hml]; rfl) rfl (hb hby own_d_jdk_42_149_36) (W := 0) rfl (by decide) (by decide) (by decide) (by decide)
  obtain ⟨r_630, kr_631, rfl, M629, K629, z632, F633, F634⟩ := hQ629
  have N629 := Fr.app N0 M629
  refine own_st (fun u_ k_ => st629 u_ k_) ?_
  show own_Go p e below _ (T629.setTop (mkF m 39 #[.val (.ref a), .val (.ref b), .val (.int (0 : Int32)), .val (.int (3 : Int32)), .val .null, .unset] [(.ref r_630)]))
  refine own_st (fun u_ k_ => XS.astore X629.here hx rfl (hb hby own_d_jdk_42_149_39) rfl rfl (l' := #[.val (.ref a), .val (.ref b), .val (.int (0 : Int32)), .val (.int (3 : Int32)), .val .null, .val (.ref r_630)]) rfl k_) ?_
  refine own_st (fun u_ k_ => XS.aloadN X629.here hx rfl (hb hby own_d_jdk_42_149_41) rfl rfl k_) ?_
  show own_Go p e below _ (T629.setTop (mkF m 42 #[.val (.ref a), .val (.ref b), .val (.int (0 : Int32)), .val (.int (3 : Int32)), .val .null, .val (.ref r_630)] [(.ref a)]))
  refine own_st (fun u_ k_ => XS.aload X629.here hx rfl (hb hby own_d_jdk_42_149_42) rfl rfl k_) ?_
  refine own_st (fun u_ k_ => XS.iloadN X629.here hx rfl (hb hby own_d_jdk_42_149_44) rfl k_) ?_
  show own_Go p e below _ (T629.setTop (mkF m 45 #[.val (.ref a), .val (.ref b), .val (.int (0 : Int32)), .val (.int (3 : Int32)), .val .null, .val (.ref r_630)] [(.int (3 : Int32)), (.ref r_630), (.ref a)]))
  have O636 : Old Z n0 T629.heap := O0.keep K629 all0
  obtain ⟨T635, v635, L635, X635, hQ635, st635⟩ := own_callS X629 hx hZ (y := own_y_143) hown (own_w hw 103 rfl) (own_w hw 104 rfl) (own_w hw 98 rfl) (own_w hw 105 rfl) own_lm_28 (rmCo3_6 l Z a0 hw [] wcs hS r_630 kr_631 [(.int ((v0 >>> ((0 : Int32) &&& 31)).toInt8.toInt32)), (.int ((v0 >>> ((8 : Int32) &&& 31)).toInt8.toInt32)), (.int ((v1 >>> ((0 : Int32) &&& 31)).toInt8.toInt32)), (.int ((v1 >>> ((8 : Int32) &&& 31)).toInt8.toInt32)), (.int ((v2 >>> ((0 : Int32) &&& 31)).toInt8.toInt32)), (.int ((v2 >>> ((8 : Int32) &&& 31)).toInt8.toInt32))] T629.heap n0 O636 F634) rfl own_pd_160 (argsL := [(.ref r_630), (.int (3 : Int32))]) (rest := [(.ref a)]) rfl rfl (g := (mkF m 45 #[.val (.ref a), .val (.ref b), .val (.int (0 : Int32)), .val (.int (3 : Int32)), .val .null, .val (.ref r_630)] [(.int (3 : Int32)), (.ref r_630), (.ref a)])) rfl (by rw [hml]; rfl) rfl (hb hby own_d_jdk_42_149_45) (W := 1) rfl (by decide) (by decide) (by decide) (by decide)
  obtain ⟨rfl, M635, e635⟩ := hQ635
  have N635 := Fr.app N629 M635
  refine own_st (fun u_ k_ => st635 u_ k_) ?_
  show own_Go p e below _ (T635.setTop (mkF m 48 #[.val (.ref a), .val (.ref b), .val (.int (0 : Int32)), .val (.int (3 : Int32)), .val .null, .val (.ref r_630)] [(.int (1 : Int32)), (.ref a)]))
  have F637 := (E.keep K629)
  have F638 := (F2.keep K629 nin0)
  obtain ⟨T639, h639, X639, e639, W639, st639⟩ := putF X635 hx hZ hown (host := "") (Or.inl (own_w hw 22 rfl)) Via.refl e635 F638 F637 (Or.inr ⟨(own_w hw 18 rfl), rfl, hnm⟩) (own_w hw 2 rfl) (ty := .byte) own_lm_162 rfl rfl (g := (mkF m 48 #[.val (.ref a), .val (.ref b), .val (.int (0 : Int32)), .val (.int (3 : Int32)), .val .null, .val (.ref r_630)] [(.int (1 : Int32)), (.ref a)])) rfl rfl (hb hby own_d_jdk_42_149_48)
  have N639 := Fr.snoc X639 N635 ga
  have F640 : Fld Z h639 a "java/lang/String" "coder" "B" (.int (1 : Int32)) := Fld.same W639 F638
  refine own_st (fun u_ k_ => st639 u_ k_) ?_
  show own_Go p e below _ (T639.setTop (mkF m 51 #[.val (.ref a), .val (.ref b), .val (.int (0 : Int32)), .val (.int (3 : Int32)), .val .null, .val (.ref r_630)] []))
  refine own_st (fun u_ k_ => XS.aloadN X639.here hx rfl (hb hby own_d_jdk_42_149_51) rfl rfl k_) ?_
  refine own_st (fun u_ k_ => XS.aload X639.here hx rfl (hb hby own_d_jdk_42_149_52) rfl rfl k_) ?_
  show own_Go p e below _ (T639.setTop (mkF m 54 #[.val (.ref a), .val (.ref b), .val (.int (0 : Int32)), .val (.int (3 : Int32)), .val .null, .val (.ref r_630)] [(.ref r_630), (.ref a)]))
  have F641 := (Exa.wr W639 F637)
  have F642 := (Fld.other W639 (F1.keep K629 nin0) (Or.inr (own_sn_168 hw)))
  obtain ⟨T643, h643, X643, e643, W643, st643⟩ := putF X639 hx hZ hown (host := "") (Or.inl (own_w hw 21 rfl)) Via.refl e639 F642 F641 (Or.inr ⟨(own_w hw 17 rfl), rfl, hnm⟩) (own_w hw 2 rfl) (ty := (.array .byte)) own_lm_167 rfl rfl (g := (mkF m 54 #[.val (.ref a), .val (.ref b), .val (.int (0 : Int32)), .val (.int (3 : Int32)), .val .null, .val (.ref r_630)] [(.ref r_630), (.ref a)])) rfl rfl (hb hby own_d_jdk_42_149_54)
  have N643 := Fr.snoc X643 N639 ga
  have F644 : Fld Z h643 a "java/lang/String" "value" "[B" (.ref r_630) := Fld.same W643 F642
  refine own_st (fun u_ k_ => st643 u_ k_) ?_
  show own_Go p e below _ (T643.setTop (mkF m 57 #[.val (.ref a), .val (.ref b), .val (.int (0 : Int32)), .val (.int (3 : Int32)), .val .null, .val (.ref r_630)] []))
  have K645 : Keep h0 T629.heap [a] := (Keep.refl h0 [a]).trans K629 all0
  have K646 : Keep h0 h639 [a] := K645.wr W639 (Or.inl (List.mem_of_getElem? (i := 0) rfl))
  have K647 : Keep h0 h643 [a] := K646.wr W643 (Or.inl (List.mem_of_getElem? (i := 0) rfl))
  have z648 : h0.size ≤ r_630 := Nat.le_trans (Nat.le_refl _) z632
  have F649 := (Exa.wr W643 F641)
  have F650 := (Fld.other W643 F640 (Or.inr (own_sn_171 hw)))
  have F651 := (Exa.wr W643 (Exa.wr W639 F633))
  have ne652 : r_630 ≠ a := (Ne.symm (Nat.ne_of_lt (Nat.lt_of_lt_of_le E.lt z632)))
  have F653 := ((F634.other W639 ne652).other W643 ne652)
  exact own_retV X643 hx hlk hret (hb hby own_d_jdk_42_149_57) (by decide) (by decide) (show QrmS4_3_0 Z wcs a b kb v0 v1 v2 h0 n0 none T643.heap _ from (by rw [e643]; exact ⟨r_630, kr_631, rfl, N643, K647, z648, F649, F644, F650, F651, F653⟩))
theorem own_ef_rmCp3_1 (m : MethodId) (a : Addr) (b : Addr)  : entryFrame m #[(.ref a), (.int (0 : Int32)), (.ref b), (.int (0 : Int32)), (.int (3 : Int32))] 7 = mkF m 0 #[.val (.ref a), .val (.int (0 : Int32)), .val (.ref b), .val (.int (0 : Int32)), .val (.int (3 : Int32)), .unset, .unset] [] := by first | (simp [entryFrame, mkF, argsToLocals, Value.category, maxLocals]; done) | rfl
def QrmCp3_1 (Z : State) (wcs : Int32) (a : Addr) (ka : ClassId) (b : Addr) (kb : ClassId) (v0 : Int32) (v1 : Int32) (v2 : Int32) (h0 : Heap) (n0 : Nat) (v : Option Value) (h : Heap) (L : List Loc) : Prop := v = some (.int (1 : Int32)) ∧ Fr n0 L ∧ Keep h0 h [b] ∧ Exa Z h b "[B"
set_option maxRecDepth 65536 in
set_option maxHeartbeats 40000000 in
theorem rmCp3_1 (l : Launch) (Z : State) (a0 : Array Value) (hw : own_H a0 Z) (ws : List Jvm.Cond) (wcs : Int32) (hS : own_S Z wcs) (a : Addr) (ka : ClassId) (b : Addr) (kb : ClassId) (v0 : Int32) (v1 : Int32) (v2 : Int32) (h0 : Heap) (n0 : Nat) (O0 : Old Z n0 h0) (Ea : Exa Z h0 a "[C") (Eb : Exa Z h0 b "[B") (gb : n0 ≤ b) (A1 : Arv Z h0 a ka .char (3 : Int32) [(.int v0), (.int v1), (.int v2)] (.int (0 : Int32))) (A2 : Arv Z h0 b kb .byte (3 : Int32) [(.int (0 : Int32)), (.int (0 : Int32)), (.int (0 : Int32))] (.int (0 : Int32))) (hq0 : ¬ (255 : Int32) < v0) (hq1 : (255 : Int32) < v1) :
    own_Met l own_y_14 jdk_52_method_21_code 7 (some .int) ws ({ frames := 0, cells := 0, slots := 0, locals := 0 } : Room) Z h0 #[(.ref a), (.int (0 : Int32)), (.ref b), (.int (0 : Int32)), (.int (3 : Int32))] (QrmCp3_1 Z wcs a ka b kb v0 v1 v2 h0 n0) := by
  refine own_body (plainFor_of_name own_pn_15) ?_
  intro p e s m below meth c s₁ hx hby hml hown hnm hret hlk hZ e0 X0
  have N0 := Fr.nil n0
  refine own_st (fun u_ k_ => castTop (own_ef_rmCp3_1 m a b) k_) ?_
  show own_Go p e below _ (s₁.setTop (mkF m 0 #[.val (.ref a), .val (.int (0 : Int32)), .val (.ref b), .val (.int (0 : Int32)), .val (.int (3 : Int32)), .unset, .unset] []))
  refine own_st (fun u_ k_ => XS.iconst X0.here hx rfl (hb hby own_d_jdk_52_21_0) k_) ?_
  refine own_st (fun u_ k_ => XS.istore X0.here hx rfl (hb hby own_d_jdk_52_21_1) rfl (l' := #[.val (.ref a), .val (.int (0 : Int32)), .val (.ref b), .val (.int (0 : Int32)), .val (.int (3 : Int32)), .val (.int (0 : Int32)), .unset]) rfl k_) ?_
  show own_Go p e below _ (s₁.setTop (mkF m 3 #[.val (.ref a), .val (.int (0 : Int32)), .val (.ref b), .val (.int (0 : Int32)), .val (.int (3 : Int32)), .val (.int (0 : Int32)), .unset] []))
  refine own_st (fun u_ k_ => XS.iload X0.here hx rfl (hb hby own_d_jdk_52_21_3) rfl k_) ?_
  refine own_st (fun u_ k_ => XS.iload X0.here hx rfl (hb hby own_d_jdk_52_21_5) rfl k_) ?_
  show own_Go p e below _ (s₁.setTop (mkF m 7 #[.val (.ref a), .val (.int (0 : Int32)), .val (.ref b), .val (.int (0 : Int32)), .val (.int (3 : Int32)), .val (.int (0 : Int32)), .unset] [(.int (3 : Int32)), (.int (0 : Int32))]))
  refine own_st (fun u_ k_ => XS.icmpNo X0.here hx rfl (hb hby own_d_jdk_52_21_7) rfl (XT.ii_ge_f (by decide)) k_) ?_
  refine own_st (fun u_ k_ => XS.aloadN X0.here hx rfl (hb hby own_d_jdk_52_21_10) rfl rfl k_) ?_
  show own_Go p e below _ (s₁.setTop (mkF m 11 #[.val (.ref a), .val (.int (0 : Int32)), .val (.ref b), .val (.int (0 : Int32)), .val (.int (3 : Int32)), .val (.int (0 : Int32)), .unset] [(.ref a)]))
  refine own_st (fun u_ k_ => XS.iloadN X0.here hx rfl (hb hby own_d_jdk_52_21_11) rfl k_) ?_
  obtain ⟨cl666, Ar666, q666, S666, N666, H666, G666⟩ := id A1
  have hi666 : ¬ ((0 : Int32) < 0 ∨ cl666.slots.size ≤ ((0 : Int32)).toNatClampNeg) := inb_of S666 ⟨by decide, by decide⟩
  have ha666 : cl666.slots[((0 : Int32)).toNatClampNeg]? = some (.int v0) := H666.at hi666 rfl
  refine own_st (X0.caload hx (j := (0 : Int32)) (v := (.int v0)) (by rw [e0]; exact Ar666.1) (State.isArrayOf_alike hZ.alike Ar666.2.1) Ar666.2.2 hi666 ha666 (g := (mkF m 12 #[.val (.ref a), .val (.int (0 : Int32)), .val (.ref b), .val (.int (0 : Int32)), .val (.int (3 : Int32)), .val (.int (0 : Int32)), .unset] [(.int (0 : Int32)), (.ref a)])) rfl rfl (hb hby own_d_jdk_52_21_12)) ?_
  show own_Go p e below _ (s₁.setTop (mkF m 13 #[.val (.ref a), .val (.int (0 : Int32)), .val (.ref b), .val (.int (0 : Int32)), .val (.int (3 : Int32)), .val (.int (0 : Int32)), .unset] [(.int v0)]))
  refine own_st (fun u_ k_ => XS.istore X0.here hx rfl (hb hby own_d_jdk_52_21_13) rfl (l' := #[.val (.ref a), .val (.int (0 : Int32)), .val (.ref b), .val (.int (0 : Int32)), .val (.int (3 : Int32)), .val (.int (0 : Int32)), .val (.int v0)]) rfl k_) ?_
  show own_Go p e below _ (s₁.setTop (mkF m 15 #[.val (.ref a), .val (.int (0 : Int32)), .val (.ref b), .val (.int (0 : Int32)), .val (.int (3 : Int32)), .val (.int (0 : Int32)), .val (.int v0)] []))
  refine own_st (fun u_ k_ => XS.iload X0.here hx rfl (hb hby own_d_jdk_52_21_15) rfl k_) ?_
  refine own_st (fun u_ k_ => XS.sipush X0.here hx rfl (hb hby own_d_jdk_52_21_17) k_) ?_
  show own_Go p e below _ (s₁.setTop (mkF m 20 #[.val (.ref a), .val (.int (0 : Int32)), .val (.ref b), .val (.int (0 : Int32)), .val (.int (3 : Int32)), .val (.int (0 : Int32)), .val (.int v0)] [(.int (255 : Int32)), (.int v0)]))
  refine own_st (fun u_ k_ => XS.icmpYes X0.here hx rfl (pc0 := 20) (pc' := 26) rfl (hb hby own_d_jdk_52_21_20) rfl (XT.ii_le_t hq0) (by decide) (by decide) k_) ?_
  refine own_st (fun u_ k_ => XS.aloadN X0.here hx rfl (hb hby own_d_jdk_52_21_26) rfl rfl k_) ?_
  show own_Go p e below _ (s₁.setTop (mkF m 27 #[.val (.ref a), .val (.int (0 : Int32)), .val (.ref b), .val (.int (0 : Int32)), .val (.int (3 : Int32)), .val (.int (0 : Int32)), .val (.int v0)] [(.ref b)]))
  refine own_st (fun u_ k_ => XS.iloadN X0.here hx rfl (hb hby own_d_jdk_52_21_27) rfl k_) ?_
  refine own_st (fun u_ k_ => XS.iload X0.here hx rfl (hb hby own_d_jdk_52_21_28) rfl k_) ?_
  show own_Go p e below _ (s₁.setTop (mkF m 30 #[.val (.ref a), .val (.int (0 : Int32)), .val (.ref b), .val (.int (0 : Int32)), .val (.int (3 : Int32)), .val (.int (0 : Int32)), .val (.int v0)] [(.int v0), (.int (0 : Int32)), (.ref b)]))
  refine own_st (fun u_ k_ => XS.i2b X0.here hx rfl (hb hby own_d_jdk_52_21_30) rfl k_) ?_
  obtain ⟨cl667, Ar667, q667, S667, N667, H667, G667⟩ := id A2
  have hi667 : ¬ ((0 : Int32) < 0 ∨ cl667.slots.size ≤ ((0 : Int32)).toNatClampNeg) := inb_of S667 ⟨by decide, by decide⟩
  obtain ⟨T668, h668, X668, e668, W668, st668⟩ := stB X0 hx hZ e0 Ar667 (j := (0 : Int32)) hi667 (g := (mkF m 31 #[.val (.ref a), .val (.int (0 : Int32)), .val (.ref b), .val (.int (0 : Int32)), .val (.int (3 : Int32)), .val (.int (0 : Int32)), .val (.int v0)] [(.int (v0.toInt8.toInt32)), (.int (0 : Int32)), (.ref b)])) rfl rfl (hb hby own_d_jdk_52_21_31)
  rw [own_bb] at W668
  have N668 := Fr.snoc X668 N0 gb
  have V668 : Arv Z h668 b kb .byte (3 : Int32) [(.int (v0.toInt8.toInt32)), (.int (0 : Int32)), (.int (0 : Int32))] (.int (0 : Int32)) := Arv.set Ar667 q667 S667 N667 H667 G667 (fits_nar_byte _) W668 0 rfl (Nat.le_of_ble_eq_true rfl)
  refine own_st (fun u_ k_ => st668 u_ k_) ?_
  show own_Go p e below _ (T668.setTop (mkF m 32 #[.val (.ref a), .val (.int (0 : Int32)), .val (.ref b), .val (.int (0 : Int32)), .val (.int (3 : Int32)), .val (.int (0 : Int32)), .val (.int v0)] []))
  refine own_st (fun u_ k_ => XS.iinc X668.here hx rfl (hb hby own_d_jdk_52_21_32) rfl (l' := #[.val (.ref a), .val (.int (1 : Int32)), .val (.ref b), .val (.int (0 : Int32)), .val (.int (3 : Int32)), .val (.int (0 : Int32)), .val (.int v0)]) rfl k_) ?_
  refine own_st (fun u_ k_ => XS.iinc X668.here hx rfl (hb hby own_d_jdk_52_21_35) rfl (l' := #[.val (.ref a), .val (.int (1 : Int32)), .val (.ref b), .val (.int (1 : Int32)), .val (.int (3 : Int32)), .val (.int (0 : Int32)), .val (.int v0)]) rfl k_) ?_
  show own_Go p e below _ (T668.setTop (mkF m 38 #[.val (.ref a), .val (.int (1 : Int32)), .val (.ref b), .val (.int (1 : Int32)), .val (.int (3 : Int32)), .val (.int (0 : Int32)), .val (.int v0)] []))
  refine own_st (fun u_ k_ => XS.iinc X668.here hx rfl (hb hby own_d_jdk_52_21_38) rfl (l' := #[.val (.ref a), .val (.int (1 : Int32)), .val (.ref b), .val (.int (1 : Int32)), .val (.int (3 : Int32)), .val (.int (1 : Int32)), .val (.int v0)]) rfl k_) ?_
  refine own_st (fun u_ k_ => XS.goto X668.here hx rfl (pc0 := 41) (pc' := 3) rfl (hb hby own_d_jdk_52_21_41) (by decide) (by decide) k_) ?_
  show own_Go p e below _ (T668.setTop (mkF m 3 #[.val (.ref a), .val (.int (1 : Int32)), .val (.ref b), .val (.int (1 : Int32)), .val (.int (3 : Int32)), .val (.int (1 : Int32)), .val (.int v0)] []))
  refine own_st (fun u_ k_ => XS.iload X668.here hx rfl (hb hby own_d_jdk_52_21_3) rfl k_) ?_
  refine own_st (fun u_ k_ => XS.iload X668.here hx rfl (hb hby own_d_jdk_52_21_5) rfl k_) ?_
  show own_Go p e below _ (T668.setTop (mkF m 7 #[.val (.ref a), .val (.int (1 : Int32)), .val (.ref b), .val (.int (1 : Int32)), .val (.int (3 : Int32)), .val (.int (1 : Int32)), .val (.int v0)] [(.int (3 : Int32)), (.int (1 : Int32))]))
  refine own_st (fun u_ k_ => XS.icmpNo X668.here hx rfl (hb hby own_d_jdk_52_21_7) rfl (XT.ii_ge_f (by decide)) k_) ?_
  refine own_st (fun u_ k_ => XS.aloadN X668.here hx rfl (hb hby own_d_jdk_52_21_10) rfl rfl k_) ?_
  show own_Go p e below _ (T668.setTop (mkF m 11 #[.val (.ref a), .val (.int (1 : Int32)), .val (.ref b), .val (.int (1 : Int32)), .val (.int (3 : Int32)), .val (.int (1 : Int32)), .val (.int v0)] [(.ref a)]))
  refine own_st (fun u_ k_ => XS.iloadN X668.here hx rfl (hb hby own_d_jdk_52_21_11) rfl k_) ?_
  have ne669 : a ≠ b := (ne_exa Ea Eb own_lm_202)
  have F670 := (A1.other W668 ne669)
  obtain ⟨cl671, Ar671, q671, S671, N671, H671, G671⟩ := id F670
  have hi671 : ¬ ((1 : Int32) < 0 ∨ cl671.slots.size ≤ ((1 : Int32)).toNatClampNeg) := inb_of S671 ⟨by decide, by decide⟩
  have ha671 : cl671.slots[((1 : Int32)).toNatClampNeg]? = some (.int v1) := H671.at hi671 rfl
  refine own_st (X668.caload hx (j := (1 : Int32)) (v := (.int v1)) (by rw [e668]; exact Ar671.1) (State.isArrayOf_alike hZ.alike Ar671.2.1) Ar671.2.2 hi671 ha671 (g := (mkF m 12 #[.val (.ref a), .val (.int (1 : Int32)), .val (.ref b), .val (.int (1 : Int32)), .val (.int (3 : Int32)), .val (.int (1 : Int32)), .val (.int v0)] [(.int (1 : Int32)), (.ref a)])) rfl rfl (hb hby own_d_jdk_52_21_12)) ?_
  show own_Go p e below _ (T668.setTop (mkF m 13 #[.val (.ref a), .val (.int (1 : Int32)), .val (.ref b), .val (.int (1 : Int32)), .val (.int (3 : Int32)), .val (.int (1 : Int32)), .val (.int v0)] [(.int v1)]))
  refine own_st (fun u_ k_ => XS.istore X668.here hx rfl (hb hby own_d_jdk_52_21_13) rfl (l' := #[.val (.ref a), .val (.int (1 : Int32)), .val (.ref b), .val (.int (1 : Int32)), .val (.int (3 : Int32)), .val (.int (1 : Int32)), .val (.int v1)]) rfl k_) ?_
  show own_Go p e below _ (T668.setTop (mkF m 15 #[.val (.ref a), .val (.int (1 : Int32)), .val (.ref b), .val (.int (1 : Int32)), .val (.int (3 : Int32)), .val (.int (1 : Int32)), .val (.int v1)] []))
  refine own_st (fun u_ k_ => XS.iload X668.here hx rfl (hb hby own_d_jdk_52_21_15) rfl k_) ?_
  refine own_st (fun u_ k_ => XS.sipush X668.here hx rfl (hb hby own_d_jdk_52_21_17) k_) ?_
  show own_Go p e below _ (T668.setTop (mkF m 20 #[.val (.ref a), .val (.int (1 : Int32)), .val (.ref b), .val (.int (1 : Int32)), .val (.int (3 : Int32)), .val (.int (1 : Int32)), .val (.int v1)] [(.int (255 : Int32)), (.int v1)]))
  refine own_st (fun u_ k_ => XS.icmpNo X668.here hx rfl (hb hby own_d_jdk_52_21_20) rfl (XT.ii_le_f hq1) k_) ?_
  refine own_st (fun u_ k_ => XS.iload X668.here hx rfl (hb hby own_d_jdk_52_21_23) rfl k_) ?_
  show own_Go p e below _ (T668.setTop (mkF m 25 #[.val (.ref a), .val (.int (1 : Int32)), .val (.ref b), .val (.int (1 : Int32)), .val (.int (3 : Int32)), .val (.int (1 : Int32)), .val (.int v1)] [(.int (1 : Int32))]))
  have K672 : Keep h0 h668 [b] := (Keep.refl h0 [b]).wr W668 (Or.inl (List.mem_of_getElem? (i := 0) rfl))
  have F673 := (Exa.wr W668 Eb)
  exact own_retX X668 hx hlk hret rfl (Or.inl ⟨rfl, by simp, _, rfl⟩) (hb hby own_d_jdk_52_21_25) (by decide) (by decide) (show QrmCp3_1 Z wcs a ka b kb v0 v1 v2 h0 n0 (some (.int (1 : Int32))) T668.heap _ from (by rw [e668]; exact ⟨rfl, N668, K672, F673⟩))
theorem own_ef_rmCq3_1 (m : MethodId) (a : Addr)  : entryFrame m #[(.ref a), (.int (0 : Int32)), (.int (3 : Int32))] 6 = mkF m 0 #[.val (.ref a), .val (.int (0 : Int32)), .val (.int (3 : Int32)), .unset, .unset, .unset] [] := by first | (simp [entryFrame, mkF, argsToLocals, Value.category, maxLocals]; done) | rfl
def QrmCq3_1 (Z : State) (wcs : Int32) (a : Addr) (ka : ClassId) (v0 : Int32) (v1 : Int32) (v2 : Int32) (h0 : Heap) (n0 : Nat) (v : Option Value) (h : Heap) (L : List Loc) : Prop := ∃ r : Addr, ∃ kr : ClassId, v = some (.ref r) ∧ Fr n0 L ∧ Keep h0 h [] ∧ h0.size ≤ r ∧ Exa Z h r "[B" ∧ Arv Z h r kr .byte (6 : Int32) [(.int ((v0 >>> ((0 : Int32) &&& 31)).toInt8.toInt32)), (.int ((v0 >>> ((8 : Int32) &&& 31)).toInt8.toInt32)), (.int ((v1 >>> ((0 : Int32) &&& 31)).toInt8.toInt32)), (.int ((v1 >>> ((8 : Int32) &&& 31)).toInt8.toInt32)), (.int ((v2 >>> ((0 : Int32) &&& 31)).toInt8.toInt32)), (.int ((v2 >>> ((8 : Int32) &&& 31)).toInt8.toInt32))] (.int (0 : Int32))
set_option maxRecDepth 65536 in
set_option maxHeartbeats 40000000 in
theorem rmCq3_1 (l : Launch) (Z : State) (a0 : Array Value) (hw : own_H a0 Z) (ws : List Jvm.Cond) (wcs : Int32) (hS : own_S Z wcs) (a : Addr) (ka : ClassId) (v0 : Int32) (v1 : Int32) (v2 : Int32) (h0 : Heap) (n0 : Nat) (O0 : Old Z n0 h0) (Ea : Exa Z h0 a "[C") (A1 : Arv Z h0 a ka .char (3 : Int32) [(.int v0), (.int v1), (.int v2)] (.int (0 : Int32))) (hq0 : ¬ (255 : Int32) < v0) (hq1 : (255 : Int32) < v1) (hv0 : own_C16 v0) (hv1 : own_C16 v1) (hv2 : own_C16 v2) :
    own_Met l own_y_134 jdk_52_method_16_code 6 (some (.array .byte)) ws ({ frames := 3, cells := 2, slots := 9, locals := 40 } : Room) Z h0 #[(.ref a), (.int (0 : Int32)), (.int (3 : Int32))] (QrmCq3_1 Z wcs a ka v0 v1 v2 h0 n0) := by
  refine own_body (plainFor_of_name own_pn_15) ?_
  intro p e s m below meth c s₁ hx hby hml hown hnm hret hlk hZ e0 X0
  have N0 := Fr.nil n0
  refine own_st (fun u_ k_ => castTop (own_ef_rmCq3_1 m a) k_) ?_
  show own_Go p e below _ (s₁.setTop (mkF m 0 #[.val (.ref a), .val (.int (0 : Int32)), .val (.int (3 : Int32)), .unset, .unset, .unset] []))
  refine own_st (fun u_ k_ => XS.iloadN X0.here hx rfl (hb hby own_d_jdk_52_16_0) rfl k_) ?_
  obtain ⟨T674, h674, k674, X674, e674, E674, A674, Y674, st674⟩ := newPE X0 hx hZ (own_w hw 16 rfl) e0 (g := (mkF m 1 #[.val (.ref a), .val (.int (0 : Int32)), .val (.int (3 : Int32)), .unset, .unset, .unset] [(.int (3 : Int32))])) rfl (hb hby own_d_jdk_52_16_1) rfl (by decide) (cap := 3) (by decide) (by decide) (by decide) (by decide) (ad := "[B") own_lm_31
  obtain ⟨b674, g674⟩ : ∃ z, z = h0.size := ⟨_, rfl⟩
  rw [← g674] at A674 Y674 st674
  have V674 : Arv Z h674 b674 k674 .byte (3 : Int32) [(.int (0 : Int32)), (.int (0 : Int32)), (.int (0 : Int32))] (.int (0 : Int32)) := (Arv.new A674 (by decide)).pad (pad_rep [] (.int (0 : Int32)) 3)
  refine own_st (fun u_ k_ => st674 u_ k_) ?_
  show own_Go p e below _ (T674.setTop (mkF m 3 #[.val (.ref a), .val (.int (0 : Int32)), .val (.int (3 : Int32)), .unset, .unset, .unset] [(.ref b674)]))
  refine own_st (fun u_ k_ => XS.astoreN X674.here hx rfl (hb hby own_d_jdk_52_16_3) rfl rfl (l' := #[.val (.ref a), .val (.int (0 : Int32)), .val (.int (3 : Int32)), .val (.ref b674), .unset, .unset]) rfl k_) ?_
  refine own_st (fun u_ k_ => XS.aloadN X674.here hx rfl (hb hby own_d_jdk_52_16_4) rfl rfl k_) ?_
  show own_Go p e below _ (T674.setTop (mkF m 5 #[.val (.ref a), .val (.int (0 : Int32)), .val (.int (3 : Int32)), .val (.ref b674), .unset, .unset] [(.ref a)]))
  refine own_st (fun u_ k_ => XS.iloadN X674.here hx rfl (hb hby own_d_jdk_52_16_5) rfl k_) ?_
  refine own_st (fun u_ k_ => XS.aloadN X674.here hx rfl (hb hby own_d_jdk_52_16_6) rfl rfl k_) ?_
  show own_Go p e below _ (T674.setTop (mkF m 7 #[.val (.ref a), .val (.int (0 : Int32)), .val (.int (3 : Int32)), .val (.ref b674), .unset, .unset] [(.ref b674), (.int (0 : Int32)), (.ref a)]))
  refine own_st (fun u_ k_ => XS.iconst X674.here hx rfl (hb hby own_d_jdk_52_16_7) k_) ?_
  refine own_st (fun u_ k_ => XS.iloadN X674.here hx rfl (hb hby own_d_jdk_52_16_8) rfl k_) ?_
  show own_Go p e below _ (T674.setTop (mkF m 9 #[.val (.ref a), .val (.int (0 : Int32)), .val (.int (3 : Int32)), .val (.ref b674), .unset, .unset] [(.int (3 : Int32)), (.int (0 : Int32)), (.ref b674), (.int (0 : Int32)), (.ref a)]))
  have F675 := (Exa.ext E674 Ea)
  have g676 : n0 ≤ b674 := Nat.le_trans (own_nl O0) (Nat.le_of_eq g674.symm)
  have F677 := (A1.ext E674)
  have O679 : Old Z n0 h674 := O0.ext E674
  obtain ⟨T678, v678, L678, X678, hQ678, st678⟩ := own_callS X674 hx hZ (y := own_y_14) hown (own_w hw 100 rfl) (own_w hw 101 rfl) (own_w hw 98 rfl) (own_w hw 102 rfl) own_lm_28 (rmCp3_1 l Z a0 hw [] wcs hS a ka b674 k674 v0 v1 v2 h674 n0 O679 F675 Y674 g676 F677 V674 (by assumption) (by assumption)) e674 own_pd_115 (argsL := [(.ref a), (.int (0 : Int32)), (.ref b674), (.int (0 : Int32)), (.int (3 : Int32))]) (rest := []) rfl rfl (g := (mkF m 9 #[.val (.ref a), .val (.int (0 : Int32)), .val (.int (3 : Int32)), .val (.ref b674), .unset, .unset] [(.int (3 : Int32)), (.int (0 : Int32)), (.ref b674), (.int (0 : Int32)), (.ref a)])) rfl (by rw [hml]; rfl) rfl (hb hby own_d_jdk_52_16_9) (W := 0) rfl (by decide) (by decide) (by decide) (by decide)
  obtain ⟨rfl, M678, K678, F680⟩ := hQ678
  have N678 := Fr.app N0 M678
  refine own_st (fun u_ k_ => st678 u_ k_) ?_
  show own_Go p e below _ (T678.setTop (mkF m 12 #[.val (.ref a), .val (.int (0 : Int32)), .val (.int (3 : Int32)), .val (.ref b674), .unset, .unset] [(.int (1 : Int32))]))
  refine own_st (fun u_ k_ => XS.istore X678.here hx rfl (hb hby own_d_jdk_52_16_12) rfl (l' := #[.val (.ref a), .val (.int (0 : Int32)), .val (.int (3 : Int32)), .val (.ref b674), .val (.int (1 : Int32)), .unset]) rfl k_) ?_
  refine own_st (fun u_ k_ => XS.iload X678.here hx rfl (hb hby own_d_jdk_52_16_14) rfl k_) ?_
  show own_Go p e below _ (T678.setTop (mkF m 16 #[.val (.ref a), .val (.int (0 : Int32)), .val (.int (3 : Int32)), .val (.ref b674), .val (.int (1 : Int32)), .unset] [(.int (1 : Int32))]))
  refine own_st (fun u_ k_ => XS.iloadN X678.here hx rfl (hb hby own_d_jdk_52_16_16) rfl k_) ?_
  refine own_st (fun u_ k_ => XS.icmpNo X678.here hx rfl (hb hby own_d_jdk_52_16_17) rfl (XT.ii_eq_f (by decide)) k_) ?_
  show own_Go p e below _ (T678.setTop (mkF m 20 #[.val (.ref a), .val (.int (0 : Int32)), .val (.int (3 : Int32)), .val (.ref b674), .val (.int (1 : Int32)), .unset] []))
  refine own_st (fun u_ k_ => XS.aloadN X678.here hx rfl (hb hby own_d_jdk_52_16_20) rfl rfl k_) ?_
  refine own_st (fun u_ k_ => XS.iloadN X678.here hx rfl (hb hby own_d_jdk_52_16_21) rfl k_) ?_
  show own_Go p e below _ (T678.setTop (mkF m 22 #[.val (.ref a), .val (.int (0 : Int32)), .val (.int (3 : Int32)), .val (.ref b674), .val (.int (1 : Int32)), .unset] [(.int (0 : Int32)), (.ref a)]))
  refine own_st (fun u_ k_ => XS.iloadN X678.here hx rfl (hb hby own_d_jdk_52_16_22) rfl k_) ?_
  have F681 := (F675.keep K678)
  have ne682 : a ≠ b674 := (Nat.ne_of_lt (Nat.lt_of_lt_of_le Ea.lt (Nat.le_of_eq g674.symm)))
  have F683 := (F677.keep K678 (ninS ne682 nin0))
  have O685 : Old Z n0 T678.heap := O679.keep K678 (allS g676 all0)
  obtain ⟨T684, v684, L684, X684, hQ684, st684⟩ := own_callS X678 hx hZ (y := own_y_104) hown (own_w hw 106 rfl) (own_w hw 107 rfl) (own_w hw 98 rfl) (own_w hw 108 rfl) own_lm_28 (rmTB3 l Z a0 hw [] wcs hS a ka v0 v1 v2 T678.heap n0 O685 F681 F683) rfl own_pd_124 (argsL := [(.ref a), (.int (0 : Int32)), (.int (3 : Int32))]) (rest := []) rfl rfl (g := (mkF m 23 #[.val (.ref a), .val (.int (0 : Int32)), .val (.int (3 : Int32)), .val (.ref b674), .val (.int (1 : Int32)), .unset] [(.int (3 : Int32)), (.int (0 : Int32)), (.ref a)])) rfl (by rw [hml]; rfl) rfl (hb hby own_d_jdk_52_16_23) (W := 0) rfl (by decide) (by decide) (by decide) (by decide)
  obtain ⟨r_686, kr_687, rfl, M684, K684, z688, F689, F690⟩ := hQ684
  have N684 := Fr.app N678 M684
  refine own_st (fun u_ k_ => st684 u_ k_) ?_
  show own_Go p e below _ (T684.setTop (mkF m 26 #[.val (.ref a), .val (.int (0 : Int32)), .val (.int (3 : Int32)), .val (.ref b674), .val (.int (1 : Int32)), .unset] [(.ref r_686)]))
  refine own_st (fun u_ k_ => XS.astore X684.here hx rfl (hb hby own_d_jdk_52_16_26) rfl rfl (l' := #[.val (.ref a), .val (.int (0 : Int32)), .val (.int (3 : Int32)), .val (.ref b674), .val (.int (1 : Int32)), .val (.ref r_686)]) rfl k_) ?_
  refine own_st (fun u_ k_ => XS.aload X684.here hx rfl (hb hby own_d_jdk_52_16_28) rfl rfl k_) ?_
  show own_Go p e below _ (T684.setTop (mkF m 30 #[.val (.ref a), .val (.int (0 : Int32)), .val (.int (3 : Int32)), .val (.ref b674), .val (.int (1 : Int32)), .val (.ref r_686)] [(.ref r_686)]))
  refine own_st (fun u_ k_ => XS.iload X684.here hx rfl (hb hby own_d_jdk_52_16_30) rfl k_) ?_
  have O692 : Old Z n0 T684.heap := O685.keep K684 all0
  obtain ⟨T691, v691, L691, X691, hQ691, st691⟩ := own_callS X684 hx hZ (y := own_y_81) hown (own_w hw 122 rfl) (own_w hw 123 rfl) (own_w hw 98 rfl) (own_w hw 124 rfl) own_lm_28 (rmGC3_1 l Z a0 hw [] wcs hS r_686 kr_687 ((v0 >>> ((0 : Int32) &&& 31)).toInt8.toInt32) ((v0 >>> ((8 : Int32) &&& 31)).toInt8.toInt32) ((v1 >>> ((0 : Int32) &&& 31)).toInt8.toInt32) ((v1 >>> ((8 : Int32) &&& 31)).toInt8.toInt32) ((v2 >>> ((0 : Int32) &&& 31)).toInt8.toInt32) ((v2 >>> ((8 : Int32) &&& 31)).toInt8.toInt32) T684.heap n0 O692 F690) rfl own_pd_129 (argsL := [(.ref r_686), (.int (1 : Int32))]) (rest := []) rfl rfl (g := (mkF m 32 #[.val (.ref a), .val (.int (0 : Int32)), .val (.int (3 : Int32)), .val (.ref b674), .val (.int (1 : Int32)), .val (.ref r_686)] [(.int (1 : Int32)), (.ref r_686)])) rfl (by rw [hml]; rfl) rfl (hb hby own_d_jdk_52_16_32) (W := 0) rfl (by decide) (by decide) (by decide) (by decide)
  obtain ⟨rfl, M691, e691⟩ := hQ691
  have N691 := Fr.app N684 M691
  refine own_st (fun u_ k_ => st691 u_ k_) ?_
  show own_Go p e below _ (T691.setTop (mkF m 35 #[.val (.ref a), .val (.int (0 : Int32)), .val (.int (3 : Int32)), .val (.ref b674), .val (.int (1 : Int32)), .val (.ref r_686)] [(.int ((((((v1 >>> ((0 : Int32) &&& 31)).toInt8.toInt32) &&& (255 : Int32)) <<< ((0 : Int32) &&& 31)) ||| ((((v1 >>> ((8 : Int32) &&& 31)).toInt8.toInt32) &&& (255 : Int32)) <<< ((8 : Int32) &&& 31))).toUInt32.toUInt16.toUInt32.toInt32))]))
  refine own_st (fun u_ k_ => XS.sipush X691.here hx rfl (hb hby own_d_jdk_52_16_35) k_) ?_
  refine own_st (fun u_ k_ => XS.icmpYes X691.here hx rfl (pc0 := 38) (pc' := 54) rfl (hb hby own_d_jdk_52_16_38) rfl (XT.ii_gt_t (by rw [own_gc _ hv1]; exact hq1)) (by decide) (by decide) k_) ?_
  show own_Go p e below _ (T691.setTop (mkF m 54 #[.val (.ref a), .val (.int (0 : Int32)), .val (.int (3 : Int32)), .val (.ref b674), .val (.int (1 : Int32)), .val (.ref r_686)] []))
  refine own_st (fun u_ k_ => XS.aload X691.here hx rfl (hb hby own_d_jdk_52_16_54) rfl rfl k_) ?_
  have K693 : Keep h0 h674 [] := (Keep.refl h0 []).ext E674
  have z695 : h0.size ≤ b674 := Nat.le_trans (Nat.le_refl _) (Nat.le_of_eq g674.symm)
  have K694 : Keep h0 T678.heap [] := K693.trans K678 (allS (Or.inr z695) all0)
  have K696 : Keep h0 T684.heap [] := K694.trans K684 all0
  have z697 : h0.size ≤ r_686 := Nat.le_trans (Nat.le_trans E674.1 K678.1) z688
  exact own_retX X691 hx hlk hret rfl (Or.inr (Or.inr (Or.inr (Or.inr ⟨rfl, rfl, rfl⟩)))) (hb hby own_d_jdk_52_16_56) (by decide) (by decide) (show QrmCq3_1 Z wcs a ka v0 v1 v2 h0 n0 (some (.ref r_686)) T691.heap _ from (by rw [e691]; exact ⟨r_686, kr_687, rfl, N691, K696, z697, F689, F690⟩))
theorem own_ef_rmS4_3_1 (m : MethodId) (a : Addr) (b : Addr)  : entryFrame m #[(.ref a), (.ref b), (.int (0 : Int32)), (.int (3 : Int32)), .null] 6 = mkF m 0 #[.val (.ref a), .val (.ref b), .val (.int (0 : Int32)), .val (.int (3 : Int32)), .val .null, .unset] [] := by first | (simp [entryFrame, mkF, argsToLocals, Value.category, maxLocals]; done) | rfl
def QrmS4_3_1 (Z : State) (wcs : Int32) (a : Addr) (b : Addr) (kb : ClassId) (v0 : Int32) (v1 : Int32) (v2 : Int32) (h0 : Heap) (n0 : Nat) (v : Option Value) (h : Heap) (L : List Loc) : Prop := ∃ r : Addr, ∃ kr : ClassId, v = none ∧ Fr n0 L ∧ Keep h0 h [a] ∧ h0.size ≤ r ∧ Exa Z h a "java/lang/String" ∧ Fld Z h a "java/lang/String" "value" "[B" (.ref r) ∧ Fld Z h a "java/lang/String" "coder" "B" (.int (1 : Int32)) ∧ Exa Z h r "[B" ∧ Arv Z h r kr .byte (6 : Int32) [(.int ((v0 >>> ((0 : Int32) &&& 31)).toInt8.toInt32)), (.int ((v0 >>> ((8 : Int32) &&& 31)).toInt8.toInt32)), (.int ((v1 >>> ((0 : Int32) &&& 31)).toInt8.toInt32)), (.int ((v1 >>> ((8 : Int32) &&& 31)).toInt8.toInt32)), (.int ((v2 >>> ((0 : Int32) &&& 31)).toInt8.toInt32)), (.int ((v2 >>> ((8 : Int32) &&& 31)).toInt8.toInt32))] (.int (0 : Int32))
set_option maxRecDepth 65536 in
set_option maxHeartbeats 40000000 in
theorem rmS4_3_1 (l : Launch) (Z : State) (a0 : Array Value) (hw : own_H a0 Z) (ws : List Jvm.Cond) (wcs : Int32) (hS : own_S Z wcs) (a : Addr) (b : Addr) (kb : ClassId) (v0 : Int32) (v1 : Int32) (v2 : Int32) (h0 : Heap) (n0 : Nat) (O0 : Old Z n0 h0) (E : Exa Z h0 a "java/lang/String") (Ea : Exa Z h0 b "[C") (ga : n0 ≤ a) (F1 : Fld Z h0 a "java/lang/String" "value" "[B" .null) (F2 : Fld Z h0 a "java/lang/String" "coder" "B" (.int (0 : Int32))) (A1 : Arv Z h0 b kb .char (3 : Int32) [(.int v0), (.int v1), (.int v2)] (.int (0 : Int32))) (hq0 : ¬ (255 : Int32) < v0) (hq1 : (255 : Int32) < v1) (hv0 : own_C16 v0) (hv1 : own_C16 v1) (hv2 : own_C16 v2) :
    own_Met l own_y_172 jdk_42_method_149_code 6 none ws ({ frames := 4, cells := 2, slots := 9, locals := 57 } : Room) Z h0 #[(.ref a), (.ref b), (.int (0 : Int32)), (.int (3 : Int32)), .null] (QrmS4_3_1 Z wcs a b kb v0 v1 v2 h0 n0) := by
  refine own_body (plainFor_of_name own_pn_173) ?_
  intro p e s m below meth c s₁ hx hby hml hown hnm hret hlk hZ e0 X0
  have N0 := Fr.nil n0
  refine own_st (fun u_ k_ => castTop (own_ef_rmS4_3_1 m a b) k_) ?_
  show own_Go p e below _ (s₁.setTop (mkF m 0 #[.val (.ref a), .val (.ref b), .val (.int (0 : Int32)), .val (.int (3 : Int32)), .val .null, .unset] []))
  refine own_st (fun u_ k_ => XS.aloadN X0.here hx rfl (hb hby own_d_jdk_42_149_0) rfl rfl k_) ?_
  obtain ⟨T698, X698, e698, st698⟩ := initO X0 hx hZ hown (own_w hw 12 rfl) (own_w hw 13 rfl) (own_w hw 14 rfl) e0 (g := (mkF m 1 #[.val (.ref a), .val (.ref b), .val (.int (0 : Int32)), .val (.int (3 : Int32)), .val .null, .unset] [(.ref a)])) rfl (by rw [hml]; rfl) rfl (hb hby own_d_jdk_42_149_1) (by decide) (W := 0) (by show 2 * 0 + _ ≤ _; exact Nat.le_of_eq rfl) (by decide)
  refine own_st (fun u_ k_ => st698 u_ k_) ?_
  show own_Go p e below _ (T698.setTop (mkF m 4 #[.val (.ref a), .val (.ref b), .val (.int (0 : Int32)), .val (.int (3 : Int32)), .val .null, .unset] []))
  refine own_st (fun u_ k_ => XS.iloadN X698.here hx rfl (hb hby own_d_jdk_42_149_4) rfl k_) ?_
  refine own_st (fun u_ k_ => XS.ifYes X698.here hx rfl (pc0 := 5) (pc' := 27) rfl (hb hby own_d_jdk_42_149_5) rfl (XT.i0_ne_t (by decide)) (by decide) (by decide) k_) ?_
  show own_Go p e below _ (T698.setTop (mkF m 27 #[.val (.ref a), .val (.ref b), .val (.int (0 : Int32)), .val (.int (3 : Int32)), .val .null, .unset] []))
  have F699 := Sta.ext O0.2 hS.1
  obtain ⟨T700, X700, e700, st700⟩ := getS2 X698 hx hZ hown (host := "") (Or.inl (own_w hw 90 rfl)) Via.refl e698 F699 (g := (mkF m 27 #[.val (.ref a), .val (.ref b), .val (.int (0 : Int32)), .val (.int (3 : Int32)), .val .null, .unset] [])) rfl (hb hby own_d_jdk_42_149_27)
  refine own_st (fun u_ k_ => st700 u_ k_) ?_
  show own_Go p e below _ (T700.setTop (mkF m 30 #[.val (.ref a), .val (.ref b), .val (.int (0 : Int32)), .val (.int (3 : Int32)), .val .null, .unset] [(.int wcs)]))
  refine own_st (fun u_ k_ => XS.ifNo X700.here hx rfl (hb hby own_d_jdk_42_149_30) rfl (XT.i0_eq_f hS.2.1) k_) ?_
  refine own_st (fun u_ k_ => XS.aloadN X700.here hx rfl (hb hby own_d_jdk_42_149_33) rfl rfl k_) ?_
  show own_Go p e below _ (T700.setTop (mkF m 34 #[.val (.ref a), .val (.ref b), .val (.int (0 : Int32)), .val (.int (3 : Int32)), .val .null, .unset] [(.ref b)]))
  refine own_st (fun u_ k_ => XS.iloadN X700.here hx rfl (hb hby own_d_jdk_42_149_34) rfl k_) ?_
  refine own_st (fun u_ k_ => XS.iloadN X700.here hx rfl (hb hby own_d_jdk_42_149_35) rfl k_) ?_
  show own_Go p e below _ (T700.setTop (mkF m 36 #[.val (.ref a), .val (.ref b), .val (.int (0 : Int32)), .val (.int (3 : Int32)), .val .null, .unset] [(.int (3 : Int32)), (.int (0 : Int32)), (.ref b)]))
  obtain ⟨T701, v701, L701, X701, hQ701, st701⟩ := own_callS X700 hx hZ (y := own_y_134) hown (own_w hw 96 rfl) (own_w hw 97 rfl) (own_w hw 98 rfl) (own_w hw 99 rfl) own_lm_28 (rmCq3_1 l Z a0 hw [] wcs hS b kb v0 v1 v2 h0 n0 O0 Ea A1 (by assumption) (by assumption) (by assumption) (by assumption) (by assumption)) e700 own_pd_124 (argsL := [(.ref b), (.int (0 : Int32)), (.int (3 : Int32))]) (rest := []) rfl rfl (g := (mkF m 36 #[.val (.ref a), .val (.ref b), .val (.int (0 : Int32)), .val (.int (3 : Int32)), .val .null, .unset] [(.int (3 : Int32)), (.int (0 : Int32)), (.ref b)])) rfl (by rw [hml]; rfl) rfl (hb hby own_d_jdk_42_149_36) (W := 0) rfl (by decide) (by decide) (by decide) (by decide)
  obtain ⟨r_702, kr_703, rfl, M701, K701, z704, F705, F706⟩ := hQ701
  have N701 := Fr.app N0 M701
  refine own_st (fun u_ k_ => st701 u_ k_) ?_
  show own_Go p e below _ (T701.setTop (mkF m 39 #[.val (.ref a), .val (.ref b), .val (.int (0 : Int32)), .val (.int (3 : Int32)), .val .null, .unset] [(.ref r_702)]))
  refine own_st (fun u_ k_ => XS.astore X701.here hx rfl (hb hby own_d_jdk_42_149_39) rfl rfl (l' := #[.val (.ref a), .val (.ref b), .val (.int (0 : Int32)), .val (.int (3 : Int32)), .val .null, .val (.ref r_702)]) rfl k_) ?_
  refine own_st (fun u_ k_ => XS.aloadN X701.here hx rfl (hb hby own_d_jdk_42_149_41) rfl rfl k_) ?_
  show own_Go p e below _ (T701.setTop (mkF m 42 #[.val (.ref a), .val (.ref b), .val (.int (0 : Int32)), .val (.int (3 : Int32)), .val .null, .val (.ref r_702)] [(.ref a)]))
  refine own_st (fun u_ k_ => XS.aload X701.here hx rfl (hb hby own_d_jdk_42_149_42) rfl rfl k_) ?_
  refine own_st (fun u_ k_ => XS.iloadN X701.here hx rfl (hb hby own_d_jdk_42_149_44) rfl k_) ?_
  show own_Go p e below _ (T701.setTop (mkF m 45 #[.val (.ref a), .val (.ref b), .val (.int (0 : Int32)), .val (.int (3 : Int32)), .val .null, .val (.ref r_702)] [(.int (3 : Int32)), (.ref r_702), (.ref a)]))
  have O708 : Old Z n0 T701.heap := O0.keep K701 all0
  obtain ⟨T707, v707, L707, X707, hQ707, st707⟩ := own_callS X701 hx hZ (y := own_y_143) hown (own_w hw 103 rfl) (own_w hw 104 rfl) (own_w hw 98 rfl) (own_w hw 105 rfl) own_lm_28 (rmCo3_6 l Z a0 hw [] wcs hS r_702 kr_703 [(.int ((v0 >>> ((0 : Int32) &&& 31)).toInt8.toInt32)), (.int ((v0 >>> ((8 : Int32) &&& 31)).toInt8.toInt32)), (.int ((v1 >>> ((0 : Int32) &&& 31)).toInt8.toInt32)), (.int ((v1 >>> ((8 : Int32) &&& 31)).toInt8.toInt32)), (.int ((v2 >>> ((0 : Int32) &&& 31)).toInt8.toInt32)), (.int ((v2 >>> ((8 : Int32) &&& 31)).toInt8.toInt32))] T701.heap n0 O708 F706) rfl own_pd_160 (argsL := [(.ref r_702), (.int (3 : Int32))]) (rest := [(.ref a)]) rfl rfl (g := (mkF m 45 #[.val (.ref a), .val (.ref b), .val (.int (0 : Int32)), .val (.int (3 : Int32)), .val .null, .val (.ref r_702)] [(.int (3 : Int32)), (.ref r_702), (.ref a)])) rfl (by rw [hml]; rfl) rfl (hb hby own_d_jdk_42_149_45) (W := 1) rfl (by decide) (by decide) (by decide) (by decide)
  obtain ⟨rfl, M707, e707⟩ := hQ707
  have N707 := Fr.app N701 M707
  refine own_st (fun u_ k_ => st707 u_ k_) ?_
  show own_Go p e below _ (T707.setTop (mkF m 48 #[.val (.ref a), .val (.ref b), .val (.int (0 : Int32)), .val (.int (3 : Int32)), .val .null, .val (.ref r_702)] [(.int (1 : Int32)), (.ref a)]))
  have F709 := (E.keep K701)
  have F710 := (F2.keep K701 nin0)
  obtain ⟨T711, h711, X711, e711, W711, st711⟩ := putF X707 hx hZ hown (host := "") (Or.inl (own_w hw 22 rfl)) Via.refl e707 F710 F709 (Or.inr ⟨(own_w hw 18 rfl), rfl, hnm⟩) (own_w hw 2 rfl) (ty := .byte) own_lm_162 rfl rfl (g := (mkF m 48 #[.val (.ref a), .val (.ref b), .val (.int (0 : Int32)), .val (.int (3 : Int32)), .val .null, .val (.ref r_702)] [(.int (1 : Int32)), (.ref a)])) rfl rfl (hb hby own_d_jdk_42_149_48)
  have N711 := Fr.snoc X711 N707 ga
  have F712 : Fld Z h711 a "java/lang/String" "coder" "B" (.int (1 : Int32)) := Fld.same W711 F710
  refine own_st (fun u_ k_ => st711 u_ k_) ?_
  show own_Go p e below _ (T711.setTop (mkF m 51 #[.val (.ref a), .val (.ref b), .val (.int (0 : Int32)), .val (.int (3 : Int32)), .val .null, .val (.ref r_702)] []))
  refine own_st (fun u_ k_ => XS.aloadN X711.here hx rfl (hb hby own_d_jdk_42_149_51) rfl rfl k_) ?_
  refine own_st (fun u_ k_ => XS.aload X711.here hx rfl (hb hby own_d_jdk_42_149_52) rfl rfl k_) ?_
  show own_Go p e below _ (T711.setTop (mkF m 54 #[.val (.ref a), .val (.ref b), .val (.int (0 : Int32)), .val (.int (3 : Int32)), .val .null, .val (.ref r_702)] [(.ref r_702), (.ref a)]))
  have F713 := (Exa.wr W711 F709)
  have F714 := (Fld.other W711 (F1.keep K701 nin0) (Or.inr (own_sn_168 hw)))
  obtain ⟨T715, h715, X715, e715, W715, st715⟩ := putF X711 hx hZ hown (host := "") (Or.inl (own_w hw 21 rfl)) Via.refl e711 F714 F713 (Or.inr ⟨(own_w hw 17 rfl), rfl, hnm⟩) (own_w hw 2 rfl) (ty := (.array .byte)) own_lm_167 rfl rfl (g := (mkF m 54 #[.val (.ref a), .val (.ref b), .val (.int (0 : Int32)), .val (.int (3 : Int32)), .val .null, .val (.ref r_702)] [(.ref r_702), (.ref a)])) rfl rfl (hb hby own_d_jdk_42_149_54)
  have N715 := Fr.snoc X715 N711 ga
  have F716 : Fld Z h715 a "java/lang/String" "value" "[B" (.ref r_702) := Fld.same W715 F714
  refine own_st (fun u_ k_ => st715 u_ k_) ?_
  show own_Go p e below _ (T715.setTop (mkF m 57 #[.val (.ref a), .val (.ref b), .val (.int (0 : Int32)), .val (.int (3 : Int32)), .val .null, .val (.ref r_702)] []))
  have K717 : Keep h0 T701.heap [a] := (Keep.refl h0 [a]).trans K701 all0
  have K718 : Keep h0 h711 [a] := K717.wr W711 (Or.inl (List.mem_of_getElem? (i := 0) rfl))
  have K719 : Keep h0 h715 [a] := K718.wr W715 (Or.inl (List.mem_of_getElem? (i := 0) rfl))
  have z720 : h0.size ≤ r_702 := Nat.le_trans (Nat.le_refl _) z704
  have F721 := (Exa.wr W715 F713)
  have F722 := (Fld.other W715 F712 (Or.inr (own_sn_171 hw)))
  have F723 := (Exa.wr W715 (Exa.wr W711 F705))
  have ne724 : r_702 ≠ a := (Ne.symm (Nat.ne_of_lt (Nat.lt_of_lt_of_le E.lt z704)))
  have F725 := ((F706.other W711 ne724).other W715 ne724)
  exact own_retV X715 hx hlk hret (hb hby own_d_jdk_42_149_57) (by decide) (by decide) (show QrmS4_3_1 Z wcs a b kb v0 v1 v2 h0 n0 none T715.heap _ from (by rw [e715]; exact ⟨r_702, kr_703, rfl, N715, K719, z720, F721, F716, F722, F723, F725⟩))
theorem own_ef_rmCp3_2 (m : MethodId) (a : Addr) (b : Addr)  : entryFrame m #[(.ref a), (.int (0 : Int32)), (.ref b), (.int (0 : Int32)), (.int (3 : Int32))] 7 = mkF m 0 #[.val (.ref a), .val (.int (0 : Int32)), .val (.ref b), .val (.int (0 : Int32)), .val (.int (3 : Int32)), .unset, .unset] [] := by first | (simp [entryFrame, mkF, argsToLocals, Value.category, maxLocals]; done) | rfl
def QrmCp3_2 (Z : State) (wcs : Int32) (a : Addr) (ka : ClassId) (b : Addr) (kb : ClassId) (v0 : Int32) (v1 : Int32) (v2 : Int32) (h0 : Heap) (n0 : Nat) (v : Option Value) (h : Heap) (L : List Loc) : Prop := v = some (.int (2 : Int32)) ∧ Fr n0 L ∧ Keep h0 h [b] ∧ Exa Z h b "[B"
set_option maxRecDepth 65536 in
set_option maxHeartbeats 40000000 in
theorem rmCp3_2 (l : Launch) (Z : State) (a0 : Array Value) (hw : own_H a0 Z) (ws : List Jvm.Cond) (wcs : Int32) (hS : own_S Z wcs) (a : Addr) (ka : ClassId) (b : Addr) (kb : ClassId) (v0 : Int32) (v1 : Int32) (v2 : Int32) (h0 : Heap) (n0 : Nat) (O0 : Old Z n0 h0) (Ea : Exa Z h0 a "[C") (Eb : Exa Z h0 b "[B") (gb : n0 ≤ b) (A1 : Arv Z h0 a ka .char (3 : Int32) [(.int v0), (.int v1), (.int v2)] (.int (0 : Int32))) (A2 : Arv Z h0 b kb .byte (3 : Int32) [(.int (0 : Int32)), (.int (0 : Int32)), (.int (0 : Int32))] (.int (0 : Int32))) (hq0 : ¬ (255 : Int32) < v0) (hq1 : ¬ (255 : Int32) < v1) (hq2 : (255 : Int32) < v2) :
    own_Met l own_y_14 jdk_52_method_21_code 7 (some .int) ws ({ frames := 0, cells := 0, slots := 0, locals := 0 } : Room) Z h0 #[(.ref a), (.int (0 : Int32)), (.ref b), (.int (0 : Int32)), (.int (3 : Int32))] (QrmCp3_2 Z wcs a ka b kb v0 v1 v2 h0 n0) := by
  refine own_body (plainFor_of_name own_pn_15) ?_
  intro p e s m below meth c s₁ hx hby hml hown hnm hret hlk hZ e0 X0
  have N0 := Fr.nil n0
  refine own_st (fun u_ k_ => castTop (own_ef_rmCp3_2 m a b) k_) ?_
  show own_Go p e below _ (s₁.setTop (mkF m 0 #[.val (.ref a), .val (.int (0 : Int32)), .val (.ref b), .val (.int (0 : Int32)), .val (.int (3 : Int32)), .unset, .unset] []))
  refine own_st (fun u_ k_ => XS.iconst X0.here hx rfl (hb hby own_d_jdk_52_21_0) k_) ?_
  refine own_st (fun u_ k_ => XS.istore X0.here hx rfl (hb hby own_d_jdk_52_21_1) rfl (l' := #[.val (.ref a), .val (.int (0 : Int32)), .val (.ref b), .val (.int (0 : Int32)), .val (.int (3 : Int32)), .val (.int (0 : Int32)), .unset]) rfl k_) ?_
  show own_Go p e below _ (s₁.setTop (mkF m 3 #[.val (.ref a), .val (.int (0 : Int32)), .val (.ref b), .val (.int (0 : Int32)), .val (.int (3 : Int32)), .val (.int (0 : Int32)), .unset] []))
  refine own_st (fun u_ k_ => XS.iload X0.here hx rfl (hb hby own_d_jdk_52_21_3) rfl k_) ?_
  refine own_st (fun u_ k_ => XS.iload X0.here hx rfl (hb hby own_d_jdk_52_21_5) rfl k_) ?_
  show own_Go p e below _ (s₁.setTop (mkF m 7 #[.val (.ref a), .val (.int (0 : Int32)), .val (.ref b), .val (.int (0 : Int32)), .val (.int (3 : Int32)), .val (.int (0 : Int32)), .unset] [(.int (3 : Int32)), (.int (0 : Int32))]))
  refine own_st (fun u_ k_ => XS.icmpNo X0.here hx rfl (hb hby own_d_jdk_52_21_7) rfl (XT.ii_ge_f (by decide)) k_) ?_
  refine own_st (fun u_ k_ => XS.aloadN X0.here hx rfl (hb hby own_d_jdk_52_21_10) rfl rfl k_) ?_
  show own_Go p e below _ (s₁.setTop (mkF m 11 #[.val (.ref a), .val (.int (0 : Int32)), .val (.ref b), .val (.int (0 : Int32)), .val (.int (3 : Int32)), .val (.int (0 : Int32)), .unset] [(.ref a)]))
  refine own_st (fun u_ k_ => XS.iloadN X0.here hx rfl (hb hby own_d_jdk_52_21_11) rfl k_) ?_
  obtain ⟨cl738, Ar738, q738, S738, N738, H738, G738⟩ := id A1
  have hi738 : ¬ ((0 : Int32) < 0 ∨ cl738.slots.size ≤ ((0 : Int32)).toNatClampNeg) := inb_of S738 ⟨by decide, by decide⟩
  have ha738 : cl738.slots[((0 : Int32)).toNatClampNeg]? = some (.int v0) := H738.at hi738 rfl
  refine own_st (X0.caload hx (j := (0 : Int32)) (v := (.int v0)) (by rw [e0]; exact Ar738.1) (State.isArrayOf_alike hZ.alike Ar738.2.1) Ar738.2.2 hi738 ha738 (g := (mkF m 12 #[.val (.ref a), .val (.int (0 : Int32)), .val (.ref b), .val (.int (0 : Int32)), .val (.int (3 : Int32)), .val (.int (0 : Int32)), .unset] [(.int (0 : Int32)), (.ref a)])) rfl rfl (hb hby own_d_jdk_52_21_12)) ?_
  show own_Go p e below _ (s₁.setTop (mkF m 13 #[.val (.ref a), .val (.int (0 : Int32)), .val (.ref b), .val (.int (0 : Int32)), .val (.int (3 : Int32)), .val (.int (0 : Int32)), .unset] [(.int v0)]))
  refine own_st (fun u_ k_ => XS.istore X0.here hx rfl (hb hby own_d_jdk_52_21_13) rfl (l' := #[.val (.ref a), .val (.int (0 : Int32)), .val (.ref b), .val (.int (0 : Int32)), .val (.int (3 : Int32)), .val (.int (0 : Int32)), .val (.int v0)]) rfl k_) ?_
  show own_Go p e below _ (s₁.setTop (mkF m 15 #[.val (.ref a), .val (.int (0 : Int32)), .val (.ref b), .val (.int (0 : Int32)), .val (.int (3 : Int32)), .val (.int (0 : Int32)), .val (.int v0)] []))
  refine own_st (fun u_ k_ => XS.iload X0.here hx rfl (hb hby own_d_jdk_52_21_15) rfl k_) ?_
  refine own_st (fun u_ k_ => XS.sipush X0.here hx rfl (hb hby own_d_jdk_52_21_17) k_) ?_
  show own_Go p e below _ (s₁.setTop (mkF m 20 #[.val (.ref a), .val (.int (0 : Int32)), .val (.ref b), .val (.int (0 : Int32)), .val (.int (3 : Int32)), .val (.int (0 : Int32)), .val (.int v0)] [(.int (255 : Int32)), (.int v0)]))
  refine own_st (fun u_ k_ => XS.icmpYes X0.here hx rfl (pc0 := 20) (pc' := 26) rfl (hb hby own_d_jdk_52_21_20) rfl (XT.ii_le_t hq0) (by decide) (by decide) k_) ?_
  refine own_st (fun u_ k_ => XS.aloadN X0.here hx rfl (hb hby own_d_jdk_52_21_26) rfl rfl k_) ?_
  show own_Go p e below _ (s₁.setTop (mkF m 27 #[.val (.ref a), .val (.int (0 : Int32)), .val (.ref b), .val (.int (0 : Int32)), .val (.int (3 : Int32)), .val (.int (0 : Int32)), .val (.int v0)] [(.ref b)]))
  refine own_st (fun u_ k_ => XS.iloadN X0.here hx rfl (hb hby own_d_jdk_52_21_27) rfl k_) ?_
  refine own_st (fun u_ k_ => XS.iload X0.here hx rfl (hb hby own_d_jdk_52_21_28) rfl k_) ?_
  show own_Go p e below _ (s₁.setTop (mkF m 30 #[.val (.ref a), .val (.int (0 : Int32)), .val (.ref b), .val (.int (0 : Int32)), .val (.int (3 : Int32)), .val (.int (0 : Int32)), .val (.int v0)] [(.int v0), (.int (0 : Int32)), (.ref b)]))
  refine own_st (fun u_ k_ => XS.i2b X0.here hx rfl (hb hby own_d_jdk_52_21_30) rfl k_) ?_
  obtain ⟨cl739, Ar739, q739, S739, N739, H739, G739⟩ := id A2
  have hi739 : ¬ ((0 : Int32) < 0 ∨ cl739.slots.size ≤ ((0 : Int32)).toNatClampNeg) := inb_of S739 ⟨by decide, by decide⟩
  obtain ⟨T740, h740, X740, e740, W740, st740⟩ := stB X0 hx hZ e0 Ar739 (j := (0 : Int32)) hi739 (g := (mkF m 31 #[.val (.ref a), .val (.int (0 : Int32)), .val (.ref b), .val (.int (0 : Int32)), .val (.int (3 : Int32)), .val (.int (0 : Int32)), .val (.int v0)] [(.int (v0.toInt8.toInt32)), (.int (0 : Int32)), (.ref b)])) rfl rfl (hb hby own_d_jdk_52_21_31)
  rw [own_bb] at W740
  have N740 := Fr.snoc X740 N0 gb
  have V740 : Arv Z h740 b kb .byte (3 : Int32) [(.int (v0.toInt8.toInt32)), (.int (0 : Int32)), (.int (0 : Int32))] (.int (0 : Int32)) := Arv.set Ar739 q739 S739 N739 H739 G739 (fits_nar_byte _) W740 0 rfl (Nat.le_of_ble_eq_true rfl)
  refine own_st (fun u_ k_ => st740 u_ k_) ?_
  show own_Go p e below _ (T740.setTop (mkF m 32 #[.val (.ref a), .val (.int (0 : Int32)), .val (.ref b), .val (.int (0 : Int32)), .val (.int (3 : Int32)), .val (.int (0 : Int32)), .val (.int v0)] []))
  refine own_st (fun u_ k_ => XS.iinc X740.here hx rfl (hb hby own_d_jdk_52_21_32) rfl (l' := #[.val (.ref a), .val (.int (1 : Int32)), .val (.ref b), .val (.int (0 : Int32)), .val (.int (3 : Int32)), .val (.int (0 : Int32)), .val (.int v0)]) rfl k_) ?_
  refine own_st (fun u_ k_ => XS.iinc X740.here hx rfl (hb hby own_d_jdk_52_21_35) rfl (l' := #[.val (.ref a), .val (.int (1 : Int32)), .val (.ref b), .val (.int (1 : Int32)), .val (.int (3 : Int32)), .val (.int (0 : Int32)), .val (.int v0)]) rfl k_) ?_
  show own_Go p e below _ (T740.setTop (mkF m 38 #[.val (.ref a), .val (.int (1 : Int32)), .val (.ref b), .val (.int (1 : Int32)), .val (.int (3 : Int32)), .val (.int (0 : Int32)), .val (.int v0)] []))
  refine own_st (fun u_ k_ => XS.iinc X740.here hx rfl (hb hby own_d_jdk_52_21_38) rfl (l' := #[.val (.ref a), .val (.int (1 : Int32)), .val (.ref b), .val (.int (1 : Int32)), .val (.int (3 : Int32)), .val (.int (1 : Int32)), .val (.int v0)]) rfl k_) ?_
  refine own_st (fun u_ k_ => XS.goto X740.here hx rfl (pc0 := 41) (pc' := 3) rfl (hb hby own_d_jdk_52_21_41) (by decide) (by decide) k_) ?_
  show own_Go p e below _ (T740.setTop (mkF m 3 #[.val (.ref a), .val (.int (1 : Int32)), .val (.ref b), .val (.int (1 : Int32)), .val (.int (3 : Int32)), .val (.int (1 : Int32)), .val (.int v0)] []))
  refine own_st (fun u_ k_ => XS.iload X740.here hx rfl (hb hby own_d_jdk_52_21_3) rfl k_) ?_
  refine own_st (fun u_ k_ => XS.iload X740.here hx rfl (hb hby own_d_jdk_52_21_5) rfl k_) ?_
  show own_Go p e below _ (T740.setTop (mkF m 7 #[.val (.ref a), .val (.int (1 : Int32)), .val (.ref b), .val (.int (1 : Int32)), .val (.int (3 : Int32)), .val (.int (1 : Int32)), .val (.int v0)] [(.int (3 : Int32)), (.int (1 : Int32))]))
  refine own_st (fun u_ k_ => XS.icmpNo X740.here hx rfl (hb hby own_d_jdk_52_21_7) rfl (XT.ii_ge_f (by decide)) k_) ?_
  refine own_st (fun u_ k_ => XS.aloadN X740.here hx rfl (hb hby own_d_jdk_52_21_10) rfl rfl k_) ?_
  show own_Go p e below _ (T740.setTop (mkF m 11 #[.val (.ref a), .val (.int (1 : Int32)), .val (.ref b), .val (.int (1 : Int32)), .val (.int (3 : Int32)), .val (.int (1 : Int32)), .val (.int v0)] [(.ref a)]))
  refine own_st (fun u_ k_ => XS.iloadN X740.here hx rfl (hb hby own_d_jdk_52_21_11) rfl k_) ?_
  have ne741 : a ≠ b := (ne_exa Ea Eb own_lm_202)
  have F742 := (A1.other W740 ne741)
  obtain ⟨cl743, Ar743, q743, S743, N743, H743, G743⟩ := id F742
  have hi743 : ¬ ((1 : Int32) < 0 ∨ cl743.slots.size ≤ ((1 : Int32)).toNatClampNeg) := inb_of S743 ⟨by decide, by decide⟩
  have ha743 : cl743.slots[((1 : Int32)).toNatClampNeg]? = some (.int v1) := H743.at hi743 rfl
  refine own_st (X740.caload hx (j := (1 : Int32)) (v := (.int v1)) (by rw [e740]; exact Ar743.1) (State.isArrayOf_alike hZ.alike Ar743.2.1) Ar743.2.2 hi743 ha743 (g := (mkF m 12 #[.val (.ref a), .val (.int (1 : Int32)), .val (.ref b), .val (.int (1 : Int32)), .val (.int (3 : Int32)), .val (.int (1 : Int32)), .val (.int v0)] [(.int (1 : Int32)), (.ref a)])) rfl rfl (hb hby own_d_jdk_52_21_12)) ?_
  show own_Go p e below _ (T740.setTop (mkF m 13 #[.val (.ref a), .val (.int (1 : Int32)), .val (.ref b), .val (.int (1 : Int32)), .val (.int (3 : Int32)), .val (.int (1 : Int32)), .val (.int v0)] [(.int v1)]))
  refine own_st (fun u_ k_ => XS.istore X740.here hx rfl (hb hby own_d_jdk_52_21_13) rfl (l' := #[.val (.ref a), .val (.int (1 : Int32)), .val (.ref b), .val (.int (1 : Int32)), .val (.int (3 : Int32)), .val (.int (1 : Int32)), .val (.int v1)]) rfl k_) ?_
  show own_Go p e below _ (T740.setTop (mkF m 15 #[.val (.ref a), .val (.int (1 : Int32)), .val (.ref b), .val (.int (1 : Int32)), .val (.int (3 : Int32)), .val (.int (1 : Int32)), .val (.int v1)] []))
  refine own_st (fun u_ k_ => XS.iload X740.here hx rfl (hb hby own_d_jdk_52_21_15) rfl k_) ?_
  refine own_st (fun u_ k_ => XS.sipush X740.here hx rfl (hb hby own_d_jdk_52_21_17) k_) ?_
  show own_Go p e below _ (T740.setTop (mkF m 20 #[.val (.ref a), .val (.int (1 : Int32)), .val (.ref b), .val (.int (1 : Int32)), .val (.int (3 : Int32)), .val (.int (1 : Int32)), .val (.int v1)] [(.int (255 : Int32)), (.int v1)]))
  refine own_st (fun u_ k_ => XS.icmpYes X740.here hx rfl (pc0 := 20) (pc' := 26) rfl (hb hby own_d_jdk_52_21_20) rfl (XT.ii_le_t hq1) (by decide) (by decide) k_) ?_
  refine own_st (fun u_ k_ => XS.aloadN X740.here hx rfl (hb hby own_d_jdk_52_21_26) rfl rfl k_) ?_
  show own_Go p e below _ (T740.setTop (mkF m 27 #[.val (.ref a), .val (.int (1 : Int32)), .val (.ref b), .val (.int (1 : Int32)), .val (.int (3 : Int32)), .val (.int (1 : Int32)), .val (.int v1)] [(.ref b)]))
  refine own_st (fun u_ k_ => XS.iloadN X740.here hx rfl (hb hby own_d_jdk_52_21_27) rfl k_) ?_
  refine own_st (fun u_ k_ => XS.iload X740.here hx rfl (hb hby own_d_jdk_52_21_28) rfl k_) ?_
  show own_Go p e below _ (T740.setTop (mkF m 30 #[.val (.ref a), .val (.int (1 : Int32)), .val (.ref b), .val (.int (1 : Int32)), .val (.int (3 : Int32)), .val (.int (1 : Int32)), .val (.int v1)] [(.int v1), (.int (1 : Int32)), (.ref b)]))
  refine own_st (fun u_ k_ => XS.i2b X740.here hx rfl (hb hby own_d_jdk_52_21_30) rfl k_) ?_
  obtain ⟨cl744, Ar744, q744, S744, N744, H744, G744⟩ := id V740
  have hi744 : ¬ ((1 : Int32) < 0 ∨ cl744.slots.size ≤ ((1 : Int32)).toNatClampNeg) := inb_of S744 ⟨by decide, by decide⟩
  obtain ⟨T745, h745, X745, e745, W745, st745⟩ := stB X740 hx hZ e740 Ar744 (j := (1 : Int32)) hi744 (g := (mkF m 31 #[.val (.ref a), .val (.int (1 : Int32)), .val (.ref b), .val (.int (1 : Int32)), .val (.int (3 : Int32)), .val (.int (1 : Int32)), .val (.int v1)] [(.int (v1.toInt8.toInt32)), (.int (1 : Int32)), (.ref b)])) rfl rfl (hb hby own_d_jdk_52_21_31)
  rw [own_bb] at W745
  have N745 := Fr.snoc X745 N740 gb
  have V745 : Arv Z h745 b kb .byte (3 : Int32) [(.int (v0.toInt8.toInt32)), (.int (v1.toInt8.toInt32)), (.int (0 : Int32))] (.int (0 : Int32)) := Arv.set Ar744 q744 S744 N744 H744 G744 (fits_nar_byte _) W745 1 rfl (Nat.le_of_ble_eq_true rfl)
  refine own_st (fun u_ k_ => st745 u_ k_) ?_
  show own_Go p e below _ (T745.setTop (mkF m 32 #[.val (.ref a), .val (.int (1 : Int32)), .val (.ref b), .val (.int (1 : Int32)), .val (.int (3 : Int32)), .val (.int (1 : Int32)), .val (.int v1)] []))
  refine own_st (fun u_ k_ => XS.iinc X745.here hx rfl (hb hby own_d_jdk_52_21_32) rfl (l' := #[.val (.ref a), .val (.int (2 : Int32)), .val (.ref b), .val (.int (1 : Int32)), .val (.int (3 : Int32)), .val (.int (1 : Int32)), .val (.int v1)]) rfl k_) ?_
  refine own_st (fun u_ k_ => XS.iinc X745.here hx rfl (hb hby own_d_jdk_52_21_35) rfl (l' := #[.val (.ref a), .val (.int (2 : Int32)), .val (.ref b), .val (.int (2 : Int32)), .val (.int (3 : Int32)), .val (.int (1 : Int32)), .val (.int v1)]) rfl k_) ?_
  show own_Go p e below _ (T745.setTop (mkF m 38 #[.val (.ref a), .val (.int (2 : Int32)), .val (.ref b), .val (.int (2 : Int32)), .val (.int (3 : Int32)), .val (.int (1 : Int32)), .val (.int v1)] []))
  refine own_st (fun u_ k_ => XS.iinc X745.here hx rfl (hb hby own_d_jdk_52_21_38) rfl (l' := #[.val (.ref a), .val (.int (2 : Int32)), .val (.ref b), .val (.int (2 : Int32)), .val (.int (3 : Int32)), .val (.int (2 : Int32)), .val (.int v1)]) rfl k_) ?_
  refine own_st (fun u_ k_ => XS.goto X745.here hx rfl (pc0 := 41) (pc' := 3) rfl (hb hby own_d_jdk_52_21_41) (by decide) (by decide) k_) ?_
  show own_Go p e below _ (T745.setTop (mkF m 3 #[.val (.ref a), .val (.int (2 : Int32)), .val (.ref b), .val (.int (2 : Int32)), .val (.int (3 : Int32)), .val (.int (2 : Int32)), .val (.int v1)] []))
  refine own_st (fun u_ k_ => XS.iload X745.here hx rfl (hb hby own_d_jdk_52_21_3) rfl k_) ?_
  refine own_st (fun u_ k_ => XS.iload X745.here hx rfl (hb hby own_d_jdk_52_21_5) rfl k_) ?_
  show own_Go p e below _ (T745.setTop (mkF m 7 #[.val (.ref a), .val (.int (2 : Int32)), .val (.ref b), .val (.int (2 : Int32)), .val (.int (3 : Int32)), .val (.int (2 : Int32)), .val (.int v1)] [(.int (3 : Int32)), (.int (2 : Int32))]))
  refine own_st (fun u_ k_ => XS.icmpNo X745.here hx rfl (hb hby own_d_jdk_52_21_7) rfl (XT.ii_ge_f (by decide)) k_) ?_
  refine own_st (fun u_ k_ => XS.aloadN X745.here hx rfl (hb hby own_d_jdk_52_21_10) rfl rfl k_) ?_
  show own_Go p e below _ (T745.setTop (mkF m 11 #[.val (.ref a), .val (.int (2 : Int32)), .val (.ref b), .val (.int (2 : Int32)), .val (.int (3 : Int32)), .val (.int (2 : Int32)), .val (.int v1)] [(.ref a)]))
  refine own_st (fun u_ k_ => XS.iloadN X745.here hx rfl (hb hby own_d_jdk_52_21_11) rfl k_) ?_
  have F746 := (F742.other W745 ne741)
  obtain ⟨cl747, Ar747, q747, S747, N747, H747, G747⟩ := id F746
  have hi747 : ¬ ((2 : Int32) < 0 ∨ cl747.slots.size ≤ ((2 : Int32)).toNatClampNeg) := inb_of S747 ⟨by decide, by decide⟩
  have ha747 : cl747.slots[((2 : Int32)).toNatClampNeg]? = some (.int v2) := H747.at hi747 rfl
  refine own_st (X745.caload hx (j := (2 : Int32)) (v := (.int v2)) (by rw [e745]; exact Ar747.1) (State.isArrayOf_alike hZ.alike Ar747.2.1) Ar747.2.2 hi747 ha747 (g := (mkF m 12 #[.val (.ref a), .val (.int (2 : Int32)), .val (.ref b), .val (.int (2 : Int32)), .val (.int (3 : Int32)), .val (.int (2 : Int32)), .val (.int v1)] [(.int (2 : Int32)), (.ref a)])) rfl rfl (hb hby own_d_jdk_52_21_12)) ?_
  show own_Go p e below _ (T745.setTop (mkF m 13 #[.val (.ref a), .val (.int (2 : Int32)), .val (.ref b), .val (.int (2 : Int32)), .val (.int (3 : Int32)), .val (.int (2 : Int32)), .val (.int v1)] [(.int v2)]))
  refine own_st (fun u_ k_ => XS.istore X745.here hx rfl (hb hby own_d_jdk_52_21_13) rfl (l' := #[.val (.ref a), .val (.int (2 : Int32)), .val (.ref b), .val (.int (2 : Int32)), .val (.int (3 : Int32)), .val (.int (2 : Int32)), .val (.int v2)]) rfl k_) ?_
  show own_Go p e below _ (T745.setTop (mkF m 15 #[.val (.ref a), .val (.int (2 : Int32)), .val (.ref b), .val (.int (2 : Int32)), .val (.int (3 : Int32)), .val (.int (2 : Int32)), .val (.int v2)] []))
  refine own_st (fun u_ k_ => XS.iload X745.here hx rfl (hb hby own_d_jdk_52_21_15) rfl k_) ?_
  refine own_st (fun u_ k_ => XS.sipush X745.here hx rfl (hb hby own_d_jdk_52_21_17) k_) ?_
  show own_Go p e below _ (T745.setTop (mkF m 20 #[.val (.ref a), .val (.int (2 : Int32)), .val (.ref b), .val (.int (2 : Int32)), .val (.int (3 : Int32)), .val (.int (2 : Int32)), .val (.int v2)] [(.int (255 : Int32)), (.int v2)]))
  refine own_st (fun u_ k_ => XS.icmpNo X745.here hx rfl (hb hby own_d_jdk_52_21_20) rfl (XT.ii_le_f hq2) k_) ?_
  refine own_st (fun u_ k_ => XS.iload X745.here hx rfl (hb hby own_d_jdk_52_21_23) rfl k_) ?_
  show own_Go p e below _ (T745.setTop (mkF m 25 #[.val (.ref a), .val (.int (2 : Int32)), .val (.ref b), .val (.int (2 : Int32)), .val (.int (3 : Int32)), .val (.int (2 : Int32)), .val (.int v2)] [(.int (2 : Int32))]))
  have K748 : Keep h0 h740 [b] := (Keep.refl h0 [b]).wr W740 (Or.inl (List.mem_of_getElem? (i := 0) rfl))
  have K749 : Keep h0 h745 [b] := K748.wr W745 (Or.inl (List.mem_of_getElem? (i := 0) rfl))
  have F750 := (Exa.wr W745 (Exa.wr W740 Eb))
  exact own_retX X745 hx hlk hret rfl (Or.inl ⟨rfl, by simp, _, rfl⟩) (hb hby own_d_jdk_52_21_25) (by decide) (by decide) (show QrmCp3_2 Z wcs a ka b kb v0 v1 v2 h0 n0 (some (.int (2 : Int32))) T745.heap _ from (by rw [e745]; exact ⟨rfl, N745, K749, F750⟩))
theorem own_ef_rmCq3_2 (m : MethodId) (a : Addr)  : entryFrame m #[(.ref a), (.int (0 : Int32)), (.int (3 : Int32))] 6 = mkF m 0 #[.val (.ref a), .val (.int (0 : Int32)), .val (.int (3 : Int32)), .unset, .unset, .unset] [] := by first | (simp [entryFrame, mkF, argsToLocals, Value.category, maxLocals]; done) | rfl
def QrmCq3_2 (Z : State) (wcs : Int32) (a : Addr) (ka : ClassId) (v0 : Int32) (v1 : Int32) (v2 : Int32) (h0 : Heap) (n0 : Nat) (v : Option Value) (h : Heap) (L : List Loc) : Prop := ∃ r : Addr, ∃ kr : ClassId, v = some (.ref r) ∧ Fr n0 L ∧ Keep h0 h [] ∧ h0.size ≤ r ∧ Exa Z h r "[B" ∧ Arv Z h r kr .byte (6 : Int32) [(.int ((v0 >>> ((0 : Int32) &&& 31)).toInt8.toInt32)), (.int ((v0 >>> ((8 : Int32) &&& 31)).toInt8.toInt32)), (.int ((v1 >>> ((0 : Int32) &&& 31)).toInt8.toInt32)), (.int ((v1 >>> ((8 : Int32) &&& 31)).toInt8.toInt32)), (.int ((v2 >>> ((0 : Int32) &&& 31)).toInt8.toInt32)), (.int ((v2 >>> ((8 : Int32) &&& 31)).toInt8.toInt32))] (.int (0 : Int32))
set_option maxRecDepth 65536 in
set_option maxHeartbeats 40000000 in
theorem rmCq3_2 (l : Launch) (Z : State) (a0 : Array Value) (hw : own_H a0 Z) (ws : List Jvm.Cond) (wcs : Int32) (hS : own_S Z wcs) (a : Addr) (ka : ClassId) (v0 : Int32) (v1 : Int32) (v2 : Int32) (h0 : Heap) (n0 : Nat) (O0 : Old Z n0 h0) (Ea : Exa Z h0 a "[C") (A1 : Arv Z h0 a ka .char (3 : Int32) [(.int v0), (.int v1), (.int v2)] (.int (0 : Int32))) (hq0 : ¬ (255 : Int32) < v0) (hq1 : ¬ (255 : Int32) < v1) (hq2 : (255 : Int32) < v2) (hv0 : own_C16 v0) (hv1 : own_C16 v1) (hv2 : own_C16 v2) :
    own_Met l own_y_134 jdk_52_method_16_code 6 (some (.array .byte)) ws ({ frames := 3, cells := 2, slots := 9, locals := 40 } : Room) Z h0 #[(.ref a), (.int (0 : Int32)), (.int (3 : Int32))] (QrmCq3_2 Z wcs a ka v0 v1 v2 h0 n0) := by
  refine own_body (plainFor_of_name own_pn_15) ?_
  intro p e s m below meth c s₁ hx hby hml hown hnm hret hlk hZ e0 X0
  have N0 := Fr.nil n0
  refine own_st (fun u_ k_ => castTop (own_ef_rmCq3_2 m a) k_) ?_
  show own_Go p e below _ (s₁.setTop (mkF m 0 #[.val (.ref a), .val (.int (0 : Int32)), .val (.int (3 : Int32)), .unset, .unset, .unset] []))
  refine own_st (fun u_ k_ => XS.iloadN X0.here hx rfl (hb hby own_d_jdk_52_16_0) rfl k_) ?_
  obtain ⟨T751, h751, k751, X751, e751, E751, A751, Y751, st751⟩ := newPE X0 hx hZ (own_w hw 16 rfl) e0 (g := (mkF m 1 #[.val (.ref a), .val (.int (0 : Int32)), .val (.int (3 : Int32)), .unset, .unset, .unset] [(.int (3 : Int32))])) rfl (hb hby own_d_jdk_52_16_1) rfl (by decide) (cap := 3) (by decide) (by decide) (by decide) (by decide) (ad := "[B") own_lm_31
  obtain ⟨b751, g751⟩ : ∃ z, z = h0.size := ⟨_, rfl⟩
  rw [← g751] at A751 Y751 st751
  have V751 : Arv Z h751 b751 k751 .byte (3 : Int32) [(.int (0 : Int32)), (.int (0 : Int32)), (.int (0 : Int32))] (.int (0 : Int32)) := (Arv.new A751 (by decide)).pad (pad_rep [] (.int (0 : Int32)) 3)
  refine own_st (fun u_ k_ => st751 u_ k_) ?_
  show own_Go p e below _ (T751.setTop (mkF m 3 #[.val (.ref a), .val (.int (0 : Int32)), .val (.int (3 : Int32)), .unset, .unset, .unset] [(.ref b751)]))
  refine own_st (fun u_ k_ => XS.astoreN X751.here hx rfl (hb hby own_d_jdk_52_16_3) rfl rfl (l' := #[.val (.ref a), .val (.int (0 : Int32)), .val (.int (3 : Int32)), .val (.ref b751), .unset, .unset]) rfl k_) ?_
  refine own_st (fun u_ k_ => XS.aloadN X751.here hx rfl (hb hby own_d_jdk_52_16_4) rfl rfl k_) ?_
  show own_Go p e below _ (T751.setTop (mkF m 5 #[.val (.ref a), .val (.int (0 : Int32)), .val (.int (3 : Int32)), .val (.ref b751), .unset, .unset] [(.ref a)]))
  refine own_st (fun u_ k_ => XS.iloadN X751.here hx rfl (hb hby own_d_jdk_52_16_5) rfl k_) ?_
  refine own_st (fun u_ k_ => XS.aloadN X751.here hx rfl (hb hby own_d_jdk_52_16_6) rfl rfl k_) ?_
  show own_Go p e below _ (T751.setTop (mkF m 7 #[.val (.ref a), .val (.int (0 : Int32)), .val (.int (3 : Int32)), .val (.ref b751), .unset, .unset] [(.ref b751), (.int (0 : Int32)), (.ref a)]))
  refine own_st (fun u_ k_ => XS.iconst X751.here hx rfl (hb hby own_d_jdk_52_16_7) k_) ?_
  refine own_st (fun u_ k_ => XS.iloadN X751.here hx rfl (hb hby own_d_jdk_52_16_8) rfl k_) ?_
  show own_Go p e below _ (T751.setTop (mkF m 9 #[.val (.ref a), .val (.int (0 : Int32)), .val (.int (3 : Int32)), .val (.ref b751), .unset, .unset] [(.int (3 : Int32)), (.int (0 : Int32)), (.ref b751), (.int (0 : Int32)), (.ref a)]))
  have F752 := (Exa.ext E751 Ea)
  have g753 : n0 ≤ b751 := Nat.le_trans (own_nl O0) (Nat.le_of_eq g751.symm)
  have F754 := (A1.ext E751)
  have O756 : Old Z n0 h751 := O0.ext E751
  obtain ⟨T755, v755, L755, X755, hQ755, st755⟩ := own_callS X751 hx hZ (y := own_y_14) hown (own_w hw 100 rfl) (own_w hw 101 rfl) (own_w hw 98 rfl) (own_w hw 102 rfl) own_lm_28 (rmCp3_2 l Z a0 hw [] wcs hS a ka b751 k751 v0 v1 v2 h751 n0 O756 F752 Y751 g753 F754 V751 (by assumption) (by assumption) (by assumption)) e751 own_pd_115 (argsL := [(.ref a), (.int (0 : Int32)), (.ref b751), (.int (0 : Int32)), (.int (3 : Int32))]) (rest := []) rfl rfl (g := (mkF m 9 #[.val (.ref a), .val (.int (0 : Int32)), .val (.int (3 : Int32)), .val (.ref b751), .unset, .unset] [(.int (3 : Int32)), (.int (0 : Int32)), (.ref b751), (.int (0 : Int32)), (.ref a)])) rfl (by rw [hml]; rfl) rfl (hb hby own_d_jdk_52_16_9) (W := 0) rfl (by decide) (by decide) (by decide) (by decide)
  obtain ⟨rfl, M755, K755, F757⟩ := hQ755
  have N755 := Fr.app N0 M755
  refine own_st (fun u_ k_ => st755 u_ k_) ?_
  show own_Go p e below _ (T755.setTop (mkF m 12 #[.val (.ref a), .val (.int (0 : Int32)), .val (.int (3 : Int32)), .val (.ref b751), .unset, .unset] [(.int (2 : Int32))]))
  refine own_st (fun u_ k_ => XS.istore X755.here hx rfl (hb hby own_d_jdk_52_16_12) rfl (l' := #[.val (.ref a), .val (.int (0 : Int32)), .val (.int (3 : Int32)), .val (.ref b751), .val (.int (2 : Int32)), .unset]) rfl k_) ?_
  refine own_st (fun u_ k_ => XS.iload X755.here hx rfl (hb hby own_d_jdk_52_16_14) rfl k_) ?_
  show own_Go p e below _ (T755.setTop (mkF m 16 #[.val (.ref a), .val (.int (0 : Int32)), .val (.int (3 : Int32)), .val (.ref b751), .val (.int (2 : Int32)), .unset] [(.int (2 : Int32))]))
  refine own_st (fun u_ k_ => XS.iloadN X755.here hx rfl (hb hby own_d_jdk_52_16_16) rfl k_) ?_
  refine own_st (fun u_ k_ => XS.icmpNo X755.here hx rfl (hb hby own_d_jdk_52_16_17) rfl (XT.ii_eq_f (by decide)) k_) ?_
  show own_Go p e below _ (T755.setTop (mkF m 20 #[.val (.ref a), .val (.int (0 : Int32)), .val (.int (3 : Int32)), .val (.ref b751), .val (.int (2 : Int32)), .unset] []))
  refine own_st (fun u_ k_ => XS.aloadN X755.here hx rfl (hb hby own_d_jdk_52_16_20) rfl rfl k_) ?_
  refine own_st (fun u_ k_ => XS.iloadN X755.here hx rfl (hb hby own_d_jdk_52_16_21) rfl k_) ?_
  show own_Go p e below _ (T755.setTop (mkF m 22 #[.val (.ref a), .val (.int (0 : Int32)), .val (.int (3 : Int32)), .val (.ref b751), .val (.int (2 : Int32)), .unset] [(.int (0 : Int32)), (.ref a)]))
  refine own_st (fun u_ k_ => XS.iloadN X755.here hx rfl (hb hby own_d_jdk_52_16_22) rfl k_) ?_
  have F758 := (F752.keep K755)
  have ne759 : a ≠ b751 := (Nat.ne_of_lt (Nat.lt_of_lt_of_le Ea.lt (Nat.le_of_eq g751.symm)))
  have F760 := (F754.keep K755 (ninS ne759 nin0))
  have O762 : Old Z n0 T755.heap := O756.keep K755 (allS g753 all0)
  obtain ⟨T761, v761, L761, X761, hQ761, st761⟩ := own_callS X755 hx hZ (y := own_y_104) hown (own_w hw 106 rfl) (own_w hw 107 rfl) (own_w hw 98 rfl) (own_w hw 108 rfl) own_lm_28 (rmTB3 l Z a0 hw [] wcs hS a ka v0 v1 v2 T755.heap n0 O762 F758 F760) rfl own_pd_124 (argsL := [(.ref a), (.int (0 : Int32)), (.int (3 : Int32))]) (rest := []) rfl rfl (g := (mkF m 23 #[.val (.ref a), .val (.int (0 : Int32)), .val (.int (3 : Int32)), .val (.ref b751), .val (.int (2 : Int32)), .unset] [(.int (3 : Int32)), (.int (0 : Int32)), (.ref a)])) rfl (by rw [hml]; rfl) rfl (hb hby own_d_jdk_52_16_23) (W := 0) rfl (by decide) (by decide) (by decide) (by decide)
  obtain ⟨r_763, kr_764, rfl, M761, K761, z765, F766, F767⟩ := hQ761
  have N761 := Fr.app N755 M761
  refine own_st (fun u_ k_ => st761 u_ k_) ?_
  show own_Go p e below _ (T761.setTop (mkF m 26 #[.val (.ref a), .val (.int (0 : Int32)), .val (.int (3 : Int32)), .val (.ref b751), .val (.int (2 : Int32)), .unset] [(.ref r_763)]))
  refine own_st (fun u_ k_ => XS.astore X761.here hx rfl (hb hby own_d_jdk_52_16_26) rfl rfl (l' := #[.val (.ref a), .val (.int (0 : Int32)), .val (.int (3 : Int32)), .val (.ref b751), .val (.int (2 : Int32)), .val (.ref r_763)]) rfl k_) ?_
  refine own_st (fun u_ k_ => XS.aload X761.here hx rfl (hb hby own_d_jdk_52_16_28) rfl rfl k_) ?_
  show own_Go p e below _ (T761.setTop (mkF m 30 #[.val (.ref a), .val (.int (0 : Int32)), .val (.int (3 : Int32)), .val (.ref b751), .val (.int (2 : Int32)), .val (.ref r_763)] [(.ref r_763)]))
  refine own_st (fun u_ k_ => XS.iload X761.here hx rfl (hb hby own_d_jdk_52_16_30) rfl k_) ?_
  have O769 : Old Z n0 T761.heap := O762.keep K761 all0
  obtain ⟨T768, v768, L768, X768, hQ768, st768⟩ := own_callS X761 hx hZ (y := own_y_81) hown (own_w hw 122 rfl) (own_w hw 123 rfl) (own_w hw 98 rfl) (own_w hw 124 rfl) own_lm_28 (rmGC3_2 l Z a0 hw [] wcs hS r_763 kr_764 ((v0 >>> ((0 : Int32) &&& 31)).toInt8.toInt32) ((v0 >>> ((8 : Int32) &&& 31)).toInt8.toInt32) ((v1 >>> ((0 : Int32) &&& 31)).toInt8.toInt32) ((v1 >>> ((8 : Int32) &&& 31)).toInt8.toInt32) ((v2 >>> ((0 : Int32) &&& 31)).toInt8.toInt32) ((v2 >>> ((8 : Int32) &&& 31)).toInt8.toInt32) T761.heap n0 O769 F767) rfl own_pd_129 (argsL := [(.ref r_763), (.int (2 : Int32))]) (rest := []) rfl rfl (g := (mkF m 32 #[.val (.ref a), .val (.int (0 : Int32)), .val (.int (3 : Int32)), .val (.ref b751), .val (.int (2 : Int32)), .val (.ref r_763)] [(.int (2 : Int32)), (.ref r_763)])) rfl (by rw [hml]; rfl) rfl (hb hby own_d_jdk_52_16_32) (W := 0) rfl (by decide) (by decide) (by decide) (by decide)
  obtain ⟨rfl, M768, e768⟩ := hQ768
  have N768 := Fr.app N761 M768
  refine own_st (fun u_ k_ => st768 u_ k_) ?_
  show own_Go p e below _ (T768.setTop (mkF m 35 #[.val (.ref a), .val (.int (0 : Int32)), .val (.int (3 : Int32)), .val (.ref b751), .val (.int (2 : Int32)), .val (.ref r_763)] [(.int ((((((v2 >>> ((0 : Int32) &&& 31)).toInt8.toInt32) &&& (255 : Int32)) <<< ((0 : Int32) &&& 31)) ||| ((((v2 >>> ((8 : Int32) &&& 31)).toInt8.toInt32) &&& (255 : Int32)) <<< ((8 : Int32) &&& 31))).toUInt32.toUInt16.toUInt32.toInt32))]))
  refine own_st (fun u_ k_ => XS.sipush X768.here hx rfl (hb hby own_d_jdk_52_16_35) k_) ?_
  refine own_st (fun u_ k_ => XS.icmpYes X768.here hx rfl (pc0 := 38) (pc' := 54) rfl (hb hby own_d_jdk_52_16_38) rfl (XT.ii_gt_t (by rw [own_gc _ hv2]; exact hq2)) (by decide) (by decide) k_) ?_
  show own_Go p e below _ (T768.setTop (mkF m 54 #[.val (.ref a), .val (.int (0 : Int32)), .val (.int (3 : Int32)), .val (.ref b751), .val (.int (2 : Int32)), .val (.ref r_763)] []))
  refine own_st (fun u_ k_ => XS.aload X768.here hx rfl (hb hby own_d_jdk_52_16_54) rfl rfl k_) ?_
  have K770 : Keep h0 h751 [] := (Keep.refl h0 []).ext E751
  have z772 : h0.size ≤ b751 := Nat.le_trans (Nat.le_refl _) (Nat.le_of_eq g751.symm)
  have K771 : Keep h0 T755.heap [] := K770.trans K755 (allS (Or.inr z772) all0)
  have K773 : Keep h0 T761.heap [] := K771.trans K761 all0
  have z774 : h0.size ≤ r_763 := Nat.le_trans (Nat.le_trans E751.1 K755.1) z765
  exact own_retX X768 hx hlk hret rfl (Or.inr (Or.inr (Or.inr (Or.inr ⟨rfl, rfl, rfl⟩)))) (hb hby own_d_jdk_52_16_56) (by decide) (by decide) (show QrmCq3_2 Z wcs a ka v0 v1 v2 h0 n0 (some (.ref r_763)) T768.heap _ from (by rw [e768]; exact ⟨r_763, kr_764, rfl, N768, K773, z774, F766, F767⟩))
theorem own_ef_rmS4_3_2 (m : MethodId) (a : Addr) (b : Addr)  : entryFrame m #[(.ref a), (.ref b), (.int (0 : Int32)), (.int (3 : Int32)), .null] 6 = mkF m 0 #[.val (.ref a), .val (.ref b), .val (.int (0 : Int32)), .val (.int (3 : Int32)), .val .null, .unset] [] := by first | (simp [entryFrame, mkF, argsToLocals, Value.category, maxLocals]; done) | rfl
def QrmS4_3_2 (Z : State) (wcs : Int32) (a : Addr) (b : Addr) (kb : ClassId) (v0 : Int32) (v1 : Int32) (v2 : Int32) (h0 : Heap) (n0 : Nat) (v : Option Value) (h : Heap) (L : List Loc) : Prop := ∃ r : Addr, ∃ kr : ClassId, v = none ∧ Fr n0 L ∧ Keep h0 h [a] ∧ h0.size ≤ r ∧ Exa Z h a "java/lang/String" ∧ Fld Z h a "java/lang/String" "value" "[B" (.ref r) ∧ Fld Z h a "java/lang/String" "coder" "B" (.int (1 : Int32)) ∧ Exa Z h r "[B" ∧ Arv Z h r kr .byte (6 : Int32) [(.int ((v0 >>> ((0 : Int32) &&& 31)).toInt8.toInt32)), (.int ((v0 >>> ((8 : Int32) &&& 31)).toInt8.toInt32)), (.int ((v1 >>> ((0 : Int32) &&& 31)).toInt8.toInt32)), (.int ((v1 >>> ((8 : Int32) &&& 31)).toInt8.toInt32)), (.int ((v2 >>> ((0 : Int32) &&& 31)).toInt8.toInt32)), (.int ((v2 >>> ((8 : Int32) &&& 31)).toInt8.toInt32))] (.int (0 : Int32))
set_option maxRecDepth 65536 in
set_option maxHeartbeats 40000000 in
theorem rmS4_3_2 (l : Launch) (Z : State) (a0 : Array Value) (hw : own_H a0 Z) (ws : List Jvm.Cond) (wcs : Int32) (hS : own_S Z wcs) (a : Addr) (b : Addr) (kb : ClassId) (v0 : Int32) (v1 : Int32) (v2 : Int32) (h0 : Heap) (n0 : Nat) (O0 : Old Z n0 h0) (E : Exa Z h0 a "java/lang/String") (Ea : Exa Z h0 b "[C") (ga : n0 ≤ a) (F1 : Fld Z h0 a "java/lang/String" "value" "[B" .null) (F2 : Fld Z h0 a "java/lang/String" "coder" "B" (.int (0 : Int32))) (A1 : Arv Z h0 b kb .char (3 : Int32) [(.int v0), (.int v1), (.int v2)] (.int (0 : Int32))) (hq0 : ¬ (255 : Int32) < v0) (hq1 : ¬ (255 : Int32) < v1) (hq2 : (255 : Int32) < v2) (hv0 : own_C16 v0) (hv1 : own_C16 v1) (hv2 : own_C16 v2) :
    own_Met l own_y_172 jdk_42_method_149_code 6 none ws ({ frames := 4, cells := 2, slots := 9, locals := 57 } : Room) Z h0 #[(.ref a), (.ref b), (.int (0 : Int32)), (.int (3 : Int32)), .null] (QrmS4_3_2 Z wcs a b kb v0 v1 v2 h0 n0) := by
  refine own_body (plainFor_of_name own_pn_173) ?_
  intro p e s m below meth c s₁ hx hby hml hown hnm hret hlk hZ e0 X0
  have N0 := Fr.nil n0
  refine own_st (fun u_ k_ => castTop (own_ef_rmS4_3_2 m a b) k_) ?_
  show own_Go p e below _ (s₁.setTop (mkF m 0 #[.val (.ref a), .val (.ref b), .val (.int (0 : Int32)), .val (.int (3 : Int32)), .val .null, .unset] []))
  refine own_st (fun u_ k_ => XS.aloadN X0.here hx rfl (hb hby own_d_jdk_42_149_0) rfl rfl k_) ?_
  obtain ⟨T775, X775, e775, st775⟩ := initO X0 hx hZ hown (own_w hw 12 rfl) (own_w hw 13 rfl) (own_w hw 14 rfl) e0 (g := (mkF m 1 #[.val (.ref a), .val (.ref b), .val (.int (0 : Int32)), .val (.int (3 : Int32)), .val .null, .unset] [(.ref a)])) rfl (by rw [hml]; rfl) rfl (hb hby own_d_jdk_42_149_1) (by decide) (W := 0) (by show 2 * 0 + _ ≤ _; exact Nat.le_of_eq rfl) (by decide)
  refine own_st (fun u_ k_ => st775 u_ k_) ?_
  show own_Go p e below _ (T775.setTop (mkF m 4 #[.val (.ref a), .val (.ref b), .val (.int (0 : Int32)), .val (.int (3 : Int32)), .val .null, .unset] []))
  refine own_st (fun u_ k_ => XS.iloadN X775.here hx rfl (hb hby own_d_jdk_42_149_4) rfl k_) ?_
  refine own_st (fun u_ k_ => XS.ifYes X775.here hx rfl (pc0 := 5) (pc' := 27) rfl (hb hby own_d_jdk_42_149_5) rfl (XT.i0_ne_t (by decide)) (by decide) (by decide) k_) ?_
  show own_Go p e below _ (T775.setTop (mkF m 27 #[.val (.ref a), .val (.ref b), .val (.int (0 : Int32)), .val (.int (3 : Int32)), .val .null, .unset] []))
  have F776 := Sta.ext O0.2 hS.1
  obtain ⟨T777, X777, e777, st777⟩ := getS2 X775 hx hZ hown (host := "") (Or.inl (own_w hw 90 rfl)) Via.refl e775 F776 (g := (mkF m 27 #[.val (.ref a), .val (.ref b), .val (.int (0 : Int32)), .val (.int (3 : Int32)), .val .null, .unset] [])) rfl (hb hby own_d_jdk_42_149_27)
  refine own_st (fun u_ k_ => st777 u_ k_) ?_
  show own_Go p e below _ (T777.setTop (mkF m 30 #[.val (.ref a), .val (.ref b), .val (.int (0 : Int32)), .val (.int (3 : Int32)), .val .null, .unset] [(.int wcs)]))
  refine own_st (fun u_ k_ => XS.ifNo X777.here hx rfl (hb hby own_d_jdk_42_149_30) rfl (XT.i0_eq_f hS.2.1) k_) ?_
  refine own_st (fun u_ k_ => XS.aloadN X777.here hx rfl (hb hby own_d_jdk_42_149_33) rfl rfl k_) ?_
  show own_Go p e below _ (T777.setTop (mkF m 34 #[.val (.ref a), .val (.ref b), .val (.int (0 : Int32)), .val (.int (3 : Int32)), .val .null, .unset] [(.ref b)]))
  refine own_st (fun u_ k_ => XS.iloadN X777.here hx rfl (hb hby own_d_jdk_42_149_34) rfl k_) ?_
  refine own_st (fun u_ k_ => XS.iloadN X777.here hx rfl (hb hby own_d_jdk_42_149_35) rfl k_) ?_
  show own_Go p e below _ (T777.setTop (mkF m 36 #[.val (.ref a), .val (.ref b), .val (.int (0 : Int32)), .val (.int (3 : Int32)), .val .null, .unset] [(.int (3 : Int32)), (.int (0 : Int32)), (.ref b)]))
  obtain ⟨T778, v778, L778, X778, hQ778, st778⟩ := own_callS X777 hx hZ (y := own_y_134) hown (own_w hw 96 rfl) (own_w hw 97 rfl) (own_w hw 98 rfl) (own_w hw 99 rfl) own_lm_28 (rmCq3_2 l Z a0 hw [] wcs hS b kb v0 v1 v2 h0 n0 O0 Ea A1 (by assumption) (by assumption) (by assumption) (by assumption) (by assumption) (by assumption)) e777 own_pd_124 (argsL := [(.ref b), (.int (0 : Int32)), (.int (3 : Int32))]) (rest := []) rfl rfl (g := (mkF m 36 #[.val (.ref a), .val (.ref b), .val (.int (0 : Int32)), .val (.int (3 : Int32)), .val .null, .unset] [(.int (3 : Int32)), (.int (0 : Int32)), (.ref b)])) rfl (by rw [hml]; rfl) rfl (hb hby own_d_jdk_42_149_36) (W := 0) rfl (by decide) (by decide) (by decide) (by decide)
  obtain ⟨r_779, kr_780, rfl, M778, K778, z781, F782, F783⟩ := hQ778
  have N778 := Fr.app N0 M778
  refine own_st (fun u_ k_ => st778 u_ k_) ?_
  show own_Go p e below _ (T778.setTop (mkF m 39 #[.val (.ref a), .val (.ref b), .val (.int (0 : Int32)), .val (.int (3 : Int32)), .val .null, .unset] [(.ref r_779)]))
  refine own_st (fun u_ k_ => XS.astore X778.here hx rfl (hb hby own_d_jdk_42_149_39) rfl rfl (l' := #[.val (.ref a), .val (.ref b), .val (.int (0 : Int32)), .val (.int (3 : Int32)), .val .null, .val (.ref r_779)]) rfl k_) ?_
  refine own_st (fun u_ k_ => XS.aloadN X778.here hx rfl (hb hby own_d_jdk_42_149_41) rfl rfl k_) ?_
  show own_Go p e below _ (T778.setTop (mkF m 42 #[.val (.ref a), .val (.ref b), .val (.int (0 : Int32)), .val (.int (3 : Int32)), .val .null, .val (.ref r_779)] [(.ref a)]))
  refine own_st (fun u_ k_ => XS.aload X778.here hx rfl (hb hby own_d_jdk_42_149_42) rfl rfl k_) ?_
  refine own_st (fun u_ k_ => XS.iloadN X778.here hx rfl (hb hby own_d_jdk_42_149_44) rfl k_) ?_
  show own_Go p e below _ (T778.setTop (mkF m 45 #[.val (.ref a), .val (.ref b), .val (.int (0 : Int32)), .val (.int (3 : Int32)), .val .null, .val (.ref r_779)] [(.int (3 : Int32)), (.ref r_779), (.ref a)]))
  have O785 : Old Z n0 T778.heap := O0.keep K778 all0
  obtain ⟨T784, v784, L784, X784, hQ784, st784⟩ := own_callS X778 hx hZ (y := own_y_143) hown (own_w hw 103 rfl) (own_w hw 104 rfl) (own_w hw 98 rfl) (own_w hw 105 rfl) own_lm_28 (rmCo3_6 l Z a0 hw [] wcs hS r_779 kr_780 [(.int ((v0 >>> ((0 : Int32) &&& 31)).toInt8.toInt32)), (.int ((v0 >>> ((8 : Int32) &&& 31)).toInt8.toInt32)), (.int ((v1 >>> ((0 : Int32) &&& 31)).toInt8.toInt32)), (.int ((v1 >>> ((8 : Int32) &&& 31)).toInt8.toInt32)), (.int ((v2 >>> ((0 : Int32) &&& 31)).toInt8.toInt32)), (.int ((v2 >>> ((8 : Int32) &&& 31)).toInt8.toInt32))] T778.heap n0 O785 F783) rfl own_pd_160 (argsL := [(.ref r_779), (.int (3 : Int32))]) (rest := [(.ref a)]) rfl rfl (g := (mkF m 45 #[.val (.ref a), .val (.ref b), .val (.int (0 : Int32)), .val (.int (3 : Int32)), .val .null, .val (.ref r_779)] [(.int (3 : Int32)), (.ref r_779), (.ref a)])) rfl (by rw [hml]; rfl) rfl (hb hby own_d_jdk_42_149_45) (W := 1) rfl (by decide) (by decide) (by decide) (by decide)
  obtain ⟨rfl, M784, e784⟩ := hQ784
  have N784 := Fr.app N778 M784
  refine own_st (fun u_ k_ => st784 u_ k_) ?_
  show own_Go p e below _ (T784.setTop (mkF m 48 #[.val (.ref a), .val (.ref b), .val (.int (0 : Int32)), .val (.int (3 : Int32)), .val .null, .val (.ref r_779)] [(.int (1 : Int32)), (.ref a)]))
  have F786 := (E.keep K778)
  have F787 := (F2.keep K778 nin0)
  obtain ⟨T788, h788, X788, e788, W788, st788⟩ := putF X784 hx hZ hown (host := "") (Or.inl (own_w hw 22 rfl)) Via.refl e784 F787 F786 (Or.inr ⟨(own_w hw 18 rfl), rfl, hnm⟩) (own_w hw 2 rfl) (ty := .byte) own_lm_162 rfl rfl (g := (mkF m 48 #[.val (.ref a), .val (.ref b), .val (.int (0 : Int32)), .val (.int (3 : Int32)), .val .null, .val (.ref r_779)] [(.int (1 : Int32)), (.ref a)])) rfl rfl (hb hby own_d_jdk_42_149_48)
  have N788 := Fr.snoc X788 N784 ga
  have F789 : Fld Z h788 a "java/lang/String" "coder" "B" (.int (1 : Int32)) := Fld.same W788 F787
  refine own_st (fun u_ k_ => st788 u_ k_) ?_
  show own_Go p e below _ (T788.setTop (mkF m 51 #[.val (.ref a), .val (.ref b), .val (.int (0 : Int32)), .val (.int (3 : Int32)), .val .null, .val (.ref r_779)] []))
  refine own_st (fun u_ k_ => XS.aloadN X788.here hx rfl (hb hby own_d_jdk_42_149_51) rfl rfl k_) ?_
  refine own_st (fun u_ k_ => XS.aload X788.here hx rfl (hb hby own_d_jdk_42_149_52) rfl rfl k_) ?_
  show own_Go p e below _ (T788.setTop (mkF m 54 #[.val (.ref a), .val (.ref b), .val (.int (0 : Int32)), .val (.int (3 : Int32)), .val .null, .val (.ref r_779)] [(.ref r_779), (.ref a)]))
  have F790 := (Exa.wr W788 F786)
  have F791 := (Fld.other W788 (F1.keep K778 nin0) (Or.inr (own_sn_168 hw)))
  obtain ⟨T792, h792, X792, e792, W792, st792⟩ := putF X788 hx hZ hown (host := "") (Or.inl (own_w hw 21 rfl)) Via.refl e788 F791 F790 (Or.inr ⟨(own_w hw 17 rfl), rfl, hnm⟩) (own_w hw 2 rfl) (ty := (.array .byte)) own_lm_167 rfl rfl (g := (mkF m 54 #[.val (.ref a), .val (.ref b), .val (.int (0 : Int32)), .val (.int (3 : Int32)), .val .null, .val (.ref r_779)] [(.ref r_779), (.ref a)])) rfl rfl (hb hby own_d_jdk_42_149_54)
  have N792 := Fr.snoc X792 N788 ga
  have F793 : Fld Z h792 a "java/lang/String" "value" "[B" (.ref r_779) := Fld.same W792 F791
  refine own_st (fun u_ k_ => st792 u_ k_) ?_
  show own_Go p e below _ (T792.setTop (mkF m 57 #[.val (.ref a), .val (.ref b), .val (.int (0 : Int32)), .val (.int (3 : Int32)), .val .null, .val (.ref r_779)] []))
  have K794 : Keep h0 T778.heap [a] := (Keep.refl h0 [a]).trans K778 all0
  have K795 : Keep h0 h788 [a] := K794.wr W788 (Or.inl (List.mem_of_getElem? (i := 0) rfl))
  have K796 : Keep h0 h792 [a] := K795.wr W792 (Or.inl (List.mem_of_getElem? (i := 0) rfl))
  have z797 : h0.size ≤ r_779 := Nat.le_trans (Nat.le_refl _) z781
  have F798 := (Exa.wr W792 F790)
  have F799 := (Fld.other W792 F789 (Or.inr (own_sn_171 hw)))
  have F800 := (Exa.wr W792 (Exa.wr W788 F782))
  have ne801 : r_779 ≠ a := (Ne.symm (Nat.ne_of_lt (Nat.lt_of_lt_of_le E.lt z781)))
  have F802 := ((F783.other W788 ne801).other W792 ne801)
  exact own_retV X792 hx hlk hret (hb hby own_d_jdk_42_149_57) (by decide) (by decide) (show QrmS4_3_2 Z wcs a b kb v0 v1 v2 h0 n0 none T792.heap _ from (by rw [e792]; exact ⟨r_779, kr_780, rfl, N792, K796, z797, F798, F793, F799, F800, F802⟩))
theorem own_ef_rmCp3_3 (m : MethodId) (a : Addr) (b : Addr)  : entryFrame m #[(.ref a), (.int (0 : Int32)), (.ref b), (.int (0 : Int32)), (.int (3 : Int32))] 7 = mkF m 0 #[.val (.ref a), .val (.int (0 : Int32)), .val (.ref b), .val (.int (0 : Int32)), .val (.int (3 : Int32)), .unset, .unset] [] := by first | (simp [entryFrame, mkF, argsToLocals, Value.category, maxLocals]; done) | rfl
def QrmCp3_3 (Z : State) (wcs : Int32) (a : Addr) (ka : ClassId) (b : Addr) (kb : ClassId) (v0 : Int32) (v1 : Int32) (v2 : Int32) (h0 : Heap) (n0 : Nat) (v : Option Value) (h : Heap) (L : List Loc) : Prop := v = some (.int (3 : Int32)) ∧ Fr n0 L ∧ Keep h0 h [b] ∧ Exa Z h b "[B" ∧ Arv Z h b kb .byte (3 : Int32) [(.int (v0.toInt8.toInt32)), (.int (v1.toInt8.toInt32)), (.int (v2.toInt8.toInt32))] (.int (0 : Int32))
set_option maxRecDepth 65536 in
set_option maxHeartbeats 40000000 in
theorem rmCp3_3 (l : Launch) (Z : State) (a0 : Array Value) (hw : own_H a0 Z) (ws : List Jvm.Cond) (wcs : Int32) (hS : own_S Z wcs) (a : Addr) (ka : ClassId) (b : Addr) (kb : ClassId) (v0 : Int32) (v1 : Int32) (v2 : Int32) (h0 : Heap) (n0 : Nat) (O0 : Old Z n0 h0) (Ea : Exa Z h0 a "[C") (Eb : Exa Z h0 b "[B") (gb : n0 ≤ b) (A1 : Arv Z h0 a ka .char (3 : Int32) [(.int v0), (.int v1), (.int v2)] (.int (0 : Int32))) (A2 : Arv Z h0 b kb .byte (3 : Int32) [(.int (0 : Int32)), (.int (0 : Int32)), (.int (0 : Int32))] (.int (0 : Int32))) (hq0 : ¬ (255 : Int32) < v0) (hq1 : ¬ (255 : Int32) < v1) (hq2 : ¬ (255 : Int32) < v2) :
    own_Met l own_y_14 jdk_52_method_21_code 7 (some .int) ws ({ frames := 0, cells := 0, slots := 0, locals := 0 } : Room) Z h0 #[(.ref a), (.int (0 : Int32)), (.ref b), (.int (0 : Int32)), (.int (3 : Int32))] (QrmCp3_3 Z wcs a ka b kb v0 v1 v2 h0 n0) := by
  refine own_body (plainFor_of_name own_pn_15) ?_
  intro p e s m below meth c s₁ hx hby hml hown hnm hret hlk hZ e0 X0
  have N0 := Fr.nil n0
  refine own_st (fun u_ k_ => castTop (own_ef_rmCp3_3 m a b) k_) ?_
  show own_Go p e below _ (s₁.setTop (mkF m 0 #[.val (.ref a), .val (.int (0 : Int32)), .val (.ref b), .val (.int (0 : Int32)), .val (.int (3 : Int32)), .unset, .unset] []))
  refine own_st (fun u_ k_ => XS.iconst X0.here hx rfl (hb hby own_d_jdk_52_21_0) k_) ?_
  refine own_st (fun u_ k_ => XS.istore X0.here hx rfl (hb hby own_d_jdk_52_21_1) rfl (l' := #[.val (.ref a), .val (.int (0 : Int32)), .val (.ref b), .val (.int (0 : Int32)), .val (.int (3 : Int32)), .val (.int (0 : Int32)), .unset]) rfl k_) ?_
  show own_Go p e below _ (s₁.setTop (mkF m 3 #[.val (.ref a), .val (.int (0 : Int32)), .val (.ref b), .val (.int (0 : Int32)), .val (.int (3 : Int32)), .val (.int (0 : Int32)), .unset] []))
  refine own_st (fun u_ k_ => XS.iload X0.here hx rfl (hb hby own_d_jdk_52_21_3) rfl k_) ?_
  refine own_st (fun u_ k_ => XS.iload X0.here hx rfl (hb hby own_d_jdk_52_21_5) rfl k_) ?_
  show own_Go p e below _ (s₁.setTop (mkF m 7 #[.val (.ref a), .val (.int (0 : Int32)), .val (.ref b), .val (.int (0 : Int32)), .val (.int (3 : Int32)), .val (.int (0 : Int32)), .unset] [(.int (3 : Int32)), (.int (0 : Int32))]))
  refine own_st (fun u_ k_ => XS.icmpNo X0.here hx rfl (hb hby own_d_jdk_52_21_7) rfl (XT.ii_ge_f (by decide)) k_) ?_
  refine own_st (fun u_ k_ => XS.aloadN X0.here hx rfl (hb hby own_d_jdk_52_21_10) rfl rfl k_) ?_
  show own_Go p e below _ (s₁.setTop (mkF m 11 #[.val (.ref a), .val (.int (0 : Int32)), .val (.ref b), .val (.int (0 : Int32)), .val (.int (3 : Int32)), .val (.int (0 : Int32)), .unset] [(.ref a)]))
  refine own_st (fun u_ k_ => XS.iloadN X0.here hx rfl (hb hby own_d_jdk_52_21_11) rfl k_) ?_
  obtain ⟨cl815, Ar815, q815, S815, N815, H815, G815⟩ := id A1
  have hi815 : ¬ ((0 : Int32) < 0 ∨ cl815.slots.size ≤ ((0 : Int32)).toNatClampNeg) := inb_of S815 ⟨by decide, by decide⟩
  have ha815 : cl815.slots[((0 : Int32)).toNatClampNeg]? = some (.int v0) := H815.at hi815 rfl
  refine own_st (X0.caload hx (j := (0 : Int32)) (v := (.int v0)) (by rw [e0]; exact Ar815.1) (State.isArrayOf_alike hZ.alike Ar815.2.1) Ar815.2.2 hi815 ha815 (g := (mkF m 12 #[.val (.ref a), .val (.int (0 : Int32)), .val (.ref b), .val (.int (0 : Int32)), .val (.int (3 : Int32)), .val (.int (0 : Int32)), .unset] [(.int (0 : Int32)), (.ref a)])) rfl rfl (hb hby own_d_jdk_52_21_12)) ?_
  show own_Go p e below _ (s₁.setTop (mkF m 13 #[.val (.ref a), .val (.int (0 : Int32)), .val (.ref b), .val (.int (0 : Int32)), .val (.int (3 : Int32)), .val (.int (0 : Int32)), .unset] [(.int v0)]))
  refine own_st (fun u_ k_ => XS.istore X0.here hx rfl (hb hby own_d_jdk_52_21_13) rfl (l' := #[.val (.ref a), .val (.int (0 : Int32)), .val (.ref b), .val (.int (0 : Int32)), .val (.int (3 : Int32)), .val (.int (0 : Int32)), .val (.int v0)]) rfl k_) ?_
  show own_Go p e below _ (s₁.setTop (mkF m 15 #[.val (.ref a), .val (.int (0 : Int32)), .val (.ref b), .val (.int (0 : Int32)), .val (.int (3 : Int32)), .val (.int (0 : Int32)), .val (.int v0)] []))
  refine own_st (fun u_ k_ => XS.iload X0.here hx rfl (hb hby own_d_jdk_52_21_15) rfl k_) ?_
  refine own_st (fun u_ k_ => XS.sipush X0.here hx rfl (hb hby own_d_jdk_52_21_17) k_) ?_
  show own_Go p e below _ (s₁.setTop (mkF m 20 #[.val (.ref a), .val (.int (0 : Int32)), .val (.ref b), .val (.int (0 : Int32)), .val (.int (3 : Int32)), .val (.int (0 : Int32)), .val (.int v0)] [(.int (255 : Int32)), (.int v0)]))
  refine own_st (fun u_ k_ => XS.icmpYes X0.here hx rfl (pc0 := 20) (pc' := 26) rfl (hb hby own_d_jdk_52_21_20) rfl (XT.ii_le_t hq0) (by decide) (by decide) k_) ?_
  refine own_st (fun u_ k_ => XS.aloadN X0.here hx rfl (hb hby own_d_jdk_52_21_26) rfl rfl k_) ?_
  show own_Go p e below _ (s₁.setTop (mkF m 27 #[.val (.ref a), .val (.int (0 : Int32)), .val (.ref b), .val (.int (0 : Int32)), .val (.int (3 : Int32)), .val (.int (0 : Int32)), .val (.int v0)] [(.ref b)]))
  refine own_st (fun u_ k_ => XS.iloadN X0.here hx rfl (hb hby own_d_jdk_52_21_27) rfl k_) ?_
  refine own_st (fun u_ k_ => XS.iload X0.here hx rfl (hb hby own_d_jdk_52_21_28) rfl k_) ?_
  show own_Go p e below _ (s₁.setTop (mkF m 30 #[.val (.ref a), .val (.int (0 : Int32)), .val (.ref b), .val (.int (0 : Int32)), .val (.int (3 : Int32)), .val (.int (0 : Int32)), .val (.int v0)] [(.int v0), (.int (0 : Int32)), (.ref b)]))
  refine own_st (fun u_ k_ => XS.i2b X0.here hx rfl (hb hby own_d_jdk_52_21_30) rfl k_) ?_
  obtain ⟨cl816, Ar816, q816, S816, N816, H816, G816⟩ := id A2
  have hi816 : ¬ ((0 : Int32) < 0 ∨ cl816.slots.size ≤ ((0 : Int32)).toNatClampNeg) := inb_of S816 ⟨by decide, by decide⟩
  obtain ⟨T817, h817, X817, e817, W817, st817⟩ := stB X0 hx hZ e0 Ar816 (j := (0 : Int32)) hi816 (g := (mkF m 31 #[.val (.ref a), .val (.int (0 : Int32)), .val (.ref b), .val (.int (0 : Int32)), .val (.int (3 : Int32)), .val (.int (0 : Int32)), .val (.int v0)] [(.int (v0.toInt8.toInt32)), (.int (0 : Int32)), (.ref b)])) rfl rfl (hb hby own_d_jdk_52_21_31)
  rw [own_bb] at W817
  have N817 := Fr.snoc X817 N0 gb
  have V817 : Arv Z h817 b kb .byte (3 : Int32) [(.int (v0.toInt8.toInt32)), (.int (0 : Int32)), (.int (0 : Int32))] (.int (0 : Int32)) := Arv.set Ar816 q816 S816 N816 H816 G816 (fits_nar_byte _) W817 0 rfl (Nat.le_of_ble_eq_true rfl)
  refine own_st (fun u_ k_ => st817 u_ k_) ?_
  show own_Go p e below _ (T817.setTop (mkF m 32 #[.val (.ref a), .val (.int (0 : Int32)), .val (.ref b), .val (.int (0 : Int32)), .val (.int (3 : Int32)), .val (.int (0 : Int32)), .val (.int v0)] []))
  refine own_st (fun u_ k_ => XS.iinc X817.here hx rfl (hb hby own_d_jdk_52_21_32) rfl (l' := #[.val (.ref a), .val (.int (1 : Int32)), .val (.ref b), .val (.int (0 : Int32)), .val (.int (3 : Int32)), .val (.int (0 : Int32)), .val (.int v0)]) rfl k_) ?_
  refine own_st (fun u_ k_ => XS.iinc X817.here hx rfl (hb hby own_d_jdk_52_21_35) rfl (l' := #[.val (.ref a), .val (.int (1 : Int32)), .val (.ref b), .val (.int (1 : Int32)), .val (.int (3 : Int32)), .val (.int (0 : Int32)), .val (.int v0)]) rfl k_) ?_
  show own_Go p e below _ (T817.setTop (mkF m 38 #[.val (.ref a), .val (.int (1 : Int32)), .val (.ref b), .val (.int (1 : Int32)), .val (.int (3 : Int32)), .val (.int (0 : Int32)), .val (.int v0)] []))
  refine own_st (fun u_ k_ => XS.iinc X817.here hx rfl (hb hby own_d_jdk_52_21_38) rfl (l' := #[.val (.ref a), .val (.int (1 : Int32)), .val (.ref b), .val (.int (1 : Int32)), .val (.int (3 : Int32)), .val (.int (1 : Int32)), .val (.int v0)]) rfl k_) ?_
  refine own_st (fun u_ k_ => XS.goto X817.here hx rfl (pc0 := 41) (pc' := 3) rfl (hb hby own_d_jdk_52_21_41) (by decide) (by decide) k_) ?_
  show own_Go p e below _ (T817.setTop (mkF m 3 #[.val (.ref a), .val (.int (1 : Int32)), .val (.ref b), .val (.int (1 : Int32)), .val (.int (3 : Int32)), .val (.int (1 : Int32)), .val (.int v0)] []))
  refine own_st (fun u_ k_ => XS.iload X817.here hx rfl (hb hby own_d_jdk_52_21_3) rfl k_) ?_
  refine own_st (fun u_ k_ => XS.iload X817.here hx rfl (hb hby own_d_jdk_52_21_5) rfl k_) ?_
  show own_Go p e below _ (T817.setTop (mkF m 7 #[.val (.ref a), .val (.int (1 : Int32)), .val (.ref b), .val (.int (1 : Int32)), .val (.int (3 : Int32)), .val (.int (1 : Int32)), .val (.int v0)] [(.int (3 : Int32)), (.int (1 : Int32))]))
  refine own_st (fun u_ k_ => XS.icmpNo X817.here hx rfl (hb hby own_d_jdk_52_21_7) rfl (XT.ii_ge_f (by decide)) k_) ?_
  refine own_st (fun u_ k_ => XS.aloadN X817.here hx rfl (hb hby own_d_jdk_52_21_10) rfl rfl k_) ?_
  show own_Go p e below _ (T817.setTop (mkF m 11 #[.val (.ref a), .val (.int (1 : Int32)), .val (.ref b), .val (.int (1 : Int32)), .val (.int (3 : Int32)), .val (.int (1 : Int32)), .val (.int v0)] [(.ref a)]))
  refine own_st (fun u_ k_ => XS.iloadN X817.here hx rfl (hb hby own_d_jdk_52_21_11) rfl k_) ?_
  have ne818 : a ≠ b := (ne_exa Ea Eb own_lm_202)
  have F819 := (A1.other W817 ne818)
  obtain ⟨cl820, Ar820, q820, S820, N820, H820, G820⟩ := id F819
  have hi820 : ¬ ((1 : Int32) < 0 ∨ cl820.slots.size ≤ ((1 : Int32)).toNatClampNeg) := inb_of S820 ⟨by decide, by decide⟩
  have ha820 : cl820.slots[((1 : Int32)).toNatClampNeg]? = some (.int v1) := H820.at hi820 rfl
  refine own_st (X817.caload hx (j := (1 : Int32)) (v := (.int v1)) (by rw [e817]; exact Ar820.1) (State.isArrayOf_alike hZ.alike Ar820.2.1) Ar820.2.2 hi820 ha820 (g := (mkF m 12 #[.val (.ref a), .val (.int (1 : Int32)), .val (.ref b), .val (.int (1 : Int32)), .val (.int (3 : Int32)), .val (.int (1 : Int32)), .val (.int v0)] [(.int (1 : Int32)), (.ref a)])) rfl rfl (hb hby own_d_jdk_52_21_12)) ?_
  show own_Go p e below _ (T817.setTop (mkF m 13 #[.val (.ref a), .val (.int (1 : Int32)), .val (.ref b), .val (.int (1 : Int32)), .val (.int (3 : Int32)), .val (.int (1 : Int32)), .val (.int v0)] [(.int v1)]))
  refine own_st (fun u_ k_ => XS.istore X817.here hx rfl (hb hby own_d_jdk_52_21_13) rfl (l' := #[.val (.ref a), .val (.int (1 : Int32)), .val (.ref b), .val (.int (1 : Int32)), .val (.int (3 : Int32)), .val (.int (1 : Int32)), .val (.int v1)]) rfl k_) ?_
  show own_Go p e below _ (T817.setTop (mkF m 15 #[.val (.ref a), .val (.int (1 : Int32)), .val (.ref b), .val (.int (1 : Int32)), .val (.int (3 : Int32)), .val (.int (1 : Int32)), .val (.int v1)] []))
  refine own_st (fun u_ k_ => XS.iload X817.here hx rfl (hb hby own_d_jdk_52_21_15) rfl k_) ?_
  refine own_st (fun u_ k_ => XS.sipush X817.here hx rfl (hb hby own_d_jdk_52_21_17) k_) ?_
  show own_Go p e below _ (T817.setTop (mkF m 20 #[.val (.ref a), .val (.int (1 : Int32)), .val (.ref b), .val (.int (1 : Int32)), .val (.int (3 : Int32)), .val (.int (1 : Int32)), .val (.int v1)] [(.int (255 : Int32)), (.int v1)]))
  refine own_st (fun u_ k_ => XS.icmpYes X817.here hx rfl (pc0 := 20) (pc' := 26) rfl (hb hby own_d_jdk_52_21_20) rfl (XT.ii_le_t hq1) (by decide) (by decide) k_) ?_
  refine own_st (fun u_ k_ => XS.aloadN X817.here hx rfl (hb hby own_d_jdk_52_21_26) rfl rfl k_) ?_
  show own_Go p e below _ (T817.setTop (mkF m 27 #[.val (.ref a), .val (.int (1 : Int32)), .val (.ref b), .val (.int (1 : Int32)), .val (.int (3 : Int32)), .val (.int (1 : Int32)), .val (.int v1)] [(.ref b)]))
  refine own_st (fun u_ k_ => XS.iloadN X817.here hx rfl (hb hby own_d_jdk_52_21_27) rfl k_) ?_
  refine own_st (fun u_ k_ => XS.iload X817.here hx rfl (hb hby own_d_jdk_52_21_28) rfl k_) ?_
  show own_Go p e below _ (T817.setTop (mkF m 30 #[.val (.ref a), .val (.int (1 : Int32)), .val (.ref b), .val (.int (1 : Int32)), .val (.int (3 : Int32)), .val (.int (1 : Int32)), .val (.int v1)] [(.int v1), (.int (1 : Int32)), (.ref b)]))
  refine own_st (fun u_ k_ => XS.i2b X817.here hx rfl (hb hby own_d_jdk_52_21_30) rfl k_) ?_
  obtain ⟨cl821, Ar821, q821, S821, N821, H821, G821⟩ := id V817
  have hi821 : ¬ ((1 : Int32) < 0 ∨ cl821.slots.size ≤ ((1 : Int32)).toNatClampNeg) := inb_of S821 ⟨by decide, by decide⟩
  obtain ⟨T822, h822, X822, e822, W822, st822⟩ := stB X817 hx hZ e817 Ar821 (j := (1 : Int32)) hi821 (g := (mkF m 31 #[.val (.ref a), .val (.int (1 : Int32)), .val (.ref b), .val (.int (1 : Int32)), .val (.int (3 : Int32)), .val (.int (1 : Int32)), .val (.int v1)] [(.int (v1.toInt8.toInt32)), (.int (1 : Int32)), (.ref b)])) rfl rfl (hb hby own_d_jdk_52_21_31)
  rw [own_bb] at W822
  have N822 := Fr.snoc X822 N817 gb
  have V822 : Arv Z h822 b kb .byte (3 : Int32) [(.int (v0.toInt8.toInt32)), (.int (v1.toInt8.toInt32)), (.int (0 : Int32))] (.int (0 : Int32)) := Arv.set Ar821 q821 S821 N821 H821 G821 (fits_nar_byte _) W822 1 rfl (Nat.le_of_ble_eq_true rfl)
  refine own_st (fun u_ k_ => st822 u_ k_) ?_
  show own_Go p e below _ (T822.setTop (mkF m 32 #[.val (.ref a), .val (.int (1 : Int32)), .val (.ref b), .val (.int (1 : Int32)), .val (.int (3 : Int32)), .val (.int (1 : Int32)), .val (.int v1)] []))
  refine own_st (fun u_ k_ => XS.iinc X822.here hx rfl (hb hby own_d_jdk_52_21_32) rfl (l' := #[.val (.ref a), .val (.int (2 : Int32)), .val (.ref b), .val (.int (1 : Int32)), .val (.int (3 : Int32)), .val (.int (1 : Int32)), .val (.int v1)]) rfl k_) ?_
  refine own_st (fun u_ k_ => XS.iinc X822.here hx rfl (hb hby own_d_jdk_52_21_35) rfl (l' := #[.val (.ref a), .val (.int (2 : Int32)), .val (.ref b), .val (.int (2 : Int32)), .val (.int (3 : Int32)), .val (.int (1 : Int32)), .val (.int v1)]) rfl k_) ?_
  show own_Go p e below _ (T822.setTop (mkF m 38 #[.val (.ref a), .val (.int (2 : Int32)), .val (.ref b), .val (.int (2 : Int32)), .val (.int (3 : Int32)), .val (.int (1 : Int32)), .val (.int v1)] []))
  refine own_st (fun u_ k_ => XS.iinc X822.here hx rfl (hb hby own_d_jdk_52_21_38) rfl (l' := #[.val (.ref a), .val (.int (2 : Int32)), .val (.ref b), .val (.int (2 : Int32)), .val (.int (3 : Int32)), .val (.int (2 : Int32)), .val (.int v1)]) rfl k_) ?_
  refine own_st (fun u_ k_ => XS.goto X822.here hx rfl (pc0 := 41) (pc' := 3) rfl (hb hby own_d_jdk_52_21_41) (by decide) (by decide) k_) ?_
  show own_Go p e below _ (T822.setTop (mkF m 3 #[.val (.ref a), .val (.int (2 : Int32)), .val (.ref b), .val (.int (2 : Int32)), .val (.int (3 : Int32)), .val (.int (2 : Int32)), .val (.int v1)] []))
  refine own_st (fun u_ k_ => XS.iload X822.here hx rfl (hb hby own_d_jdk_52_21_3) rfl k_) ?_
  refine own_st (fun u_ k_ => XS.iload X822.here hx rfl (hb hby own_d_jdk_52_21_5) rfl k_) ?_
  show own_Go p e below _ (T822.setTop (mkF m 7 #[.val (.ref a), .val (.int (2 : Int32)), .val (.ref b), .val (.int (2 : Int32)), .val (.int (3 : Int32)), .val (.int (2 : Int32)), .val (.int v1)] [(.int (3 : Int32)), (.int (2 : Int32))]))
  refine own_st (fun u_ k_ => XS.icmpNo X822.here hx rfl (hb hby own_d_jdk_52_21_7) rfl (XT.ii_ge_f (by decide)) k_) ?_
  refine own_st (fun u_ k_ => XS.aloadN X822.here hx rfl (hb hby own_d_jdk_52_21_10) rfl rfl k_) ?_
  show own_Go p e below _ (T822.setTop (mkF m 11 #[.val (.ref a), .val (.int (2 : Int32)), .val (.ref b), .val (.int (2 : Int32)), .val (.int (3 : Int32)), .val (.int (2 : Int32)), .val (.int v1)] [(.ref a)]))
  refine own_st (fun u_ k_ => XS.iloadN X822.here hx rfl (hb hby own_d_jdk_52_21_11) rfl k_) ?_
  have F823 := (F819.other W822 ne818)
  obtain ⟨cl824, Ar824, q824, S824, N824, H824, G824⟩ := id F823
  have hi824 : ¬ ((2 : Int32) < 0 ∨ cl824.slots.size ≤ ((2 : Int32)).toNatClampNeg) := inb_of S824 ⟨by decide, by decide⟩
  have ha824 : cl824.slots[((2 : Int32)).toNatClampNeg]? = some (.int v2) := H824.at hi824 rfl
  refine own_st (X822.caload hx (j := (2 : Int32)) (v := (.int v2)) (by rw [e822]; exact Ar824.1) (State.isArrayOf_alike hZ.alike Ar824.2.1) Ar824.2.2 hi824 ha824 (g := (mkF m 12 #[.val (.ref a), .val (.int (2 : Int32)), .val (.ref b), .val (.int (2 : Int32)), .val (.int (3 : Int32)), .val (.int (2 : Int32)), .val (.int v1)] [(.int (2 : Int32)), (.ref a)])) rfl rfl (hb hby own_d_jdk_52_21_12)) ?_
  show own_Go p e below _ (T822.setTop (mkF m 13 #[.val (.ref a), .val (.int (2 : Int32)), .val (.ref b), .val (.int (2 : Int32)), .val (.int (3 : Int32)), .val (.int (2 : Int32)), .val (.int v1)] [(.int v2)]))
  refine own_st (fun u_ k_ => XS.istore X822.here hx rfl (hb hby own_d_jdk_52_21_13) rfl (l' := #[.val (.ref a), .val (.int (2 : Int32)), .val (.ref b), .val (.int (2 : Int32)), .val (.int (3 : Int32)), .val (.int (2 : Int32)), .val (.int v2)]) rfl k_) ?_
  show own_Go p e below _ (T822.setTop (mkF m 15 #[.val (.ref a), .val (.int (2 : Int32)), .val (.ref b), .val (.int (2 : Int32)), .val (.int (3 : Int32)), .val (.int (2 : Int32)), .val (.int v2)] []))
  refine own_st (fun u_ k_ => XS.iload X822.here hx rfl (hb hby own_d_jdk_52_21_15) rfl k_) ?_
  refine own_st (fun u_ k_ => XS.sipush X822.here hx rfl (hb hby own_d_jdk_52_21_17) k_) ?_
  show own_Go p e below _ (T822.setTop (mkF m 20 #[.val (.ref a), .val (.int (2 : Int32)), .val (.ref b), .val (.int (2 : Int32)), .val (.int (3 : Int32)), .val (.int (2 : Int32)), .val (.int v2)] [(.int (255 : Int32)), (.int v2)]))
  refine own_st (fun u_ k_ => XS.icmpYes X822.here hx rfl (pc0 := 20) (pc' := 26) rfl (hb hby own_d_jdk_52_21_20) rfl (XT.ii_le_t hq2) (by decide) (by decide) k_) ?_
  refine own_st (fun u_ k_ => XS.aloadN X822.here hx rfl (hb hby own_d_jdk_52_21_26) rfl rfl k_) ?_
  show own_Go p e below _ (T822.setTop (mkF m 27 #[.val (.ref a), .val (.int (2 : Int32)), .val (.ref b), .val (.int (2 : Int32)), .val (.int (3 : Int32)), .val (.int (2 : Int32)), .val (.int v2)] [(.ref b)]))
  refine own_st (fun u_ k_ => XS.iloadN X822.here hx rfl (hb hby own_d_jdk_52_21_27) rfl k_) ?_
  refine own_st (fun u_ k_ => XS.iload X822.here hx rfl (hb hby own_d_jdk_52_21_28) rfl k_) ?_
  show own_Go p e below _ (T822.setTop (mkF m 30 #[.val (.ref a), .val (.int (2 : Int32)), .val (.ref b), .val (.int (2 : Int32)), .val (.int (3 : Int32)), .val (.int (2 : Int32)), .val (.int v2)] [(.int v2), (.int (2 : Int32)), (.ref b)]))
  refine own_st (fun u_ k_ => XS.i2b X822.here hx rfl (hb hby own_d_jdk_52_21_30) rfl k_) ?_
  obtain ⟨cl825, Ar825, q825, S825, N825, H825, G825⟩ := id V822
  have hi825 : ¬ ((2 : Int32) < 0 ∨ cl825.slots.size ≤ ((2 : Int32)).toNatClampNeg) := inb_of S825 ⟨by decide, by decide⟩
  obtain ⟨T826, h826, X826, e826, W826, st826⟩ := stB X822 hx hZ e822 Ar825 (j := (2 : Int32)) hi825 (g := (mkF m 31 #[.val (.ref a), .val (.int (2 : Int32)), .val (.ref b), .val (.int (2 : Int32)), .val (.int (3 : Int32)), .val (.int (2 : Int32)), .val (.int v2)] [(.int (v2.toInt8.toInt32)), (.int (2 : Int32)), (.ref b)])) rfl rfl (hb hby own_d_jdk_52_21_31)
  rw [own_bb] at W826
  have N826 := Fr.snoc X826 N822 gb
  have V826 : Arv Z h826 b kb .byte (3 : Int32) [(.int (v0.toInt8.toInt32)), (.int (v1.toInt8.toInt32)), (.int (v2.toInt8.toInt32))] (.int (0 : Int32)) := Arv.set Ar825 q825 S825 N825 H825 G825 (fits_nar_byte _) W826 2 rfl (Nat.le_of_ble_eq_true rfl)
  refine own_st (fun u_ k_ => st826 u_ k_) ?_
  show own_Go p e below _ (T826.setTop (mkF m 32 #[.val (.ref a), .val (.int (2 : Int32)), .val (.ref b), .val (.int (2 : Int32)), .val (.int (3 : Int32)), .val (.int (2 : Int32)), .val (.int v2)] []))
  refine own_st (fun u_ k_ => XS.iinc X826.here hx rfl (hb hby own_d_jdk_52_21_32) rfl (l' := #[.val (.ref a), .val (.int (3 : Int32)), .val (.ref b), .val (.int (2 : Int32)), .val (.int (3 : Int32)), .val (.int (2 : Int32)), .val (.int v2)]) rfl k_) ?_
  refine own_st (fun u_ k_ => XS.iinc X826.here hx rfl (hb hby own_d_jdk_52_21_35) rfl (l' := #[.val (.ref a), .val (.int (3 : Int32)), .val (.ref b), .val (.int (3 : Int32)), .val (.int (3 : Int32)), .val (.int (2 : Int32)), .val (.int v2)]) rfl k_) ?_
  show own_Go p e below _ (T826.setTop (mkF m 38 #[.val (.ref a), .val (.int (3 : Int32)), .val (.ref b), .val (.int (3 : Int32)), .val (.int (3 : Int32)), .val (.int (2 : Int32)), .val (.int v2)] []))
  refine own_st (fun u_ k_ => XS.iinc X826.here hx rfl (hb hby own_d_jdk_52_21_38) rfl (l' := #[.val (.ref a), .val (.int (3 : Int32)), .val (.ref b), .val (.int (3 : Int32)), .val (.int (3 : Int32)), .val (.int (3 : Int32)), .val (.int v2)]) rfl k_) ?_
  refine own_st (fun u_ k_ => XS.goto X826.here hx rfl (pc0 := 41) (pc' := 3) rfl (hb hby own_d_jdk_52_21_41) (by decide) (by decide) k_) ?_
  show own_Go p e below _ (T826.setTop (mkF m 3 #[.val (.ref a), .val (.int (3 : Int32)), .val (.ref b), .val (.int (3 : Int32)), .val (.int (3 : Int32)), .val (.int (3 : Int32)), .val (.int v2)] []))
  refine own_st (fun u_ k_ => XS.iload X826.here hx rfl (hb hby own_d_jdk_52_21_3) rfl k_) ?_
  refine own_st (fun u_ k_ => XS.iload X826.here hx rfl (hb hby own_d_jdk_52_21_5) rfl k_) ?_
  show own_Go p e below _ (T826.setTop (mkF m 7 #[.val (.ref a), .val (.int (3 : Int32)), .val (.ref b), .val (.int (3 : Int32)), .val (.int (3 : Int32)), .val (.int (3 : Int32)), .val (.int v2)] [(.int (3 : Int32)), (.int (3 : Int32))]))
  refine own_st (fun u_ k_ => XS.icmpYes X826.here hx rfl (pc0 := 7) (pc' := 44) rfl (hb hby own_d_jdk_52_21_7) rfl (XT.ii_ge_t (by decide)) (by decide) (by decide) k_) ?_
  refine own_st (fun u_ k_ => XS.iload X826.here hx rfl (hb hby own_d_jdk_52_21_44) rfl k_) ?_
  show own_Go p e below _ (T826.setTop (mkF m 46 #[.val (.ref a), .val (.int (3 : Int32)), .val (.ref b), .val (.int (3 : Int32)), .val (.int (3 : Int32)), .val (.int (3 : Int32)), .val (.int v2)] [(.int (3 : Int32))]))
  have K827 : Keep h0 h817 [b] := (Keep.refl h0 [b]).wr W817 (Or.inl (List.mem_of_getElem? (i := 0) rfl))
  have K828 : Keep h0 h822 [b] := K827.wr W822 (Or.inl (List.mem_of_getElem? (i := 0) rfl))
  have K829 : Keep h0 h826 [b] := K828.wr W826 (Or.inl (List.mem_of_getElem? (i := 0) rfl))
  have F830 := (Exa.wr W826 (Exa.wr W822 (Exa.wr W817 Eb)))
  exact own_retX X826 hx hlk hret rfl (Or.inl ⟨rfl, by simp, _, rfl⟩) (hb hby own_d_jdk_52_21_46) (by decide) (by decide) (show QrmCp3_3 Z wcs a ka b kb v0 v1 v2 h0 n0 (some (.int (3 : Int32))) T826.heap _ from (by rw [e826]; exact ⟨rfl, N826, K829, F830, V826⟩))
theorem own_ef_rmCq3_3 (m : MethodId) (a : Addr)  : entryFrame m #[(.ref a), (.int (0 : Int32)), (.int (3 : Int32))] 6 = mkF m 0 #[.val (.ref a), .val (.int (0 : Int32)), .val (.int (3 : Int32)), .unset, .unset, .unset] [] := by first | (simp [entryFrame, mkF, argsToLocals, Value.category, maxLocals]; done) | rfl
def QrmCq3_3 (Z : State) (wcs : Int32) (a : Addr) (ka : ClassId) (v0 : Int32) (v1 : Int32) (v2 : Int32) (h0 : Heap) (n0 : Nat) (v : Option Value) (h : Heap) (L : List Loc) : Prop := ∃ r : Addr, ∃ kr : ClassId, v = some (.ref r) ∧ Fr n0 L ∧ Keep h0 h [] ∧ h0.size ≤ r ∧ Exa Z h r "[B" ∧ Arv Z h r kr .byte (3 : Int32) [(.int (v0.toInt8.toInt32)), (.int (v1.toInt8.toInt32)), (.int (v2.toInt8.toInt32))] (.int (0 : Int32))
set_option maxRecDepth 65536 in
set_option maxHeartbeats 40000000 in
theorem rmCq3_3 (l : Launch) (Z : State) (a0 : Array Value) (hw : own_H a0 Z) (ws : List Jvm.Cond) (wcs : Int32) (hS : own_S Z wcs) (a : Addr) (ka : ClassId) (v0 : Int32) (v1 : Int32) (v2 : Int32) (h0 : Heap) (n0 : Nat) (O0 : Old Z n0 h0) (Ea : Exa Z h0 a "[C") (A1 : Arv Z h0 a ka .char (3 : Int32) [(.int v0), (.int v1), (.int v2)] (.int (0 : Int32))) (hq0 : ¬ (255 : Int32) < v0) (hq1 : ¬ (255 : Int32) < v1) (hq2 : ¬ (255 : Int32) < v2) :
    own_Met l own_y_134 jdk_52_method_16_code 6 (some (.array .byte)) ws ({ frames := 1, cells := 1, slots := 3, locals := 18 } : Room) Z h0 #[(.ref a), (.int (0 : Int32)), (.int (3 : Int32))] (QrmCq3_3 Z wcs a ka v0 v1 v2 h0 n0) := by
  refine own_body (plainFor_of_name own_pn_15) ?_
  intro p e s m below meth c s₁ hx hby hml hown hnm hret hlk hZ e0 X0
  have N0 := Fr.nil n0
  refine own_st (fun u_ k_ => castTop (own_ef_rmCq3_3 m a) k_) ?_
  show own_Go p e below _ (s₁.setTop (mkF m 0 #[.val (.ref a), .val (.int (0 : Int32)), .val (.int (3 : Int32)), .unset, .unset, .unset] []))
  refine own_st (fun u_ k_ => XS.iloadN X0.here hx rfl (hb hby own_d_jdk_52_16_0) rfl k_) ?_
  obtain ⟨T831, h831, k831, X831, e831, E831, A831, Y831, st831⟩ := newPE X0 hx hZ (own_w hw 16 rfl) e0 (g := (mkF m 1 #[.val (.ref a), .val (.int (0 : Int32)), .val (.int (3 : Int32)), .unset, .unset, .unset] [(.int (3 : Int32))])) rfl (hb hby own_d_jdk_52_16_1) rfl (by decide) (cap := 3) (by decide) (by decide) (by decide) (by decide) (ad := "[B") own_lm_31
  obtain ⟨b831, g831⟩ : ∃ z, z = h0.size := ⟨_, rfl⟩
  rw [← g831] at A831 Y831 st831
  have V831 : Arv Z h831 b831 k831 .byte (3 : Int32) [(.int (0 : Int32)), (.int (0 : Int32)), (.int (0 : Int32))] (.int (0 : Int32)) := (Arv.new A831 (by decide)).pad (pad_rep [] (.int (0 : Int32)) 3)
  refine own_st (fun u_ k_ => st831 u_ k_) ?_
  show own_Go p e below _ (T831.setTop (mkF m 3 #[.val (.ref a), .val (.int (0 : Int32)), .val (.int (3 : Int32)), .unset, .unset, .unset] [(.ref b831)]))
  refine own_st (fun u_ k_ => XS.astoreN X831.here hx rfl (hb hby own_d_jdk_52_16_3) rfl rfl (l' := #[.val (.ref a), .val (.int (0 : Int32)), .val (.int (3 : Int32)), .val (.ref b831), .unset, .unset]) rfl k_) ?_
  refine own_st (fun u_ k_ => XS.aloadN X831.here hx rfl (hb hby own_d_jdk_52_16_4) rfl rfl k_) ?_
  show own_Go p e below _ (T831.setTop (mkF m 5 #[.val (.ref a), .val (.int (0 : Int32)), .val (.int (3 : Int32)), .val (.ref b831), .unset, .unset] [(.ref a)]))
  refine own_st (fun u_ k_ => XS.iloadN X831.here hx rfl (hb hby own_d_jdk_52_16_5) rfl k_) ?_
  refine own_st (fun u_ k_ => XS.aloadN X831.here hx rfl (hb hby own_d_jdk_52_16_6) rfl rfl k_) ?_
  show own_Go p e below _ (T831.setTop (mkF m 7 #[.val (.ref a), .val (.int (0 : Int32)), .val (.int (3 : Int32)), .val (.ref b831), .unset, .unset] [(.ref b831), (.int (0 : Int32)), (.ref a)]))
  refine own_st (fun u_ k_ => XS.iconst X831.here hx rfl (hb hby own_d_jdk_52_16_7) k_) ?_
  refine own_st (fun u_ k_ => XS.iloadN X831.here hx rfl (hb hby own_d_jdk_52_16_8) rfl k_) ?_
  show own_Go p e below _ (T831.setTop (mkF m 9 #[.val (.ref a), .val (.int (0 : Int32)), .val (.int (3 : Int32)), .val (.ref b831), .unset, .unset] [(.int (3 : Int32)), (.int (0 : Int32)), (.ref b831), (.int (0 : Int32)), (.ref a)]))
  have F832 := (Exa.ext E831 Ea)
  have g833 : n0 ≤ b831 := Nat.le_trans (own_nl O0) (Nat.le_of_eq g831.symm)
  have F834 := (A1.ext E831)
  have O836 : Old Z n0 h831 := O0.ext E831
  obtain ⟨T835, v835, L835, X835, hQ835, st835⟩ := own_callS X831 hx hZ (y := own_y_14) hown (own_w hw 100 rfl) (own_w hw 101 rfl) (own_w hw 98 rfl) (own_w hw 102 rfl) own_lm_28 (rmCp3_3 l Z a0 hw [] wcs hS a ka b831 k831 v0 v1 v2 h831 n0 O836 F832 Y831 g833 F834 V831 (by assumption) (by assumption) (by assumption)) e831 own_pd_115 (argsL := [(.ref a), (.int (0 : Int32)), (.ref b831), (.int (0 : Int32)), (.int (3 : Int32))]) (rest := []) rfl rfl (g := (mkF m 9 #[.val (.ref a), .val (.int (0 : Int32)), .val (.int (3 : Int32)), .val (.ref b831), .unset, .unset] [(.int (3 : Int32)), (.int (0 : Int32)), (.ref b831), (.int (0 : Int32)), (.ref a)])) rfl (by rw [hml]; rfl) rfl (hb hby own_d_jdk_52_16_9) (W := 0) rfl (by decide) (by decide) (by decide) (by decide)
  obtain ⟨rfl, M835, K835, F837, F838⟩ := hQ835
  have N835 := Fr.app N0 M835
  refine own_st (fun u_ k_ => st835 u_ k_) ?_
  show own_Go p e below _ (T835.setTop (mkF m 12 #[.val (.ref a), .val (.int (0 : Int32)), .val (.int (3 : Int32)), .val (.ref b831), .unset, .unset] [(.int (3 : Int32))]))
  refine own_st (fun u_ k_ => XS.istore X835.here hx rfl (hb hby own_d_jdk_52_16_12) rfl (l' := #[.val (.ref a), .val (.int (0 : Int32)), .val (.int (3 : Int32)), .val (.ref b831), .val (.int (3 : Int32)), .unset]) rfl k_) ?_
  refine own_st (fun u_ k_ => XS.iload X835.here hx rfl (hb hby own_d_jdk_52_16_14) rfl k_) ?_
  show own_Go p e below _ (T835.setTop (mkF m 16 #[.val (.ref a), .val (.int (0 : Int32)), .val (.int (3 : Int32)), .val (.ref b831), .val (.int (3 : Int32)), .unset] [(.int (3 : Int32))]))
  refine own_st (fun u_ k_ => XS.iloadN X835.here hx rfl (hb hby own_d_jdk_52_16_16) rfl k_) ?_
  refine own_st (fun u_ k_ => XS.icmpYes X835.here hx rfl (pc0 := 17) (pc' := 57) rfl (hb hby own_d_jdk_52_16_17) rfl (XT.ii_eq_t (by decide)) (by decide) (by decide) k_) ?_
  show own_Go p e below _ (T835.setTop (mkF m 57 #[.val (.ref a), .val (.int (0 : Int32)), .val (.int (3 : Int32)), .val (.ref b831), .val (.int (3 : Int32)), .unset] []))
  refine own_st (fun u_ k_ => XS.aloadN X835.here hx rfl (hb hby own_d_jdk_52_16_57) rfl rfl k_) ?_
  have K839 : Keep h0 h831 [] := (Keep.refl h0 []).ext E831
  have z841 : h0.size ≤ b831 := Nat.le_trans (Nat.le_refl _) (Nat.le_of_eq g831.symm)
  have K840 : Keep h0 T835.heap [] := K839.trans K835 (allS (Or.inr z841) all0)
  exact own_retX X835 hx hlk hret rfl (Or.inr (Or.inr (Or.inr (Or.inr ⟨rfl, rfl, rfl⟩)))) (hb hby own_d_jdk_52_16_58) (by decide) (by decide) (show QrmCq3_3 Z wcs a ka v0 v1 v2 h0 n0 (some (.ref b831)) T835.heap _ from (by exact ⟨b831, k831, rfl, N835, K840, z841, F837, F838⟩))
theorem own_ef_rmCo3_3 (m : MethodId) (b : Addr)  : entryFrame m #[(.ref b), (.int (3 : Int32))] 2 = mkF m 0 #[.val (.ref b), .val (.int (3 : Int32))] [] := by first | (simp [entryFrame, mkF, argsToLocals, Value.category, maxLocals]; done) | rfl
def QrmCo3_3 (Z : State) (wcs : Int32) (b : Addr) (kb : ClassId) (vs : List Value) (h0 : Heap) (n0 : Nat) (v : Option Value) (h : Heap) (L : List Loc) : Prop := v = some (.int (0 : Int32)) ∧ Fr n0 L ∧ h = h0
set_option maxRecDepth 65536 in
set_option maxHeartbeats 40000000 in
theorem rmCo3_3 (l : Launch) (Z : State) (a0 : Array Value) (hw : own_H a0 Z) (ws : List Jvm.Cond) (wcs : Int32) (hS : own_S Z wcs) (b : Addr) (kb : ClassId) (vs : List Value) (h0 : Heap) (n0 : Nat) (O0 : Old Z n0 h0) (A2 : Arv Z h0 b kb .byte (3 : Int32) vs (.int (0 : Int32))) :
    own_Met l own_y_143 jdk_52_method_15_code 2 (some .byte) ws ({ frames := 0, cells := 0, slots := 0, locals := 0 } : Room) Z h0 #[(.ref b), (.int (3 : Int32))] (QrmCo3_3 Z wcs b kb vs h0 n0) := by
  refine own_body (plainFor_of_name own_pn_15) ?_
  intro p e s m below meth c s₁ hx hby hml hown hnm hret hlk hZ e0 X0
  have N0 := Fr.nil n0
  refine own_st (fun u_ k_ => castTop (own_ef_rmCo3_3 m b) k_) ?_
  show own_Go p e below _ (s₁.setTop (mkF m 0 #[.val (.ref b), .val (.int (3 : Int32))] []))
  refine own_st (fun u_ k_ => XS.iloadN X0.here hx rfl (hb hby own_d_jdk_52_15_0) rfl k_) ?_
  refine own_st (fun u_ k_ => XS.aloadN X0.here hx rfl (hb hby own_d_jdk_52_15_1) rfl rfl k_) ?_
  show own_Go p e below _ (s₁.setTop (mkF m 2 #[.val (.ref b), .val (.int (3 : Int32))] [(.ref b), (.int (3 : Int32))]))
  obtain ⟨cl842, Ar842, -, S842, N842, -, -⟩ := id A2
  refine own_st (X0.arraylength hx (by rw [e0]; exact Ar842.1) (State.isArrayOf_alike hZ.alike Ar842.2.1) (g := (mkF m 2 #[.val (.ref b), .val (.int (3 : Int32))] [(.ref b), (.int (3 : Int32))])) rfl rfl (hb hby own_d_jdk_52_15_2)) ?_
  rw [len_of S842 N842]
  show own_Go p e below _ (s₁.setTop (mkF m 3 #[.val (.ref b), .val (.int (3 : Int32))] [(.int (3 : Int32)), (.int (3 : Int32))]))
  refine own_st (fun u_ k_ => XS.isub X0.here hx rfl (hb hby own_d_jdk_52_15_3) rfl k_) ?_
  refine own_st (fun u_ k_ => XS.bipush X0.here hx rfl (hb hby own_d_jdk_52_15_4) k_) ?_
  show own_Go p e below _ (s₁.setTop (mkF m 6 #[.val (.ref b), .val (.int (3 : Int32))] [(.int (31 : Int32)), (.int (0 : Int32))]))
  refine own_st (fun u_ k_ => XS.iushr X0.here hx rfl (hb hby own_d_jdk_52_15_6) rfl k_) ?_
  refine own_st (fun u_ k_ => XS.i2b X0.here hx rfl (hb hby own_d_jdk_52_15_7) rfl k_) ?_
  show own_Go p e below _ (s₁.setTop (mkF m 8 #[.val (.ref b), .val (.int (3 : Int32))] [(.int (0 : Int32))]))
  exact own_retX X0 hx hlk hret rfl (Or.inl ⟨rfl, by simp, _, rfl⟩) (hb hby own_d_jdk_52_15_8) (by decide) (by decide) (show QrmCo3_3 Z wcs b kb vs h0 n0 (some (.int (0 : Int32))) s₁.heap _ from (by rw [e0]; exact ⟨rfl, N0, rfl⟩))
theorem own_ef_rmS4_3_3 (m : MethodId) (a : Addr) (b : Addr)  : entryFrame m #[(.ref a), (.ref b), (.int (0 : Int32)), (.int (3 : Int32)), .null] 6 = mkF m 0 #[.val (.ref a), .val (.ref b), .val (.int (0 : Int32)), .val (.int (3 : Int32)), .val .null, .unset] [] := by first | (simp [entryFrame, mkF, argsToLocals, Value.category, maxLocals]; done) | rfl
def QrmS4_3_3 (Z : State) (wcs : Int32) (a : Addr) (b : Addr) (kb : ClassId) (v0 : Int32) (v1 : Int32) (v2 : Int32) (h0 : Heap) (n0 : Nat) (v : Option Value) (h : Heap) (L : List Loc) : Prop := ∃ r : Addr, ∃ kr : ClassId, v = none ∧ Fr n0 L ∧ Keep h0 h [a] ∧ h0.size ≤ r ∧ Exa Z h a "java/lang/String" ∧ Fld Z h a "java/lang/String" "value" "[B" (.ref r) ∧ Fld Z h a "java/lang/String" "coder" "B" (.int (0 : Int32)) ∧ Exa Z h r "[B" ∧ Arv Z h r kr .byte (3 : Int32) [(.int (v0.toInt8.toInt32)), (.int (v1.toInt8.toInt32)), (.int (v2.toInt8.toInt32))] (.int (0 : Int32))
set_option maxRecDepth 65536 in
set_option maxHeartbeats 40000000 in
theorem rmS4_3_3 (l : Launch) (Z : State) (a0 : Array Value) (hw : own_H a0 Z) (ws : List Jvm.Cond) (wcs : Int32) (hS : own_S Z wcs) (a : Addr) (b : Addr) (kb : ClassId) (v0 : Int32) (v1 : Int32) (v2 : Int32) (h0 : Heap) (n0 : Nat) (O0 : Old Z n0 h0) (E : Exa Z h0 a "java/lang/String") (Ea : Exa Z h0 b "[C") (ga : n0 ≤ a) (F1 : Fld Z h0 a "java/lang/String" "value" "[B" .null) (F2 : Fld Z h0 a "java/lang/String" "coder" "B" (.int (0 : Int32))) (A1 : Arv Z h0 b kb .char (3 : Int32) [(.int v0), (.int v1), (.int v2)] (.int (0 : Int32))) (hq0 : ¬ (255 : Int32) < v0) (hq1 : ¬ (255 : Int32) < v1) (hq2 : ¬ (255 : Int32) < v2) :
    own_Met l own_y_172 jdk_42_method_149_code 6 none ws ({ frames := 2, cells := 1, slots := 3, locals := 35 } : Room) Z h0 #[(.ref a), (.ref b), (.int (0 : Int32)), (.int (3 : Int32)), .null] (QrmS4_3_3 Z wcs a b kb v0 v1 v2 h0 n0) := by
  refine own_body (plainFor_of_name own_pn_173) ?_
  intro p e s m below meth c s₁ hx hby hml hown hnm hret hlk hZ e0 X0
  have N0 := Fr.nil n0
  refine own_st (fun u_ k_ => castTop (own_ef_rmS4_3_3 m a b) k_) ?_
  show own_Go p e below _ (s₁.setTop (mkF m 0 #[.val (.ref a), .val (.ref b), .val (.int (0 : Int32)), .val (.int (3 : Int32)), .val .null, .unset] []))
  refine own_st (fun u_ k_ => XS.aloadN X0.here hx rfl (hb hby own_d_jdk_42_149_0) rfl rfl k_) ?_
  obtain ⟨T843, X843, e843, st843⟩ := initO X0 hx hZ hown (own_w hw 12 rfl) (own_w hw 13 rfl) (own_w hw 14 rfl) e0 (g := (mkF m 1 #[.val (.ref a), .val (.ref b), .val (.int (0 : Int32)), .val (.int (3 : Int32)), .val .null, .unset] [(.ref a)])) rfl (by rw [hml]; rfl) rfl (hb hby own_d_jdk_42_149_1) (by decide) (W := 0) (by show 2 * 0 + _ ≤ _; exact Nat.le_of_eq rfl) (by decide)
  refine own_st (fun u_ k_ => st843 u_ k_) ?_
  show own_Go p e below _ (T843.setTop (mkF m 4 #[.val (.ref a), .val (.ref b), .val (.int (0 : Int32)), .val (.int (3 : Int32)), .val .null, .unset] []))
  refine own_st (fun u_ k_ => XS.iloadN X843.here hx rfl (hb hby own_d_jdk_42_149_4) rfl k_) ?_
  refine own_st (fun u_ k_ => XS.ifYes X843.here hx rfl (pc0 := 5) (pc' := 27) rfl (hb hby own_d_jdk_42_149_5) rfl (XT.i0_ne_t (by decide)) (by decide) (by decide) k_) ?_
  show own_Go p e below _ (T843.setTop (mkF m 27 #[.val (.ref a), .val (.ref b), .val (.int (0 : Int32)), .val (.int (3 : Int32)), .val .null, .unset] []))
  have F844 := Sta.ext O0.2 hS.1
  obtain ⟨T845, X845, e845, st845⟩ := getS2 X843 hx hZ hown (host := "") (Or.inl (own_w hw 90 rfl)) Via.refl e843 F844 (g := (mkF m 27 #[.val (.ref a), .val (.ref b), .val (.int (0 : Int32)), .val (.int (3 : Int32)), .val .null, .unset] [])) rfl (hb hby own_d_jdk_42_149_27)
  refine own_st (fun u_ k_ => st845 u_ k_) ?_
  show own_Go p e below _ (T845.setTop (mkF m 30 #[.val (.ref a), .val (.ref b), .val (.int (0 : Int32)), .val (.int (3 : Int32)), .val .null, .unset] [(.int wcs)]))
  refine own_st (fun u_ k_ => XS.ifNo X845.here hx rfl (hb hby own_d_jdk_42_149_30) rfl (XT.i0_eq_f hS.2.1) k_) ?_
  refine own_st (fun u_ k_ => XS.aloadN X845.here hx rfl (hb hby own_d_jdk_42_149_33) rfl rfl k_) ?_
  show own_Go p e below _ (T845.setTop (mkF m 34 #[.val (.ref a), .val (.ref b), .val (.int (0 : Int32)), .val (.int (3 : Int32)), .val .null, .unset] [(.ref b)]))
  refine own_st (fun u_ k_ => XS.iloadN X845.here hx rfl (hb hby own_d_jdk_42_149_34) rfl k_) ?_
  refine own_st (fun u_ k_ => XS.iloadN X845.here hx rfl (hb hby own_d_jdk_42_149_35) rfl k_) ?_
  show own_Go p e below _ (T845.setTop (mkF m 36 #[.val (.ref a), .val (.ref b), .val (.int (0 : Int32)), .val (.int (3 : Int32)), .val .null, .unset] [(.int (3 : Int32)), (.int (0 : Int32)), (.ref b)]))
  obtain ⟨T846, v846, L846, X846, hQ846, st846⟩ := own_callS X845 hx hZ (y := own_y_134) hown (own_w hw 96 rfl) (own_w hw 97 rfl) (own_w hw 98 rfl) (own_w hw 99 rfl) own_lm_28 (rmCq3_3 l Z a0 hw [] wcs hS b kb v0 v1 v2 h0 n0 O0 Ea A1 (by assumption) (by assumption) (by assumption)) e845 own_pd_124 (argsL := [(.ref b), (.int (0 : Int32)), (.int (3 : Int32))]) (rest := []) rfl rfl (g := (mkF m 36 #[.val (.ref a), .val (.ref b), .val (.int (0 : Int32)), .val (.int (3 : Int32)), .val .null, .unset] [(.int (3 : Int32)), (.int (0 : Int32)), (.ref b)])) rfl (by rw [hml]; rfl) rfl (hb hby own_d_jdk_42_149_36) (W := 0) rfl (by decide) (by decide) (by decide) (by decide)
  obtain ⟨r_847, kr_848, rfl, M846, K846, z849, F850, F851⟩ := hQ846
  have N846 := Fr.app N0 M846
  refine own_st (fun u_ k_ => st846 u_ k_) ?_
  show own_Go p e below _ (T846.setTop (mkF m 39 #[.val (.ref a), .val (.ref b), .val (.int (0 : Int32)), .val (.int (3 : Int32)), .val .null, .unset] [(.ref r_847)]))
  refine own_st (fun u_ k_ => XS.astore X846.here hx rfl (hb hby own_d_jdk_42_149_39) rfl rfl (l' := #[.val (.ref a), .val (.ref b), .val (.int (0 : Int32)), .val (.int (3 : Int32)), .val .null, .val (.ref r_847)]) rfl k_) ?_
  refine own_st (fun u_ k_ => XS.aloadN X846.here hx rfl (hb hby own_d_jdk_42_149_41) rfl rfl k_) ?_
  show own_Go p e below _ (T846.setTop (mkF m 42 #[.val (.ref a), .val (.ref b), .val (.int (0 : Int32)), .val (.int (3 : Int32)), .val .null, .val (.ref r_847)] [(.ref a)]))
  refine own_st (fun u_ k_ => XS.aload X846.here hx rfl (hb hby own_d_jdk_42_149_42) rfl rfl k_) ?_
  refine own_st (fun u_ k_ => XS.iloadN X846.here hx rfl (hb hby own_d_jdk_42_149_44) rfl k_) ?_
  show own_Go p e below _ (T846.setTop (mkF m 45 #[.val (.ref a), .val (.ref b), .val (.int (0 : Int32)), .val (.int (3 : Int32)), .val .null, .val (.ref r_847)] [(.int (3 : Int32)), (.ref r_847), (.ref a)]))
  have O853 : Old Z n0 T846.heap := O0.keep K846 all0
  obtain ⟨T852, v852, L852, X852, hQ852, st852⟩ := own_callS X846 hx hZ (y := own_y_143) hown (own_w hw 103 rfl) (own_w hw 104 rfl) (own_w hw 98 rfl) (own_w hw 105 rfl) own_lm_28 (rmCo3_3 l Z a0 hw [] wcs hS r_847 kr_848 [(.int (v0.toInt8.toInt32)), (.int (v1.toInt8.toInt32)), (.int (v2.toInt8.toInt32))] T846.heap n0 O853 F851) rfl own_pd_160 (argsL := [(.ref r_847), (.int (3 : Int32))]) (rest := [(.ref a)]) rfl rfl (g := (mkF m 45 #[.val (.ref a), .val (.ref b), .val (.int (0 : Int32)), .val (.int (3 : Int32)), .val .null, .val (.ref r_847)] [(.int (3 : Int32)), (.ref r_847), (.ref a)])) rfl (by rw [hml]; rfl) rfl (hb hby own_d_jdk_42_149_45) (W := 1) rfl (by decide) (by decide) (by decide) (by decide)
  obtain ⟨rfl, M852, e852⟩ := hQ852
  have N852 := Fr.app N846 M852
  refine own_st (fun u_ k_ => st852 u_ k_) ?_
  show own_Go p e below _ (T852.setTop (mkF m 48 #[.val (.ref a), .val (.ref b), .val (.int (0 : Int32)), .val (.int (3 : Int32)), .val .null, .val (.ref r_847)] [(.int (0 : Int32)), (.ref a)]))
  have F854 := (E.keep K846)
  have F855 := (F2.keep K846 nin0)
  obtain ⟨T856, h856, X856, e856, W856, st856⟩ := putF X852 hx hZ hown (host := "") (Or.inl (own_w hw 22 rfl)) Via.refl e852 F855 F854 (Or.inr ⟨(own_w hw 18 rfl), rfl, hnm⟩) (own_w hw 2 rfl) (ty := .byte) own_lm_162 rfl rfl (g := (mkF m 48 #[.val (.ref a), .val (.ref b), .val (.int (0 : Int32)), .val (.int (3 : Int32)), .val .null, .val (.ref r_847)] [(.int (0 : Int32)), (.ref a)])) rfl rfl (hb hby own_d_jdk_42_149_48)
  have N856 := Fr.snoc X856 N852 ga
  have F857 : Fld Z h856 a "java/lang/String" "coder" "B" (.int (0 : Int32)) := Fld.same W856 F855
  refine own_st (fun u_ k_ => st856 u_ k_) ?_
  show own_Go p e below _ (T856.setTop (mkF m 51 #[.val (.ref a), .val (.ref b), .val (.int (0 : Int32)), .val (.int (3 : Int32)), .val .null, .val (.ref r_847)] []))
  refine own_st (fun u_ k_ => XS.aloadN X856.here hx rfl (hb hby own_d_jdk_42_149_51) rfl rfl k_) ?_
  refine own_st (fun u_ k_ => XS.aload X856.here hx rfl (hb hby own_d_jdk_42_149_52) rfl rfl k_) ?_
  show own_Go p e below _ (T856.setTop (mkF m 54 #[.val (.ref a), .val (.ref b), .val (.int (0 : Int32)), .val (.int (3 : Int32)), .val .null, .val (.ref r_847)] [(.ref r_847), (.ref a)]))
  have F858 := (Exa.wr W856 F854)
  have F859 := (Fld.other W856 (F1.keep K846 nin0) (Or.inr (own_sn_168 hw)))
  obtain ⟨T860, h860, X860, e860, W860, st860⟩ := putF X856 hx hZ hown (host := "") (Or.inl (own_w hw 21 rfl)) Via.refl e856 F859 F858 (Or.inr ⟨(own_w hw 17 rfl), rfl, hnm⟩) (own_w hw 2 rfl) (ty := (.array .byte)) own_lm_167 rfl rfl (g := (mkF m 54 #[.val (.ref a), .val (.ref b), .val (.int (0 : Int32)), .val (.int (3 : Int32)), .val .null, .val (.ref r_847)] [(.ref r_847), (.ref a)])) rfl rfl (hb hby own_d_jdk_42_149_54)
  have N860 := Fr.snoc X860 N856 ga
  have F861 : Fld Z h860 a "java/lang/String" "value" "[B" (.ref r_847) := Fld.same W860 F859
  refine own_st (fun u_ k_ => st860 u_ k_) ?_
  show own_Go p e below _ (T860.setTop (mkF m 57 #[.val (.ref a), .val (.ref b), .val (.int (0 : Int32)), .val (.int (3 : Int32)), .val .null, .val (.ref r_847)] []))
  have K862 : Keep h0 T846.heap [a] := (Keep.refl h0 [a]).trans K846 all0
  have K863 : Keep h0 h856 [a] := K862.wr W856 (Or.inl (List.mem_of_getElem? (i := 0) rfl))
  have K864 : Keep h0 h860 [a] := K863.wr W860 (Or.inl (List.mem_of_getElem? (i := 0) rfl))
  have z865 : h0.size ≤ r_847 := Nat.le_trans (Nat.le_refl _) z849
  have F866 := (Exa.wr W860 F858)
  have F867 := (Fld.other W860 F857 (Or.inr (own_sn_171 hw)))
  have F868 := (Exa.wr W860 (Exa.wr W856 F850))
  have ne869 : r_847 ≠ a := (Ne.symm (Nat.ne_of_lt (Nat.lt_of_lt_of_le E.lt z849)))
  have F870 := ((F851.other W856 ne869).other W860 ne869)
  exact own_retV X860 hx hlk hret (hb hby own_d_jdk_42_149_57) (by decide) (by decide) (show QrmS4_3_3 Z wcs a b kb v0 v1 v2 h0 n0 none T860.heap _ from (by rw [e860]; exact ⟨r_847, kr_848, rfl, N860, K864, z865, F866, F861, F867, F868, F870⟩))
theorem own_ef_rmS1_3_0 (m : MethodId) (a : Addr) (b : Addr)  : entryFrame m #[(.ref a), (.ref b)] 2 = mkF m 0 #[.val (.ref a), .val (.ref b)] [] := by first | (simp [entryFrame, mkF, argsToLocals, Value.category, maxLocals]; done) | rfl
def QrmS1_3_0 (Z : State) (wcs : Int32) (a : Addr) (b : Addr) (kb : ClassId) (v0 : Int32) (v1 : Int32) (v2 : Int32) (h0 : Heap) (n0 : Nat) (v : Option Value) (h : Heap) (L : List Loc) : Prop := ∃ r : Addr, ∃ kr : ClassId, v = none ∧ Fr n0 L ∧ Keep h0 h [a] ∧ h0.size ≤ r ∧ Exa Z h a "java/lang/String" ∧ Fld Z h a "java/lang/String" "value" "[B" (.ref r) ∧ Fld Z h a "java/lang/String" "coder" "B" (.int (1 : Int32)) ∧ Exa Z h r "[B" ∧ Arv Z h r kr .byte (6 : Int32) [(.int ((v0 >>> ((0 : Int32) &&& 31)).toInt8.toInt32)), (.int ((v0 >>> ((8 : Int32) &&& 31)).toInt8.toInt32)), (.int ((v1 >>> ((0 : Int32) &&& 31)).toInt8.toInt32)), (.int ((v1 >>> ((8 : Int32) &&& 31)).toInt8.toInt32)), (.int ((v2 >>> ((0 : Int32) &&& 31)).toInt8.toInt32)), (.int ((v2 >>> ((8 : Int32) &&& 31)).toInt8.toInt32))] (.int (0 : Int32))
set_option maxRecDepth 65536 in
set_option maxHeartbeats 40000000 in
theorem rmS1_3_0 (l : Launch) (Z : State) (a0 : Array Value) (hw : own_H a0 Z) (ws : List Jvm.Cond) (wcs : Int32) (hS : own_S Z wcs) (a : Addr) (b : Addr) (kb : ClassId) (v0 : Int32) (v1 : Int32) (v2 : Int32) (h0 : Heap) (n0 : Nat) (O0 : Old Z n0 h0) (E : Exa Z h0 a "java/lang/String") (Ea : Exa Z h0 b "[C") (ga : n0 ≤ a) (F1 : Fld Z h0 a "java/lang/String" "value" "[B" .null) (F2 : Fld Z h0 a "java/lang/String" "coder" "B" (.int (0 : Int32))) (A1 : Arv Z h0 b kb .char (3 : Int32) [(.int v0), (.int v1), (.int v2)] (.int (0 : Int32))) (hq0 : (255 : Int32) < v0) (hv0 : own_C16 v0) (hv1 : own_C16 v1) (hv2 : own_C16 v2) :
    own_Met l own_y_198 jdk_42_method_3_code 2 none ws ({ frames := 5, cells := 2, slots := 9, locals := 74 } : Room) Z h0 #[(.ref a), (.ref b)] (QrmS1_3_0 Z wcs a b kb v0 v1 v2 h0 n0) := by
  refine own_body (plainFor_of_name own_pn_173) ?_
  intro p e s m below meth c s₁ hx hby hml hown hnm hret hlk hZ e0 X0
  have N0 := Fr.nil n0
  refine own_st (fun u_ k_ => castTop (own_ef_rmS1_3_0 m a b) k_) ?_
  show own_Go p e below _ (s₁.setTop (mkF m 0 #[.val (.ref a), .val (.ref b)] []))
  refine own_st (fun u_ k_ => XS.aloadN X0.here hx rfl (hb hby own_d_jdk_42_3_0) rfl rfl k_) ?_
  refine own_st (fun u_ k_ => XS.aloadN X0.here hx rfl (hb hby own_d_jdk_42_3_1) rfl rfl k_) ?_
  show own_Go p e below _ (s₁.setTop (mkF m 2 #[.val (.ref a), .val (.ref b)] [(.ref b), (.ref a)]))
  refine own_st (fun u_ k_ => XS.iconst X0.here hx rfl (hb hby own_d_jdk_42_3_2) k_) ?_
  refine own_st (fun u_ k_ => XS.aloadN X0.here hx rfl (hb hby own_d_jdk_42_3_3) rfl rfl k_) ?_
  show own_Go p e below _ (s₁.setTop (mkF m 4 #[.val (.ref a), .val (.ref b)] [(.ref b), (.int (0 : Int32)), (.ref b), (.ref a)]))
  obtain ⟨cl883, Ar883, -, S883, N883, -, -⟩ := id A1
  refine own_st (X0.arraylength hx (by rw [e0]; exact Ar883.1) (State.isArrayOf_alike hZ.alike Ar883.2.1) (g := (mkF m 4 #[.val (.ref a), .val (.ref b)] [(.ref b), (.int (0 : Int32)), (.ref b), (.ref a)])) rfl rfl (hb hby own_d_jdk_42_3_4)) ?_
  rw [len_of S883 N883]
  show own_Go p e below _ (s₁.setTop (mkF m 5 #[.val (.ref a), .val (.ref b)] [(.int (3 : Int32)), (.int (0 : Int32)), (.ref b), (.ref a)]))
  refine own_st (fun u_ k_ => XS.aconstNull X0.here hx rfl (hb hby own_d_jdk_42_3_5) k_) ?_
  obtain ⟨T884, v884, L884, X884, hQ884, st884⟩ := own_callN X0 hx hZ (y := own_y_172) rfl hown (own_w hw 8 rfl) (own_w hw 9 rfl) (own_w hw 3 rfl) (own_w hw 11 rfl) own_lm_181 (rmS4_3_0 l Z a0 hw [] wcs hS a b kb v0 v1 v2 h0 n0 O0 E Ea ga F1 F2 A1 (by assumption) (by assumption) (by assumption) (by assumption)) e0 own_pd_182 (a := a) (argsL := [(.ref b), (.int (0 : Int32)), (.int (3 : Int32)), .null]) (rest := []) rfl rfl (g := (mkF m 6 #[.val (.ref a), .val (.ref b)] [.null, (.int (3 : Int32)), (.int (0 : Int32)), (.ref b), (.ref a)])) rfl (by rw [hml]; rfl) rfl (hb hby own_d_jdk_42_3_6) (W := 0) rfl (by decide) (by decide) (by decide) (by decide)
  obtain ⟨r_885, kr_886, rfl, M884, K884, z887, F888, F889, F890, F891, F892⟩ := hQ884
  have N884 := Fr.app N0 M884
  refine own_st (fun u_ k_ => st884 u_ k_) ?_
  show own_Go p e below _ (T884.setTop (mkF m 9 #[.val (.ref a), .val (.ref b)] []))
  have K893 : Keep h0 T884.heap [a] := (Keep.refl h0 [a]).trans K884 (allS (Or.inl (List.mem_of_getElem? (i := 0) rfl)) all0)
  have z894 : h0.size ≤ r_885 := Nat.le_trans (Nat.le_refl _) z887
  exact own_retV X884 hx hlk hret (hb hby own_d_jdk_42_3_9) (by decide) (by decide) (show QrmS1_3_0 Z wcs a b kb v0 v1 v2 h0 n0 none T884.heap _ from (by exact ⟨r_885, kr_886, rfl, N884, K893, z894, F888, F889, F890, F891, F892⟩))
theorem own_ef_rmS1_3_1 (m : MethodId) (a : Addr) (b : Addr)  : entryFrame m #[(.ref a), (.ref b)] 2 = mkF m 0 #[.val (.ref a), .val (.ref b)] [] := by first | (simp [entryFrame, mkF, argsToLocals, Value.category, maxLocals]; done) | rfl
def QrmS1_3_1 (Z : State) (wcs : Int32) (a : Addr) (b : Addr) (kb : ClassId) (v0 : Int32) (v1 : Int32) (v2 : Int32) (h0 : Heap) (n0 : Nat) (v : Option Value) (h : Heap) (L : List Loc) : Prop := ∃ r : Addr, ∃ kr : ClassId, v = none ∧ Fr n0 L ∧ Keep h0 h [a] ∧ h0.size ≤ r ∧ Exa Z h a "java/lang/String" ∧ Fld Z h a "java/lang/String" "value" "[B" (.ref r) ∧ Fld Z h a "java/lang/String" "coder" "B" (.int (1 : Int32)) ∧ Exa Z h r "[B" ∧ Arv Z h r kr .byte (6 : Int32) [(.int ((v0 >>> ((0 : Int32) &&& 31)).toInt8.toInt32)), (.int ((v0 >>> ((8 : Int32) &&& 31)).toInt8.toInt32)), (.int ((v1 >>> ((0 : Int32) &&& 31)).toInt8.toInt32)), (.int ((v1 >>> ((8 : Int32) &&& 31)).toInt8.toInt32)), (.int ((v2 >>> ((0 : Int32) &&& 31)).toInt8.toInt32)), (.int ((v2 >>> ((8 : Int32) &&& 31)).toInt8.toInt32))] (.int (0 : Int32))
set_option maxRecDepth 65536 in
set_option maxHeartbeats 40000000 in
theorem rmS1_3_1 (l : Launch) (Z : State) (a0 : Array Value) (hw : own_H a0 Z) (ws : List Jvm.Cond) (wcs : Int32) (hS : own_S Z wcs) (a : Addr) (b : Addr) (kb : ClassId) (v0 : Int32) (v1 : Int32) (v2 : Int32) (h0 : Heap) (n0 : Nat) (O0 : Old Z n0 h0) (E : Exa Z h0 a "java/lang/String") (Ea : Exa Z h0 b "[C") (ga : n0 ≤ a) (F1 : Fld Z h0 a "java/lang/String" "value" "[B" .null) (F2 : Fld Z h0 a "java/lang/String" "coder" "B" (.int (0 : Int32))) (A1 : Arv Z h0 b kb .char (3 : Int32) [(.int v0), (.int v1), (.int v2)] (.int (0 : Int32))) (hq0 : ¬ (255 : Int32) < v0) (hq1 : (255 : Int32) < v1) (hv0 : own_C16 v0) (hv1 : own_C16 v1) (hv2 : own_C16 v2) :
    own_Met l own_y_198 jdk_42_method_3_code 2 none ws ({ frames := 5, cells := 2, slots := 9, locals := 74 } : Room) Z h0 #[(.ref a), (.ref b)] (QrmS1_3_1 Z wcs a b kb v0 v1 v2 h0 n0) := by
  refine own_body (plainFor_of_name own_pn_173) ?_
  intro p e s m below meth c s₁ hx hby hml hown hnm hret hlk hZ e0 X0
  have N0 := Fr.nil n0
  refine own_st (fun u_ k_ => castTop (own_ef_rmS1_3_1 m a b) k_) ?_
  show own_Go p e below _ (s₁.setTop (mkF m 0 #[.val (.ref a), .val (.ref b)] []))
  refine own_st (fun u_ k_ => XS.aloadN X0.here hx rfl (hb hby own_d_jdk_42_3_0) rfl rfl k_) ?_
  refine own_st (fun u_ k_ => XS.aloadN X0.here hx rfl (hb hby own_d_jdk_42_3_1) rfl rfl k_) ?_
  show own_Go p e below _ (s₁.setTop (mkF m 2 #[.val (.ref a), .val (.ref b)] [(.ref b), (.ref a)]))
  refine own_st (fun u_ k_ => XS.iconst X0.here hx rfl (hb hby own_d_jdk_42_3_2) k_) ?_
  refine own_st (fun u_ k_ => XS.aloadN X0.here hx rfl (hb hby own_d_jdk_42_3_3) rfl rfl k_) ?_
  show own_Go p e below _ (s₁.setTop (mkF m 4 #[.val (.ref a), .val (.ref b)] [(.ref b), (.int (0 : Int32)), (.ref b), (.ref a)]))
  obtain ⟨cl895, Ar895, -, S895, N895, -, -⟩ := id A1
  refine own_st (X0.arraylength hx (by rw [e0]; exact Ar895.1) (State.isArrayOf_alike hZ.alike Ar895.2.1) (g := (mkF m 4 #[.val (.ref a), .val (.ref b)] [(.ref b), (.int (0 : Int32)), (.ref b), (.ref a)])) rfl rfl (hb hby own_d_jdk_42_3_4)) ?_
  rw [len_of S895 N895]
  show own_Go p e below _ (s₁.setTop (mkF m 5 #[.val (.ref a), .val (.ref b)] [(.int (3 : Int32)), (.int (0 : Int32)), (.ref b), (.ref a)]))
  refine own_st (fun u_ k_ => XS.aconstNull X0.here hx rfl (hb hby own_d_jdk_42_3_5) k_) ?_
  obtain ⟨T896, v896, L896, X896, hQ896, st896⟩ := own_callN X0 hx hZ (y := own_y_172) rfl hown (own_w hw 8 rfl) (own_w hw 9 rfl) (own_w hw 3 rfl) (own_w hw 11 rfl) own_lm_181 (rmS4_3_1 l Z a0 hw [] wcs hS a b kb v0 v1 v2 h0 n0 O0 E Ea ga F1 F2 A1 (by assumption) (by assumption) (by assumption) (by assumption) (by assumption)) e0 own_pd_182 (a := a) (argsL := [(.ref b), (.int (0 : Int32)), (.int (3 : Int32)), .null]) (rest := []) rfl rfl (g := (mkF m 6 #[.val (.ref a), .val (.ref b)] [.null, (.int (3 : Int32)), (.int (0 : Int32)), (.ref b), (.ref a)])) rfl (by rw [hml]; rfl) rfl (hb hby own_d_jdk_42_3_6) (W := 0) rfl (by decide) (by decide) (by decide) (by decide)
  obtain ⟨r_897, kr_898, rfl, M896, K896, z899, F900, F901, F902, F903, F904⟩ := hQ896
  have N896 := Fr.app N0 M896
  refine own_st (fun u_ k_ => st896 u_ k_) ?_
  show own_Go p e below _ (T896.setTop (mkF m 9 #[.val (.ref a), .val (.ref b)] []))
  have K905 : Keep h0 T896.heap [a] := (Keep.refl h0 [a]).trans K896 (allS (Or.inl (List.mem_of_getElem? (i := 0) rfl)) all0)
  have z906 : h0.size ≤ r_897 := Nat.le_trans (Nat.le_refl _) z899
  exact own_retV X896 hx hlk hret (hb hby own_d_jdk_42_3_9) (by decide) (by decide) (show QrmS1_3_1 Z wcs a b kb v0 v1 v2 h0 n0 none T896.heap _ from (by exact ⟨r_897, kr_898, rfl, N896, K905, z906, F900, F901, F902, F903, F904⟩))
theorem own_ef_rmS1_3_2 (m : MethodId) (a : Addr) (b : Addr)  : entryFrame m #[(.ref a), (.ref b)] 2 = mkF m 0 #[.val (.ref a), .val (.ref b)] [] := by first | (simp [entryFrame, mkF, argsToLocals, Value.category, maxLocals]; done) | rfl
def QrmS1_3_2 (Z : State) (wcs : Int32) (a : Addr) (b : Addr) (kb : ClassId) (v0 : Int32) (v1 : Int32) (v2 : Int32) (h0 : Heap) (n0 : Nat) (v : Option Value) (h : Heap) (L : List Loc) : Prop := ∃ r : Addr, ∃ kr : ClassId, v = none ∧ Fr n0 L ∧ Keep h0 h [a] ∧ h0.size ≤ r ∧ Exa Z h a "java/lang/String" ∧ Fld Z h a "java/lang/String" "value" "[B" (.ref r) ∧ Fld Z h a "java/lang/String" "coder" "B" (.int (1 : Int32)) ∧ Exa Z h r "[B" ∧ Arv Z h r kr .byte (6 : Int32) [(.int ((v0 >>> ((0 : Int32) &&& 31)).toInt8.toInt32)), (.int ((v0 >>> ((8 : Int32) &&& 31)).toInt8.toInt32)), (.int ((v1 >>> ((0 : Int32) &&& 31)).toInt8.toInt32)), (.int ((v1 >>> ((8 : Int32) &&& 31)).toInt8.toInt32)), (.int ((v2 >>> ((0 : Int32) &&& 31)).toInt8.toInt32)), (.int ((v2 >>> ((8 : Int32) &&& 31)).toInt8.toInt32))] (.int (0 : Int32))
set_option maxRecDepth 65536 in
set_option maxHeartbeats 40000000 in
theorem rmS1_3_2 (l : Launch) (Z : State) (a0 : Array Value) (hw : own_H a0 Z) (ws : List Jvm.Cond) (wcs : Int32) (hS : own_S Z wcs) (a : Addr) (b : Addr) (kb : ClassId) (v0 : Int32) (v1 : Int32) (v2 : Int32) (h0 : Heap) (n0 : Nat) (O0 : Old Z n0 h0) (E : Exa Z h0 a "java/lang/String") (Ea : Exa Z h0 b "[C") (ga : n0 ≤ a) (F1 : Fld Z h0 a "java/lang/String" "value" "[B" .null) (F2 : Fld Z h0 a "java/lang/String" "coder" "B" (.int (0 : Int32))) (A1 : Arv Z h0 b kb .char (3 : Int32) [(.int v0), (.int v1), (.int v2)] (.int (0 : Int32))) (hq0 : ¬ (255 : Int32) < v0) (hq1 : ¬ (255 : Int32) < v1) (hq2 : (255 : Int32) < v2) (hv0 : own_C16 v0) (hv1 : own_C16 v1) (hv2 : own_C16 v2) :
    own_Met l own_y_198 jdk_42_method_3_code 2 none ws ({ frames := 5, cells := 2, slots := 9, locals := 74 } : Room) Z h0 #[(.ref a), (.ref b)] (QrmS1_3_2 Z wcs a b kb v0 v1 v2 h0 n0) := by
  refine own_body (plainFor_of_name own_pn_173) ?_
  intro p e s m below meth c s₁ hx hby hml hown hnm hret hlk hZ e0 X0
  have N0 := Fr.nil n0
  refine own_st (fun u_ k_ => castTop (own_ef_rmS1_3_2 m a b) k_) ?_
  show own_Go p e below _ (s₁.setTop (mkF m 0 #[.val (.ref a), .val (.ref b)] []))
  refine own_st (fun u_ k_ => XS.aloadN X0.here hx rfl (hb hby own_d_jdk_42_3_0) rfl rfl k_) ?_
  refine own_st (fun u_ k_ => XS.aloadN X0.here hx rfl (hb hby own_d_jdk_42_3_1) rfl rfl k_) ?_
  show own_Go p e below _ (s₁.setTop (mkF m 2 #[.val (.ref a), .val (.ref b)] [(.ref b), (.ref a)]))
  refine own_st (fun u_ k_ => XS.iconst X0.here hx rfl (hb hby own_d_jdk_42_3_2) k_) ?_
  refine own_st (fun u_ k_ => XS.aloadN X0.here hx rfl (hb hby own_d_jdk_42_3_3) rfl rfl k_) ?_
  show own_Go p e below _ (s₁.setTop (mkF m 4 #[.val (.ref a), .val (.ref b)] [(.ref b), (.int (0 : Int32)), (.ref b), (.ref a)]))
  obtain ⟨cl907, Ar907, -, S907, N907, -, -⟩ := id A1
  refine own_st (X0.arraylength hx (by rw [e0]; exact Ar907.1) (State.isArrayOf_alike hZ.alike Ar907.2.1) (g := (mkF m 4 #[.val (.ref a), .val (.ref b)] [(.ref b), (.int (0 : Int32)), (.ref b), (.ref a)])) rfl rfl (hb hby own_d_jdk_42_3_4)) ?_
  rw [len_of S907 N907]
  show own_Go p e below _ (s₁.setTop (mkF m 5 #[.val (.ref a), .val (.ref b)] [(.int (3 : Int32)), (.int (0 : Int32)), (.ref b), (.ref a)]))
  refine own_st (fun u_ k_ => XS.aconstNull X0.here hx rfl (hb hby own_d_jdk_42_3_5) k_) ?_
  obtain ⟨T908, v908, L908, X908, hQ908, st908⟩ := own_callN X0 hx hZ (y := own_y_172) rfl hown (own_w hw 8 rfl) (own_w hw 9 rfl) (own_w hw 3 rfl) (own_w hw 11 rfl) own_lm_181 (rmS4_3_2 l Z a0 hw [] wcs hS a b kb v0 v1 v2 h0 n0 O0 E Ea ga F1 F2 A1 (by assumption) (by assumption) (by assumption) (by assumption) (by assumption) (by assumption)) e0 own_pd_182 (a := a) (argsL := [(.ref b), (.int (0 : Int32)), (.int (3 : Int32)), .null]) (rest := []) rfl rfl (g := (mkF m 6 #[.val (.ref a), .val (.ref b)] [.null, (.int (3 : Int32)), (.int (0 : Int32)), (.ref b), (.ref a)])) rfl (by rw [hml]; rfl) rfl (hb hby own_d_jdk_42_3_6) (W := 0) rfl (by decide) (by decide) (by decide) (by decide)
  obtain ⟨r_909, kr_910, rfl, M908, K908, z911, F912, F913, F914, F915, F916⟩ := hQ908
  have N908 := Fr.app N0 M908
  refine own_st (fun u_ k_ => st908 u_ k_) ?_
  show own_Go p e below _ (T908.setTop (mkF m 9 #[.val (.ref a), .val (.ref b)] []))
  have K917 : Keep h0 T908.heap [a] := (Keep.refl h0 [a]).trans K908 (allS (Or.inl (List.mem_of_getElem? (i := 0) rfl)) all0)
  have z918 : h0.size ≤ r_909 := Nat.le_trans (Nat.le_refl _) z911
  exact own_retV X908 hx hlk hret (hb hby own_d_jdk_42_3_9) (by decide) (by decide) (show QrmS1_3_2 Z wcs a b kb v0 v1 v2 h0 n0 none T908.heap _ from (by exact ⟨r_909, kr_910, rfl, N908, K917, z918, F912, F913, F914, F915, F916⟩))
theorem own_ef_rmS1_3_3 (m : MethodId) (a : Addr) (b : Addr)  : entryFrame m #[(.ref a), (.ref b)] 2 = mkF m 0 #[.val (.ref a), .val (.ref b)] [] := by first | (simp [entryFrame, mkF, argsToLocals, Value.category, maxLocals]; done) | rfl
def QrmS1_3_3 (Z : State) (wcs : Int32) (a : Addr) (b : Addr) (kb : ClassId) (v0 : Int32) (v1 : Int32) (v2 : Int32) (h0 : Heap) (n0 : Nat) (v : Option Value) (h : Heap) (L : List Loc) : Prop := ∃ r : Addr, ∃ kr : ClassId, v = none ∧ Fr n0 L ∧ Keep h0 h [a] ∧ h0.size ≤ r ∧ Exa Z h a "java/lang/String" ∧ Fld Z h a "java/lang/String" "value" "[B" (.ref r) ∧ Fld Z h a "java/lang/String" "coder" "B" (.int (0 : Int32)) ∧ Exa Z h r "[B" ∧ Arv Z h r kr .byte (3 : Int32) [(.int (v0.toInt8.toInt32)), (.int (v1.toInt8.toInt32)), (.int (v2.toInt8.toInt32))] (.int (0 : Int32))
set_option maxRecDepth 65536 in
set_option maxHeartbeats 40000000 in
theorem rmS1_3_3 (l : Launch) (Z : State) (a0 : Array Value) (hw : own_H a0 Z) (ws : List Jvm.Cond) (wcs : Int32) (hS : own_S Z wcs) (a : Addr) (b : Addr) (kb : ClassId) (v0 : Int32) (v1 : Int32) (v2 : Int32) (h0 : Heap) (n0 : Nat) (O0 : Old Z n0 h0) (E : Exa Z h0 a "java/lang/String") (Ea : Exa Z h0 b "[C") (ga : n0 ≤ a) (F1 : Fld Z h0 a "java/lang/String" "value" "[B" .null) (F2 : Fld Z h0 a "java/lang/String" "coder" "B" (.int (0 : Int32))) (A1 : Arv Z h0 b kb .char (3 : Int32) [(.int v0), (.int v1), (.int v2)] (.int (0 : Int32))) (hq0 : ¬ (255 : Int32) < v0) (hq1 : ¬ (255 : Int32) < v1) (hq2 : ¬ (255 : Int32) < v2) :
    own_Met l own_y_198 jdk_42_method_3_code 2 none ws ({ frames := 5, cells := 2, slots := 9, locals := 74 } : Room) Z h0 #[(.ref a), (.ref b)] (QrmS1_3_3 Z wcs a b kb v0 v1 v2 h0 n0) := by
  refine own_body (plainFor_of_name own_pn_173) ?_
  intro p e s m below meth c s₁ hx hby hml hown hnm hret hlk hZ e0 X0
  have N0 := Fr.nil n0
  refine own_st (fun u_ k_ => castTop (own_ef_rmS1_3_3 m a b) k_) ?_
  show own_Go p e below _ (s₁.setTop (mkF m 0 #[.val (.ref a), .val (.ref b)] []))
  refine own_st (fun u_ k_ => XS.aloadN X0.here hx rfl (hb hby own_d_jdk_42_3_0) rfl rfl k_) ?_
  refine own_st (fun u_ k_ => XS.aloadN X0.here hx rfl (hb hby own_d_jdk_42_3_1) rfl rfl k_) ?_
  show own_Go p e below _ (s₁.setTop (mkF m 2 #[.val (.ref a), .val (.ref b)] [(.ref b), (.ref a)]))
  refine own_st (fun u_ k_ => XS.iconst X0.here hx rfl (hb hby own_d_jdk_42_3_2) k_) ?_
  refine own_st (fun u_ k_ => XS.aloadN X0.here hx rfl (hb hby own_d_jdk_42_3_3) rfl rfl k_) ?_
  show own_Go p e below _ (s₁.setTop (mkF m 4 #[.val (.ref a), .val (.ref b)] [(.ref b), (.int (0 : Int32)), (.ref b), (.ref a)]))
  obtain ⟨cl919, Ar919, -, S919, N919, -, -⟩ := id A1
  refine own_st (X0.arraylength hx (by rw [e0]; exact Ar919.1) (State.isArrayOf_alike hZ.alike Ar919.2.1) (g := (mkF m 4 #[.val (.ref a), .val (.ref b)] [(.ref b), (.int (0 : Int32)), (.ref b), (.ref a)])) rfl rfl (hb hby own_d_jdk_42_3_4)) ?_
  rw [len_of S919 N919]
  show own_Go p e below _ (s₁.setTop (mkF m 5 #[.val (.ref a), .val (.ref b)] [(.int (3 : Int32)), (.int (0 : Int32)), (.ref b), (.ref a)]))
  refine own_st (fun u_ k_ => XS.aconstNull X0.here hx rfl (hb hby own_d_jdk_42_3_5) k_) ?_
  obtain ⟨T920, v920, L920, X920, hQ920, st920⟩ := own_callN X0 hx hZ (y := own_y_172) rfl hown (own_w hw 8 rfl) (own_w hw 9 rfl) (own_w hw 3 rfl) (own_w hw 11 rfl) own_lm_181 (rmS4_3_3 l Z a0 hw [] wcs hS a b kb v0 v1 v2 h0 n0 O0 E Ea ga F1 F2 A1 (by assumption) (by assumption) (by assumption)) e0 own_pd_182 (a := a) (argsL := [(.ref b), (.int (0 : Int32)), (.int (3 : Int32)), .null]) (rest := []) rfl rfl (g := (mkF m 6 #[.val (.ref a), .val (.ref b)] [.null, (.int (3 : Int32)), (.int (0 : Int32)), (.ref b), (.ref a)])) rfl (by rw [hml]; rfl) rfl (hb hby own_d_jdk_42_3_6) (W := 0) rfl (by decide) (by decide) (by decide) (by decide)
  obtain ⟨r_921, kr_922, rfl, M920, K920, z923, F924, F925, F926, F927, F928⟩ := hQ920
  have N920 := Fr.app N0 M920
  refine own_st (fun u_ k_ => st920 u_ k_) ?_
  show own_Go p e below _ (T920.setTop (mkF m 9 #[.val (.ref a), .val (.ref b)] []))
  have K929 : Keep h0 T920.heap [a] := (Keep.refl h0 [a]).trans K920 (allS (Or.inl (List.mem_of_getElem? (i := 0) rfl)) all0)
  have z930 : h0.size ≤ r_921 := Nat.le_trans (Nat.le_refl _) z923
  exact own_retV X920 hx hlk hret (hb hby own_d_jdk_42_3_9) (by decide) (by decide) (show QrmS1_3_3 Z wcs a b kb v0 v1 v2 h0 n0 none T920.heap _ from (by exact ⟨r_921, kr_922, rfl, N920, K929, z930, F924, F925, F926, F927, F928⟩))
def QrmSJ_3 (Z : State) (wcs : Int32) (a : Addr) (b : Addr) (kb : ClassId) (v0 : Int32) (v1 : Int32) (v2 : Int32) (h0 : Heap) (n0 : Nat) (v : Option Value) (h : Heap) (L : List Loc) : Prop := ∃ r : Addr, ∃ kr : ClassId, ∃ cd : Int32, ∃ ln : Int32, ∃ us : List Value, v = none ∧ Fr n0 L ∧ Keep h0 h [a] ∧ h0.size ≤ r ∧ Exa Z h a "java/lang/String" ∧ Fld Z h a "java/lang/String" "value" "[B" (.ref r) ∧ Fld Z h a "java/lang/String" "coder" "B" (.int cd) ∧ Exa Z h r "[B" ∧ Arv Z h r kr .byte ln us (.int (0 : Int32)) ∧ (ln >>> (cd &&& 31)) = (3 : Int32) ∧ narrow .byte (.int cd) = .int cd
theorem rmSJ_3 (l : Launch) (Z : State) (a0 : Array Value) (hw : own_H a0 Z) (ws : List Jvm.Cond) (wcs : Int32) (hS : own_S Z wcs) (a : Addr) (b : Addr) (kb : ClassId) (v0 : Int32) (v1 : Int32) (v2 : Int32) (h0 : Heap) (n0 : Nat) (O0 : Old Z n0 h0) (E : Exa Z h0 a "java/lang/String") (Ea : Exa Z h0 b "[C") (ga : n0 ≤ a) (F1 : Fld Z h0 a "java/lang/String" "value" "[B" .null) (F2 : Fld Z h0 a "java/lang/String" "coder" "B" (.int (0 : Int32))) (A1 : Arv Z h0 b kb .char (3 : Int32) [(.int v0), (.int v1), (.int v2)] (.int (0 : Int32))) (hv0 : own_C16 v0) (hv1 : own_C16 v1) (hv2 : own_C16 v2) :
    own_Met l own_y_198 jdk_42_method_3_code 2 none ws ({ frames := 5, cells := 2, slots := 9, locals := 74 } : Room) Z h0 #[(.ref a), (.ref b)] (QrmSJ_3 Z wcs a b kb v0 v1 v2 h0 n0) := by
  by_cases hq0 : (255 : Int32) < v0
  · refine MetFree.imp (rmS1_3_0 l Z a0 hw ws wcs hS a b kb v0 v1 v2 h0 n0 O0 E Ea ga F1 F2 A1 hq0 hv0 hv1 hv2) ?_
    rintro _ _ _ _ ⟨v, L, e, ⟨r, kr, b1, b2, b3, b4, b5, b6, b7, b8, b9⟩, f⟩
    exact ⟨v, L, e, ⟨r, kr, (1 : Int32), (6 : Int32), [(.int ((v0 >>> ((0 : Int32) &&& 31)).toInt8.toInt32)), (.int ((v0 >>> ((8 : Int32) &&& 31)).toInt8.toInt32)), (.int ((v1 >>> ((0 : Int32) &&& 31)).toInt8.toInt32)), (.int ((v1 >>> ((8 : Int32) &&& 31)).toInt8.toInt32)), (.int ((v2 >>> ((0 : Int32) &&& 31)).toInt8.toInt32)), (.int ((v2 >>> ((8 : Int32) &&& 31)).toInt8.toInt32))], b1, b2, b3, b4, b5, b6, b7, b8, b9, by decide, rfl⟩, f⟩
  · skip
    by_cases hq1 : (255 : Int32) < v1
    · refine MetFree.imp (rmS1_3_1 l Z a0 hw ws wcs hS a b kb v0 v1 v2 h0 n0 O0 E Ea ga F1 F2 A1 hq0 hq1 hv0 hv1 hv2) ?_
      rintro _ _ _ _ ⟨v, L, e, ⟨r, kr, b1, b2, b3, b4, b5, b6, b7, b8, b9⟩, f⟩
      exact ⟨v, L, e, ⟨r, kr, (1 : Int32), (6 : Int32), [(.int ((v0 >>> ((0 : Int32) &&& 31)).toInt8.toInt32)), (.int ((v0 >>> ((8 : Int32) &&& 31)).toInt8.toInt32)), (.int ((v1 >>> ((0 : Int32) &&& 31)).toInt8.toInt32)), (.int ((v1 >>> ((8 : Int32) &&& 31)).toInt8.toInt32)), (.int ((v2 >>> ((0 : Int32) &&& 31)).toInt8.toInt32)), (.int ((v2 >>> ((8 : Int32) &&& 31)).toInt8.toInt32))], b1, b2, b3, b4, b5, b6, b7, b8, b9, by decide, rfl⟩, f⟩
    · skip
      by_cases hq2 : (255 : Int32) < v2
      · refine MetFree.imp (rmS1_3_2 l Z a0 hw ws wcs hS a b kb v0 v1 v2 h0 n0 O0 E Ea ga F1 F2 A1 hq0 hq1 hq2 hv0 hv1 hv2) ?_
        rintro _ _ _ _ ⟨v, L, e, ⟨r, kr, b1, b2, b3, b4, b5, b6, b7, b8, b9⟩, f⟩
        exact ⟨v, L, e, ⟨r, kr, (1 : Int32), (6 : Int32), [(.int ((v0 >>> ((0 : Int32) &&& 31)).toInt8.toInt32)), (.int ((v0 >>> ((8 : Int32) &&& 31)).toInt8.toInt32)), (.int ((v1 >>> ((0 : Int32) &&& 31)).toInt8.toInt32)), (.int ((v1 >>> ((8 : Int32) &&& 31)).toInt8.toInt32)), (.int ((v2 >>> ((0 : Int32) &&& 31)).toInt8.toInt32)), (.int ((v2 >>> ((8 : Int32) &&& 31)).toInt8.toInt32))], b1, b2, b3, b4, b5, b6, b7, b8, b9, by decide, rfl⟩, f⟩
      · skip
        refine MetFree.imp (rmS1_3_3 l Z a0 hw ws wcs hS a b kb v0 v1 v2 h0 n0 O0 E Ea ga F1 F2 A1 hq0 hq1 hq2) ?_
        rintro _ _ _ _ ⟨v, L, e, ⟨r, kr, b1, b2, b3, b4, b5, b6, b7, b8, b9⟩, f⟩
        exact ⟨v, L, e, ⟨r, kr, (0 : Int32), (3 : Int32), [(.int (v0.toInt8.toInt32)), (.int (v1.toInt8.toInt32)), (.int (v2.toInt8.toInt32))], b1, b2, b3, b4, b5, b6, b7, b8, b9, by decide, rfl⟩, f⟩
theorem own_d_jdk_42_149_8 : decode jdk_42_method_149_code 8 = .ok (.aload_n 0, 1) := by decide +kernel
theorem own_d_jdk_42_149_9 : decode jdk_42_method_149_code 9 = .ok (.ldc 7, 2) := by decide +kernel
theorem own_lm_210 : (∀ c ∈ ("" : String).toList, c.toNat < 256) ∧ ("" : String).toList.map (fun c => Value.int (Jvm.Lit.byteI c.toNat.toUInt16)) = [] := ⟨by decide, by decide⟩
theorem own_d_jdk_42_149_11 : decode jdk_42_method_149_code 11 = .ok (.getfield 9, 3) := by decide +kernel
theorem own_d_jdk_42_149_14 : decode jdk_42_method_149_code 14 = .ok (.putfield 9, 3) := by decide +kernel
theorem own_d_jdk_42_149_17 : decode jdk_42_method_149_code 17 = .ok (.aload_n 0, 1) := by decide +kernel
theorem own_d_jdk_42_149_18 : decode jdk_42_method_149_code 18 = .ok (.ldc 7, 2) := by decide +kernel
theorem own_d_jdk_42_149_20 : decode jdk_42_method_149_code 20 = .ok (.getfield 15, 3) := by decide +kernel
theorem own_d_jdk_42_149_23 : decode jdk_42_method_149_code 23 = .ok (.putfield 15, 3) := by decide +kernel
theorem own_d_jdk_42_149_26 : decode jdk_42_method_149_code 26 = .ok (.return_, 1) := by decide +kernel
theorem own_ef_rmS4_0 (m : MethodId) (a : Addr) (b : Addr)  : entryFrame m #[(.ref a), (.ref b), (.int (0 : Int32)), (.int (0 : Int32)), .null] 6 = mkF m 0 #[.val (.ref a), .val (.ref b), .val (.int (0 : Int32)), .val (.int (0 : Int32)), .val .null, .unset] [] := by first | (simp [entryFrame, mkF, argsToLocals, Value.category, maxLocals]; done) | rfl
def QrmS4_0 (Z : State) (wcs : Int32) (a : Addr) (b : Addr) (kb : ClassId) (h0 : Heap) (n0 : Nat) (v : Option Value) (h : Heap) (L : List Loc) : Prop := ∃ r : Addr, ∃ kr : ClassId, v = none ∧ Fr n0 L ∧ Keep h0 h [a] ∧ Exa Z h a "java/lang/String" ∧ Fld Z h a "java/lang/String" "value" "[B" (.ref r) ∧ Fld Z h a "java/lang/String" "coder" "B" (.int (0 : Int32)) ∧ Arv Z h r kr .byte (0 : Int32) [] (.int (0 : Int32))
set_option maxRecDepth 65536 in
set_option maxHeartbeats 40000000 in
theorem rmS4_0 (l : Launch) (Z : State) (a0 : Array Value) (hw : own_H a0 Z) (ws : List Jvm.Cond) (wcs : Int32) (hS : own_S Z wcs) (a : Addr) (b : Addr) (kb : ClassId) (h0 : Heap) (n0 : Nat) (O0 : Old Z n0 h0) (E : Exa Z h0 a "java/lang/String") (Ea : Exa Z h0 b "[C") (ga : n0 ≤ a) (F1 : Fld Z h0 a "java/lang/String" "value" "[B" .null) (F2 : Fld Z h0 a "java/lang/String" "coder" "B" (.int (0 : Int32))) (A1 : Arv Z h0 b kb .char (0 : Int32) [] (.int (0 : Int32))) :
    own_MetH own_EL [a] l own_y_172 jdk_42_method_149_code 6 none ws ({ frames := 1, cells := 4, slots := 8, locals := 12 } : Room) Z h0 #[(.ref a), (.ref b), (.int (0 : Int32)), (.int (0 : Int32)), .null] (QrmS4_0 Z wcs a b kb h0 n0) := by
  refine own_bodyH (plainFor_of_name own_pn_173) ?_
  intro p e s m below meth c s₁ hx hby hml hown hnm hret hlk hZ e0 X0 hSi0 hs0 hC0 hsf0
  have hZ_0 := hZ
  have R0 : CHr Z own_EL s.vm h0 s.vm h0 := CHr.refl hC0
  have N0 := Fr.nil n0
  refine own_st (fun u_ k_ => castTop (own_ef_rmS4_0 m a b) k_) ?_
  show own_Go p e below _ (s₁.setTop (mkF m 0 #[.val (.ref a), .val (.ref b), .val (.int (0 : Int32)), .val (.int (0 : Int32)), .val .null, .unset] []))
  refine own_st (fun u_ k_ => XS.aloadN X0.here hx rfl (hb hby own_d_jdk_42_149_0) rfl rfl k_) ?_
  obtain ⟨T931, X931, e931, st931⟩ := initO X0 hx hZ hown (own_w hw 12 rfl) (own_w hw 13 rfl) (own_w hw 14 rfl) e0 (g := (mkF m 1 #[.val (.ref a), .val (.ref b), .val (.int (0 : Int32)), .val (.int (0 : Int32)), .val .null, .unset] [(.ref a)])) rfl (by rw [hml]; rfl) rfl (hb hby own_d_jdk_42_149_1) (by decide) (W := 0) (by show 2 * 0 + _ ≤ _; exact Nat.le_of_eq rfl) (by decide)
  refine own_st (fun u_ k_ => st931 u_ k_) ?_
  show own_Go p e below _ (T931.setTop (mkF m 4 #[.val (.ref a), .val (.ref b), .val (.int (0 : Int32)), .val (.int (0 : Int32)), .val .null, .unset] []))
  refine own_st (fun u_ k_ => XS.iloadN X931.here hx rfl (hb hby own_d_jdk_42_149_4) rfl k_) ?_
  refine own_st (fun u_ k_ => XS.ifNo X931.here hx rfl (hb hby own_d_jdk_42_149_5) rfl (XT.i0_ne_f (by decide)) k_) ?_
  show own_Go p e below _ (T931.setTop (mkF m 8 #[.val (.ref a), .val (.ref b), .val (.int (0 : Int32)), .val (.int (0 : Int32)), .val .null, .unset] []))
  refine own_st (fun u_ k_ => XS.aloadN X931.here hx rfl (hb hby own_d_jdk_42_149_8) rfl rfl k_) ?_
  obtain ⟨a932, T932, h932, j932, b932, k932, X932, e932, E932, Si932, Sk932, hZ932, hown932, Ea932, Fc932, Fv932, Av932, la932, lb932, hr932, Li932, ln932, st932⟩ := ldcCH X931 hx hZ hown (own_w hw 15 rfl) (own_strW hw) e931 hSi0 (Nat.zero_le _) (own_hEL hw) (List.mem_of_getElem? (i := 1) rfl) R0.1 (vs := []) (z := 0) own_lm_210 (by decide) rfl (g := (mkF m 9 #[.val (.ref a), .val (.ref b), .val (.int (0 : Int32)), .val (.int (0 : Int32)), .val .null, .unset] [(.ref a)])) rfl (hb hby own_d_jdk_42_149_9) (n := 0) (by decide) (by decide) (by decide) (by decide)
  refine own_st (fun u_ k_ => st932 u_ k_) ?_
  show own_Go p e below _ (T932.setTop (mkF m 11 #[.val (.ref a), .val (.ref b), .val (.int (0 : Int32)), .val (.int (0 : Int32)), .val .null, .unset] [(.ref a932), (.ref a)]))
  obtain ⟨T933, X933, e933, st933⟩ := getF X932 hx hZ932 hown932 (host := "") (Or.inl (own_w hw 21 rfl)) Via.refl e932 Fv932 (g := (mkF m 11 #[.val (.ref a), .val (.ref b), .val (.int (0 : Int32)), .val (.int (0 : Int32)), .val .null, .unset] [(.ref a932), (.ref a)])) rfl rfl (hb hby own_d_jdk_42_149_11)
  refine own_st (fun u_ k_ => st933 u_ k_) ?_
  show own_Go p e below _ (T933.setTop (mkF m 14 #[.val (.ref a), .val (.ref b), .val (.int (0 : Int32)), .val (.int (0 : Int32)), .val .null, .unset] [(.ref b932), (.ref a)]))
  have F934 := (Exa.ext E932 E)
  have F935 := (Fld.ext E932 F1)
  obtain ⟨T936, h936, X936, e936, W936, st936⟩ := putF X933 hx hZ932 hown932 (host := "") (Or.inl (own_w hw 21 rfl)) Via.refl e933 F935 F934 (Or.inr ⟨(own_w hw 17 rfl), rfl, hnm⟩) (own_w hw 2 rfl) (ty := (.array .byte)) own_lm_167 rfl rfl (g := (mkF m 14 #[.val (.ref a), .val (.ref b), .val (.int (0 : Int32)), .val (.int (0 : Int32)), .val .null, .unset] [(.ref b932), (.ref a)])) rfl rfl (hb hby own_d_jdk_42_149_14)
  have N936 := Fr.snoc X936 N0 ga
  have F937 : Fld Z h936 a "java/lang/String" "value" "[B" (.ref b932) := Fld.same W936 F935
  refine own_st (fun u_ k_ => st936 u_ k_) ?_
  show own_Go p e below _ (T936.setTop (mkF m 17 #[.val (.ref a), .val (.ref b), .val (.int (0 : Int32)), .val (.int (0 : Int32)), .val .null, .unset] []))
  refine own_st (fun u_ k_ => XS.aloadN X936.here hx rfl (hb hby own_d_jdk_42_149_17) rfl rfl k_) ?_
  have R939 : CHr Z own_EL s.vm h0 T932.vm h932 := R0.trans hr932
  have sf_941 : Safe Z own_EL s.vm h0 a := hsf0 _ (List.mem_of_getElem? (i := 0) rfl)
  have sf_942 : Safe Z own_EL T932.vm h932 a := hr932.safe E.lt sf_941
  have R940 : CHr Z own_EL s.vm h0 T932.vm h936 := R939.trans (CHr.wr W936 sf_942 R939.1)
  obtain ⟨a938, T938, h938, j938, b938, k938, X938, e938, E938, Si938, Sk938, hZ938, hown938, Ea938, Fc938, Fv938, Av938, la938, lb938, hr938, Li938, ln938, st938⟩ := ldcCH X936 hx hZ932 hown932 (own_w hw 15 rfl) (own_strW hw) e936 Si932 (Nat.le_trans Sk932 (Nat.le_of_eq W936.size.symm)) (own_hEL hw) (List.mem_of_getElem? (i := 1) rfl) R940.1 (vs := []) (z := 0) own_lm_210 (by decide) rfl (g := (mkF m 18 #[.val (.ref a), .val (.ref b), .val (.int (0 : Int32)), .val (.int (0 : Int32)), .val .null, .unset] [(.ref a)])) rfl (hb hby own_d_jdk_42_149_18) (n := 0) (by decide) (by decide) (by decide) (by decide)
  refine own_st (fun u_ k_ => st938 u_ k_) ?_
  show own_Go p e below _ (T938.setTop (mkF m 20 #[.val (.ref a), .val (.ref b), .val (.int (0 : Int32)), .val (.int (0 : Int32)), .val .null, .unset] [(.ref a938), (.ref a)]))
  obtain ⟨T943, X943, e943, st943⟩ := getF X938 hx hZ938 hown938 (host := "") (Or.inl (own_w hw 22 rfl)) Via.refl e938 Fc938 (g := (mkF m 20 #[.val (.ref a), .val (.ref b), .val (.int (0 : Int32)), .val (.int (0 : Int32)), .val .null, .unset] [(.ref a938), (.ref a)])) rfl rfl (hb hby own_d_jdk_42_149_20)
  refine own_st (fun u_ k_ => st943 u_ k_) ?_
  show own_Go p e below _ (T943.setTop (mkF m 23 #[.val (.ref a), .val (.ref b), .val (.int (0 : Int32)), .val (.int (0 : Int32)), .val .null, .unset] [(.int (0 : Int32)), (.ref a)]))
  have F944 := (Exa.ext E938 (Exa.wr W936 F934))
  have F945 := (Fld.ext E938 (Fld.other W936 (Fld.ext E932 F2) (Or.inr (own_sn_171 hw))))
  obtain ⟨T946, h946, X946, e946, W946, st946⟩ := putF X943 hx hZ938 hown938 (host := "") (Or.inl (own_w hw 22 rfl)) Via.refl e943 F945 F944 (Or.inr ⟨(own_w hw 18 rfl), rfl, hnm⟩) (own_w hw 2 rfl) (ty := .byte) own_lm_162 rfl rfl (g := (mkF m 23 #[.val (.ref a), .val (.ref b), .val (.int (0 : Int32)), .val (.int (0 : Int32)), .val .null, .unset] [(.int (0 : Int32)), (.ref a)])) rfl rfl (hb hby own_d_jdk_42_149_23)
  have N946 := Fr.snoc X946 N936 ga
  have F947 : Fld Z h946 a "java/lang/String" "coder" "B" (.int (0 : Int32)) := Fld.same W946 F945
  refine own_st (fun u_ k_ => st946 u_ k_) ?_
  show own_Go p e below _ (T946.setTop (mkF m 26 #[.val (.ref a), .val (.ref b), .val (.int (0 : Int32)), .val (.int (0 : Int32)), .val .null, .unset] []))
  have K948 : Keep h0 h932 [a] := (Keep.refl h0 [a]).ext E932
  have K949 : Keep h0 h936 [a] := K948.wr W936 (Or.inl (List.mem_of_getElem? (i := 0) rfl))
  have K950 : Keep h0 h938 [a] := K949.ext E938
  have K951 : Keep h0 h946 [a] := K950.wr W946 (Or.inl (List.mem_of_getElem? (i := 0) rfl))
  have F952 := (Exa.wr W946 F944)
  have F953 := (Fld.other W946 (Fld.ext E938 F937) (Or.inr (own_sn_168 hw)))
  have ne954 : b932 ≠ a := (Ne.symm (ln932 a sf_942).2)
  have F955 := (((Av932.other W936 ne954).ext E938).other W946 ne954)
  have R956 : CHr Z own_EL s.vm h0 T938.vm h938 := R940.trans hr938
  have sf_958 : Safe Z own_EL T932.vm h936 a := Safe.wr W936 sf_942 R939.1 sf_942
  have sf_959 : Safe Z own_EL T938.vm h938 a := hr938.safe F937.lt sf_958
  have R957 : CHr Z own_EL s.vm h0 T938.vm h946 := R956.trans (CHr.wr W946 sf_959 R956.1)
  exact own_retVH X946 Si938 (Nat.le_trans Sk938 (Nat.le_of_eq W946.size.symm)) e946 hZ938 (own_hEL hw) hs0 R957 hx hlk hret (hb hby own_d_jdk_42_149_26) (by decide) (by decide) (show QrmS4_0 Z wcs a b kb h0 n0 none T946.heap _ from (by rw [e946]; exact ⟨b932, k932, rfl, N946, K951, F952, F953, F947, F955⟩))
theorem own_ef_rmS1_0 (m : MethodId) (a : Addr) (b : Addr)  : entryFrame m #[(.ref a), (.ref b)] 2 = mkF m 0 #[.val (.ref a), .val (.ref b)] [] := by first | (simp [entryFrame, mkF, argsToLocals, Value.category, maxLocals]; done) | rfl
def QrmS1_0 (Z : State) (wcs : Int32) (a : Addr) (b : Addr) (kb : ClassId) (h0 : Heap) (n0 : Nat) (v : Option Value) (h : Heap) (L : List Loc) : Prop := ∃ r : Addr, ∃ kr : ClassId, v = none ∧ Fr n0 L ∧ Keep h0 h [a] ∧ Exa Z h a "java/lang/String" ∧ Fld Z h a "java/lang/String" "value" "[B" (.ref r) ∧ Fld Z h a "java/lang/String" "coder" "B" (.int (0 : Int32)) ∧ Arv Z h r kr .byte (0 : Int32) [] (.int (0 : Int32))
set_option maxRecDepth 65536 in
set_option maxHeartbeats 40000000 in
theorem rmS1_0 (l : Launch) (Z : State) (a0 : Array Value) (hw : own_H a0 Z) (ws : List Jvm.Cond) (wcs : Int32) (hS : own_S Z wcs) (a : Addr) (b : Addr) (kb : ClassId) (h0 : Heap) (n0 : Nat) (O0 : Old Z n0 h0) (E : Exa Z h0 a "java/lang/String") (Ea : Exa Z h0 b "[C") (ga : n0 ≤ a) (F1 : Fld Z h0 a "java/lang/String" "value" "[B" .null) (F2 : Fld Z h0 a "java/lang/String" "coder" "B" (.int (0 : Int32))) (A1 : Arv Z h0 b kb .char (0 : Int32) [] (.int (0 : Int32))) :
    own_MetH own_EL [a] l own_y_198 jdk_42_method_3_code 2 none ws ({ frames := 2, cells := 4, slots := 8, locals := 29 } : Room) Z h0 #[(.ref a), (.ref b)] (QrmS1_0 Z wcs a b kb h0 n0) := by
  refine own_bodyH (plainFor_of_name own_pn_173) ?_
  intro p e s m below meth c s₁ hx hby hml hown hnm hret hlk hZ e0 X0 hSi0 hs0 hC0 hsf0
  have hZ_0 := hZ
  have R0 : CHr Z own_EL s.vm h0 s.vm h0 := CHr.refl hC0
  have N0 := Fr.nil n0
  refine own_st (fun u_ k_ => castTop (own_ef_rmS1_0 m a b) k_) ?_
  show own_Go p e below _ (s₁.setTop (mkF m 0 #[.val (.ref a), .val (.ref b)] []))
  refine own_st (fun u_ k_ => XS.aloadN X0.here hx rfl (hb hby own_d_jdk_42_3_0) rfl rfl k_) ?_
  refine own_st (fun u_ k_ => XS.aloadN X0.here hx rfl (hb hby own_d_jdk_42_3_1) rfl rfl k_) ?_
  show own_Go p e below _ (s₁.setTop (mkF m 2 #[.val (.ref a), .val (.ref b)] [(.ref b), (.ref a)]))
  refine own_st (fun u_ k_ => XS.iconst X0.here hx rfl (hb hby own_d_jdk_42_3_2) k_) ?_
  refine own_st (fun u_ k_ => XS.aloadN X0.here hx rfl (hb hby own_d_jdk_42_3_3) rfl rfl k_) ?_
  show own_Go p e below _ (s₁.setTop (mkF m 4 #[.val (.ref a), .val (.ref b)] [(.ref b), (.int (0 : Int32)), (.ref b), (.ref a)]))
  obtain ⟨cl960, Ar960, -, S960, N960, -, -⟩ := id A1
  refine own_st (X0.arraylength hx (by rw [e0]; exact Ar960.1) (State.isArrayOf_alike hZ.alike Ar960.2.1) (g := (mkF m 4 #[.val (.ref a), .val (.ref b)] [(.ref b), (.int (0 : Int32)), (.ref b), (.ref a)])) rfl rfl (hb hby own_d_jdk_42_3_4)) ?_
  rw [len_of S960 N960]
  show own_Go p e below _ (s₁.setTop (mkF m 5 #[.val (.ref a), .val (.ref b)] [(.int (0 : Int32)), (.int (0 : Int32)), (.ref b), (.ref a)]))
  refine own_st (fun u_ k_ => XS.aconstNull X0.here hx rfl (hb hby own_d_jdk_42_3_5) k_) ?_
  have sf_962 : Safe Z own_EL s.vm h0 a := hsf0 _ (List.mem_of_getElem? (i := 0) rfl)
  obtain ⟨T961, v961, L961, X961, Si961, hZ961, hown961, hQ961, hr961, st961⟩ := own_callNH X0 hx hZ hSi0 (Nat.zero_le _) (own_hEL hw) R0.1 (own_sfS E.lt sf_962 own_sf0) (y := own_y_172) rfl hown (own_w hw 8 rfl) (own_w hw 9 rfl) (own_w hw 3 rfl) (own_w hw 11 rfl) own_lm_181 (rmS4_0 l Z a0 hw [] wcs hS a b kb h0 n0 O0 E Ea ga F1 F2 A1) e0 own_pd_182 (a := a) (argsL := [(.ref b), (.int (0 : Int32)), (.int (0 : Int32)), .null]) (rest := []) rfl rfl (g := (mkF m 6 #[.val (.ref a), .val (.ref b)] [.null, (.int (0 : Int32)), (.int (0 : Int32)), (.ref b), (.ref a)])) rfl (by rw [hml]; rfl) rfl (hb hby own_d_jdk_42_3_6) (W := 0) rfl (by decide) (by decide) (by decide) (by decide)
  obtain ⟨r_963, kr_964, rfl, M961, K961, F965, F966, F967, F968⟩ := hQ961
  have N961 := Fr.app N0 M961
  refine own_st (fun u_ k_ => st961 u_ k_) ?_
  show own_Go p e below _ (T961.setTop (mkF m 9 #[.val (.ref a), .val (.ref b)] []))
  have K969 : Keep h0 T961.heap [a] := (Keep.refl h0 [a]).trans K961 (allS (Or.inl (List.mem_of_getElem? (i := 0) rfl)) all0)
  have R970 : CHr Z own_EL s.vm h0 T961.vm T961.heap := R0.trans hr961
  exact own_retVH X961 Si961 (Nat.le_refl _) rfl hZ961 (own_hEL hw) hs0 R970 hx hlk hret (hb hby own_d_jdk_42_3_9) (by decide) (by decide) (show QrmS1_0 Z wcs a b kb h0 n0 none T961.heap _ from (by exact ⟨r_963, kr_964, rfl, N961, K969, F965, F966, F967, F968⟩))
theorem own_d_jdk_30_1_0 : decode jdk_30_method_1_code 0 = .ok (.aload_n 0, 1) := by decide +kernel
theorem own_d_jdk_30_1_1 : decode jdk_30_method_1_code 1 = .ok (.invokespecial 1, 3) := by decide +kernel
theorem own_d_jdk_30_1_4 : decode jdk_30_method_1_code 4 = .ok (.return_, 1) := by decide +kernel
abbrev own_y_221 : MethodName := ⟨"java/lang/Record", "<init>", "()V"⟩
theorem own_pn_222 : plainName "java/lang/Record" = true := by first | (simp [plainName, overriddenIn]; done) | decide +kernel
theorem own_ef_rmRec (m : MethodId) (a : Addr)  : entryFrame m #[(.ref a)] 1 = mkF m 0 #[.val (.ref a)] [] := by first | (simp [entryFrame, mkF, argsToLocals, Value.category, maxLocals]; done) | rfl
def QrmRec (Z : State) (wcs : Int32) (a : Addr) (h0 : Heap) (n0 : Nat) (v : Option Value) (h : Heap) (L : List Loc) : Prop := v = none ∧ Fr n0 L ∧ h = h0
set_option maxRecDepth 65536 in
set_option maxHeartbeats 40000000 in
theorem rmRec (l : Launch) (Z : State) (a0 : Array Value) (hw : own_H a0 Z) (ws : List Jvm.Cond) (wcs : Int32) (hS : own_S Z wcs) (a : Addr) (h0 : Heap) (n0 : Nat) (O0 : Old Z n0 h0)  :
    own_Met l own_y_221 jdk_30_method_1_code 1 none ws ({ frames := 1, cells := 0, slots := 0, locals := 12 } : Room) Z h0 #[(.ref a)] (QrmRec Z wcs a h0 n0) := by
  refine own_body (plainFor_of_name own_pn_222) ?_
  intro p e s m below meth c s₁ hx hby hml hown hnm hret hlk hZ e0 X0
  have N0 := Fr.nil n0
  refine own_st (fun u_ k_ => castTop (own_ef_rmRec m a) k_) ?_
  show own_Go p e below _ (s₁.setTop (mkF m 0 #[.val (.ref a)] []))
  refine own_st (fun u_ k_ => XS.aloadN X0.here hx rfl (hb hby own_d_jdk_30_1_0) rfl rfl k_) ?_
  obtain ⟨T971, X971, e971, st971⟩ := initO X0 hx hZ hown (own_w hw 40 rfl) (own_w hw 13 rfl) (own_w hw 14 rfl) e0 (g := (mkF m 1 #[.val (.ref a)] [(.ref a)])) rfl (by rw [hml]; rfl) rfl (hb hby own_d_jdk_30_1_1) (by decide) (W := 0) (by show 2 * 0 + _ ≤ _; exact Nat.le_of_eq rfl) (by decide)
  refine own_st (fun u_ k_ => st971 u_ k_) ?_
  show own_Go p e below _ (T971.setTop (mkF m 4 #[.val (.ref a)] []))
  exact own_retV X971 hx hlk hret (hb hby own_d_jdk_30_1_4) (by decide) (by decide) (show QrmRec Z wcs a h0 n0 none T971.heap _ from (by rw [e971]; exact ⟨rfl, N0, rfl⟩))
theorem own_d_jdk_31_11_0 : decode jdk_31_method_11_code 0 = .ok (.aload_n 0, 1) := by decide +kernel
theorem own_d_jdk_31_11_1 : decode jdk_31_method_11_code 1 = .ok (.ifnonnull 12, 3) := by decide +kernel
theorem own_d_jdk_31_11_13 : decode jdk_31_method_11_code 13 = .ok (.aload_n 0, 1) := by decide +kernel
theorem own_d_jdk_31_11_14 : decode jdk_31_method_11_code 14 = .ok (.areturn, 1) := by decide +kernel
abbrev own_y_227 : MethodName := ⟨"java/util/Objects", "requireNonNull", "(Ljava/lang/Object;Ljava/lang/String;)Ljava/lang/Object;"⟩
theorem own_pn_228 : plainName "java/util/Objects" = true := by first | (simp [plainName, overriddenIn]; done) | decide +kernel
theorem own_ef_rmNN (m : MethodId) (a : Addr) (b : Addr)  : entryFrame m #[(.ref a), (.ref b)] 2 = mkF m 0 #[.val (.ref a), .val (.ref b)] [] := by first | (simp [entryFrame, mkF, argsToLocals, Value.category, maxLocals]; done) | rfl
def QrmNN (Z : State) (wcs : Int32) (a : Addr) (b : Addr) (h0 : Heap) (n0 : Nat) (v : Option Value) (h : Heap) (L : List Loc) : Prop := v = some (.ref a) ∧ Fr n0 L ∧ h = h0
set_option maxRecDepth 65536 in
set_option maxHeartbeats 40000000 in
theorem rmNN (l : Launch) (Z : State) (a0 : Array Value) (hw : own_H a0 Z) (ws : List Jvm.Cond) (wcs : Int32) (hS : own_S Z wcs) (a : Addr) (b : Addr) (h0 : Heap) (n0 : Nat) (O0 : Old Z n0 h0)  :
    own_Met l own_y_227 jdk_31_method_11_code 2 (some (.object "java/lang/Object")) ws ({ frames := 0, cells := 0, slots := 0, locals := 0 } : Room) Z h0 #[(.ref a), (.ref b)] (QrmNN Z wcs a b h0 n0) := by
  refine own_body (plainFor_of_name own_pn_228) ?_
  intro p e s m below meth c s₁ hx hby hml hown hnm hret hlk hZ e0 X0
  have N0 := Fr.nil n0
  refine own_st (fun u_ k_ => castTop (own_ef_rmNN m a b) k_) ?_
  show own_Go p e below _ (s₁.setTop (mkF m 0 #[.val (.ref a), .val (.ref b)] []))
  refine own_st (fun u_ k_ => XS.aloadN X0.here hx rfl (hb hby own_d_jdk_31_11_0) rfl rfl k_) ?_
  refine own_st (fun u_ k_ => XS.ifnonnullYes X0.here hx rfl (pc0 := 1) (pc' := 13) rfl (hb hby own_d_jdk_31_11_1) rfl (by decide) (by decide) k_) ?_
  show own_Go p e below _ (s₁.setTop (mkF m 13 #[.val (.ref a), .val (.ref b)] []))
  refine own_st (fun u_ k_ => XS.aloadN X0.here hx rfl (hb hby own_d_jdk_31_11_13) rfl rfl k_) ?_
  exact own_retX X0 hx hlk hret rfl (Or.inr (Or.inr (Or.inr (Or.inr ⟨rfl, rfl, rfl⟩)))) (hb hby own_d_jdk_31_11_14) (by decide) (by decide) (show QrmNN Z wcs a b h0 n0 (some (.ref a)) s₁.heap _ from (by rw [e0]; exact ⟨rfl, N0, rfl⟩))
theorem own_d_prog_71_1_0 : decode prog_71_method_1_code 0 = .ok (.aload_n 0, 1) := by decide +kernel
theorem own_d_prog_71_1_1 : decode prog_71_method_1_code 1 = .ok (.invokespecial 1, 3) := by decide +kernel
theorem own_lm_231 : ("java/lang/Record" : String) ≠ "java/lang/invoke/MethodHandle" ∧ ("java/lang/Record" : String) ≠ "java/lang/invoke/VarHandle" := by decide +kernel
theorem own_pd_232 : parseMethodDescriptor "()V" = some ⟨[], none⟩ := by decide +kernel
theorem own_d_prog_71_1_4 : decode prog_71_method_1_code 4 = .ok (.aload_n 1, 1) := by decide +kernel
theorem own_d_prog_71_1_5 : decode prog_71_method_1_code 5 = .ok (.ldc 7, 2) := by decide +kernel
theorem own_lm_235 : (∀ c ∈ ("text" : String).toList, c.toNat < 256) ∧ ("text" : String).toList.map (fun c => Value.int (Jvm.Lit.byteI c.toNat.toUInt16)) = [(.int (116 : Int32)), (.int (101 : Int32)), (.int (120 : Int32)), (.int (116 : Int32))] := ⟨by decide, by decide⟩
theorem own_d_prog_71_1_7 : decode prog_71_method_1_code 7 = .ok (.invokestatic 9, 3) := by decide +kernel
theorem own_lm_237 : ("java/util/Objects" : String) ≠ "java/lang/invoke/MethodHandle" ∧ ("java/util/Objects" : String) ≠ "java/lang/invoke/VarHandle" := by decide +kernel
theorem own_pd_238 : parseMethodDescriptor "(Ljava/lang/Object;Ljava/lang/String;)Ljava/lang/Object;" = some ⟨[(.object "java/lang/Object"), (.object "java/lang/String")], some (.object "java/lang/Object")⟩ := by decide +kernel
theorem own_d_prog_71_1_10 : decode prog_71_method_1_code 10 = .ok (.pop, 1) := by decide +kernel
theorem own_d_prog_71_1_11 : decode prog_71_method_1_code 11 = .ok (.aload_n 0, 1) := by decide +kernel
theorem own_d_prog_71_1_12 : decode prog_71_method_1_code 12 = .ok (.aload_n 1, 1) := by decide +kernel
theorem own_d_prog_71_1_13 : decode prog_71_method_1_code 13 = .ok (.putfield 15, 3) := by decide +kernel
theorem own_lm_243 : parseFieldDescriptor "Ljava/lang/String;" = some (.object "java/lang/String") := by decide +kernel
abbrev own_c_244 : String := "com/example/forgewire/forgewire/beans/ValueDefinition$Text"
theorem own_d_prog_71_1_16 : decode prog_71_method_1_code 16 = .ok (.return_, 1) := by decide +kernel
theorem own_lm_246 : ("com/example/forgewire/forgewire/beans/ValueDefinition$Text" : String) ≠ "java/lang/String" := by decide +kernel
theorem own_lm_247 : ("com/example/forgewire/forgewire/beans/ValueDefinition$Text" : String) ≠ "[B" := by decide +kernel
abbrev own_y_248 : MethodName := ⟨"com/example/forgewire/forgewire/beans/ValueDefinition$Text", "<init>", "(Ljava/lang/String;)V"⟩
theorem own_pn_249 : plainName "com/example/forgewire/forgewire/beans/ValueDefinition$Text" = true := by first | (simp [plainName, overriddenIn]; done) | decide +kernel
theorem own_ef_rmTx (m : MethodId) (a : Addr) (t : Addr)  : entryFrame m #[(.ref a), (.ref t)] 2 = mkF m 0 #[.val (.ref a), .val (.ref t)] [] := by first | (simp [entryFrame, mkF, argsToLocals, Value.category, maxLocals]; done) | rfl
def QrmTx (Z : State) (wcs : Int32) (a : Addr) (t : Addr) (h0 : Heap) (n0 : Nat) (v : Option Value) (h : Heap) (L : List Loc) : Prop := v = none ∧ Fr n0 L ∧ Keep h0 h [a] ∧ Exa Z h a own_c_244 ∧ Fld Z h a own_c_244 "text" "Ljava/lang/String;" (.ref t)
set_option maxRecDepth 65536 in
set_option maxHeartbeats 40000000 in
theorem rmTx (l : Launch) (Z : State) (a0 : Array Value) (hw : own_H a0 Z) (ws : List Jvm.Cond) (wcs : Int32) (hS : own_S Z wcs) (a : Addr) (t : Addr) (h0 : Heap) (n0 : Nat) (O0 : Old Z n0 h0) (E : Exa Z h0 a own_c_244) (ga : n0 ≤ a) (F1 : Fld Z h0 a own_c_244 "text" "Ljava/lang/String;" .null) :
    own_MetH own_EL [a] l own_y_248 prog_71_method_1_code 2 none ws ({ frames := 2, cells := 2, slots := 20, locals := 24 } : Room) Z h0 #[(.ref a), (.ref t)] (QrmTx Z wcs a t h0 n0) := by
  refine own_bodyH (plainFor_of_name own_pn_249) ?_
  intro p e s m below meth c s₁ hx hby hml hown hnm hret hlk hZ e0 X0 hSi0 hs0 hC0 hsf0
  have hZ_0 := hZ
  have R0 : CHr Z own_EL s.vm h0 s.vm h0 := CHr.refl hC0
  have N0 := Fr.nil n0
  refine own_st (fun u_ k_ => castTop (own_ef_rmTx m a t) k_) ?_
  show own_Go p e below _ (s₁.setTop (mkF m 0 #[.val (.ref a), .val (.ref t)] []))
  refine own_st (fun u_ k_ => XS.aloadN X0.here hx rfl (hb hby own_d_prog_71_1_0) rfl rfl k_) ?_
  obtain ⟨T972, v972, L972, X972, hQ972, st972⟩ := own_callN X0 hx hZ (y := own_y_221) rfl hown (own_w hw 35 rfl) (own_w hw 36 rfl) (own_w hw 38 rfl) (own_w hw 39 rfl) own_lm_231 (rmRec l Z a0 hw [] wcs hS a h0 n0 O0 ) e0 own_pd_232 (a := a) (argsL := []) (rest := []) rfl rfl (g := (mkF m 1 #[.val (.ref a), .val (.ref t)] [(.ref a)])) rfl (by rw [hml]; rfl) rfl (hb hby own_d_prog_71_1_1) (W := 0) rfl (by decide) (by decide) (by decide) (by decide)
  obtain ⟨rfl, M972, e972⟩ := hQ972
  have N972 := Fr.app N0 M972
  refine own_st (fun u_ k_ => st972 u_ k_) ?_
  show own_Go p e below _ (T972.setTop (mkF m 4 #[.val (.ref a), .val (.ref t)] []))
  refine own_st (fun u_ k_ => XS.aloadN X972.here hx rfl (hb hby own_d_prog_71_1_4) rfl rfl k_) ?_
  obtain ⟨a973, T973, h973, j973, b973, k973, X973, e973, E973, Si973, Sk973, hZ973, hown973, Ea973, Fc973, Fv973, Av973, la973, lb973, hr973, Li973, ln973, st973⟩ := ldcCH X972 hx hZ hown (own_w hw 41 rfl) (own_strW hw) e972 hSi0 (Nat.zero_le _) (own_hEL hw) (List.mem_of_getElem? (i := 0) rfl) R0.1 (vs := [(.int (116 : Int32)), (.int (101 : Int32)), (.int (120 : Int32)), (.int (116 : Int32))]) (z := 4) own_lm_235 (by decide) rfl (g := (mkF m 5 #[.val (.ref a), .val (.ref t)] [(.ref t)])) rfl (hb hby own_d_prog_71_1_5) (n := 16) (by decide) (by decide) (by decide) (by decide)
  refine own_st (fun u_ k_ => st973 u_ k_) ?_
  show own_Go p e below _ (T973.setTop (mkF m 7 #[.val (.ref a), .val (.ref t)] [(.ref a973), (.ref t)]))
  have O975 : Old Z n0 h973 := O0.ext E973
  obtain ⟨T974, v974, L974, X974, hQ974, st974⟩ := own_callS X973 hx hZ973 (y := own_y_227) hown973 (own_w hw 42 rfl) (own_w hw 43 rfl) (own_w hw 44 rfl) (own_w hw 45 rfl) own_lm_237 (rmNN l Z a0 hw [] wcs hS t a973 h973 n0 O975 ) e973 own_pd_238 (argsL := [(.ref t), (.ref a973)]) (rest := []) rfl rfl (g := (mkF m 7 #[.val (.ref a), .val (.ref t)] [(.ref a973), (.ref t)])) rfl (by rw [hml]; rfl) rfl (hb hby own_d_prog_71_1_7) (W := 0) rfl (by decide) (by decide) (by decide) (by decide)
  obtain ⟨rfl, M974, e974⟩ := hQ974
  have N974 := Fr.app N972 M974
  refine own_st (fun u_ k_ => st974 u_ k_) ?_
  show own_Go p e below _ (T974.setTop (mkF m 10 #[.val (.ref a), .val (.ref t)] [(.ref t)]))
  refine own_st (fun u_ k_ => XS.pop X974.here hx rfl (hb hby own_d_prog_71_1_10) rfl rfl k_) ?_
  refine own_st (fun u_ k_ => XS.aloadN X974.here hx rfl (hb hby own_d_prog_71_1_11) rfl rfl k_) ?_
  show own_Go p e below _ (T974.setTop (mkF m 12 #[.val (.ref a), .val (.ref t)] [(.ref a)]))
  refine own_st (fun u_ k_ => XS.aloadN X974.here hx rfl (hb hby own_d_prog_71_1_12) rfl rfl k_) ?_
  have F976 := (Exa.ext E973 E)
  have F977 := (Fld.ext E973 F1)
  obtain ⟨T978, h978, X978, e978, W978, st978⟩ := putF X974 hx hZ973 hown973 (host := "") (Or.inl (own_w hw 46 rfl)) Via.refl e974 F977 F976 (Or.inr ⟨(own_w hw 47 rfl), rfl, hnm⟩) (own_w hw 30 rfl) (ty := (.object "java/lang/String")) own_lm_243 rfl rfl (g := (mkF m 13 #[.val (.ref a), .val (.ref t)] [(.ref t), (.ref a)])) rfl rfl (hb hby own_d_prog_71_1_13)
  have N978 := Fr.snoc X978 N974 ga
  have F979 : Fld Z h978 a own_c_244 "text" "Ljava/lang/String;" (.ref t) := Fld.same W978 F977
  refine own_st (fun u_ k_ => st978 u_ k_) ?_
  show own_Go p e below _ (T978.setTop (mkF m 16 #[.val (.ref a), .val (.ref t)] []))
  have K980 : Keep h0 h973 [a] := (Keep.refl h0 [a]).ext E973
  have K981 : Keep h0 h978 [a] := K980.wr W978 (Or.inl (List.mem_of_getElem? (i := 0) rfl))
  have F982 := (Exa.wr W978 F976)
  have R983 : CHr Z own_EL s.vm h0 T973.vm h973 := R0.trans hr973
  have sf_985 : Safe Z own_EL T973.vm h973 a := Safe.exa hZ973.alike F976 own_lm_246 own_lm_247
  have R984 : CHr Z own_EL s.vm h0 T973.vm h978 := R983.trans (CHr.wr W978 sf_985 R983.1)
  exact own_retVH X978 Si973 (Nat.le_trans Sk973 (Nat.le_of_eq W978.size.symm)) e978 hZ973 (own_hEL hw) hs0 R984 hx hlk hret (hb hby own_d_prog_71_1_16) (by decide) (by decide) (show QrmTx Z wcs a t h0 n0 none T978.heap _ from (by rw [e978]; exact ⟨rfl, N978, K981, F982, F979⟩))
theorem own_d_prog_3_2_0 : decode prog_3_method_2_code 0 = .ok (.aload_n 0, 1) := by decide +kernel
theorem own_d_prog_3_2_1 : decode prog_3_method_2_code 1 = .ok (.invokespecial 1, 3) := by decide +kernel
theorem own_d_prog_3_2_4 : decode prog_3_method_2_code 4 = .ok (.aload_n 0, 1) := by decide +kernel
theorem own_d_prog_3_2_5 : decode prog_3_method_2_code 5 = .ok (.aload_n 1, 1) := by decide +kernel
theorem own_d_prog_3_2_6 : decode prog_3_method_2_code 6 = .ok (.putfield 7, 3) := by decide +kernel
theorem own_lm_255 : parseFieldDescriptor "Lcom/example/forgewire/forgewire/beans/ConstructorArgument;" = some (.object "com/example/forgewire/forgewire/beans/ConstructorArgument") := by decide +kernel
abbrev own_c_256 : String := "com/example/forgewire/forgewire/beans/ArgumentMatcher$Argument"
abbrev own_c_257 : String := "Lcom/example/forgewire/forgewire/beans/ConstructorArgument;"
theorem own_d_prog_3_2_9 : decode prog_3_method_2_code 9 = .ok (.aload_n 0, 1) := by decide +kernel
theorem own_d_prog_3_2_10 : decode prog_3_method_2_code 10 = .ok (.aload_n 2, 1) := by decide +kernel
theorem own_d_prog_3_2_11 : decode prog_3_method_2_code 11 = .ok (.putfield 13, 3) := by decide +kernel
theorem own_lm_261 : ("value" : String) ≠ "definition" := by decide +kernel
theorem own_lm_262 : parseFieldDescriptor "Lcom/example/forgewire/forgewire/beans/ValueDefinition;" = some (.object "com/example/forgewire/forgewire/beans/ValueDefinition") := by decide +kernel
def own_sn_263 {Z : State} {a0 : Array Value} (hw : own_H a0 Z) := slot_ne (Or.inr (own_w hw 55 rfl)) (Or.inr (own_w hw 53 rfl)) own_lm_261 (t := (.object "com/example/forgewire/forgewire/beans/ValueDefinition")) (t' := (.object "com/example/forgewire/forgewire/beans/ConstructorArgument")) own_lm_262 own_lm_255
abbrev own_c_264 : String := "Lcom/example/forgewire/forgewire/beans/ValueDefinition;"
theorem own_d_prog_3_2_14 : decode prog_3_method_2_code 14 = .ok (.aload_n 0, 1) := by decide +kernel
theorem own_d_prog_3_2_15 : decode prog_3_method_2_code 15 = .ok (.aload_n 3, 1) := by decide +kernel
theorem own_d_prog_3_2_16 : decode prog_3_method_2_code 16 = .ok (.putfield 17, 3) := by decide +kernel
theorem own_lm_268 : ("bean" : String) ≠ "definition" := by decide +kernel
theorem own_lm_269 : parseFieldDescriptor "Ljava/lang/Object;" = some (.object "java/lang/Object") := by decide +kernel
def own_sn_270 {Z : State} {a0 : Array Value} (hw : own_H a0 Z) := slot_ne (Or.inr (own_w hw 57 rfl)) (Or.inr (own_w hw 53 rfl)) own_lm_268 (t := (.object "java/lang/Object")) (t' := (.object "com/example/forgewire/forgewire/beans/ConstructorArgument")) own_lm_269 own_lm_255
theorem own_lm_271 : ("bean" : String) ≠ "value" := by decide +kernel
def own_sn_272 {Z : State} {a0 : Array Value} (hw : own_H a0 Z) := slot_ne (Or.inr (own_w hw 57 rfl)) (Or.inr (own_w hw 55 rfl)) own_lm_271 (t := (.object "java/lang/Object")) (t' := (.object "com/example/forgewire/forgewire/beans/ValueDefinition")) own_lm_269 own_lm_262
theorem own_d_prog_3_2_19 : decode prog_3_method_2_code 19 = .ok (.return_, 1) := by decide +kernel
theorem own_lm_274 : ("definition" : String) ≠ "value" := by decide +kernel
def own_sn_275 {Z : State} {a0 : Array Value} (hw : own_H a0 Z) := slot_ne (Or.inr (own_w hw 53 rfl)) (Or.inr (own_w hw 55 rfl)) own_lm_274 (t := (.object "com/example/forgewire/forgewire/beans/ConstructorArgument")) (t' := (.object "com/example/forgewire/forgewire/beans/ValueDefinition")) own_lm_255 own_lm_262
theorem own_lm_276 : ("definition" : String) ≠ "bean" := by decide +kernel
def own_sn_277 {Z : State} {a0 : Array Value} (hw : own_H a0 Z) := slot_ne (Or.inr (own_w hw 53 rfl)) (Or.inr (own_w hw 57 rfl)) own_lm_276 (t := (.object "com/example/forgewire/forgewire/beans/ConstructorArgument")) (t' := (.object "java/lang/Object")) own_lm_255 own_lm_269
theorem own_lm_278 : ("value" : String) ≠ "bean" := by decide +kernel
def own_sn_279 {Z : State} {a0 : Array Value} (hw : own_H a0 Z) := slot_ne (Or.inr (own_w hw 55 rfl)) (Or.inr (own_w hw 57 rfl)) own_lm_278 (t := (.object "com/example/forgewire/forgewire/beans/ValueDefinition")) (t' := (.object "java/lang/Object")) own_lm_262 own_lm_269
abbrev own_y_280 : MethodName := ⟨"com/example/forgewire/forgewire/beans/ArgumentMatcher$Argument", "<init>", "(Lcom/example/forgewire/forgewire/beans/ConstructorArgument;Lcom/example/forgewire/forgewire/beans/ValueDefinition;Ljava/lang/Object;)V"⟩
theorem own_pn_281 : plainName "com/example/forgewire/forgewire/beans/ArgumentMatcher$Argument" = true := by first | (simp [plainName, overriddenIn]; done) | decide +kernel
theorem own_ef_rmAr (m : MethodId) (a : Addr) (t : Addr)  : entryFrame m #[(.ref a), .null, (.ref t), .null] 4 = mkF m 0 #[.val (.ref a), .val .null, .val (.ref t), .val .null] [] := by first | (simp [entryFrame, mkF, argsToLocals, Value.category, maxLocals]; done) | rfl
def QrmAr (Z : State) (wcs : Int32) (a : Addr) (t : Addr) (h0 : Heap) (n0 : Nat) (v : Option Value) (h : Heap) (L : List Loc) : Prop := v = none ∧ Fr n0 L ∧ Keep h0 h [a] ∧ Exa Z h a own_c_256 ∧ Fld Z h a own_c_256 "definition" own_c_257 .null ∧ Fld Z h a own_c_256 "value" own_c_264 (.ref t) ∧ Fld Z h a own_c_256 "bean" "Ljava/lang/Object;" .null
set_option maxRecDepth 65536 in
set_option maxHeartbeats 40000000 in
theorem rmAr (l : Launch) (Z : State) (a0 : Array Value) (hw : own_H a0 Z) (ws : List Jvm.Cond) (wcs : Int32) (hS : own_S Z wcs) (a : Addr) (t : Addr) (h0 : Heap) (n0 : Nat) (O0 : Old Z n0 h0) (E : Exa Z h0 a own_c_256) (ga : n0 ≤ a) (F1 : Fld Z h0 a own_c_256 "definition" own_c_257 .null) (F2 : Fld Z h0 a own_c_256 "value" own_c_264 .null) (F3 : Fld Z h0 a own_c_256 "bean" "Ljava/lang/Object;" .null) :
    own_Met l own_y_280 prog_3_method_2_code 4 none ws ({ frames := 2, cells := 0, slots := 0, locals := 24 } : Room) Z h0 #[(.ref a), .null, (.ref t), .null] (QrmAr Z wcs a t h0 n0) := by
  refine own_body (plainFor_of_name own_pn_281) ?_
  intro p e s m below meth c s₁ hx hby hml hown hnm hret hlk hZ e0 X0
  have N0 := Fr.nil n0
  refine own_st (fun u_ k_ => castTop (own_ef_rmAr m a t) k_) ?_
  show own_Go p e below _ (s₁.setTop (mkF m 0 #[.val (.ref a), .val .null, .val (.ref t), .val .null] []))
  refine own_st (fun u_ k_ => XS.aloadN X0.here hx rfl (hb hby own_d_prog_3_2_0) rfl rfl k_) ?_
  obtain ⟨T986, v986, L986, X986, hQ986, st986⟩ := own_callN X0 hx hZ (y := own_y_221) rfl hown (own_w hw 51 rfl) (own_w hw 36 rfl) (own_w hw 38 rfl) (own_w hw 39 rfl) own_lm_231 (rmRec l Z a0 hw [] wcs hS a h0 n0 O0 ) e0 own_pd_232 (a := a) (argsL := []) (rest := []) rfl rfl (g := (mkF m 1 #[.val (.ref a), .val .null, .val (.ref t), .val .null] [(.ref a)])) rfl (by rw [hml]; rfl) rfl (hb hby own_d_prog_3_2_1) (W := 0) rfl (by decide) (by decide) (by decide) (by decide)
  obtain ⟨rfl, M986, e986⟩ := hQ986
  have N986 := Fr.app N0 M986
  refine own_st (fun u_ k_ => st986 u_ k_) ?_
  show own_Go p e below _ (T986.setTop (mkF m 4 #[.val (.ref a), .val .null, .val (.ref t), .val .null] []))
  refine own_st (fun u_ k_ => XS.aloadN X986.here hx rfl (hb hby own_d_prog_3_2_4) rfl rfl k_) ?_
  refine own_st (fun u_ k_ => XS.aloadN X986.here hx rfl (hb hby own_d_prog_3_2_5) rfl rfl k_) ?_
  show own_Go p e below _ (T986.setTop (mkF m 6 #[.val (.ref a), .val .null, .val (.ref t), .val .null] [.null, (.ref a)]))
  obtain ⟨T987, h987, X987, e987, W987, st987⟩ := putF X986 hx hZ hown (host := "") (Or.inl (own_w hw 52 rfl)) Via.refl e986 F1 E (Or.inr ⟨(own_w hw 53 rfl), rfl, hnm⟩) (own_w hw 28 rfl) (ty := (.object "com/example/forgewire/forgewire/beans/ConstructorArgument")) own_lm_255 rfl rfl (g := (mkF m 6 #[.val (.ref a), .val .null, .val (.ref t), .val .null] [.null, (.ref a)])) rfl rfl (hb hby own_d_prog_3_2_6)
  have N987 := Fr.snoc X987 N986 ga
  have F988 : Fld Z h987 a own_c_256 "definition" own_c_257 .null := Fld.same W987 F1
  refine own_st (fun u_ k_ => st987 u_ k_) ?_
  show own_Go p e below _ (T987.setTop (mkF m 9 #[.val (.ref a), .val .null, .val (.ref t), .val .null] []))
  refine own_st (fun u_ k_ => XS.aloadN X987.here hx rfl (hb hby own_d_prog_3_2_9) rfl rfl k_) ?_
  refine own_st (fun u_ k_ => XS.aloadN X987.here hx rfl (hb hby own_d_prog_3_2_10) rfl rfl k_) ?_
  show own_Go p e below _ (T987.setTop (mkF m 11 #[.val (.ref a), .val .null, .val (.ref t), .val .null] [(.ref t), (.ref a)]))
  have F989 := (Exa.wr W987 E)
  have F990 := (Fld.other W987 F2 (Or.inr (own_sn_263 hw)))
  obtain ⟨T991, h991, X991, e991, W991, st991⟩ := putF X987 hx hZ hown (host := "") (Or.inl (own_w hw 54 rfl)) Via.refl e987 F990 F989 (Or.inr ⟨(own_w hw 55 rfl), rfl, hnm⟩) (own_w hw 28 rfl) (ty := (.object "com/example/forgewire/forgewire/beans/ValueDefinition")) own_lm_262 rfl rfl (g := (mkF m 11 #[.val (.ref a), .val .null, .val (.ref t), .val .null] [(.ref t), (.ref a)])) rfl rfl (hb hby own_d_prog_3_2_11)
  have N991 := Fr.snoc X991 N987 ga
  have F992 : Fld Z h991 a own_c_256 "value" own_c_264 (.ref t) := Fld.same W991 F990
  refine own_st (fun u_ k_ => st991 u_ k_) ?_
  show own_Go p e below _ (T991.setTop (mkF m 14 #[.val (.ref a), .val .null, .val (.ref t), .val .null] []))
  refine own_st (fun u_ k_ => XS.aloadN X991.here hx rfl (hb hby own_d_prog_3_2_14) rfl rfl k_) ?_
  refine own_st (fun u_ k_ => XS.aloadN X991.here hx rfl (hb hby own_d_prog_3_2_15) rfl rfl k_) ?_
  show own_Go p e below _ (T991.setTop (mkF m 16 #[.val (.ref a), .val .null, .val (.ref t), .val .null] [.null, (.ref a)]))
  have F993 := (Exa.wr W991 F989)
  have F994 := (Fld.other W991 (Fld.other W987 F3 (Or.inr (own_sn_270 hw))) (Or.inr (own_sn_272 hw)))
  obtain ⟨T995, h995, X995, e995, W995, st995⟩ := putF X991 hx hZ hown (host := "") (Or.inl (own_w hw 56 rfl)) Via.refl e991 F994 F993 (Or.inr ⟨(own_w hw 57 rfl), rfl, hnm⟩) (own_w hw 28 rfl) (ty := (.object "java/lang/Object")) own_lm_269 rfl rfl (g := (mkF m 16 #[.val (.ref a), .val .null, .val (.ref t), .val .null] [.null, (.ref a)])) rfl rfl (hb hby own_d_prog_3_2_16)
  have N995 := Fr.snoc X995 N991 ga
  have F996 : Fld Z h995 a own_c_256 "bean" "Ljava/lang/Object;" .null := Fld.same W995 F994
  refine own_st (fun u_ k_ => st995 u_ k_) ?_
  show own_Go p e below _ (T995.setTop (mkF m 19 #[.val (.ref a), .val .null, .val (.ref t), .val .null] []))
  have K997 : Keep h0 h987 [a] := (Keep.refl h0 [a]).wr W987 (Or.inl (List.mem_of_getElem? (i := 0) rfl))
  have K998 : Keep h0 h991 [a] := K997.wr W991 (Or.inl (List.mem_of_getElem? (i := 0) rfl))
  have K999 : Keep h0 h995 [a] := K998.wr W995 (Or.inl (List.mem_of_getElem? (i := 0) rfl))
  have F1000 := (Exa.wr W995 F993)
  have F1001 := (Fld.other W995 (Fld.other W991 F988 (Or.inr (own_sn_275 hw))) (Or.inr (own_sn_277 hw)))
  have F1002 := (Fld.other W995 F992 (Or.inr (own_sn_279 hw)))
  exact own_retV X995 hx hlk hret (hb hby own_d_prog_3_2_19) (by decide) (by decide) (show QrmAr Z wcs a t h0 n0 none T995.heap _ from (by rw [e995]; exact ⟨rfl, N995, K999, F1000, F1001, F1002, F996⟩))
theorem own_d_prog_3_4_0 : decode prog_3_method_4_code 0 = .ok (.new 8, 3) := by decide +kernel
theorem own_d_prog_3_4_3 : decode prog_3_method_4_code 3 = .ok (.dup, 1) := by decide +kernel
theorem own_d_prog_3_4_4 : decode prog_3_method_4_code 4 = .ok (.aconst_null, 1) := by decide +kernel
theorem own_d_prog_3_4_5 : decode prog_3_method_4_code 5 = .ok (.new 29, 3) := by decide +kernel
theorem own_d_prog_3_4_8 : decode prog_3_method_4_code 8 = .ok (.dup, 1) := by decide +kernel
theorem own_d_prog_3_4_9 : decode prog_3_method_4_code 9 = .ok (.aload_n 0, 1) := by decide +kernel
theorem own_d_prog_3_4_10 : decode prog_3_method_4_code 10 = .ok (.invokespecial 31, 3) := by decide +kernel
theorem own_lm_289 : ("com/example/forgewire/forgewire/beans/ValueDefinition$Text" : String) ≠ "java/lang/invoke/MethodHandle" ∧ ("com/example/forgewire/forgewire/beans/ValueDefinition$Text" : String) ≠ "java/lang/invoke/VarHandle" := by decide +kernel
theorem own_pd_290 : parseMethodDescriptor "(Ljava/lang/String;)V" = some ⟨[(.object "java/lang/String")], none⟩ := by decide +kernel
theorem own_d_prog_3_4_13 : decode prog_3_method_4_code 13 = .ok (.aconst_null, 1) := by decide +kernel
theorem own_d_prog_3_4_14 : decode prog_3_method_4_code 14 = .ok (.invokespecial 26, 3) := by decide +kernel
theorem own_lm_293 : ("com/example/forgewire/forgewire/beans/ArgumentMatcher$Argument" : String) ≠ "java/lang/invoke/MethodHandle" ∧ ("com/example/forgewire/forgewire/beans/ArgumentMatcher$Argument" : String) ≠ "java/lang/invoke/VarHandle" := by decide +kernel
theorem own_pd_294 : parseMethodDescriptor "(Lcom/example/forgewire/forgewire/beans/ConstructorArgument;Lcom/example/forgewire/forgewire/beans/ValueDefinition;Ljava/lang/Object;)V" = some ⟨[(.object "com/example/forgewire/forgewire/beans/ConstructorArgument"), (.object "com/example/forgewire/forgewire/beans/ValueDefinition"), (.object "java/lang/Object")], none⟩ := by decide +kernel
theorem own_d_prog_3_4_17 : decode prog_3_method_4_code 17 = .ok (.areturn, 1) := by decide +kernel
theorem own_lm_296 : ("com/example/forgewire/forgewire/beans/ArgumentMatcher$Argument" : String) ≠ "java/lang/String" := by decide +kernel
theorem own_lm_297 : ("com/example/forgewire/forgewire/beans/ArgumentMatcher$Argument" : String) ≠ "[B" := by decide +kernel
abbrev own_y_298 : MethodName := ⟨"com/example/forgewire/forgewire/beans/ArgumentMatcher$Argument", "text", "(Ljava/lang/String;)Lcom/example/forgewire/forgewire/beans/ArgumentMatcher$Argument;"⟩
theorem own_ef_rmAt (m : MethodId) (t : Addr)  : entryFrame m #[(.ref t)] 1 = mkF m 0 #[.val (.ref t)] [] := by first | (simp [entryFrame, mkF, argsToLocals, Value.category, maxLocals]; done) | rfl
def QrmAt (Z : State) (wcs : Int32) (t : Addr) (h0 : Heap) (n0 : Nat) (v : Option Value) (h : Heap) (L : List Loc) : Prop := ∃ qa : Addr, ∃ qt : Addr, v = some (.ref qa) ∧ Fr n0 L ∧ Keep h0 h [] ∧ h0.size ≤ qa ∧ h0.size ≤ qt ∧ Exa Z h qa own_c_256 ∧ Exa Z h qt own_c_244 ∧ Fld Z h qa own_c_256 "definition" own_c_257 .null ∧ Fld Z h qa own_c_256 "value" own_c_264 (.ref qt) ∧ Fld Z h qa own_c_256 "bean" "Ljava/lang/Object;" .null ∧ Fld Z h qt own_c_244 "text" "Ljava/lang/String;" (.ref t)
set_option maxRecDepth 65536 in
set_option maxHeartbeats 40000000 in
theorem rmAt (l : Launch) (Z : State) (a0 : Array Value) (hw : own_H a0 Z) (ws : List Jvm.Cond) (wcs : Int32) (hS : own_S Z wcs) (t : Addr) (h0 : Heap) (n0 : Nat) (O0 : Old Z n0 h0)  :
    own_MetH own_EL [] l own_y_298 prog_3_method_4_code 1 (some (.object "com/example/forgewire/forgewire/beans/ArgumentMatcher$Argument")) ws ({ frames := 3, cells := 4, slots := 24, locals := 41 } : Room) Z h0 #[(.ref t)] (QrmAt Z wcs t h0 n0) := by
  refine own_bodyH (plainFor_of_name own_pn_281) ?_
  intro p e s m below meth c s₁ hx hby hml hown hnm hret hlk hZ e0 X0 hSi0 hs0 hC0 hsf0
  have hZ_0 := hZ
  have R0 : CHr Z own_EL s.vm h0 s.vm h0 := CHr.refl hC0
  have N0 := Fr.nil n0
  refine own_st (fun u_ k_ => castTop (own_ef_rmAt m t) k_) ?_
  show own_Go p e below _ (s₁.setTop (mkF m 0 #[.val (.ref t)] []))
  obtain ⟨T1003, h1003, X1003, e1003, E1003, A1003, D1003, U1003, st1003⟩ := newO X0 hx hZ hown (own_w hw 27 rfl) (own_w hw 28 rfl) (own_w hw 25 rfl) e0 (g := (mkF m 0 #[.val (.ref t)] [])) rfl (hb hby own_d_prog_3_4_0) (by decide) (by decide)
  obtain ⟨b1003, g1003⟩ : ∃ z, z = h0.size := ⟨_, rfl⟩
  rw [← g1003] at A1003 D1003 U1003 st1003
  have F1003_definition : Fld Z h1003 b1003 own_c_256 "definition" own_c_257 .null := D1003 (Or.inr (own_w hw 53 rfl)) (ty := (.object "com/example/forgewire/forgewire/beans/ConstructorArgument")) own_lm_255
  have F1003_value : Fld Z h1003 b1003 own_c_256 "value" own_c_264 .null := D1003 (Or.inr (own_w hw 55 rfl)) (ty := (.object "com/example/forgewire/forgewire/beans/ValueDefinition")) own_lm_262
  have F1003_bean : Fld Z h1003 b1003 own_c_256 "bean" "Ljava/lang/Object;" .null := D1003 (Or.inr (own_w hw 57 rfl)) (ty := (.object "java/lang/Object")) own_lm_269
  refine own_st (fun u_ k_ => st1003 u_ k_) ?_
  show own_Go p e below _ (T1003.setTop (mkF m 3 #[.val (.ref t)] [(.ref b1003)]))
  refine own_st (fun u_ k_ => XS.dup X1003.here hx rfl (hb hby own_d_prog_3_4_3) rfl rfl k_) ?_
  refine own_st (fun u_ k_ => XS.aconstNull X1003.here hx rfl (hb hby own_d_prog_3_4_4) k_) ?_
  show own_Go p e below _ (T1003.setTop (mkF m 5 #[.val (.ref t)] [.null, (.ref b1003), (.ref b1003)]))
  obtain ⟨T1004, h1004, X1004, e1004, E1004, A1004, D1004, U1004, st1004⟩ := newO X1003 hx hZ hown (own_w hw 29 rfl) (own_w hw 30 rfl) (own_w hw 31 rfl) e1003 (g := (mkF m 5 #[.val (.ref t)] [.null, (.ref b1003), (.ref b1003)])) rfl (hb hby own_d_prog_3_4_5) (by decide) (by decide)
  obtain ⟨b1004, g1004⟩ : ∃ z, z = h1003.size := ⟨_, rfl⟩
  rw [← g1004] at A1004 D1004 U1004 st1004
  have F1004_text : Fld Z h1004 b1004 own_c_244 "text" "Ljava/lang/String;" .null := D1004 (Or.inr (own_w hw 47 rfl)) (ty := (.object "java/lang/String")) own_lm_243
  refine own_st (fun u_ k_ => st1004 u_ k_) ?_
  show own_Go p e below _ (T1004.setTop (mkF m 8 #[.val (.ref t)] [(.ref b1004), .null, (.ref b1003), (.ref b1003)]))
  refine own_st (fun u_ k_ => XS.dup X1004.here hx rfl (hb hby own_d_prog_3_4_8) rfl rfl k_) ?_
  refine own_st (fun u_ k_ => XS.aloadN X1004.here hx rfl (hb hby own_d_prog_3_4_9) rfl rfl k_) ?_
  show own_Go p e below _ (T1004.setTop (mkF m 10 #[.val (.ref t)] [(.ref t), (.ref b1004), (.ref b1004), .null, (.ref b1003), (.ref b1003)]))
  have O1006 : Old Z n0 h1003 := O0.ext E1003
  have g1005 : n0 ≤ b1004 := Nat.le_trans (own_nl O1006) (Nat.le_of_eq g1004.symm)
  have O1008 : Old Z n0 h1004 := O1006.ext E1004
  have sf_1009 : Safe Z own_EL s.vm h1004 b1004 := Safe.exa hZ_0.alike A1004 own_lm_246 own_lm_247
  have R1010 : CHr Z own_EL s.vm h0 s.vm h1003 := R0.trans (CHr.ext E1003 R0.1)
  have R1011 : CHr Z own_EL s.vm h0 s.vm h1004 := R1010.trans (CHr.ext E1004 R1010.1)
  obtain ⟨T1007, v1007, L1007, X1007, Si1007, hZ1007, hown1007, hQ1007, hr1007, st1007⟩ := own_callNH X1004 hx hZ hSi0 (Nat.le_trans (Nat.zero_le _) (Nat.le_trans E1003.1 E1004.1)) (own_hEL hw) R1011.1 (own_sfS A1004.lt sf_1009 own_sf0) (y := own_y_248) rfl hown (own_w hw 32 rfl) (own_w hw 33 rfl) (own_w hw 31 rfl) (own_w hw 34 rfl) own_lm_289 (rmTx l Z a0 hw [] wcs hS b1004 t h1004 n0 O1008 A1004 g1005 F1004_text) e1004 own_pd_290 (a := b1004) (argsL := [(.ref t)]) (rest := [(.ref b1004), .null, (.ref b1003), (.ref b1003)]) rfl rfl (g := (mkF m 10 #[.val (.ref t)] [(.ref t), (.ref b1004), (.ref b1004), .null, (.ref b1003), (.ref b1003)])) rfl (by rw [hml]; rfl) rfl (hb hby own_d_prog_3_4_10) (W := 4) rfl (by decide) (by decide) (by decide) (by decide)
  obtain ⟨rfl, M1007, K1007, F1012, F1013⟩ := hQ1007
  have N1007 := Fr.app N0 M1007
  refine own_st (fun u_ k_ => st1007 u_ k_) ?_
  show own_Go p e below _ (T1007.setTop (mkF m 13 #[.val (.ref t)] [(.ref b1004), .null, (.ref b1003), (.ref b1003)]))
  refine own_st (fun u_ k_ => XS.aconstNull X1007.here hx rfl (hb hby own_d_prog_3_4_13) k_) ?_
  have F1014 := ((Exa.ext E1004 A1003).keep K1007)
  have g1015 : n0 ≤ b1003 := Nat.le_trans (own_nl O0) (Nat.le_of_eq g1003.symm)
  have ne1016 : b1003 ≠ b1004 := (Nat.ne_of_lt (Nat.lt_of_lt_of_le A1003.lt (Nat.le_of_eq g1004.symm)))
  have F1017 := ((Fld.ext E1004 F1003_definition).keep K1007 (ninS ne1016 nin0))
  have F1018 := ((Fld.ext E1004 F1003_value).keep K1007 (ninS ne1016 nin0))
  have F1019 := ((Fld.ext E1004 F1003_bean).keep K1007 (ninS ne1016 nin0))
  have O1021 : Old Z n0 T1007.heap := O1008.keep K1007 (allS g1005 all0)
  obtain ⟨T1020, v1020, L1020, X1020, hQ1020, st1020⟩ := own_callN X1007 hx hZ1007 (y := own_y_280) rfl hown1007 (own_w hw 48 rfl) (own_w hw 49 rfl) (own_w hw 25 rfl) (own_w hw 50 rfl) own_lm_293 (rmAr l Z a0 hw [] wcs hS b1003 b1004 T1007.heap n0 O1021 F1014 g1015 F1017 F1018 F1019) rfl own_pd_294 (a := b1003) (argsL := [.null, (.ref b1004), .null]) (rest := [(.ref b1003)]) rfl rfl (g := (mkF m 14 #[.val (.ref t)] [.null, (.ref b1004), .null, (.ref b1003), (.ref b1003)])) rfl (by rw [hml]; rfl) rfl (hb hby own_d_prog_3_4_14) (W := 1) rfl (by decide) (by decide) (by decide) (by decide)
  obtain ⟨rfl, M1020, K1020, F1022, F1023, F1024, F1025⟩ := hQ1020
  have N1020 := Fr.app N1007 M1020
  refine own_st (fun u_ k_ => st1020 u_ k_) ?_
  show own_Go p e below _ (T1020.setTop (mkF m 17 #[.val (.ref t)] [(.ref b1003)]))
  have K1026 : Keep h0 h1003 [] := (Keep.refl h0 []).ext E1003
  have K1027 : Keep h0 h1004 [] := K1026.ext E1004
  have z1029 : h0.size ≤ b1004 := Nat.le_trans E1003.1 (Nat.le_of_eq g1004.symm)
  have K1028 : Keep h0 T1007.heap [] := K1027.trans K1007 (allS (Or.inr z1029) all0)
  have z1031 : h0.size ≤ b1003 := Nat.le_trans (Nat.le_refl _) (Nat.le_of_eq g1003.symm)
  have K1030 : Keep h0 T1020.heap [] := K1028.trans K1020 (allS (Or.inr z1031) all0)
  have F1032 := (F1012.keep K1020)
  have F1033 := (F1013.keep K1020 (ninS (Ne.symm ne1016) nin0))
  have R1034 : CHr Z own_EL s.vm h0 T1007.vm T1007.heap := R1011.trans hr1007
  have sf_1036 : Safe Z own_EL T1007.vm T1007.heap b1003 := Safe.exa hZ1007.alike F1014 own_lm_296 own_lm_297
  have R1035 : CHr Z own_EL s.vm h0 T1007.vm T1020.heap := R1034.trans (CHr.keep K1020 (sfS sf_1036 sf0) R1034.1)
  exact own_retXH X1020 Si1007 (Nat.le_trans (Nat.le_refl _) K1020.1) rfl hZ1007 (own_hEL hw) hs0 R1035 hx hlk hret rfl (Or.inr (Or.inr (Or.inr (Or.inr ⟨rfl, rfl, rfl⟩)))) (hb hby own_d_prog_3_4_17) (by decide) (by decide) (show QrmAt Z wcs t h0 n0 (some (.ref b1003)) T1020.heap _ from (by exact ⟨b1003, b1004, rfl, N1020, K1030, z1031, z1029, F1022, F1032, F1023, F1024, F1025, F1033⟩))
theorem own_d_prog_3_8_0 : decode prog_3_method_8_code 0 = .ok (.aload_n 0, 1) := by decide +kernel
theorem own_d_prog_3_8_1 : decode prog_3_method_8_code 1 = .ok (.getfield 7, 3) := by decide +kernel
theorem own_d_prog_3_8_4 : decode prog_3_method_8_code 4 = .ok (.areturn, 1) := by decide +kernel
abbrev own_y_302 : MethodName := ⟨"com/example/forgewire/forgewire/beans/ArgumentMatcher$Argument", "definition", "()Lcom/example/forgewire/forgewire/beans/ConstructorArgument;"⟩
theorem own_ef_rmGdefinition (m : MethodId) (a : Addr)  : entryFrame m #[(.ref a)] 1 = mkF m 0 #[.val (.ref a)] [] := by first | (simp [entryFrame, mkF, argsToLocals, Value.category, maxLocals]; done) | rfl
def QrmGdefinition (Z : State) (wcs : Int32) (a : Addr) (h0 : Heap) (n0 : Nat) (v : Option Value) (h : Heap) (L : List Loc) : Prop := v = some .null ∧ Fr n0 L ∧ h = h0
set_option maxRecDepth 65536 in
set_option maxHeartbeats 40000000 in
theorem rmGdefinition (l : Launch) (Z : State) (a0 : Array Value) (hw : own_H a0 Z) (ws : List Jvm.Cond) (wcs : Int32) (hS : own_S Z wcs) (a : Addr) (h0 : Heap) (n0 : Nat) (O0 : Old Z n0 h0) (F1 : Fld Z h0 a own_c_256 "definition" own_c_257 .null) :
    own_Met l own_y_302 prog_3_method_8_code 1 (some (.object "com/example/forgewire/forgewire/beans/ConstructorArgument")) ws ({ frames := 0, cells := 0, slots := 0, locals := 0 } : Room) Z h0 #[(.ref a)] (QrmGdefinition Z wcs a h0 n0) := by
  refine own_body (plainFor_of_name own_pn_281) ?_
  intro p e s m below meth c s₁ hx hby hml hown hnm hret hlk hZ e0 X0
  have N0 := Fr.nil n0
  refine own_st (fun u_ k_ => castTop (own_ef_rmGdefinition m a) k_) ?_
  show own_Go p e below _ (s₁.setTop (mkF m 0 #[.val (.ref a)] []))
  refine own_st (fun u_ k_ => XS.aloadN X0.here hx rfl (hb hby own_d_prog_3_8_0) rfl rfl k_) ?_
  obtain ⟨T1037, X1037, e1037, st1037⟩ := getF X0 hx hZ hown (host := "") (Or.inl (own_w hw 52 rfl)) Via.refl e0 F1 (g := (mkF m 1 #[.val (.ref a)] [(.ref a)])) rfl rfl (hb hby own_d_prog_3_8_1)
  refine own_st (fun u_ k_ => st1037 u_ k_) ?_
  show own_Go p e below _ (T1037.setTop (mkF m 4 #[.val (.ref a)] [.null]))
  exact own_retX X1037 hx hlk hret rfl (Or.inr (Or.inr (Or.inr (Or.inr ⟨rfl, rfl, rfl⟩)))) (hb hby own_d_prog_3_8_4) (by decide) (by decide) (show QrmGdefinition Z wcs a h0 n0 (some .null) T1037.heap _ from (by rw [e1037]; exact ⟨rfl, N0, rfl⟩))
theorem own_d_prog_3_9_0 : decode prog_3_method_9_code 0 = .ok (.aload_n 0, 1) := by decide +kernel
theorem own_d_prog_3_9_1 : decode prog_3_method_9_code 1 = .ok (.getfield 13, 3) := by decide +kernel
theorem own_d_prog_3_9_4 : decode prog_3_method_9_code 4 = .ok (.areturn, 1) := by decide +kernel
abbrev own_y_306 : MethodName := ⟨"com/example/forgewire/forgewire/beans/ArgumentMatcher$Argument", "value", "()Lcom/example/forgewire/forgewire/beans/ValueDefinition;"⟩
theorem own_ef_rmGvalue (m : MethodId) (a : Addr)  : entryFrame m #[(.ref a)] 1 = mkF m 0 #[.val (.ref a)] [] := by first | (simp [entryFrame, mkF, argsToLocals, Value.category, maxLocals]; done) | rfl
def QrmGvalue (Z : State) (wcs : Int32) (a : Addr) (t : Addr) (h0 : Heap) (n0 : Nat) (v : Option Value) (h : Heap) (L : List Loc) : Prop := v = some (.ref t) ∧ Fr n0 L ∧ h = h0
set_option maxRecDepth 65536 in
set_option maxHeartbeats 40000000 in
theorem rmGvalue (l : Launch) (Z : State) (a0 : Array Value) (hw : own_H a0 Z) (ws : List Jvm.Cond) (wcs : Int32) (hS : own_S Z wcs) (a : Addr) (t : Addr) (h0 : Heap) (n0 : Nat) (O0 : Old Z n0 h0) (F1 : Fld Z h0 a own_c_256 "value" own_c_264 (.ref t)) :
    own_Met l own_y_306 prog_3_method_9_code 1 (some (.object "com/example/forgewire/forgewire/beans/ValueDefinition")) ws ({ frames := 0, cells := 0, slots := 0, locals := 0 } : Room) Z h0 #[(.ref a)] (QrmGvalue Z wcs a t h0 n0) := by
  refine own_body (plainFor_of_name own_pn_281) ?_
  intro p e s m below meth c s₁ hx hby hml hown hnm hret hlk hZ e0 X0
  have N0 := Fr.nil n0
  refine own_st (fun u_ k_ => castTop (own_ef_rmGvalue m a) k_) ?_
  show own_Go p e below _ (s₁.setTop (mkF m 0 #[.val (.ref a)] []))
  refine own_st (fun u_ k_ => XS.aloadN X0.here hx rfl (hb hby own_d_prog_3_9_0) rfl rfl k_) ?_
  obtain ⟨T1038, X1038, e1038, st1038⟩ := getF X0 hx hZ hown (host := "") (Or.inl (own_w hw 54 rfl)) Via.refl e0 F1 (g := (mkF m 1 #[.val (.ref a)] [(.ref a)])) rfl rfl (hb hby own_d_prog_3_9_1)
  refine own_st (fun u_ k_ => st1038 u_ k_) ?_
  show own_Go p e below _ (T1038.setTop (mkF m 4 #[.val (.ref a)] [(.ref t)]))
  exact own_retX X1038 hx hlk hret rfl (Or.inr (Or.inr (Or.inr (Or.inr ⟨rfl, rfl, rfl⟩)))) (hb hby own_d_prog_3_9_4) (by decide) (by decide) (show QrmGvalue Z wcs a t h0 n0 (some (.ref t)) T1038.heap _ from (by rw [e1038]; exact ⟨rfl, N0, rfl⟩))
theorem own_d_prog_3_10_0 : decode prog_3_method_10_code 0 = .ok (.aload_n 0, 1) := by decide +kernel
theorem own_d_prog_3_10_1 : decode prog_3_method_10_code 1 = .ok (.getfield 17, 3) := by decide +kernel
theorem own_d_prog_3_10_4 : decode prog_3_method_10_code 4 = .ok (.areturn, 1) := by decide +kernel
abbrev own_y_310 : MethodName := ⟨"com/example/forgewire/forgewire/beans/ArgumentMatcher$Argument", "bean", "()Ljava/lang/Object;"⟩
theorem own_ef_rmGbean (m : MethodId) (a : Addr)  : entryFrame m #[(.ref a)] 1 = mkF m 0 #[.val (.ref a)] [] := by first | (simp [entryFrame, mkF, argsToLocals, Value.category, maxLocals]; done) | rfl
def QrmGbean (Z : State) (wcs : Int32) (a : Addr) (h0 : Heap) (n0 : Nat) (v : Option Value) (h : Heap) (L : List Loc) : Prop := v = some .null ∧ Fr n0 L ∧ h = h0
set_option maxRecDepth 65536 in
set_option maxHeartbeats 40000000 in
theorem rmGbean (l : Launch) (Z : State) (a0 : Array Value) (hw : own_H a0 Z) (ws : List Jvm.Cond) (wcs : Int32) (hS : own_S Z wcs) (a : Addr) (h0 : Heap) (n0 : Nat) (O0 : Old Z n0 h0) (F1 : Fld Z h0 a own_c_256 "bean" "Ljava/lang/Object;" .null) :
    own_Met l own_y_310 prog_3_method_10_code 1 (some (.object "java/lang/Object")) ws ({ frames := 0, cells := 0, slots := 0, locals := 0 } : Room) Z h0 #[(.ref a)] (QrmGbean Z wcs a h0 n0) := by
  refine own_body (plainFor_of_name own_pn_281) ?_
  intro p e s m below meth c s₁ hx hby hml hown hnm hret hlk hZ e0 X0
  have N0 := Fr.nil n0
  refine own_st (fun u_ k_ => castTop (own_ef_rmGbean m a) k_) ?_
  show own_Go p e below _ (s₁.setTop (mkF m 0 #[.val (.ref a)] []))
  refine own_st (fun u_ k_ => XS.aloadN X0.here hx rfl (hb hby own_d_prog_3_10_0) rfl rfl k_) ?_
  obtain ⟨T1039, X1039, e1039, st1039⟩ := getF X0 hx hZ hown (host := "") (Or.inl (own_w hw 56 rfl)) Via.refl e0 F1 (g := (mkF m 1 #[.val (.ref a)] [(.ref a)])) rfl rfl (hb hby own_d_prog_3_10_1)
  refine own_st (fun u_ k_ => st1039 u_ k_) ?_
  show own_Go p e below _ (T1039.setTop (mkF m 4 #[.val (.ref a)] [.null]))
  exact own_retX X1039 hx hlk hret rfl (Or.inr (Or.inr (Or.inr (Or.inr ⟨rfl, rfl, rfl⟩)))) (hb hby own_d_prog_3_10_4) (by decide) (by decide) (show QrmGbean Z wcs a h0 n0 (some .null) T1039.heap _ from (by rw [e1039]; exact ⟨rfl, N0, rfl⟩))
theorem own_d_prog_71_5_0 : decode prog_71_method_5_code 0 = .ok (.aload_n 0, 1) := by decide +kernel
theorem own_d_prog_71_5_1 : decode prog_71_method_5_code 1 = .ok (.getfield 15, 3) := by decide +kernel
theorem own_d_prog_71_5_4 : decode prog_71_method_5_code 4 = .ok (.areturn, 1) := by decide +kernel
abbrev own_y_314 : MethodName := ⟨"com/example/forgewire/forgewire/beans/ValueDefinition$Text", "text", "()Ljava/lang/String;"⟩
theorem own_ef_rmGt (m : MethodId) (a : Addr)  : entryFrame m #[(.ref a)] 1 = mkF m 0 #[.val (.ref a)] [] := by first | (simp [entryFrame, mkF, argsToLocals, Value.category, maxLocals]; done) | rfl
def QrmGt (Z : State) (wcs : Int32) (a : Addr) (t : Addr) (h0 : Heap) (n0 : Nat) (v : Option Value) (h : Heap) (L : List Loc) : Prop := v = some (.ref t) ∧ Fr n0 L ∧ h = h0
set_option maxRecDepth 65536 in
set_option maxHeartbeats 40000000 in
theorem rmGt (l : Launch) (Z : State) (a0 : Array Value) (hw : own_H a0 Z) (ws : List Jvm.Cond) (wcs : Int32) (hS : own_S Z wcs) (a : Addr) (t : Addr) (h0 : Heap) (n0 : Nat) (O0 : Old Z n0 h0) (F1 : Fld Z h0 a own_c_244 "text" "Ljava/lang/String;" (.ref t)) :
    own_Met l own_y_314 prog_71_method_5_code 1 (some (.object "java/lang/String")) ws ({ frames := 0, cells := 0, slots := 0, locals := 0 } : Room) Z h0 #[(.ref a)] (QrmGt Z wcs a t h0 n0) := by
  refine own_body (plainFor_of_name own_pn_249) ?_
  intro p e s m below meth c s₁ hx hby hml hown hnm hret hlk hZ e0 X0
  have N0 := Fr.nil n0
  refine own_st (fun u_ k_ => castTop (own_ef_rmGt m a) k_) ?_
  show own_Go p e below _ (s₁.setTop (mkF m 0 #[.val (.ref a)] []))
  refine own_st (fun u_ k_ => XS.aloadN X0.here hx rfl (hb hby own_d_prog_71_5_0) rfl rfl k_) ?_
  obtain ⟨T1040, X1040, e1040, st1040⟩ := getF X0 hx hZ hown (host := "") (Or.inl (own_w hw 46 rfl)) Via.refl e0 F1 (g := (mkF m 1 #[.val (.ref a)] [(.ref a)])) rfl rfl (hb hby own_d_prog_71_5_1)
  refine own_st (fun u_ k_ => st1040 u_ k_) ?_
  show own_Go p e below _ (T1040.setTop (mkF m 4 #[.val (.ref a)] [(.ref t)]))
  exact own_retX X1040 hx hlk hret rfl (Or.inr (Or.inr (Or.inr (Or.inr ⟨rfl, rfl, rfl⟩)))) (hb hby own_d_prog_71_5_4) (by decide) (by decide) (show QrmGt Z wcs a t h0 n0 (some (.ref t)) T1040.heap _ from (by rw [e1040]; exact ⟨rfl, N0, rfl⟩))
theorem own_d_jdk_42_152_0 : decode jdk_42_method_152_code 0 = .ok (.getstatic 38, 3) := by decide +kernel
theorem own_d_jdk_42_152_3 : decode jdk_42_method_152_code 3 = .ok (.ifCond .eq 10, 3) := by decide +kernel
theorem own_d_jdk_42_152_6 : decode jdk_42_method_152_code 6 = .ok (.aload_n 0, 1) := by decide +kernel
theorem own_d_jdk_42_152_7 : decode jdk_42_method_152_code 7 = .ok (.getfield 15, 3) := by decide +kernel
theorem own_d_jdk_42_152_10 : decode jdk_42_method_152_code 10 = .ok (.goto 4, 3) := by decide +kernel
theorem own_d_jdk_42_152_14 : decode jdk_42_method_152_code 14 = .ok (.ireturn, 1) := by decide +kernel
abbrev own_y_321 : MethodName := ⟨"java/lang/String", "coder", "()B"⟩
theorem own_ef_rmCd (m : MethodId) (a : Addr)  : entryFrame m #[(.ref a)] 1 = mkF m 0 #[.val (.ref a)] [] := by first | (simp [entryFrame, mkF, argsToLocals, Value.category, maxLocals]; done) | rfl
def QrmCd (Z : State) (wcs : Int32) (a : Addr) (cd : Int32) (h0 : Heap) (n0 : Nat) (v : Option Value) (h : Heap) (L : List Loc) : Prop := v = some (.int cd) ∧ Fr n0 L ∧ h = h0
set_option maxRecDepth 65536 in
set_option maxHeartbeats 40000000 in
theorem rmCd (l : Launch) (Z : State) (a0 : Array Value) (hw : own_H a0 Z) (ws : List Jvm.Cond) (wcs : Int32) (hS : own_S Z wcs) (a : Addr) (cd : Int32) (h0 : Heap) (n0 : Nat) (O0 : Old Z n0 h0) (F1 : Fld Z h0 a "java/lang/String" "coder" "B" (.int cd)) (hnb : narrow .byte (.int cd) = .int cd) :
    own_Met l own_y_321 jdk_42_method_152_code 1 (some .byte) ws ({ frames := 0, cells := 0, slots := 0, locals := 0 } : Room) Z h0 #[(.ref a)] (QrmCd Z wcs a cd h0 n0) := by
  refine own_body (plainFor_of_name own_pn_173) ?_
  intro p e s m below meth c s₁ hx hby hml hown hnm hret hlk hZ e0 X0
  have N0 := Fr.nil n0
  refine own_st (fun u_ k_ => castTop (own_ef_rmCd m a) k_) ?_
  show own_Go p e below _ (s₁.setTop (mkF m 0 #[.val (.ref a)] []))
  have F1041 := Sta.ext O0.2 hS.1
  obtain ⟨T1042, X1042, e1042, st1042⟩ := getS2 X0 hx hZ hown (host := "") (Or.inl (own_w hw 90 rfl)) Via.refl e0 F1041 (g := (mkF m 0 #[.val (.ref a)] [])) rfl (hb hby own_d_jdk_42_152_0)
  refine own_st (fun u_ k_ => st1042 u_ k_) ?_
  show own_Go p e below _ (T1042.setTop (mkF m 3 #[.val (.ref a)] [(.int wcs)]))
  refine own_st (fun u_ k_ => XS.ifNo X1042.here hx rfl (hb hby own_d_jdk_42_152_3) rfl (XT.i0_eq_f hS.2.1) k_) ?_
  refine own_st (fun u_ k_ => XS.aloadN X1042.here hx rfl (hb hby own_d_jdk_42_152_6) rfl rfl k_) ?_
  show own_Go p e below _ (T1042.setTop (mkF m 7 #[.val (.ref a)] [(.ref a)]))
  obtain ⟨T1043, X1043, e1043, st1043⟩ := getF X1042 hx hZ hown (host := "") (Or.inl (own_w hw 22 rfl)) Via.refl e1042 F1 (g := (mkF m 7 #[.val (.ref a)] [(.ref a)])) rfl rfl (hb hby own_d_jdk_42_152_7)
  refine own_st (fun u_ k_ => st1043 u_ k_) ?_
  show own_Go p e below _ (T1043.setTop (mkF m 10 #[.val (.ref a)] [(.int cd)]))
  refine own_st (fun u_ k_ => XS.goto X1043.here hx rfl (pc0 := 10) (pc' := 14) rfl (hb hby own_d_jdk_42_152_10) (by decide) (by decide) k_) ?_
  exact own_retX X1043 hx hlk hret (by assumption) (Or.inl ⟨rfl, by simp, _, rfl⟩) (hb hby own_d_jdk_42_152_14) (by decide) (by decide) (show QrmCd Z wcs a cd h0 n0 (some (.int cd)) T1043.heap _ from (by rw [e1043]; exact ⟨rfl, N0, rfl⟩))
theorem own_d_jdk_42_54_0 : decode jdk_42_method_54_code 0 = .ok (.aload_n 0, 1) := by decide +kernel
theorem own_d_jdk_42_54_1 : decode jdk_42_method_54_code 1 = .ok (.getfield 9, 3) := by decide +kernel
theorem own_d_jdk_42_54_4 : decode jdk_42_method_54_code 4 = .ok (.arraylength, 1) := by decide +kernel
theorem own_d_jdk_42_54_5 : decode jdk_42_method_54_code 5 = .ok (.aload_n 0, 1) := by decide +kernel
theorem own_d_jdk_42_54_6 : decode jdk_42_method_54_code 6 = .ok (.invokevirtual 335, 3) := by decide +kernel
theorem own_pd_327 : parseMethodDescriptor "()B" = some ⟨[], some .byte⟩ := by decide +kernel
theorem own_d_jdk_42_54_9 : decode jdk_42_method_54_code 9 = .ok (.ishr, 1) := by decide +kernel
theorem own_d_jdk_42_54_10 : decode jdk_42_method_54_code 10 = .ok (.ireturn, 1) := by decide +kernel
abbrev own_y_330 : MethodName := ⟨"java/lang/String", "length", "()I"⟩
theorem own_ef_rmLn (m : MethodId) (a : Addr) (r : Addr)  : entryFrame m #[(.ref a)] 1 = mkF m 0 #[.val (.ref a)] [] := by first | (simp [entryFrame, mkF, argsToLocals, Value.category, maxLocals]; done) | rfl
def QrmLn (Z : State) (wcs : Int32) (a : Addr) (r : Addr) (kr : ClassId) (cd : Int32) (ln : Int32) (us : List Value) (h0 : Heap) (n0 : Nat) (v : Option Value) (h : Heap) (L : List Loc) : Prop := v = some (.int (ln >>> (cd &&& 31))) ∧ Fr n0 L ∧ h = h0
set_option maxRecDepth 65536 in
set_option maxHeartbeats 40000000 in
theorem rmLn (l : Launch) (Z : State) (a0 : Array Value) (hw : own_H a0 Z) (ws : List Jvm.Cond) (wcs : Int32) (hS : own_S Z wcs) (a : Addr) (r : Addr) (kr : ClassId) (cd : Int32) (ln : Int32) (us : List Value) (h0 : Heap) (n0 : Nat) (O0 : Old Z n0 h0) (E : Exa Z h0 a "java/lang/String") (F1 : Fld Z h0 a "java/lang/String" "coder" "B" (.int cd)) (F2 : Fld Z h0 a "java/lang/String" "value" "[B" (.ref r)) (A1 : Arv Z h0 r kr .byte ln us (.int (0 : Int32))) (hnb : narrow .byte (.int cd) = .int cd) :
    own_Met l own_y_330 jdk_42_method_54_code 1 (some .int) ws ({ frames := 1, cells := 0, slots := 0, locals := 13 } : Room) Z h0 #[(.ref a)] (QrmLn Z wcs a r kr cd ln us h0 n0) := by
  refine own_body (plainFor_of_name own_pn_173) ?_
  intro p e s m below meth c s₁ hx hby hml hown hnm hret hlk hZ e0 X0
  have N0 := Fr.nil n0
  refine own_st (fun u_ k_ => castTop (own_ef_rmLn m a r) k_) ?_
  show own_Go p e below _ (s₁.setTop (mkF m 0 #[.val (.ref a)] []))
  refine own_st (fun u_ k_ => XS.aloadN X0.here hx rfl (hb hby own_d_jdk_42_54_0) rfl rfl k_) ?_
  obtain ⟨T1044, X1044, e1044, st1044⟩ := getF X0 hx hZ hown (host := "") (Or.inl (own_w hw 21 rfl)) Via.refl e0 F2 (g := (mkF m 1 #[.val (.ref a)] [(.ref a)])) rfl rfl (hb hby own_d_jdk_42_54_1)
  refine own_st (fun u_ k_ => st1044 u_ k_) ?_
  show own_Go p e below _ (T1044.setTop (mkF m 4 #[.val (.ref a)] [(.ref r)]))
  obtain ⟨cl1045, Ar1045, -, S1045, N1045, -, -⟩ := id A1
  refine own_st (X1044.arraylength hx (by rw [e1044]; exact Ar1045.1) (State.isArrayOf_alike hZ.alike Ar1045.2.1) (g := (mkF m 4 #[.val (.ref a)] [(.ref r)])) rfl rfl (hb hby own_d_jdk_42_54_4)) ?_
  rw [len_of S1045 N1045]
  show own_Go p e below _ (T1044.setTop (mkF m 5 #[.val (.ref a)] [(.int ln)]))
  refine own_st (fun u_ k_ => XS.aloadN X1044.here hx rfl (hb hby own_d_jdk_42_54_5) rfl rfl k_) ?_
  obtain ⟨T1046, v1046, L1046, X1046, hQ1046, st1046⟩ := own_callV X1044 hx hZ (y := own_y_321) (z := own_y_321) hown (own_w hw 85 rfl) (own_w hw 86 rfl) (notFace_of_selects (args := #[]) (mvT hZ (own_w hw 88 rfl))) (own_w hw 88 rfl) (own_w hw 87 rfl) (own_w hw 3 rfl) (own_w hw 89 rfl) own_lm_181 (rmCd l Z a0 hw [] wcs hS a cd h0 n0 O0 F1 (by assumption)) e1044 E own_pd_327 (argsL := []) (rest := [(.int ln)]) rfl rfl (g := (mkF m 6 #[.val (.ref a)] [(.ref a), (.int ln)])) rfl (by rw [hml]; rfl) rfl (hb hby own_d_jdk_42_54_6) (W := 1) rfl (by decide) (by decide) (by decide) (by decide)
  obtain ⟨rfl, M1046, e1046⟩ := hQ1046
  have N1046 := Fr.app N0 M1046
  refine own_st (fun u_ k_ => st1046 u_ k_) ?_
  show own_Go p e below _ (T1046.setTop (mkF m 9 #[.val (.ref a)] [(.int cd), (.int ln)]))
  refine own_st (fun u_ k_ => XS.ishr X1046.here hx rfl (hb hby own_d_jdk_42_54_9) rfl k_) ?_
  exact own_retX X1046 hx hlk hret rfl (Or.inl ⟨rfl, by simp, _, rfl⟩) (hb hby own_d_jdk_42_54_10) (by decide) (by decide) (show QrmLn Z wcs a r kr cd ln us h0 n0 (some (.int (ln >>> (cd &&& 31)))) T1046.heap _ from (by rw [e1046]; exact ⟨rfl, N1046, rfl⟩))
theorem own_d_jdk_42_66_0 : decode jdk_42_method_66_code 0 = .ok (.aload_n 0, 1) := by decide +kernel
theorem own_d_jdk_42_66_1 : decode jdk_42_method_66_code 1 = .ok (.aload_n 1, 1) := by decide +kernel
theorem own_d_jdk_42_66_2 : decode jdk_42_method_66_code 2 = .ok (.if_acmp .ne 5, 3) := by decide +kernel
theorem own_d_jdk_42_66_5 : decode jdk_42_method_66_code 5 = .ok (.iconst 1, 1) := by decide +kernel
theorem own_d_jdk_42_66_6 : decode jdk_42_method_66_code 6 = .ok (.ireturn, 1) := by decide +kernel
abbrev own_y_336 : MethodName := ⟨"java/lang/String", "equals", "(Ljava/lang/Object;)Z"⟩
theorem own_ef_rmEq (m : MethodId) (a : Addr)  : entryFrame m #[(.ref a), (.ref a)] 3 = mkF m 0 #[.val (.ref a), .val (.ref a), .unset] [] := by first | (simp [entryFrame, mkF, argsToLocals, Value.category, maxLocals]; done) | rfl
def QrmEq (Z : State) (wcs : Int32) (a : Addr) (h0 : Heap) (n0 : Nat) (v : Option Value) (h : Heap) (L : List Loc) : Prop := v = some (.int (1 : Int32)) ∧ Fr n0 L ∧ h = h0
set_option maxRecDepth 65536 in
set_option maxHeartbeats 40000000 in
theorem rmEq (l : Launch) (Z : State) (a0 : Array Value) (hw : own_H a0 Z) (ws : List Jvm.Cond) (wcs : Int32) (hS : own_S Z wcs) (a : Addr) (h0 : Heap) (n0 : Nat) (O0 : Old Z n0 h0)  :
    own_Met l own_y_336 jdk_42_method_66_code 3 (some .boolean) ws ({ frames := 0, cells := 0, slots := 0, locals := 0 } : Room) Z h0 #[(.ref a), (.ref a)] (QrmEq Z wcs a h0 n0) := by
  refine own_body (plainFor_of_name own_pn_173) ?_
  intro p e s m below meth c s₁ hx hby hml hown hnm hret hlk hZ e0 X0
  have N0 := Fr.nil n0
  refine own_st (fun u_ k_ => castTop (own_ef_rmEq m a) k_) ?_
  show own_Go p e below _ (s₁.setTop (mkF m 0 #[.val (.ref a), .val (.ref a), .unset] []))
  refine own_st (fun u_ k_ => XS.aloadN X0.here hx rfl (hb hby own_d_jdk_42_66_0) rfl rfl k_) ?_
  refine own_st (fun u_ k_ => XS.aloadN X0.here hx rfl (hb hby own_d_jdk_42_66_1) rfl rfl k_) ?_
  show own_Go p e below _ (s₁.setTop (mkF m 2 #[.val (.ref a), .val (.ref a), .unset] [(.ref a), (.ref a)]))
  refine own_st (fun u_ k_ => XT.acmpNo X0.here hx rfl (hb hby own_d_jdk_42_66_2) rfl rfl rfl (XT.aa_ne_f rfl) k_) ?_
  show own_Go p e below _ (s₁.setTop (mkF m 5 #[.val (.ref a), .val (.ref a), .unset] []))
  refine own_st (fun u_ k_ => XS.iconst X0.here hx rfl (hb hby own_d_jdk_42_66_5) k_) ?_
  exact own_retX X0 hx hlk hret rfl (Or.inl ⟨rfl, by simp, _, rfl⟩) (hb hby own_d_jdk_42_66_6) (by decide) (by decide) (show QrmEq Z wcs a h0 n0 (some (.int (1 : Int32))) s₁.heap _ from (by rw [e0]; exact ⟨rfl, N0, rfl⟩))
theorem own_lm_337 : "[" ++ (newarray.typeOf .char).toString = "[C" := by decide +kernel
theorem own_pd_338 : parseMethodDescriptor "([C)V" = some ⟨[(.array .char)], none⟩ := by decide +kernel
theorem own_pd_339 : parseMethodDescriptor "(Ljava/lang/String;)Lcom/example/forgewire/forgewire/beans/ArgumentMatcher$Argument;" = some ⟨[(.object "java/lang/String")], some (.object "com/example/forgewire/forgewire/beans/ArgumentMatcher$Argument")⟩ := by decide +kernel
theorem own_pd_340 : parseMethodDescriptor "()Lcom/example/forgewire/forgewire/beans/ConstructorArgument;" = some ⟨[], some (.object "com/example/forgewire/forgewire/beans/ConstructorArgument")⟩ := by decide +kernel
theorem own_pd_341 : parseMethodDescriptor "()Ljava/lang/Object;" = some ⟨[], some (.object "java/lang/Object")⟩ := by decide +kernel
theorem own_pd_342 : parseMethodDescriptor "()Lcom/example/forgewire/forgewire/beans/ValueDefinition;" = some ⟨[], some (.object "com/example/forgewire/forgewire/beans/ValueDefinition")⟩ := by decide +kernel
theorem own_pd_343 : parseMethodDescriptor "()Ljava/lang/String;" = some ⟨[], some (.object "java/lang/String")⟩ := by decide +kernel
theorem own_pd_344 : parseMethodDescriptor "()I" = some ⟨[], some .int⟩ := by decide +kernel
theorem own_pd_345 : parseMethodDescriptor "(Ljava/lang/Object;)Z" = some ⟨[(.object "java/lang/Object")], some .boolean⟩ := by decide +kernel
theorem own_lm_346 : ("[C" : String) ≠ "java/lang/String" := by decide +kernel
-- the law itself
theorem own_pn_347 : plainName "com/example/forgewire/forgewire/beans/ArgumentTextPinLaw" = true := by first | (simp [plainName, overriddenIn]; done) | decide +kernel
theorem own_ef_rm0 (m : MethodId) (nb : Int32) (ca : Int32) (cb : Int32) (cc : Int32)  : entryFrame m #[(.int nb), (.int ca), (.int cb), (.int cc)] maxLocals = mkF m 0 #[.val (.int nb), .val (.int ca), .val (.int cb), .val (.int cc), .unset, .unset, .unset, .unset, .unset, .unset, .unset, .unset] [] := by first | (simp [entryFrame, mkF, argsToLocals, Value.category, maxLocals]; done) | rfl
def Qrm0 (Z : State) (wcs : Int32) (nb : Int32) (ca : Int32) (cb : Int32) (cc : Int32) (h0 : Heap) (n0 : Nat) (v : Option Value) (h : Heap) (L : List Loc) : Prop := v = some (.int (1 : Int32)) ∧ Fr n0 L ∧ Keep h0 h []
set_option maxRecDepth 65536 in
set_option maxHeartbeats 40000000 in
theorem rm0 (l : Launch) (Z : State) (a0 : Array Value) (hw : own_H a0 Z) (ws : List Jvm.Cond) (wcs : Int32) (hS : own_S Z wcs) (nb : Int32) (ca : Int32) (cb : Int32) (cc : Int32) (h0 : Heap) (n0 : Nat) (O0 : Old Z n0 h0)  :
    own_MetH own_EL [] l x code maxLocals ret ws room_1 Z h0 #[(.int nb), (.int ca), (.int cb), (.int cc)] (Qrm0 Z wcs nb ca cb cc h0 n0) := by
  refine own_bodyH (plainFor_of_name own_pn_347) ?_
  intro p e s m below meth c s₁ hx hby hml hown hnm hret hlk hZ e0 X0 hSi0 hs0 hC0 hsf0
  have hZ_0 := hZ
  have R0 : CHr Z own_EL s.vm h0 s.vm h0 := CHr.refl hC0
  have N0 := Fr.nil n0
  refine own_st (fun u_ k_ => castTop (own_ef_rm0 m nb ca cb cc) k_) ?_
  show own_Go p e below _ (s₁.setTop (mkF m 0 #[.val (.int nb), .val (.int ca), .val (.int cb), .val (.int cc), .unset, .unset, .unset, .unset, .unset, .unset, .unset, .unset] []))
  refine own_st (fun u_ k_ => XS.iloadN X0.here hx rfl (hb hby at_0) rfl k_) ?_
  refine own_st (fun u_ k_ => XS.iconst X0.here hx rfl (hb hby at_1) k_) ?_
  show own_Go p e below _ (s₁.setTop (mkF m 2 #[.val (.int nb), .val (.int ca), .val (.int cb), .val (.int cc), .unset, .unset, .unset, .unset, .unset, .unset, .unset, .unset] [(.int (3 : Int32)), (.int nb)]))
  refine own_st (fun u_ k_ => XS.iand X0.here hx rfl (hb hby at_2) rfl k_) ?_
  refine own_st (fun u_ k_ => XS.istore X0.here hx rfl (hb hby at_3) rfl (l' := #[.val (.int nb), .val (.int ca), .val (.int cb), .val (.int cc), .val (.int (nb &&& (3 : Int32))), .unset, .unset, .unset, .unset, .unset, .unset, .unset]) rfl k_) ?_
  show own_Go p e below _ (s₁.setTop (mkF m 5 #[.val (.int nb), .val (.int ca), .val (.int cb), .val (.int cc), .val (.int (nb &&& (3 : Int32))), .unset, .unset, .unset, .unset, .unset, .unset, .unset] []))
  refine own_st (fun u_ k_ => XS.iloadN X0.here hx rfl (hb hby at_5) rfl k_) ?_
  refine own_st (X0.ldcInt hx hown (mvT hZ (own_w hw 0 rfl)) (g := (mkF m 6 #[.val (.int nb), .val (.int ca), .val (.int cb), .val (.int cc), .val (.int (nb &&& (3 : Int32))), .unset, .unset, .unset, .unset, .unset, .unset, .unset] [(.int ca)])) rfl (hb hby at_6)) ?_
  show own_Go p e below _ (s₁.setTop (mkF m 8 #[.val (.int nb), .val (.int ca), .val (.int cb), .val (.int cc), .val (.int (nb &&& (3 : Int32))), .unset, .unset, .unset, .unset, .unset, .unset, .unset] [(.int (65535 : Int32)), (.int ca)]))
  refine own_st (fun u_ k_ => XS.iand X0.here hx rfl (hb hby at_8) rfl k_) ?_
  show own_Go p e below _ (s₁.setTop (mkF m 9 #[.val (.int nb), .val (.int ca), .val (.int cb), .val (.int cc), .val (.int (nb &&& (3 : Int32))), .unset, .unset, .unset, .unset, .unset, .unset, .unset] [(.int (ca &&& (65535 : Int32)))]))
  refine own_st (fun u_ k_ => XS.i2c X0.here hx rfl (hb hby at_9) rfl k_) ?_
  refine own_st (fun u_ k_ => XS.istore X0.here hx rfl (hb hby at_10) rfl (l' := #[.val (.int nb), .val (.int ca), .val (.int cb), .val (.int cc), .val (.int (nb &&& (3 : Int32))), .val (.int ((ca &&& (65535 : Int32)).toUInt32.toUInt16.toUInt32.toInt32)), .unset, .unset, .unset, .unset, .unset, .unset]) rfl k_) ?_
  show own_Go p e below _ (s₁.setTop (mkF m 12 #[.val (.int nb), .val (.int ca), .val (.int cb), .val (.int cc), .val (.int (nb &&& (3 : Int32))), .val (.int ((ca &&& (65535 : Int32)).toUInt32.toUInt16.toUInt32.toInt32)), .unset, .unset, .unset, .unset, .unset, .unset] []))
  refine own_st (fun u_ k_ => XS.iloadN X0.here hx rfl (hb hby at_12) rfl k_) ?_
  refine own_st (X0.ldcInt hx hown (mvT hZ (own_w hw 0 rfl)) (g := (mkF m 13 #[.val (.int nb), .val (.int ca), .val (.int cb), .val (.int cc), .val (.int (nb &&& (3 : Int32))), .val (.int ((ca &&& (65535 : Int32)).toUInt32.toUInt16.toUInt32.toInt32)), .unset, .unset, .unset, .unset, .unset, .unset] [(.int cb)])) rfl (hb hby at_13)) ?_
  show own_Go p e below _ (s₁.setTop (mkF m 15 #[.val (.int nb), .val (.int ca), .val (.int cb), .val (.int cc), .val (.int (nb &&& (3 : Int32))), .val (.int ((ca &&& (65535 : Int32)).toUInt32.toUInt16.toUInt32.toInt32)), .unset, .unset, .unset, .unset, .unset, .unset] [(.int (65535 : Int32)), (.int cb)]))
  refine own_st (fun u_ k_ => XS.iand X0.here hx rfl (hb hby at_15) rfl k_) ?_
  show own_Go p e below _ (s₁.setTop (mkF m 16 #[.val (.int nb), .val (.int ca), .val (.int cb), .val (.int cc), .val (.int (nb &&& (3 : Int32))), .val (.int ((ca &&& (65535 : Int32)).toUInt32.toUInt16.toUInt32.toInt32)), .unset, .unset, .unset, .unset, .unset, .unset] [(.int (cb &&& (65535 : Int32)))]))
  refine own_st (fun u_ k_ => XS.i2c X0.here hx rfl (hb hby at_16) rfl k_) ?_
  refine own_st (fun u_ k_ => XS.istore X0.here hx rfl (hb hby at_17) rfl (l' := #[.val (.int nb), .val (.int ca), .val (.int cb), .val (.int cc), .val (.int (nb &&& (3 : Int32))), .val (.int ((ca &&& (65535 : Int32)).toUInt32.toUInt16.toUInt32.toInt32)), .val (.int ((cb &&& (65535 : Int32)).toUInt32.toUInt16.toUInt32.toInt32)), .unset, .unset, .unset, .unset, .unset]) rfl k_) ?_
  show own_Go p e below _ (s₁.setTop (mkF m 19 #[.val (.int nb), .val (.int ca), .val (.int cb), .val (.int cc), .val (.int (nb &&& (3 : Int32))), .val (.int ((ca &&& (65535 : Int32)).toUInt32.toUInt16.toUInt32.toInt32)), .val (.int ((cb &&& (65535 : Int32)).toUInt32.toUInt16.toUInt32.toInt32)), .unset, .unset, .unset, .unset, .unset] []))
  refine own_st (fun u_ k_ => XS.iloadN X0.here hx rfl (hb hby at_19) rfl k_) ?_
  refine own_st (X0.ldcInt hx hown (mvT hZ (own_w hw 0 rfl)) (g := (mkF m 20 #[.val (.int nb), .val (.int ca), .val (.int cb), .val (.int cc), .val (.int (nb &&& (3 : Int32))), .val (.int ((ca &&& (65535 : Int32)).toUInt32.toUInt16.toUInt32.toInt32)), .val (.int ((cb &&& (65535 : Int32)).toUInt32.toUInt16.toUInt32.toInt32)), .unset, .unset, .unset, .unset, .unset] [(.int cc)])) rfl (hb hby at_20)) ?_
  show own_Go p e below _ (s₁.setTop (mkF m 22 #[.val (.int nb), .val (.int ca), .val (.int cb), .val (.int cc), .val (.int (nb &&& (3 : Int32))), .val (.int ((ca &&& (65535 : Int32)).toUInt32.toUInt16.toUInt32.toInt32)), .val (.int ((cb &&& (65535 : Int32)).toUInt32.toUInt16.toUInt32.toInt32)), .unset, .unset, .unset, .unset, .unset] [(.int (65535 : Int32)), (.int cc)]))
  refine own_st (fun u_ k_ => XS.iand X0.here hx rfl (hb hby at_22) rfl k_) ?_
  show own_Go p e below _ (s₁.setTop (mkF m 23 #[.val (.int nb), .val (.int ca), .val (.int cb), .val (.int cc), .val (.int (nb &&& (3 : Int32))), .val (.int ((ca &&& (65535 : Int32)).toUInt32.toUInt16.toUInt32.toInt32)), .val (.int ((cb &&& (65535 : Int32)).toUInt32.toUInt16.toUInt32.toInt32)), .unset, .unset, .unset, .unset, .unset] [(.int (cc &&& (65535 : Int32)))]))
  refine own_st (fun u_ k_ => XS.i2c X0.here hx rfl (hb hby at_23) rfl k_) ?_
  refine own_st (fun u_ k_ => XS.istore X0.here hx rfl (hb hby at_24) rfl (l' := #[.val (.int nb), .val (.int ca), .val (.int cb), .val (.int cc), .val (.int (nb &&& (3 : Int32))), .val (.int ((ca &&& (65535 : Int32)).toUInt32.toUInt16.toUInt32.toInt32)), .val (.int ((cb &&& (65535 : Int32)).toUInt32.toUInt16.toUInt32.toInt32)), .val (.int ((cc &&& (65535 : Int32)).toUInt32.toUInt16.toUInt32.toInt32)), .unset, .unset, .unset, .unset]) rfl k_) ?_
  show own_Go p e below _ (s₁.setTop (mkF m 26 #[.val (.int nb), .val (.int ca), .val (.int cb), .val (.int cc), .val (.int (nb &&& (3 : Int32))), .val (.int ((ca &&& (65535 : Int32)).toUInt32.toUInt16.toUInt32.toInt32)), .val (.int ((cb &&& (65535 : Int32)).toUInt32.toUInt16.toUInt32.toInt32)), .val (.int ((cc &&& (65535 : Int32)).toUInt32.toUInt16.toUInt32.toInt32)), .unset, .unset, .unset, .unset] []))
  refine own_st (fun u_ k_ => XS.iload X0.here hx rfl (hb hby at_26) rfl k_) ?_
  by_cases hc1047 : (nb &&& (3 : Int32)) = (0 : Int32)
  · refine own_st (fun u_ k_ => XS.ifNo X0.here hx rfl (hb hby at_28) rfl (XT.i0_ne_f hc1047) k_) ?_
    show own_Go p e below _ (s₁.setTop (mkF m 31 #[.val (.int nb), .val (.int ca), .val (.int cb), .val (.int cc), .val (.int (nb &&& (3 : Int32))), .val (.int ((ca &&& (65535 : Int32)).toUInt32.toUInt16.toUInt32.toInt32)), .val (.int ((cb &&& (65535 : Int32)).toUInt32.toUInt16.toUInt32.toInt32)), .val (.int ((cc &&& (65535 : Int32)).toUInt32.toUInt16.toUInt32.toInt32)), .unset, .unset, .unset, .unset] []))
    obtain ⟨T1048, h1048, X1048, e1048, E1048, A1048, D1048, U1048, st1048⟩ := newO X0 hx hZ hown (own_w hw 1 rfl) (own_w hw 2 rfl) (own_w hw 3 rfl) e0 (g := (mkF m 31 #[.val (.int nb), .val (.int ca), .val (.int cb), .val (.int cc), .val (.int (nb &&& (3 : Int32))), .val (.int ((ca &&& (65535 : Int32)).toUInt32.toUInt16.toUInt32.toInt32)), .val (.int ((cb &&& (65535 : Int32)).toUInt32.toUInt16.toUInt32.toInt32)), .val (.int ((cc &&& (65535 : Int32)).toUInt32.toUInt16.toUInt32.toInt32)), .unset, .unset, .unset, .unset] [])) rfl (hb hby at_31) (by decide) (by decide)
    obtain ⟨b1048, g1048⟩ : ∃ z, z = h0.size := ⟨_, rfl⟩
    rw [← g1048] at A1048 D1048 U1048 st1048
    have F1048_value : Fld Z h1048 b1048 "java/lang/String" "value" "[B" .null := D1048 (Or.inr (own_w hw 17 rfl)) (ty := (.array .byte)) own_lm_167
    have F1048_coder : Fld Z h1048 b1048 "java/lang/String" "coder" "B" (.int (0 : Int32)) := D1048 (Or.inr (own_w hw 18 rfl)) (ty := .byte) own_lm_162
    refine own_st (fun u_ k_ => st1048 u_ k_) ?_
    show own_Go p e below _ (T1048.setTop (mkF m 34 #[.val (.int nb), .val (.int ca), .val (.int cb), .val (.int cc), .val (.int (nb &&& (3 : Int32))), .val (.int ((ca &&& (65535 : Int32)).toUInt32.toUInt16.toUInt32.toInt32)), .val (.int ((cb &&& (65535 : Int32)).toUInt32.toUInt16.toUInt32.toInt32)), .val (.int ((cc &&& (65535 : Int32)).toUInt32.toUInt16.toUInt32.toInt32)), .unset, .unset, .unset, .unset] [(.ref b1048)]))
    refine own_st (fun u_ k_ => XS.dup X1048.here hx rfl (hb hby at_34) rfl rfl k_) ?_
    refine own_st (fun u_ k_ => XS.iconst X1048.here hx rfl (hb hby at_35) k_) ?_
    show own_Go p e below _ (T1048.setTop (mkF m 36 #[.val (.int nb), .val (.int ca), .val (.int cb), .val (.int cc), .val (.int (nb &&& (3 : Int32))), .val (.int ((ca &&& (65535 : Int32)).toUInt32.toUInt16.toUInt32.toInt32)), .val (.int ((cb &&& (65535 : Int32)).toUInt32.toUInt16.toUInt32.toInt32)), .val (.int ((cc &&& (65535 : Int32)).toUInt32.toUInt16.toUInt32.toInt32)), .unset, .unset, .unset, .unset] [(.int (0 : Int32)), (.ref b1048), (.ref b1048)]))
    obtain ⟨T1049, h1049, k1049, X1049, e1049, E1049, A1049, Y1049, st1049⟩ := newPE X1048 hx hZ (own_w hw 4 rfl) e1048 (g := (mkF m 36 #[.val (.int nb), .val (.int ca), .val (.int cb), .val (.int cc), .val (.int (nb &&& (3 : Int32))), .val (.int ((ca &&& (65535 : Int32)).toUInt32.toUInt16.toUInt32.toInt32)), .val (.int ((cb &&& (65535 : Int32)).toUInt32.toUInt16.toUInt32.toInt32)), .val (.int ((cc &&& (65535 : Int32)).toUInt32.toUInt16.toUInt32.toInt32)), .unset, .unset, .unset, .unset] [(.int (0 : Int32)), (.ref b1048), (.ref b1048)])) rfl (hb hby at_36) rfl (by decide) (cap := 0) (by decide) (by decide) (by decide) (by decide) (ad := "[C") own_lm_337
    obtain ⟨b1049, g1049⟩ : ∃ z, z = h1048.size := ⟨_, rfl⟩
    rw [← g1049] at A1049 Y1049 st1049
    have V1049 : Arv Z h1049 b1049 k1049 .char (0 : Int32) [] (.int (0 : Int32)) := (Arv.new A1049 (by decide)).pad (pad_rep [] (.int (0 : Int32)) 0)
    refine own_st (fun u_ k_ => st1049 u_ k_) ?_
    show own_Go p e below _ (T1049.setTop (mkF m 38 #[.val (.int nb), .val (.int ca), .val (.int cb), .val (.int cc), .val (.int (nb &&& (3 : Int32))), .val (.int ((ca &&& (65535 : Int32)).toUInt32.toUInt16.toUInt32.toInt32)), .val (.int ((cb &&& (65535 : Int32)).toUInt32.toUInt16.toUInt32.toInt32)), .val (.int ((cc &&& (65535 : Int32)).toUInt32.toUInt16.toUInt32.toInt32)), .unset, .unset, .unset, .unset] [(.ref b1049), (.ref b1048), (.ref b1048)]))
    have F1050 := (Exa.ext E1049 A1048)
    have g1051 : n0 ≤ b1048 := Nat.le_trans (own_nl O0) (Nat.le_of_eq g1048.symm)
    have F1052 := (Fld.ext E1049 F1048_value)
    have F1053 := (Fld.ext E1049 F1048_coder)
    have O1055 : Old Z n0 h1048 := O0.ext E1048
    have O1056 : Old Z n0 h1049 := O1055.ext E1049
    have sf_1057 : Safe Z own_EL s.vm h0 b1048 := Safe.new (Nat.le_of_eq g1048.symm)
    have sf_1058 : Safe Z own_EL s.vm h1048 b1048 := Safe.ext E1048 R0.1 sf_1057
    have R1059 : CHr Z own_EL s.vm h0 s.vm h1048 := R0.trans (CHr.ext E1048 R0.1)
    have sf_1060 : Safe Z own_EL s.vm h1049 b1048 := Safe.ext E1049 R1059.1 sf_1058
    have R1061 : CHr Z own_EL s.vm h0 s.vm h1049 := R1059.trans (CHr.ext E1049 R1059.1)
    obtain ⟨T1054, v1054, L1054, X1054, Si1054, hZ1054, hown1054, hQ1054, hr1054, st1054⟩ := own_callNH X1049 hx hZ hSi0 (Nat.le_trans (Nat.zero_le _) (Nat.le_trans E1048.1 E1049.1)) (own_hEL hw) R1061.1 (own_sfS F1050.lt sf_1060 own_sf0) (y := own_y_198) rfl hown (own_w hw 5 rfl) (own_w hw 6 rfl) (own_w hw 3 rfl) (own_w hw 7 rfl) own_lm_181 (rmS1_0 l Z a0 hw [] wcs hS b1048 b1049 k1049 h1049 n0 O1056 F1050 Y1049 g1051 F1052 F1053 V1049) e1049 own_pd_338 (a := b1048) (argsL := [(.ref b1049)]) (rest := [(.ref b1048)]) rfl rfl (g := (mkF m 38 #[.val (.int nb), .val (.int ca), .val (.int cb), .val (.int cc), .val (.int (nb &&& (3 : Int32))), .val (.int ((ca &&& (65535 : Int32)).toUInt32.toUInt16.toUInt32.toInt32)), .val (.int ((cb &&& (65535 : Int32)).toUInt32.toUInt16.toUInt32.toInt32)), .val (.int ((cc &&& (65535 : Int32)).toUInt32.toUInt16.toUInt32.toInt32)), .unset, .unset, .unset, .unset] [(.ref b1049), (.ref b1048), (.ref b1048)])) rfl (by rw [hml]; rfl) rfl (hb hby at_38) (W := 1) rfl (by decide) (by decide) (by decide) (by decide)
    obtain ⟨r_1062, kr_1063, rfl, M1054, K1054, F1064, F1065, F1066, F1067⟩ := hQ1054
    have N1054 := Fr.app N0 M1054
    refine own_st (fun u_ k_ => st1054 u_ k_) ?_
    show own_Go p e below _ (T1054.setTop (mkF m 41 #[.val (.int nb), .val (.int ca), .val (.int cb), .val (.int cc), .val (.int (nb &&& (3 : Int32))), .val (.int ((ca &&& (65535 : Int32)).toUInt32.toUInt16.toUInt32.toInt32)), .val (.int ((cb &&& (65535 : Int32)).toUInt32.toUInt16.toUInt32.toInt32)), .val (.int ((cc &&& (65535 : Int32)).toUInt32.toUInt16.toUInt32.toInt32)), .unset, .unset, .unset, .unset] [(.ref b1048)]))
    refine own_st (fun u_ k_ => XS.astore X1054.here hx rfl (hb hby at_41) rfl rfl (l' := #[.val (.int nb), .val (.int ca), .val (.int cb), .val (.int cc), .val (.int (nb &&& (3 : Int32))), .val (.int ((ca &&& (65535 : Int32)).toUInt32.toUInt16.toUInt32.toInt32)), .val (.int ((cb &&& (65535 : Int32)).toUInt32.toUInt16.toUInt32.toInt32)), .val (.int ((cc &&& (65535 : Int32)).toUInt32.toUInt16.toUInt32.toInt32)), .val (.ref b1048), .unset, .unset, .unset]) rfl k_) ?_
    refine own_st (fun u_ k_ => XS.goto X1054.here hx rfl (pc0 := 43) (pc' := 130) rfl (hb hby at_43) (by decide) (by decide) k_) ?_
    show own_Go p e below _ (T1054.setTop (mkF m 130 #[.val (.int nb), .val (.int ca), .val (.int cb), .val (.int cc), .val (.int (nb &&& (3 : Int32))), .val (.int ((ca &&& (65535 : Int32)).toUInt32.toUInt16.toUInt32.toInt32)), .val (.int ((cb &&& (65535 : Int32)).toUInt32.toUInt16.toUInt32.toInt32)), .val (.int ((cc &&& (65535 : Int32)).toUInt32.toUInt16.toUInt32.toInt32)), .val (.ref b1048), .unset, .unset, .unset] []))
    refine own_st (fun u_ k_ => XS.aload X1054.here hx rfl (hb hby at_130) rfl rfl k_) ?_
    have O1069 : Old Z n0 T1054.heap := O1056.keep K1054 (allS g1051 all0)
    have R1070 : CHr Z own_EL s.vm h0 T1054.vm T1054.heap := R1061.trans hr1054
    obtain ⟨T1068, v1068, L1068, X1068, Si1068, hZ1068, hown1068, hQ1068, hr1068, st1068⟩ := own_callSH X1054 hx hZ1054 Si1054 (Nat.le_refl _) (own_hEL hw) R1070.1 own_sf0 (y := own_y_298) hown1054 (own_w hw 23 rfl) (own_w hw 24 rfl) (own_w hw 25 rfl) (own_w hw 26 rfl) own_lm_293 (rmAt l Z a0 hw [] wcs hS b1048 T1054.heap n0 O1069 ) rfl own_pd_339 (argsL := [(.ref b1048)]) (rest := []) rfl rfl (g := (mkF m 132 #[.val (.int nb), .val (.int ca), .val (.int cb), .val (.int cc), .val (.int (nb &&& (3 : Int32))), .val (.int ((ca &&& (65535 : Int32)).toUInt32.toUInt16.toUInt32.toInt32)), .val (.int ((cb &&& (65535 : Int32)).toUInt32.toUInt16.toUInt32.toInt32)), .val (.int ((cc &&& (65535 : Int32)).toUInt32.toUInt16.toUInt32.toInt32)), .val (.ref b1048), .unset, .unset, .unset] [(.ref b1048)])) rfl (by rw [hml]; rfl) rfl (hb hby at_132) (W := 0) rfl (by decide) (by decide) (by decide) (by decide)
    obtain ⟨qa_1071, qt_1072, rfl, M1068, K1068, z1073, z1074, F1075, F1076, F1077, F1078, F1079, F1080⟩ := hQ1068
    have N1068 := Fr.app N1054 M1068
    refine own_st (fun u_ k_ => st1068 u_ k_) ?_
    show own_Go p e below _ (T1068.setTop (mkF m 135 #[.val (.int nb), .val (.int ca), .val (.int cb), .val (.int cc), .val (.int (nb &&& (3 : Int32))), .val (.int ((ca &&& (65535 : Int32)).toUInt32.toUInt16.toUInt32.toInt32)), .val (.int ((cb &&& (65535 : Int32)).toUInt32.toUInt16.toUInt32.toInt32)), .val (.int ((cc &&& (65535 : Int32)).toUInt32.toUInt16.toUInt32.toInt32)), .val (.ref b1048), .unset, .unset, .unset] [(.ref qa_1071)]))
    refine own_st (fun u_ k_ => XS.astore X1068.here hx rfl (hb hby at_135) rfl rfl (l' := #[.val (.int nb), .val (.int ca), .val (.int cb), .val (.int cc), .val (.int (nb &&& (3 : Int32))), .val (.int ((ca &&& (65535 : Int32)).toUInt32.toUInt16.toUInt32.toInt32)), .val (.int ((cb &&& (65535 : Int32)).toUInt32.toUInt16.toUInt32.toInt32)), .val (.int ((cc &&& (65535 : Int32)).toUInt32.toUInt16.toUInt32.toInt32)), .val (.ref b1048), .val (.ref qa_1071), .unset, .unset]) rfl k_) ?_
    refine own_st (fun u_ k_ => XS.aload X1068.here hx rfl (hb hby at_137) rfl rfl k_) ?_
    show own_Go p e below _ (T1068.setTop (mkF m 139 #[.val (.int nb), .val (.int ca), .val (.int cb), .val (.int cc), .val (.int (nb &&& (3 : Int32))), .val (.int ((ca &&& (65535 : Int32)).toUInt32.toUInt16.toUInt32.toInt32)), .val (.int ((cb &&& (65535 : Int32)).toUInt32.toUInt16.toUInt32.toInt32)), .val (.int ((cc &&& (65535 : Int32)).toUInt32.toUInt16.toUInt32.toInt32)), .val (.ref b1048), .val (.ref qa_1071), .unset, .unset] [(.ref qa_1071)]))
    have O1082 : Old Z n0 T1068.heap := O1069.keep K1068 all0
    obtain ⟨T1081, v1081, L1081, X1081, hQ1081, st1081⟩ := own_callV X1068 hx hZ1068 (y := own_y_302) (z := own_y_302) hown1068 (own_w hw 58 rfl) (own_w hw 59 rfl) (notFace_of_selects (args := #[]) (mvT hZ1068 (own_w hw 61 rfl))) (own_w hw 61 rfl) (own_w hw 60 rfl) (own_w hw 25 rfl) (own_w hw 62 rfl) own_lm_293 (rmGdefinition l Z a0 hw [] wcs hS qa_1071 T1068.heap n0 O1082 F1077) rfl F1075 own_pd_340 (argsL := []) (rest := []) rfl rfl (g := (mkF m 139 #[.val (.int nb), .val (.int ca), .val (.int cb), .val (.int cc), .val (.int (nb &&& (3 : Int32))), .val (.int ((ca &&& (65535 : Int32)).toUInt32.toUInt16.toUInt32.toInt32)), .val (.int ((cb &&& (65535 : Int32)).toUInt32.toUInt16.toUInt32.toInt32)), .val (.int ((cc &&& (65535 : Int32)).toUInt32.toUInt16.toUInt32.toInt32)), .val (.ref b1048), .val (.ref qa_1071), .unset, .unset] [(.ref qa_1071)])) rfl (by rw [hml]; rfl) rfl (hb hby at_139) (W := 0) rfl (by decide) (by decide) (by decide) (by decide)
    obtain ⟨rfl, M1081, e1081⟩ := hQ1081
    have N1081 := Fr.app N1068 M1081
    refine own_st (fun u_ k_ => st1081 u_ k_) ?_
    show own_Go p e below _ (T1081.setTop (mkF m 142 #[.val (.int nb), .val (.int ca), .val (.int cb), .val (.int cc), .val (.int (nb &&& (3 : Int32))), .val (.int ((ca &&& (65535 : Int32)).toUInt32.toUInt16.toUInt32.toInt32)), .val (.int ((cb &&& (65535 : Int32)).toUInt32.toUInt16.toUInt32.toInt32)), .val (.int ((cc &&& (65535 : Int32)).toUInt32.toUInt16.toUInt32.toInt32)), .val (.ref b1048), .val (.ref qa_1071), .unset, .unset] [.null]))
    refine own_st (fun u_ k_ => XS.ifnullYes X1081.here hx rfl (pc0 := 142) (pc' := 147) rfl (hb hby at_142) rfl (by decide) (by decide) k_) ?_
    refine own_st (fun u_ k_ => XS.aload X1081.here hx rfl (hb hby at_147) rfl rfl k_) ?_
    show own_Go p e below _ (T1081.setTop (mkF m 149 #[.val (.int nb), .val (.int ca), .val (.int cb), .val (.int cc), .val (.int (nb &&& (3 : Int32))), .val (.int ((ca &&& (65535 : Int32)).toUInt32.toUInt16.toUInt32.toInt32)), .val (.int ((cb &&& (65535 : Int32)).toUInt32.toUInt16.toUInt32.toInt32)), .val (.int ((cc &&& (65535 : Int32)).toUInt32.toUInt16.toUInt32.toInt32)), .val (.ref b1048), .val (.ref qa_1071), .unset, .unset] [(.ref qa_1071)]))
    obtain ⟨T1083, v1083, L1083, X1083, hQ1083, st1083⟩ := own_callV X1081 hx hZ1068 (y := own_y_310) (z := own_y_310) hown1068 (own_w hw 63 rfl) (own_w hw 64 rfl) (notFace_of_selects (args := #[]) (mvT hZ1068 (own_w hw 66 rfl))) (own_w hw 66 rfl) (own_w hw 65 rfl) (own_w hw 25 rfl) (own_w hw 67 rfl) own_lm_293 (rmGbean l Z a0 hw [] wcs hS qa_1071 T1068.heap n0 O1082 F1079) e1081 F1075 own_pd_341 (argsL := []) (rest := []) rfl rfl (g := (mkF m 149 #[.val (.int nb), .val (.int ca), .val (.int cb), .val (.int cc), .val (.int (nb &&& (3 : Int32))), .val (.int ((ca &&& (65535 : Int32)).toUInt32.toUInt16.toUInt32.toInt32)), .val (.int ((cb &&& (65535 : Int32)).toUInt32.toUInt16.toUInt32.toInt32)), .val (.int ((cc &&& (65535 : Int32)).toUInt32.toUInt16.toUInt32.toInt32)), .val (.ref b1048), .val (.ref qa_1071), .unset, .unset] [(.ref qa_1071)])) rfl (by rw [hml]; rfl) rfl (hb hby at_149) (W := 0) rfl (by decide) (by decide) (by decide) (by decide)
    obtain ⟨rfl, M1083, e1083⟩ := hQ1083
    have N1083 := Fr.app N1081 M1083
    refine own_st (fun u_ k_ => st1083 u_ k_) ?_
    show own_Go p e below _ (T1083.setTop (mkF m 152 #[.val (.int nb), .val (.int ca), .val (.int cb), .val (.int cc), .val (.int (nb &&& (3 : Int32))), .val (.int ((ca &&& (65535 : Int32)).toUInt32.toUInt16.toUInt32.toInt32)), .val (.int ((cb &&& (65535 : Int32)).toUInt32.toUInt16.toUInt32.toInt32)), .val (.int ((cc &&& (65535 : Int32)).toUInt32.toUInt16.toUInt32.toInt32)), .val (.ref b1048), .val (.ref qa_1071), .unset, .unset] [.null]))
    refine own_st (fun u_ k_ => XS.ifnullYes X1083.here hx rfl (pc0 := 152) (pc' := 157) rfl (hb hby at_152) rfl (by decide) (by decide) k_) ?_
    refine own_st (fun u_ k_ => XS.aload X1083.here hx rfl (hb hby at_157) rfl rfl k_) ?_
    show own_Go p e below _ (T1083.setTop (mkF m 159 #[.val (.int nb), .val (.int ca), .val (.int cb), .val (.int cc), .val (.int (nb &&& (3 : Int32))), .val (.int ((ca &&& (65535 : Int32)).toUInt32.toUInt16.toUInt32.toInt32)), .val (.int ((cb &&& (65535 : Int32)).toUInt32.toUInt16.toUInt32.toInt32)), .val (.int ((cc &&& (65535 : Int32)).toUInt32.toUInt16.toUInt32.toInt32)), .val (.ref b1048), .val (.ref qa_1071), .unset, .unset] [(.ref qa_1071)]))
    obtain ⟨T1084, v1084, L1084, X1084, hQ1084, st1084⟩ := own_callV X1083 hx hZ1068 (y := own_y_306) (z := own_y_306) hown1068 (own_w hw 68 rfl) (own_w hw 69 rfl) (notFace_of_selects (args := #[]) (mvT hZ1068 (own_w hw 71 rfl))) (own_w hw 71 rfl) (own_w hw 70 rfl) (own_w hw 25 rfl) (own_w hw 72 rfl) own_lm_293 (rmGvalue l Z a0 hw [] wcs hS qa_1071 qt_1072 T1068.heap n0 O1082 F1078) e1083 F1075 own_pd_342 (argsL := []) (rest := []) rfl rfl (g := (mkF m 159 #[.val (.int nb), .val (.int ca), .val (.int cb), .val (.int cc), .val (.int (nb &&& (3 : Int32))), .val (.int ((ca &&& (65535 : Int32)).toUInt32.toUInt16.toUInt32.toInt32)), .val (.int ((cb &&& (65535 : Int32)).toUInt32.toUInt16.toUInt32.toInt32)), .val (.int ((cc &&& (65535 : Int32)).toUInt32.toUInt16.toUInt32.toInt32)), .val (.ref b1048), .val (.ref qa_1071), .unset, .unset] [(.ref qa_1071)])) rfl (by rw [hml]; rfl) rfl (hb hby at_159) (W := 0) rfl (by decide) (by decide) (by decide) (by decide)
    obtain ⟨rfl, M1084, e1084⟩ := hQ1084
    have N1084 := Fr.app N1083 M1084
    refine own_st (fun u_ k_ => st1084 u_ k_) ?_
    show own_Go p e below _ (T1084.setTop (mkF m 162 #[.val (.int nb), .val (.int ca), .val (.int cb), .val (.int cc), .val (.int (nb &&& (3 : Int32))), .val (.int ((ca &&& (65535 : Int32)).toUInt32.toUInt16.toUInt32.toInt32)), .val (.int ((cb &&& (65535 : Int32)).toUInt32.toUInt16.toUInt32.toInt32)), .val (.int ((cc &&& (65535 : Int32)).toUInt32.toUInt16.toUInt32.toInt32)), .val (.ref b1048), .val (.ref qa_1071), .unset, .unset] [(.ref qt_1072)]))
    refine own_st (fun u_ k_ => XS.astore X1084.here hx rfl (hb hby at_162) rfl rfl (l' := #[.val (.int nb), .val (.int ca), .val (.int cb), .val (.int cc), .val (.int (nb &&& (3 : Int32))), .val (.int ((ca &&& (65535 : Int32)).toUInt32.toUInt16.toUInt32.toInt32)), .val (.int ((cb &&& (65535 : Int32)).toUInt32.toUInt16.toUInt32.toInt32)), .val (.int ((cc &&& (65535 : Int32)).toUInt32.toUInt16.toUInt32.toInt32)), .val (.ref b1048), .val (.ref qa_1071), .val (.ref qt_1072), .unset]) rfl k_) ?_
    refine own_st (fun u_ k_ => XS.aload X1084.here hx rfl (hb hby at_164) rfl rfl k_) ?_
    show own_Go p e below _ (T1084.setTop (mkF m 166 #[.val (.int nb), .val (.int ca), .val (.int cb), .val (.int cc), .val (.int (nb &&& (3 : Int32))), .val (.int ((ca &&& (65535 : Int32)).toUInt32.toUInt16.toUInt32.toInt32)), .val (.int ((cb &&& (65535 : Int32)).toUInt32.toUInt16.toUInt32.toInt32)), .val (.int ((cc &&& (65535 : Int32)).toUInt32.toUInt16.toUInt32.toInt32)), .val (.ref b1048), .val (.ref qa_1071), .val (.ref qt_1072), .unset] [(.ref qt_1072)]))
    obtain ⟨T1085, X1085, e1085, st1085⟩ := instY X1084 hx hZ1068 hown1068 (own_w hw 73 rfl) e1084 (Ins.self F1076) (g := (mkF m 166 #[.val (.int nb), .val (.int ca), .val (.int cb), .val (.int cc), .val (.int (nb &&& (3 : Int32))), .val (.int ((ca &&& (65535 : Int32)).toUInt32.toUInt16.toUInt32.toInt32)), .val (.int ((cb &&& (65535 : Int32)).toUInt32.toUInt16.toUInt32.toInt32)), .val (.int ((cc &&& (65535 : Int32)).toUInt32.toUInt16.toUInt32.toInt32)), .val (.ref b1048), .val (.ref qa_1071), .val (.ref qt_1072), .unset] [(.ref qt_1072)])) rfl rfl (hb hby at_166)
    refine own_st (fun u_ k_ => st1085 u_ k_) ?_
    show own_Go p e below _ (T1085.setTop (mkF m 169 #[.val (.int nb), .val (.int ca), .val (.int cb), .val (.int cc), .val (.int (nb &&& (3 : Int32))), .val (.int ((ca &&& (65535 : Int32)).toUInt32.toUInt16.toUInt32.toInt32)), .val (.int ((cb &&& (65535 : Int32)).toUInt32.toUInt16.toUInt32.toInt32)), .val (.int ((cc &&& (65535 : Int32)).toUInt32.toUInt16.toUInt32.toInt32)), .val (.ref b1048), .val (.ref qa_1071), .val (.ref qt_1072), .unset] [(.int (1 : Int32))]))
    refine own_st (fun u_ k_ => XS.ifYes X1085.here hx rfl (pc0 := 169) (pc' := 174) rfl (hb hby at_169) rfl (XT.i0_ne_t (by decide)) (by decide) (by decide) k_) ?_
    refine own_st (fun u_ k_ => XS.aload X1085.here hx rfl (hb hby at_174) rfl rfl k_) ?_
    show own_Go p e below _ (T1085.setTop (mkF m 176 #[.val (.int nb), .val (.int ca), .val (.int cb), .val (.int cc), .val (.int (nb &&& (3 : Int32))), .val (.int ((ca &&& (65535 : Int32)).toUInt32.toUInt16.toUInt32.toInt32)), .val (.int ((cb &&& (65535 : Int32)).toUInt32.toUInt16.toUInt32.toInt32)), .val (.int ((cc &&& (65535 : Int32)).toUInt32.toUInt16.toUInt32.toInt32)), .val (.ref b1048), .val (.ref qa_1071), .val (.ref qt_1072), .unset] [(.ref qt_1072)]))
    obtain ⟨T1086, X1086, e1086, st1086⟩ := castY X1085 hx hZ1068 hown1068 (own_w hw 73 rfl) e1085 (Ins.self F1076) (g := (mkF m 176 #[.val (.int nb), .val (.int ca), .val (.int cb), .val (.int cc), .val (.int (nb &&& (3 : Int32))), .val (.int ((ca &&& (65535 : Int32)).toUInt32.toUInt16.toUInt32.toInt32)), .val (.int ((cb &&& (65535 : Int32)).toUInt32.toUInt16.toUInt32.toInt32)), .val (.int ((cc &&& (65535 : Int32)).toUInt32.toUInt16.toUInt32.toInt32)), .val (.ref b1048), .val (.ref qa_1071), .val (.ref qt_1072), .unset] [(.ref qt_1072)])) rfl rfl (hb hby at_176)
    refine own_st (fun u_ k_ => st1086 u_ k_) ?_
    show own_Go p e below _ (T1086.setTop (mkF m 179 #[.val (.int nb), .val (.int ca), .val (.int cb), .val (.int cc), .val (.int (nb &&& (3 : Int32))), .val (.int ((ca &&& (65535 : Int32)).toUInt32.toUInt16.toUInt32.toInt32)), .val (.int ((cb &&& (65535 : Int32)).toUInt32.toUInt16.toUInt32.toInt32)), .val (.int ((cc &&& (65535 : Int32)).toUInt32.toUInt16.toUInt32.toInt32)), .val (.ref b1048), .val (.ref qa_1071), .val (.ref qt_1072), .unset] [(.ref qt_1072)]))
    obtain ⟨T1087, v1087, L1087, X1087, hQ1087, st1087⟩ := own_callV X1086 hx hZ1068 (y := own_y_314) (z := own_y_314) hown1068 (own_w hw 75 rfl) (own_w hw 76 rfl) (notFace_of_selects (args := #[]) (mvT hZ1068 (own_w hw 78 rfl))) (own_w hw 78 rfl) (own_w hw 77 rfl) (own_w hw 31 rfl) (own_w hw 79 rfl) own_lm_289 (rmGt l Z a0 hw [] wcs hS qt_1072 b1048 T1068.heap n0 O1082 F1080) e1086 F1076 own_pd_343 (argsL := []) (rest := []) rfl rfl (g := (mkF m 179 #[.val (.int nb), .val (.int ca), .val (.int cb), .val (.int cc), .val (.int (nb &&& (3 : Int32))), .val (.int ((ca &&& (65535 : Int32)).toUInt32.toUInt16.toUInt32.toInt32)), .val (.int ((cb &&& (65535 : Int32)).toUInt32.toUInt16.toUInt32.toInt32)), .val (.int ((cc &&& (65535 : Int32)).toUInt32.toUInt16.toUInt32.toInt32)), .val (.ref b1048), .val (.ref qa_1071), .val (.ref qt_1072), .unset] [(.ref qt_1072)])) rfl (by rw [hml]; rfl) rfl (hb hby at_179) (W := 0) rfl (by decide) (by decide) (by decide) (by decide)
    obtain ⟨rfl, M1087, e1087⟩ := hQ1087
    have N1087 := Fr.app N1084 M1087
    refine own_st (fun u_ k_ => st1087 u_ k_) ?_
    show own_Go p e below _ (T1087.setTop (mkF m 182 #[.val (.int nb), .val (.int ca), .val (.int cb), .val (.int cc), .val (.int (nb &&& (3 : Int32))), .val (.int ((ca &&& (65535 : Int32)).toUInt32.toUInt16.toUInt32.toInt32)), .val (.int ((cb &&& (65535 : Int32)).toUInt32.toUInt16.toUInt32.toInt32)), .val (.int ((cc &&& (65535 : Int32)).toUInt32.toUInt16.toUInt32.toInt32)), .val (.ref b1048), .val (.ref qa_1071), .val (.ref qt_1072), .unset] [(.ref b1048)]))
    refine own_st (fun u_ k_ => XS.astore X1087.here hx rfl (hb hby at_182) rfl rfl (l' := #[.val (.int nb), .val (.int ca), .val (.int cb), .val (.int cc), .val (.int (nb &&& (3 : Int32))), .val (.int ((ca &&& (65535 : Int32)).toUInt32.toUInt16.toUInt32.toInt32)), .val (.int ((cb &&& (65535 : Int32)).toUInt32.toUInt16.toUInt32.toInt32)), .val (.int ((cc &&& (65535 : Int32)).toUInt32.toUInt16.toUInt32.toInt32)), .val (.ref b1048), .val (.ref qa_1071), .val (.ref qt_1072), .val (.ref b1048)]) rfl k_) ?_
    refine own_st (fun u_ k_ => XS.aload X1087.here hx rfl (hb hby at_184) rfl rfl k_) ?_
    show own_Go p e below _ (T1087.setTop (mkF m 186 #[.val (.int nb), .val (.int ca), .val (.int cb), .val (.int cc), .val (.int (nb &&& (3 : Int32))), .val (.int ((ca &&& (65535 : Int32)).toUInt32.toUInt16.toUInt32.toInt32)), .val (.int ((cb &&& (65535 : Int32)).toUInt32.toUInt16.toUInt32.toInt32)), .val (.int ((cc &&& (65535 : Int32)).toUInt32.toUInt16.toUInt32.toInt32)), .val (.ref b1048), .val (.ref qa_1071), .val (.ref qt_1072), .val (.ref b1048)] [(.ref b1048)]))
    have F1088 := (F1064.keep K1068)
    have F1089 := (F1066.keep K1068 nin0)
    have F1090 := (F1065.keep K1068 nin0)
    have F1091 := (F1067.keep K1068 nin0)
    obtain ⟨T1092, v1092, L1092, X1092, hQ1092, st1092⟩ := own_callV X1087 hx hZ1068 (y := own_y_330) (z := own_y_330) hown1068 (own_w hw 80 rfl) (own_w hw 81 rfl) (notFace_of_selects (args := #[]) (mvT hZ1068 (own_w hw 83 rfl))) (own_w hw 83 rfl) (own_w hw 82 rfl) (own_w hw 3 rfl) (own_w hw 84 rfl) own_lm_181 (rmLn l Z a0 hw [] wcs hS b1048 r_1062 kr_1063 (0 : Int32) (0 : Int32) [] T1068.heap n0 O1082 F1088 F1089 F1090 F1091 rfl) e1087 F1088 own_pd_344 (argsL := []) (rest := []) rfl rfl (g := (mkF m 186 #[.val (.int nb), .val (.int ca), .val (.int cb), .val (.int cc), .val (.int (nb &&& (3 : Int32))), .val (.int ((ca &&& (65535 : Int32)).toUInt32.toUInt16.toUInt32.toInt32)), .val (.int ((cb &&& (65535 : Int32)).toUInt32.toUInt16.toUInt32.toInt32)), .val (.int ((cc &&& (65535 : Int32)).toUInt32.toUInt16.toUInt32.toInt32)), .val (.ref b1048), .val (.ref qa_1071), .val (.ref qt_1072), .val (.ref b1048)] [(.ref b1048)])) rfl (by rw [hml]; rfl) rfl (hb hby at_186) (W := 0) rfl (by decide) (by decide) (by decide) (by decide)
    obtain ⟨rfl, M1092, e1092⟩ := hQ1092
    have N1092 := Fr.app N1087 M1092
    refine own_st (fun u_ k_ => st1092 u_ k_) ?_
    show own_Go p e below _ (T1092.setTop (mkF m 189 #[.val (.int nb), .val (.int ca), .val (.int cb), .val (.int cc), .val (.int (nb &&& (3 : Int32))), .val (.int ((ca &&& (65535 : Int32)).toUInt32.toUInt16.toUInt32.toInt32)), .val (.int ((cb &&& (65535 : Int32)).toUInt32.toUInt16.toUInt32.toInt32)), .val (.int ((cc &&& (65535 : Int32)).toUInt32.toUInt16.toUInt32.toInt32)), .val (.ref b1048), .val (.ref qa_1071), .val (.ref qt_1072), .val (.ref b1048)] [(.int ((0 : Int32) >>> ((0 : Int32) &&& 31)))]))
    refine own_st (fun u_ k_ => XS.iload X1092.here hx rfl (hb hby at_189) rfl k_) ?_
    refine own_st (fun u_ k_ => XS.icmpNo X1092.here hx rfl (hb hby at_191) rfl (XT.ii_ne_f ((by decide : ((0 : Int32) >>> ((0 : Int32) &&& 31)) = (0 : Int32)).trans hc1047.symm)) k_) ?_
    show own_Go p e below _ (T1092.setTop (mkF m 194 #[.val (.int nb), .val (.int ca), .val (.int cb), .val (.int cc), .val (.int (nb &&& (3 : Int32))), .val (.int ((ca &&& (65535 : Int32)).toUInt32.toUInt16.toUInt32.toInt32)), .val (.int ((cb &&& (65535 : Int32)).toUInt32.toUInt16.toUInt32.toInt32)), .val (.int ((cc &&& (65535 : Int32)).toUInt32.toUInt16.toUInt32.toInt32)), .val (.ref b1048), .val (.ref qa_1071), .val (.ref qt_1072), .val (.ref b1048)] []))
    refine own_st (fun u_ k_ => XS.aload X1092.here hx rfl (hb hby at_194) rfl rfl k_) ?_
    refine own_st (fun u_ k_ => XS.aload X1092.here hx rfl (hb hby at_196) rfl rfl k_) ?_
    show own_Go p e below _ (T1092.setTop (mkF m 198 #[.val (.int nb), .val (.int ca), .val (.int cb), .val (.int cc), .val (.int (nb &&& (3 : Int32))), .val (.int ((ca &&& (65535 : Int32)).toUInt32.toUInt16.toUInt32.toInt32)), .val (.int ((cb &&& (65535 : Int32)).toUInt32.toUInt16.toUInt32.toInt32)), .val (.int ((cc &&& (65535 : Int32)).toUInt32.toUInt16.toUInt32.toInt32)), .val (.ref b1048), .val (.ref qa_1071), .val (.ref qt_1072), .val (.ref b1048)] [(.ref b1048), (.ref b1048)]))
    obtain ⟨T1093, v1093, L1093, X1093, hQ1093, st1093⟩ := own_callV X1092 hx hZ1068 (y := own_y_336) (z := own_y_336) hown1068 (own_w hw 91 rfl) (own_w hw 92 rfl) (notFace_of_selects (args := #[]) (mvT hZ1068 (own_w hw 94 rfl))) (own_w hw 94 rfl) (own_w hw 93 rfl) (own_w hw 3 rfl) (own_w hw 95 rfl) own_lm_181 (rmEq l Z a0 hw [] wcs hS b1048 T1068.heap n0 O1082 ) e1092 F1088 own_pd_345 (argsL := [(.ref b1048)]) (rest := []) rfl rfl (g := (mkF m 198 #[.val (.int nb), .val (.int ca), .val (.int cb), .val (.int cc), .val (.int (nb &&& (3 : Int32))), .val (.int ((ca &&& (65535 : Int32)).toUInt32.toUInt16.toUInt32.toInt32)), .val (.int ((cb &&& (65535 : Int32)).toUInt32.toUInt16.toUInt32.toInt32)), .val (.int ((cc &&& (65535 : Int32)).toUInt32.toUInt16.toUInt32.toInt32)), .val (.ref b1048), .val (.ref qa_1071), .val (.ref qt_1072), .val (.ref b1048)] [(.ref b1048), (.ref b1048)])) rfl (by rw [hml]; rfl) rfl (hb hby at_198) (W := 0) rfl (by decide) (by decide) (by decide) (by decide)
    obtain ⟨rfl, M1093, e1093⟩ := hQ1093
    have N1093 := Fr.app N1092 M1093
    refine own_st (fun u_ k_ => st1093 u_ k_) ?_
    show own_Go p e below _ (T1093.setTop (mkF m 201 #[.val (.int nb), .val (.int ca), .val (.int cb), .val (.int cc), .val (.int (nb &&& (3 : Int32))), .val (.int ((ca &&& (65535 : Int32)).toUInt32.toUInt16.toUInt32.toInt32)), .val (.int ((cb &&& (65535 : Int32)).toUInt32.toUInt16.toUInt32.toInt32)), .val (.int ((cc &&& (65535 : Int32)).toUInt32.toUInt16.toUInt32.toInt32)), .val (.ref b1048), .val (.ref qa_1071), .val (.ref qt_1072), .val (.ref b1048)] [(.int (1 : Int32))]))
    refine own_st (fun u_ k_ => XS.ifNo X1093.here hx rfl (hb hby at_201) rfl (XT.i0_eq_f (by decide)) k_) ?_
    refine own_st (fun u_ k_ => XS.iconst X1093.here hx rfl (hb hby at_204) k_) ?_
    show own_Go p e below _ (T1093.setTop (mkF m 205 #[.val (.int nb), .val (.int ca), .val (.int cb), .val (.int cc), .val (.int (nb &&& (3 : Int32))), .val (.int ((ca &&& (65535 : Int32)).toUInt32.toUInt16.toUInt32.toInt32)), .val (.int ((cb &&& (65535 : Int32)).toUInt32.toUInt16.toUInt32.toInt32)), .val (.int ((cc &&& (65535 : Int32)).toUInt32.toUInt16.toUInt32.toInt32)), .val (.ref b1048), .val (.ref qa_1071), .val (.ref qt_1072), .val (.ref b1048)] [(.int (1 : Int32))]))
    refine own_st (fun u_ k_ => XS.goto X1093.here hx rfl (pc0 := 205) (pc' := 209) rfl (hb hby at_205) (by decide) (by decide) k_) ?_
    have K1094 : Keep h0 h1048 [] := (Keep.refl h0 []).ext E1048
    have K1095 : Keep h0 h1049 [] := K1094.ext E1049
    have z1097 : h0.size ≤ b1048 := Nat.le_trans (Nat.le_refl _) (Nat.le_of_eq g1048.symm)
    have K1096 : Keep h0 T1054.heap [] := K1095.trans K1054 (allS (Or.inr z1097) all0)
    have K1098 : Keep h0 T1068.heap [] := K1096.trans K1068 all0
    have R1099 : CHr Z own_EL s.vm h0 T1068.vm T1068.heap := R1070.trans hr1068
    exact own_retXH X1093 Si1068 (Nat.le_refl _) e1093 hZ1068 (own_hEL hw) hs0 R1099 hx hlk hret rfl (Or.inl ⟨rfl, by simp, _, rfl⟩) (hb hby at_209) (by decide) (by decide) (show Qrm0 Z wcs nb ca cb cc h0 n0 (some (.int (1 : Int32))) T1093.heap _ from (by rw [e1093]; exact ⟨rfl, N1093, K1098⟩))
  · refine own_st (fun u_ k_ => XS.ifYes X0.here hx rfl (pc0 := 28) (pc' := 46) rfl (hb hby at_28) rfl (XT.i0_ne_t hc1047) (by decide) (by decide) k_) ?_
    show own_Go p e below _ (s₁.setTop (mkF m 46 #[.val (.int nb), .val (.int ca), .val (.int cb), .val (.int cc), .val (.int (nb &&& (3 : Int32))), .val (.int ((ca &&& (65535 : Int32)).toUInt32.toUInt16.toUInt32.toInt32)), .val (.int ((cb &&& (65535 : Int32)).toUInt32.toUInt16.toUInt32.toInt32)), .val (.int ((cc &&& (65535 : Int32)).toUInt32.toUInt16.toUInt32.toInt32)), .unset, .unset, .unset, .unset] []))
    refine own_st (fun u_ k_ => XS.iload X0.here hx rfl (hb hby at_46) rfl k_) ?_
    refine own_st (fun u_ k_ => XS.iconst X0.here hx rfl (hb hby at_48) k_) ?_
    show own_Go p e below _ (s₁.setTop (mkF m 49 #[.val (.int nb), .val (.int ca), .val (.int cb), .val (.int cc), .val (.int (nb &&& (3 : Int32))), .val (.int ((ca &&& (65535 : Int32)).toUInt32.toUInt16.toUInt32.toInt32)), .val (.int ((cb &&& (65535 : Int32)).toUInt32.toUInt16.toUInt32.toInt32)), .val (.int ((cc &&& (65535 : Int32)).toUInt32.toUInt16.toUInt32.toInt32)), .unset, .unset, .unset, .unset] [(.int (1 : Int32)), (.int (nb &&& (3 : Int32)))]))
    by_cases hc1100 : (nb &&& (3 : Int32)) = (1 : Int32)
    · refine own_st (fun u_ k_ => XS.icmpNo X0.here hx rfl (hb hby at_49) rfl (XT.ii_ne_f hc1100) k_) ?_
      obtain ⟨T1101, h1101, X1101, e1101, E1101, A1101, D1101, U1101, st1101⟩ := newO X0 hx hZ hown (own_w hw 1 rfl) (own_w hw 2 rfl) (own_w hw 3 rfl) e0 (g := (mkF m 52 #[.val (.int nb), .val (.int ca), .val (.int cb), .val (.int cc), .val (.int (nb &&& (3 : Int32))), .val (.int ((ca &&& (65535 : Int32)).toUInt32.toUInt16.toUInt32.toInt32)), .val (.int ((cb &&& (65535 : Int32)).toUInt32.toUInt16.toUInt32.toInt32)), .val (.int ((cc &&& (65535 : Int32)).toUInt32.toUInt16.toUInt32.toInt32)), .unset, .unset, .unset, .unset] [])) rfl (hb hby at_52) (by decide) (by decide)
      obtain ⟨b1101, g1101⟩ : ∃ z, z = h0.size := ⟨_, rfl⟩
      rw [← g1101] at A1101 D1101 U1101 st1101
      have F1101_value : Fld Z h1101 b1101 "java/lang/String" "value" "[B" .null := D1101 (Or.inr (own_w hw 17 rfl)) (ty := (.array .byte)) own_lm_167
      have F1101_coder : Fld Z h1101 b1101 "java/lang/String" "coder" "B" (.int (0 : Int32)) := D1101 (Or.inr (own_w hw 18 rfl)) (ty := .byte) own_lm_162
      refine own_st (fun u_ k_ => st1101 u_ k_) ?_
      show own_Go p e below _ (T1101.setTop (mkF m 55 #[.val (.int nb), .val (.int ca), .val (.int cb), .val (.int cc), .val (.int (nb &&& (3 : Int32))), .val (.int ((ca &&& (65535 : Int32)).toUInt32.toUInt16.toUInt32.toInt32)), .val (.int ((cb &&& (65535 : Int32)).toUInt32.toUInt16.toUInt32.toInt32)), .val (.int ((cc &&& (65535 : Int32)).toUInt32.toUInt16.toUInt32.toInt32)), .unset, .unset, .unset, .unset] [(.ref b1101)]))
      refine own_st (fun u_ k_ => XS.dup X1101.here hx rfl (hb hby at_55) rfl rfl k_) ?_
      refine own_st (fun u_ k_ => XS.iconst X1101.here hx rfl (hb hby at_56) k_) ?_
      show own_Go p e below _ (T1101.setTop (mkF m 57 #[.val (.int nb), .val (.int ca), .val (.int cb), .val (.int cc), .val (.int (nb &&& (3 : Int32))), .val (.int ((ca &&& (65535 : Int32)).toUInt32.toUInt16.toUInt32.toInt32)), .val (.int ((cb &&& (65535 : Int32)).toUInt32.toUInt16.toUInt32.toInt32)), .val (.int ((cc &&& (65535 : Int32)).toUInt32.toUInt16.toUInt32.toInt32)), .unset, .unset, .unset, .unset] [(.int (1 : Int32)), (.ref b1101), (.ref b1101)]))
      obtain ⟨T1102, h1102, k1102, X1102, e1102, E1102, A1102, Y1102, st1102⟩ := newPE X1101 hx hZ (own_w hw 4 rfl) e1101 (g := (mkF m 57 #[.val (.int nb), .val (.int ca), .val (.int cb), .val (.int cc), .val (.int (nb &&& (3 : Int32))), .val (.int ((ca &&& (65535 : Int32)).toUInt32.toUInt16.toUInt32.toInt32)), .val (.int ((cb &&& (65535 : Int32)).toUInt32.toUInt16.toUInt32.toInt32)), .val (.int ((cc &&& (65535 : Int32)).toUInt32.toUInt16.toUInt32.toInt32)), .unset, .unset, .unset, .unset] [(.int (1 : Int32)), (.ref b1101), (.ref b1101)])) rfl (hb hby at_57) rfl (by decide) (cap := 1) (by decide) (by decide) (by decide) (by decide) (ad := "[C") own_lm_337
      obtain ⟨b1102, g1102⟩ : ∃ z, z = h1101.size := ⟨_, rfl⟩
      rw [← g1102] at A1102 Y1102 st1102
      have V1102 : Arv Z h1102 b1102 k1102 .char (1 : Int32) [(.int (0 : Int32))] (.int (0 : Int32)) := (Arv.new A1102 (by decide)).pad (pad_rep [] (.int (0 : Int32)) 1)
      refine own_st (fun u_ k_ => st1102 u_ k_) ?_
      show own_Go p e below _ (T1102.setTop (mkF m 59 #[.val (.int nb), .val (.int ca), .val (.int cb), .val (.int cc), .val (.int (nb &&& (3 : Int32))), .val (.int ((ca &&& (65535 : Int32)).toUInt32.toUInt16.toUInt32.toInt32)), .val (.int ((cb &&& (65535 : Int32)).toUInt32.toUInt16.toUInt32.toInt32)), .val (.int ((cc &&& (65535 : Int32)).toUInt32.toUInt16.toUInt32.toInt32)), .unset, .unset, .unset, .unset] [(.ref b1102), (.ref b1101), (.ref b1101)]))
      refine own_st (fun u_ k_ => XS.dup X1102.here hx rfl (hb hby at_59) rfl rfl k_) ?_
      refine own_st (fun u_ k_ => XS.iconst X1102.here hx rfl (hb hby at_60) k_) ?_
      show own_Go p e below _ (T1102.setTop (mkF m 61 #[.val (.int nb), .val (.int ca), .val (.int cb), .val (.int cc), .val (.int (nb &&& (3 : Int32))), .val (.int ((ca &&& (65535 : Int32)).toUInt32.toUInt16.toUInt32.toInt32)), .val (.int ((cb &&& (65535 : Int32)).toUInt32.toUInt16.toUInt32.toInt32)), .val (.int ((cc &&& (65535 : Int32)).toUInt32.toUInt16.toUInt32.toInt32)), .unset, .unset, .unset, .unset] [(.int (0 : Int32)), (.ref b1102), (.ref b1102), (.ref b1101), (.ref b1101)]))
      refine own_st (fun u_ k_ => XS.iload X1102.here hx rfl (hb hby at_61) rfl k_) ?_
      obtain ⟨cl1103, Ar1103, q1103, S1103, N1103, H1103, G1103⟩ := id V1102
      have hi1103 : ¬ ((0 : Int32) < 0 ∨ cl1103.slots.size ≤ ((0 : Int32)).toNatClampNeg) := inb_of S1103 ⟨by decide, by decide⟩
      obtain ⟨T1104, h1104, X1104, e1104, W1104, st1104⟩ := stC X1102 hx hZ e1102 Ar1103 (j := (0 : Int32)) hi1103 (g := (mkF m 63 #[.val (.int nb), .val (.int ca), .val (.int cb), .val (.int cc), .val (.int (nb &&& (3 : Int32))), .val (.int ((ca &&& (65535 : Int32)).toUInt32.toUInt16.toUInt32.toInt32)), .val (.int ((cb &&& (65535 : Int32)).toUInt32.toUInt16.toUInt32.toInt32)), .val (.int ((cc &&& (65535 : Int32)).toUInt32.toUInt16.toUInt32.toInt32)), .unset, .unset, .unset, .unset] [(.int ((ca &&& (65535 : Int32)).toUInt32.toUInt16.toUInt32.toInt32)), (.int (0 : Int32)), (.ref b1102), (.ref b1102), (.ref b1101), (.ref b1101)])) rfl rfl (hb hby at_63)
      have O1106 : Old Z n0 h1101 := O0.ext E1101
      have g1105 : n0 ≤ b1102 := Nat.le_trans (own_nl O1106) (Nat.le_of_eq g1102.symm)
      have N1104 := Fr.snoc X1104 N0 g1105
      have V1104 : Arv Z h1104 b1102 k1102 .char (1 : Int32) [(.int (nar .char ((ca &&& (65535 : Int32)).toUInt32.toUInt16.toUInt32.toInt32)))] (.int (0 : Int32)) := Arv.set Ar1103 q1103 S1103 N1103 H1103 G1103 (fits_nar_char _) W1104 0 rfl (Nat.le_of_ble_eq_true rfl)
      refine own_st (fun u_ k_ => st1104 u_ k_) ?_
      show own_Go p e below _ (T1104.setTop (mkF m 64 #[.val (.int nb), .val (.int ca), .val (.int cb), .val (.int cc), .val (.int (nb &&& (3 : Int32))), .val (.int ((ca &&& (65535 : Int32)).toUInt32.toUInt16.toUInt32.toInt32)), .val (.int ((cb &&& (65535 : Int32)).toUInt32.toUInt16.toUInt32.toInt32)), .val (.int ((cc &&& (65535 : Int32)).toUInt32.toUInt16.toUInt32.toInt32)), .unset, .unset, .unset, .unset] [(.ref b1102), (.ref b1101), (.ref b1101)]))
      have F1107 := (Exa.wr W1104 (Exa.ext E1102 A1101))
      have F1108 := (Exa.wr W1104 Y1102)
      have g1109 : n0 ≤ b1101 := Nat.le_trans (own_nl O0) (Nat.le_of_eq g1101.symm)
      have ne1110 : b1101 ≠ b1102 := (Nat.ne_of_lt (Nat.lt_of_lt_of_le A1101.lt (Nat.le_of_eq g1102.symm)))
      have F1111 := (Fld.other W1104 (Fld.ext E1102 F1101_value) (Or.inl ne1110))
      have F1112 := (Fld.other W1104 (Fld.ext E1102 F1101_coder) (Or.inl ne1110))
      have O1114 : Old Z n0 h1102 := O1106.ext E1102
      have O1115 : Old Z n0 h1104 := O1114.wr W1104 g1105
      obtain ⟨T1113, v1113, L1113, X1113, hQ1113, st1113⟩ := own_callN X1104 hx hZ (y := own_y_198) rfl hown (own_w hw 5 rfl) (own_w hw 6 rfl) (own_w hw 3 rfl) (own_w hw 7 rfl) own_lm_181 (rmSJ_1 l Z a0 hw [] wcs hS b1101 b1102 k1102 (nar .char ((ca &&& (65535 : Int32)).toUInt32.toUInt16.toUInt32.toInt32)) h1104 n0 O1115 F1107 F1108 g1109 F1111 F1112 V1104 (own_c16 _)) e1104 own_pd_338 (a := b1101) (argsL := [(.ref b1102)]) (rest := [(.ref b1101)]) rfl rfl (g := (mkF m 64 #[.val (.int nb), .val (.int ca), .val (.int cb), .val (.int cc), .val (.int (nb &&& (3 : Int32))), .val (.int ((ca &&& (65535 : Int32)).toUInt32.toUInt16.toUInt32.toInt32)), .val (.int ((cb &&& (65535 : Int32)).toUInt32.toUInt16.toUInt32.toInt32)), .val (.int ((cc &&& (65535 : Int32)).toUInt32.toUInt16.toUInt32.toInt32)), .unset, .unset, .unset, .unset] [(.ref b1102), (.ref b1101), (.ref b1101)])) rfl (by rw [hml]; rfl) rfl (hb hby at_64) (W := 1) rfl (by decide) (by decide) (by decide) (by decide)
      obtain ⟨r_1116, kr_1117, cd_1118, ln_1119, us_1120, rfl, M1113, K1113, z1121, F1122, F1123, F1124, F1125, F1126, pl_1127, pn_1128⟩ := hQ1113
      have N1113 := Fr.app N1104 M1113
      refine own_st (fun u_ k_ => st1113 u_ k_) ?_
      show own_Go p e below _ (T1113.setTop (mkF m 67 #[.val (.int nb), .val (.int ca), .val (.int cb), .val (.int cc), .val (.int (nb &&& (3 : Int32))), .val (.int ((ca &&& (65535 : Int32)).toUInt32.toUInt16.toUInt32.toInt32)), .val (.int ((cb &&& (65535 : Int32)).toUInt32.toUInt16.toUInt32.toInt32)), .val (.int ((cc &&& (65535 : Int32)).toUInt32.toUInt16.toUInt32.toInt32)), .unset, .unset, .unset, .unset] [(.ref b1101)]))
      refine own_st (fun u_ k_ => XS.astore X1113.here hx rfl (hb hby at_67) rfl rfl (l' := #[.val (.int nb), .val (.int ca), .val (.int cb), .val (.int cc), .val (.int (nb &&& (3 : Int32))), .val (.int ((ca &&& (65535 : Int32)).toUInt32.toUInt16.toUInt32.toInt32)), .val (.int ((cb &&& (65535 : Int32)).toUInt32.toUInt16.toUInt32.toInt32)), .val (.int ((cc &&& (65535 : Int32)).toUInt32.toUInt16.toUInt32.toInt32)), .val (.ref b1101), .unset, .unset, .unset]) rfl k_) ?_
      refine own_st (fun u_ k_ => XS.goto X1113.here hx rfl (pc0 := 69) (pc' := 130) rfl (hb hby at_69) (by decide) (by decide) k_) ?_
      show own_Go p e below _ (T1113.setTop (mkF m 130 #[.val (.int nb), .val (.int ca), .val (.int cb), .val (.int cc), .val (.int (nb &&& (3 : Int32))), .val (.int ((ca &&& (65535 : Int32)).toUInt32.toUInt16.toUInt32.toInt32)), .val (.int ((cb &&& (65535 : Int32)).toUInt32.toUInt16.toUInt32.toInt32)), .val (.int ((cc &&& (65535 : Int32)).toUInt32.toUInt16.toUInt32.toInt32)), .val (.ref b1101), .unset, .unset, .unset] []))
      refine own_st (fun u_ k_ => XS.aload X1113.here hx rfl (hb hby at_130) rfl rfl k_) ?_
      have O1130 : Old Z n0 T1113.heap := O1115.keep K1113 (allS g1109 all0)
      have R1131 : CHr Z own_EL s.vm h0 s.vm h1101 := R0.trans (CHr.ext E1101 R0.1)
      have R1132 : CHr Z own_EL s.vm h0 s.vm h1102 := R1131.trans (CHr.ext E1102 R1131.1)
      have sf_1134 : Safe Z own_EL s.vm h1102 b1102 := Safe.exa hZ_0.alike Y1102 own_lm_346 own_lm_202
      have R1133 : CHr Z own_EL s.vm h0 s.vm h1104 := R1132.trans (CHr.wr W1104 sf_1134 R1132.1)
      have sf_1136 : Safe Z own_EL s.vm h0 b1101 := Safe.new (Nat.le_of_eq g1101.symm)
      have sf_1137 : Safe Z own_EL s.vm h1101 b1101 := Safe.ext E1101 R0.1 sf_1136
      have sf_1138 : Safe Z own_EL s.vm h1102 b1101 := Safe.ext E1102 R1131.1 sf_1137
      have sf_1139 : Safe Z own_EL s.vm h1104 b1101 := Safe.wr W1104 sf_1134 R1132.1 sf_1138
      have R1135 : CHr Z own_EL s.vm h0 s.vm T1113.heap := R1133.trans (CHr.keep K1113 (sfS sf_1139 sf0) R1133.1)
      obtain ⟨T1129, v1129, L1129, X1129, Si1129, hZ1129, hown1129, hQ1129, hr1129, st1129⟩ := own_callSH X1113 hx hZ hSi0 (Nat.le_trans (Nat.zero_le _) (Nat.le_trans (Nat.le_trans (Nat.le_trans E1101.1 E1102.1) (Nat.le_of_eq W1104.size.symm)) K1113.1)) (own_hEL hw) R1135.1 own_sf0 (y := own_y_298) hown (own_w hw 23 rfl) (own_w hw 24 rfl) (own_w hw 25 rfl) (own_w hw 26 rfl) own_lm_293 (rmAt l Z a0 hw [] wcs hS b1101 T1113.heap n0 O1130 ) rfl own_pd_339 (argsL := [(.ref b1101)]) (rest := []) rfl rfl (g := (mkF m 132 #[.val (.int nb), .val (.int ca), .val (.int cb), .val (.int cc), .val (.int (nb &&& (3 : Int32))), .val (.int ((ca &&& (65535 : Int32)).toUInt32.toUInt16.toUInt32.toInt32)), .val (.int ((cb &&& (65535 : Int32)).toUInt32.toUInt16.toUInt32.toInt32)), .val (.int ((cc &&& (65535 : Int32)).toUInt32.toUInt16.toUInt32.toInt32)), .val (.ref b1101), .unset, .unset, .unset] [(.ref b1101)])) rfl (by rw [hml]; rfl) rfl (hb hby at_132) (W := 0) rfl (by decide) (by decide) (by decide) (by decide)
      obtain ⟨qa_1140, qt_1141, rfl, M1129, K1129, z1142, z1143, F1144, F1145, F1146, F1147, F1148, F1149⟩ := hQ1129
      have N1129 := Fr.app N1113 M1129
      refine own_st (fun u_ k_ => st1129 u_ k_) ?_
      show own_Go p e below _ (T1129.setTop (mkF m 135 #[.val (.int nb), .val (.int ca), .val (.int cb), .val (.int cc), .val (.int (nb &&& (3 : Int32))), .val (.int ((ca &&& (65535 : Int32)).toUInt32.toUInt16.toUInt32.toInt32)), .val (.int ((cb &&& (65535 : Int32)).toUInt32.toUInt16.toUInt32.toInt32)), .val (.int ((cc &&& (65535 : Int32)).toUInt32.toUInt16.toUInt32.toInt32)), .val (.ref b1101), .unset, .unset, .unset] [(.ref qa_1140)]))
      refine own_st (fun u_ k_ => XS.astore X1129.here hx rfl (hb hby at_135) rfl rfl (l' := #[.val (.int nb), .val (.int ca), .val (.int cb), .val (.int cc), .val (.int (nb &&& (3 : Int32))), .val (.int ((ca &&& (65535 : Int32)).toUInt32.toUInt16.toUInt32.toInt32)), .val (.int ((cb &&& (65535 : Int32)).toUInt32.toUInt16.toUInt32.toInt32)), .val (.int ((cc &&& (65535 : Int32)).toUInt32.toUInt16.toUInt32.toInt32)), .val (.ref b1101), .val (.ref qa_1140), .unset, .unset]) rfl k_) ?_
      refine own_st (fun u_ k_ => XS.aload X1129.here hx rfl (hb hby at_137) rfl rfl k_) ?_
      show own_Go p e below _ (T1129.setTop (mkF m 139 #[.val (.int nb), .val (.int ca), .val (.int cb), .val (.int cc), .val (.int (nb &&& (3 : Int32))), .val (.int ((ca &&& (65535 : Int32)).toUInt32.toUInt16.toUInt32.toInt32)), .val (.int ((cb &&& (65535 : Int32)).toUInt32.toUInt16.toUInt32.toInt32)), .val (.int ((cc &&& (65535 : Int32)).toUInt32.toUInt16.toUInt32.toInt32)), .val (.ref b1101), .val (.ref qa_1140), .unset, .unset] [(.ref qa_1140)]))
      have O1151 : Old Z n0 T1129.heap := O1130.keep K1129 all0
      obtain ⟨T1150, v1150, L1150, X1150, hQ1150, st1150⟩ := own_callV X1129 hx hZ1129 (y := own_y_302) (z := own_y_302) hown1129 (own_w hw 58 rfl) (own_w hw 59 rfl) (notFace_of_selects (args := #[]) (mvT hZ1129 (own_w hw 61 rfl))) (own_w hw 61 rfl) (own_w hw 60 rfl) (own_w hw 25 rfl) (own_w hw 62 rfl) own_lm_293 (rmGdefinition l Z a0 hw [] wcs hS qa_1140 T1129.heap n0 O1151 F1146) rfl F1144 own_pd_340 (argsL := []) (rest := []) rfl rfl (g := (mkF m 139 #[.val (.int nb), .val (.int ca), .val (.int cb), .val (.int cc), .val (.int (nb &&& (3 : Int32))), .val (.int ((ca &&& (65535 : Int32)).toUInt32.toUInt16.toUInt32.toInt32)), .val (.int ((cb &&& (65535 : Int32)).toUInt32.toUInt16.toUInt32.toInt32)), .val (.int ((cc &&& (65535 : Int32)).toUInt32.toUInt16.toUInt32.toInt32)), .val (.ref b1101), .val (.ref qa_1140), .unset, .unset] [(.ref qa_1140)])) rfl (by rw [hml]; rfl) rfl (hb hby at_139) (W := 0) rfl (by decide) (by decide) (by decide) (by decide)
      obtain ⟨rfl, M1150, e1150⟩ := hQ1150
      have N1150 := Fr.app N1129 M1150
      refine own_st (fun u_ k_ => st1150 u_ k_) ?_
      show own_Go p e below _ (T1150.setTop (mkF m 142 #[.val (.int nb), .val (.int ca), .val (.int cb), .val (.int cc), .val (.int (nb &&& (3 : Int32))), .val (.int ((ca &&& (65535 : Int32)).toUInt32.toUInt16.toUInt32.toInt32)), .val (.int ((cb &&& (65535 : Int32)).toUInt32.toUInt16.toUInt32.toInt32)), .val (.int ((cc &&& (65535 : Int32)).toUInt32.toUInt16.toUInt32.toInt32)), .val (.ref b1101), .val (.ref qa_1140), .unset, .unset] [.null]))
      refine own_st (fun u_ k_ => XS.ifnullYes X1150.here hx rfl (pc0 := 142) (pc' := 147) rfl (hb hby at_142) rfl (by decide) (by decide) k_) ?_
      refine own_st (fun u_ k_ => XS.aload X1150.here hx rfl (hb hby at_147) rfl rfl k_) ?_
      show own_Go p e below _ (T1150.setTop (mkF m 149 #[.val (.int nb), .val (.int ca), .val (.int cb), .val (.int cc), .val (.int (nb &&& (3 : Int32))), .val (.int ((ca &&& (65535 : Int32)).toUInt32.toUInt16.toUInt32.toInt32)), .val (.int ((cb &&& (65535 : Int32)).toUInt32.toUInt16.toUInt32.toInt32)), .val (.int ((cc &&& (65535 : Int32)).toUInt32.toUInt16.toUInt32.toInt32)), .val (.ref b1101), .val (.ref qa_1140), .unset, .unset] [(.ref qa_1140)]))
      obtain ⟨T1152, v1152, L1152, X1152, hQ1152, st1152⟩ := own_callV X1150 hx hZ1129 (y := own_y_310) (z := own_y_310) hown1129 (own_w hw 63 rfl) (own_w hw 64 rfl) (notFace_of_selects (args := #[]) (mvT hZ1129 (own_w hw 66 rfl))) (own_w hw 66 rfl) (own_w hw 65 rfl) (own_w hw 25 rfl) (own_w hw 67 rfl) own_lm_293 (rmGbean l Z a0 hw [] wcs hS qa_1140 T1129.heap n0 O1151 F1148) e1150 F1144 own_pd_341 (argsL := []) (rest := []) rfl rfl (g := (mkF m 149 #[.val (.int nb), .val (.int ca), .val (.int cb), .val (.int cc), .val (.int (nb &&& (3 : Int32))), .val (.int ((ca &&& (65535 : Int32)).toUInt32.toUInt16.toUInt32.toInt32)), .val (.int ((cb &&& (65535 : Int32)).toUInt32.toUInt16.toUInt32.toInt32)), .val (.int ((cc &&& (65535 : Int32)).toUInt32.toUInt16.toUInt32.toInt32)), .val (.ref b1101), .val (.ref qa_1140), .unset, .unset] [(.ref qa_1140)])) rfl (by rw [hml]; rfl) rfl (hb hby at_149) (W := 0) rfl (by decide) (by decide) (by decide) (by decide)
      obtain ⟨rfl, M1152, e1152⟩ := hQ1152
      have N1152 := Fr.app N1150 M1152
      refine own_st (fun u_ k_ => st1152 u_ k_) ?_
      show own_Go p e below _ (T1152.setTop (mkF m 152 #[.val (.int nb), .val (.int ca), .val (.int cb), .val (.int cc), .val (.int (nb &&& (3 : Int32))), .val (.int ((ca &&& (65535 : Int32)).toUInt32.toUInt16.toUInt32.toInt32)), .val (.int ((cb &&& (65535 : Int32)).toUInt32.toUInt16.toUInt32.toInt32)), .val (.int ((cc &&& (65535 : Int32)).toUInt32.toUInt16.toUInt32.toInt32)), .val (.ref b1101), .val (.ref qa_1140), .unset, .unset] [.null]))
      refine own_st (fun u_ k_ => XS.ifnullYes X1152.here hx rfl (pc0 := 152) (pc' := 157) rfl (hb hby at_152) rfl (by decide) (by decide) k_) ?_
      refine own_st (fun u_ k_ => XS.aload X1152.here hx rfl (hb hby at_157) rfl rfl k_) ?_
      show own_Go p e below _ (T1152.setTop (mkF m 159 #[.val (.int nb), .val (.int ca), .val (.int cb), .val (.int cc), .val (.int (nb &&& (3 : Int32))), .val (.int ((ca &&& (65535 : Int32)).toUInt32.toUInt16.toUInt32.toInt32)), .val (.int ((cb &&& (65535 : Int32)).toUInt32.toUInt16.toUInt32.toInt32)), .val (.int ((cc &&& (65535 : Int32)).toUInt32.toUInt16.toUInt32.toInt32)), .val (.ref b1101), .val (.ref qa_1140), .unset, .unset] [(.ref qa_1140)]))
      obtain ⟨T1153, v1153, L1153, X1153, hQ1153, st1153⟩ := own_callV X1152 hx hZ1129 (y := own_y_306) (z := own_y_306) hown1129 (own_w hw 68 rfl) (own_w hw 69 rfl) (notFace_of_selects (args := #[]) (mvT hZ1129 (own_w hw 71 rfl))) (own_w hw 71 rfl) (own_w hw 70 rfl) (own_w hw 25 rfl) (own_w hw 72 rfl) own_lm_293 (rmGvalue l Z a0 hw [] wcs hS qa_1140 qt_1141 T1129.heap n0 O1151 F1147) e1152 F1144 own_pd_342 (argsL := []) (rest := []) rfl rfl (g := (mkF m 159 #[.val (.int nb), .val (.int ca), .val (.int cb), .val (.int cc), .val (.int (nb &&& (3 : Int32))), .val (.int ((ca &&& (65535 : Int32)).toUInt32.toUInt16.toUInt32.toInt32)), .val (.int ((cb &&& (65535 : Int32)).toUInt32.toUInt16.toUInt32.toInt32)), .val (.int ((cc &&& (65535 : Int32)).toUInt32.toUInt16.toUInt32.toInt32)), .val (.ref b1101), .val (.ref qa_1140), .unset, .unset] [(.ref qa_1140)])) rfl (by rw [hml]; rfl) rfl (hb hby at_159) (W := 0) rfl (by decide) (by decide) (by decide) (by decide)
      obtain ⟨rfl, M1153, e1153⟩ := hQ1153
      have N1153 := Fr.app N1152 M1153
      refine own_st (fun u_ k_ => st1153 u_ k_) ?_
      show own_Go p e below _ (T1153.setTop (mkF m 162 #[.val (.int nb), .val (.int ca), .val (.int cb), .val (.int cc), .val (.int (nb &&& (3 : Int32))), .val (.int ((ca &&& (65535 : Int32)).toUInt32.toUInt16.toUInt32.toInt32)), .val (.int ((cb &&& (65535 : Int32)).toUInt32.toUInt16.toUInt32.toInt32)), .val (.int ((cc &&& (65535 : Int32)).toUInt32.toUInt16.toUInt32.toInt32)), .val (.ref b1101), .val (.ref qa_1140), .unset, .unset] [(.ref qt_1141)]))
      refine own_st (fun u_ k_ => XS.astore X1153.here hx rfl (hb hby at_162) rfl rfl (l' := #[.val (.int nb), .val (.int ca), .val (.int cb), .val (.int cc), .val (.int (nb &&& (3 : Int32))), .val (.int ((ca &&& (65535 : Int32)).toUInt32.toUInt16.toUInt32.toInt32)), .val (.int ((cb &&& (65535 : Int32)).toUInt32.toUInt16.toUInt32.toInt32)), .val (.int ((cc &&& (65535 : Int32)).toUInt32.toUInt16.toUInt32.toInt32)), .val (.ref b1101), .val (.ref qa_1140), .val (.ref qt_1141), .unset]) rfl k_) ?_
      refine own_st (fun u_ k_ => XS.aload X1153.here hx rfl (hb hby at_164) rfl rfl k_) ?_
      show own_Go p e below _ (T1153.setTop (mkF m 166 #[.val (.int nb), .val (.int ca), .val (.int cb), .val (.int cc), .val (.int (nb &&& (3 : Int32))), .val (.int ((ca &&& (65535 : Int32)).toUInt32.toUInt16.toUInt32.toInt32)), .val (.int ((cb &&& (65535 : Int32)).toUInt32.toUInt16.toUInt32.toInt32)), .val (.int ((cc &&& (65535 : Int32)).toUInt32.toUInt16.toUInt32.toInt32)), .val (.ref b1101), .val (.ref qa_1140), .val (.ref qt_1141), .unset] [(.ref qt_1141)]))
      obtain ⟨T1154, X1154, e1154, st1154⟩ := instY X1153 hx hZ1129 hown1129 (own_w hw 73 rfl) e1153 (Ins.self F1145) (g := (mkF m 166 #[.val (.int nb), .val (.int ca), .val (.int cb), .val (.int cc), .val (.int (nb &&& (3 : Int32))), .val (.int ((ca &&& (65535 : Int32)).toUInt32.toUInt16.toUInt32.toInt32)), .val (.int ((cb &&& (65535 : Int32)).toUInt32.toUInt16.toUInt32.toInt32)), .val (.int ((cc &&& (65535 : Int32)).toUInt32.toUInt16.toUInt32.toInt32)), .val (.ref b1101), .val (.ref qa_1140), .val (.ref qt_1141), .unset] [(.ref qt_1141)])) rfl rfl (hb hby at_166)
      refine own_st (fun u_ k_ => st1154 u_ k_) ?_
      show own_Go p e below _ (T1154.setTop (mkF m 169 #[.val (.int nb), .val (.int ca), .val (.int cb), .val (.int cc), .val (.int (nb &&& (3 : Int32))), .val (.int ((ca &&& (65535 : Int32)).toUInt32.toUInt16.toUInt32.toInt32)), .val (.int ((cb &&& (65535 : Int32)).toUInt32.toUInt16.toUInt32.toInt32)), .val (.int ((cc &&& (65535 : Int32)).toUInt32.toUInt16.toUInt32.toInt32)), .val (.ref b1101), .val (.ref qa_1140), .val (.ref qt_1141), .unset] [(.int (1 : Int32))]))
      refine own_st (fun u_ k_ => XS.ifYes X1154.here hx rfl (pc0 := 169) (pc' := 174) rfl (hb hby at_169) rfl (XT.i0_ne_t (by decide)) (by decide) (by decide) k_) ?_
      refine own_st (fun u_ k_ => XS.aload X1154.here hx rfl (hb hby at_174) rfl rfl k_) ?_
      show own_Go p e below _ (T1154.setTop (mkF m 176 #[.val (.int nb), .val (.int ca), .val (.int cb), .val (.int cc), .val (.int (nb &&& (3 : Int32))), .val (.int ((ca &&& (65535 : Int32)).toUInt32.toUInt16.toUInt32.toInt32)), .val (.int ((cb &&& (65535 : Int32)).toUInt32.toUInt16.toUInt32.toInt32)), .val (.int ((cc &&& (65535 : Int32)).toUInt32.toUInt16.toUInt32.toInt32)), .val (.ref b1101), .val (.ref qa_1140), .val (.ref qt_1141), .unset] [(.ref qt_1141)]))
      obtain ⟨T1155, X1155, e1155, st1155⟩ := castY X1154 hx hZ1129 hown1129 (own_w hw 73 rfl) e1154 (Ins.self F1145) (g := (mkF m 176 #[.val (.int nb), .val (.int ca), .val (.int cb), .val (.int cc), .val (.int (nb &&& (3 : Int32))), .val (.int ((ca &&& (65535 : Int32)).toUInt32.toUInt16.toUInt32.toInt32)), .val (.int ((cb &&& (65535 : Int32)).toUInt32.toUInt16.toUInt32.toInt32)), .val (.int ((cc &&& (65535 : Int32)).toUInt32.toUInt16.toUInt32.toInt32)), .val (.ref b1101), .val (.ref qa_1140), .val (.ref qt_1141), .unset] [(.ref qt_1141)])) rfl rfl (hb hby at_176)
      refine own_st (fun u_ k_ => st1155 u_ k_) ?_
      show own_Go p e below _ (T1155.setTop (mkF m 179 #[.val (.int nb), .val (.int ca), .val (.int cb), .val (.int cc), .val (.int (nb &&& (3 : Int32))), .val (.int ((ca &&& (65535 : Int32)).toUInt32.toUInt16.toUInt32.toInt32)), .val (.int ((cb &&& (65535 : Int32)).toUInt32.toUInt16.toUInt32.toInt32)), .val (.int ((cc &&& (65535 : Int32)).toUInt32.toUInt16.toUInt32.toInt32)), .val (.ref b1101), .val (.ref qa_1140), .val (.ref qt_1141), .unset] [(.ref qt_1141)]))
      obtain ⟨T1156, v1156, L1156, X1156, hQ1156, st1156⟩ := own_callV X1155 hx hZ1129 (y := own_y_314) (z := own_y_314) hown1129 (own_w hw 75 rfl) (own_w hw 76 rfl) (notFace_of_selects (args := #[]) (mvT hZ1129 (own_w hw 78 rfl))) (own_w hw 78 rfl) (own_w hw 77 rfl) (own_w hw 31 rfl) (own_w hw 79 rfl) own_lm_289 (rmGt l Z a0 hw [] wcs hS qt_1141 b1101 T1129.heap n0 O1151 F1149) e1155 F1145 own_pd_343 (argsL := []) (rest := []) rfl rfl (g := (mkF m 179 #[.val (.int nb), .val (.int ca), .val (.int cb), .val (.int cc), .val (.int (nb &&& (3 : Int32))), .val (.int ((ca &&& (65535 : Int32)).toUInt32.toUInt16.toUInt32.toInt32)), .val (.int ((cb &&& (65535 : Int32)).toUInt32.toUInt16.toUInt32.toInt32)), .val (.int ((cc &&& (65535 : Int32)).toUInt32.toUInt16.toUInt32.toInt32)), .val (.ref b1101), .val (.ref qa_1140), .val (.ref qt_1141), .unset] [(.ref qt_1141)])) rfl (by rw [hml]; rfl) rfl (hb hby at_179) (W := 0) rfl (by decide) (by decide) (by decide) (by decide)
      obtain ⟨rfl, M1156, e1156⟩ := hQ1156
      have N1156 := Fr.app N1153 M1156
      refine own_st (fun u_ k_ => st1156 u_ k_) ?_
      show own_Go p e below _ (T1156.setTop (mkF m 182 #[.val (.int nb), .val (.int ca), .val (.int cb), .val (.int cc), .val (.int (nb &&& (3 : Int32))), .val (.int ((ca &&& (65535 : Int32)).toUInt32.toUInt16.toUInt32.toInt32)), .val (.int ((cb &&& (65535 : Int32)).toUInt32.toUInt16.toUInt32.toInt32)), .val (.int ((cc &&& (65535 : Int32)).toUInt32.toUInt16.toUInt32.toInt32)), .val (.ref b1101), .val (.ref qa_1140), .val (.ref qt_1141), .unset] [(.ref b1101)]))
      refine own_st (fun u_ k_ => XS.astore X1156.here hx rfl (hb hby at_182) rfl rfl (l' := #[.val (.int nb), .val (.int ca), .val (.int cb), .val (.int cc), .val (.int (nb &&& (3 : Int32))), .val (.int ((ca &&& (65535 : Int32)).toUInt32.toUInt16.toUInt32.toInt32)), .val (.int ((cb &&& (65535 : Int32)).toUInt32.toUInt16.toUInt32.toInt32)), .val (.int ((cc &&& (65535 : Int32)).toUInt32.toUInt16.toUInt32.toInt32)), .val (.ref b1101), .val (.ref qa_1140), .val (.ref qt_1141), .val (.ref b1101)]) rfl k_) ?_
      refine own_st (fun u_ k_ => XS.aload X1156.here hx rfl (hb hby at_184) rfl rfl k_) ?_
      show own_Go p e below _ (T1156.setTop (mkF m 186 #[.val (.int nb), .val (.int ca), .val (.int cb), .val (.int cc), .val (.int (nb &&& (3 : Int32))), .val (.int ((ca &&& (65535 : Int32)).toUInt32.toUInt16.toUInt32.toInt32)), .val (.int ((cb &&& (65535 : Int32)).toUInt32.toUInt16.toUInt32.toInt32)), .val (.int ((cc &&& (65535 : Int32)).toUInt32.toUInt16.toUInt32.toInt32)), .val (.ref b1101), .val (.ref qa_1140), .val (.ref qt_1141), .val (.ref b1101)] [(.ref b1101)]))
      have F1157 := (F1122.keep K1129)
      have F1158 := (F1124.keep K1129 nin0)
      have F1159 := (F1123.keep K1129 nin0)
      have F1160 := (F1126.keep K1129 nin0)
      obtain ⟨T1161, v1161, L1161, X1161, hQ1161, st1161⟩ := own_callV X1156 hx hZ1129 (y := own_y_330) (z := own_y_330) hown1129 (own_w hw 80 rfl) (own_w hw 81 rfl) (notFace_of_selects (args := #[]) (mvT hZ1129 (own_w hw 83 rfl))) (own_w hw 83 rfl) (own_w hw 82 rfl) (own_w hw 3 rfl) (own_w hw 84 rfl) own_lm_181 (rmLn l Z a0 hw [] wcs hS b1101 r_1116 kr_1117 cd_1118 ln_1119 us_1120 T1129.heap n0 O1151 F1157 F1158 F1159 F1160 pn_1128) e1156 F1157 own_pd_344 (argsL := []) (rest := []) rfl rfl (g := (mkF m 186 #[.val (.int nb), .val (.int ca), .val (.int cb), .val (.int cc), .val (.int (nb &&& (3 : Int32))), .val (.int ((ca &&& (65535 : Int32)).toUInt32.toUInt16.toUInt32.toInt32)), .val (.int ((cb &&& (65535 : Int32)).toUInt32.toUInt16.toUInt32.toInt32)), .val (.int ((cc &&& (65535 : Int32)).toUInt32.toUInt16.toUInt32.toInt32)), .val (.ref b1101), .val (.ref qa_1140), .val (.ref qt_1141), .val (.ref b1101)] [(.ref b1101)])) rfl (by rw [hml]; rfl) rfl (hb hby at_186) (W := 0) rfl (by decide) (by decide) (by decide) (by decide)
      obtain ⟨rfl, M1161, e1161⟩ := hQ1161
      have N1161 := Fr.app N1156 M1161
      refine own_st (fun u_ k_ => st1161 u_ k_) ?_
      show own_Go p e below _ (T1161.setTop (mkF m 189 #[.val (.int nb), .val (.int ca), .val (.int cb), .val (.int cc), .val (.int (nb &&& (3 : Int32))), .val (.int ((ca &&& (65535 : Int32)).toUInt32.toUInt16.toUInt32.toInt32)), .val (.int ((cb &&& (65535 : Int32)).toUInt32.toUInt16.toUInt32.toInt32)), .val (.int ((cc &&& (65535 : Int32)).toUInt32.toUInt16.toUInt32.toInt32)), .val (.ref b1101), .val (.ref qa_1140), .val (.ref qt_1141), .val (.ref b1101)] [(.int (ln_1119 >>> (cd_1118 &&& 31)))]))
      refine own_st (fun u_ k_ => XS.iload X1161.here hx rfl (hb hby at_189) rfl k_) ?_
      refine own_st (fun u_ k_ => XS.icmpNo X1161.here hx rfl (hb hby at_191) rfl (XT.ii_ne_f (pl_1127.trans hc1100.symm)) k_) ?_
      show own_Go p e below _ (T1161.setTop (mkF m 194 #[.val (.int nb), .val (.int ca), .val (.int cb), .val (.int cc), .val (.int (nb &&& (3 : Int32))), .val (.int ((ca &&& (65535 : Int32)).toUInt32.toUInt16.toUInt32.toInt32)), .val (.int ((cb &&& (65535 : Int32)).toUInt32.toUInt16.toUInt32.toInt32)), .val (.int ((cc &&& (65535 : Int32)).toUInt32.toUInt16.toUInt32.toInt32)), .val (.ref b1101), .val (.ref qa_1140), .val (.ref qt_1141), .val (.ref b1101)] []))
      refine own_st (fun u_ k_ => XS.aload X1161.here hx rfl (hb hby at_194) rfl rfl k_) ?_
      refine own_st (fun u_ k_ => XS.aload X1161.here hx rfl (hb hby at_196) rfl rfl k_) ?_
      show own_Go p e below _ (T1161.setTop (mkF m 198 #[.val (.int nb), .val (.int ca), .val (.int cb), .val (.int cc), .val (.int (nb &&& (3 : Int32))), .val (.int ((ca &&& (65535 : Int32)).toUInt32.toUInt16.toUInt32.toInt32)), .val (.int ((cb &&& (65535 : Int32)).toUInt32.toUInt16.toUInt32.toInt32)), .val (.int ((cc &&& (65535 : Int32)).toUInt32.toUInt16.toUInt32.toInt32)), .val (.ref b1101), .val (.ref qa_1140), .val (.ref qt_1141), .val (.ref b1101)] [(.ref b1101), (.ref b1101)]))
      obtain ⟨T1162, v1162, L1162, X1162, hQ1162, st1162⟩ := own_callV X1161 hx hZ1129 (y := own_y_336) (z := own_y_336) hown1129 (own_w hw 91 rfl) (own_w hw 92 rfl) (notFace_of_selects (args := #[]) (mvT hZ1129 (own_w hw 94 rfl))) (own_w hw 94 rfl) (own_w hw 93 rfl) (own_w hw 3 rfl) (own_w hw 95 rfl) own_lm_181 (rmEq l Z a0 hw [] wcs hS b1101 T1129.heap n0 O1151 ) e1161 F1157 own_pd_345 (argsL := [(.ref b1101)]) (rest := []) rfl rfl (g := (mkF m 198 #[.val (.int nb), .val (.int ca), .val (.int cb), .val (.int cc), .val (.int (nb &&& (3 : Int32))), .val (.int ((ca &&& (65535 : Int32)).toUInt32.toUInt16.toUInt32.toInt32)), .val (.int ((cb &&& (65535 : Int32)).toUInt32.toUInt16.toUInt32.toInt32)), .val (.int ((cc &&& (65535 : Int32)).toUInt32.toUInt16.toUInt32.toInt32)), .val (.ref b1101), .val (.ref qa_1140), .val (.ref qt_1141), .val (.ref b1101)] [(.ref b1101), (.ref b1101)])) rfl (by rw [hml]; rfl) rfl (hb hby at_198) (W := 0) rfl (by decide) (by decide) (by decide) (by decide)
      obtain ⟨rfl, M1162, e1162⟩ := hQ1162
      have N1162 := Fr.app N1161 M1162
      refine own_st (fun u_ k_ => st1162 u_ k_) ?_
      show own_Go p e below _ (T1162.setTop (mkF m 201 #[.val (.int nb), .val (.int ca), .val (.int cb), .val (.int cc), .val (.int (nb &&& (3 : Int32))), .val (.int ((ca &&& (65535 : Int32)).toUInt32.toUInt16.toUInt32.toInt32)), .val (.int ((cb &&& (65535 : Int32)).toUInt32.toUInt16.toUInt32.toInt32)), .val (.int ((cc &&& (65535 : Int32)).toUInt32.toUInt16.toUInt32.toInt32)), .val (.ref b1101), .val (.ref qa_1140), .val (.ref qt_1141), .val (.ref b1101)] [(.int (1 : Int32))]))
      refine own_st (fun u_ k_ => XS.ifNo X1162.here hx rfl (hb hby at_201) rfl (XT.i0_eq_f (by decide)) k_) ?_
      refine own_st (fun u_ k_ => XS.iconst X1162.here hx rfl (hb hby at_204) k_) ?_
      show own_Go p e below _ (T1162.setTop (mkF m 205 #[.val (.int nb), .val (.int ca), .val (.int cb), .val (.int cc), .val (.int (nb &&& (3 : Int32))), .val (.int ((ca &&& (65535 : Int32)).toUInt32.toUInt16.toUInt32.toInt32)), .val (.int ((cb &&& (65535 : Int32)).toUInt32.toUInt16.toUInt32.toInt32)), .val (.int ((cc &&& (65535 : Int32)).toUInt32.toUInt16.toUInt32.toInt32)), .val (.ref b1101), .val (.ref qa_1140), .val (.ref qt_1141), .val (.ref b1101)] [(.int (1 : Int32))]))
      refine own_st (fun u_ k_ => XS.goto X1162.here hx rfl (pc0 := 205) (pc' := 209) rfl (hb hby at_205) (by decide) (by decide) k_) ?_
      have K1163 : Keep h0 h1101 [] := (Keep.refl h0 []).ext E1101
      have K1164 : Keep h0 h1102 [] := K1163.ext E1102
      have z1166 : h0.size ≤ b1102 := Nat.le_trans E1101.1 (Nat.le_of_eq g1102.symm)
      have K1165 : Keep h0 h1104 [] := K1164.wr W1104 (Or.inr z1166)
      have z1168 : h0.size ≤ b1101 := Nat.le_trans (Nat.le_refl _) (Nat.le_of_eq g1101.symm)
      have K1167 : Keep h0 T1113.heap [] := K1165.trans K1113 (allS (Or.inr z1168) all0)
      have K1169 : Keep h0 T1129.heap [] := K1167.trans K1129 all0
      have R1170 : CHr Z own_EL s.vm h0 T1129.vm T1129.heap := R1135.trans hr1129
      exact own_retXH X1162 Si1129 (Nat.le_refl _) e1162 hZ1129 (own_hEL hw) hs0 R1170 hx hlk hret rfl (Or.inl ⟨rfl, by simp, _, rfl⟩) (hb hby at_209) (by decide) (by decide) (show Qrm0 Z wcs nb ca cb cc h0 n0 (some (.int (1 : Int32))) T1162.heap _ from (by rw [e1162]; exact ⟨rfl, N1162, K1169⟩))
    · refine own_st (fun u_ k_ => XS.icmpYes X0.here hx rfl (pc0 := 49) (pc' := 72) rfl (hb hby at_49) rfl (XT.ii_ne_t hc1100) (by decide) (by decide) k_) ?_
      refine own_st (fun u_ k_ => XS.iload X0.here hx rfl (hb hby at_72) rfl k_) ?_
      show own_Go p e below _ (s₁.setTop (mkF m 74 #[.val (.int nb), .val (.int ca), .val (.int cb), .val (.int cc), .val (.int (nb &&& (3 : Int32))), .val (.int ((ca &&& (65535 : Int32)).toUInt32.toUInt16.toUInt32.toInt32)), .val (.int ((cb &&& (65535 : Int32)).toUInt32.toUInt16.toUInt32.toInt32)), .val (.int ((cc &&& (65535 : Int32)).toUInt32.toUInt16.toUInt32.toInt32)), .unset, .unset, .unset, .unset] [(.int (nb &&& (3 : Int32)))]))
      refine own_st (fun u_ k_ => XS.iconst X0.here hx rfl (hb hby at_74) k_) ?_
      by_cases hc1171 : (nb &&& (3 : Int32)) = (2 : Int32)
      · refine own_st (fun u_ k_ => XS.icmpNo X0.here hx rfl (hb hby at_75) rfl (XT.ii_ne_f hc1171) k_) ?_
        show own_Go p e below _ (s₁.setTop (mkF m 78 #[.val (.int nb), .val (.int ca), .val (.int cb), .val (.int cc), .val (.int (nb &&& (3 : Int32))), .val (.int ((ca &&& (65535 : Int32)).toUInt32.toUInt16.toUInt32.toInt32)), .val (.int ((cb &&& (65535 : Int32)).toUInt32.toUInt16.toUInt32.toInt32)), .val (.int ((cc &&& (65535 : Int32)).toUInt32.toUInt16.toUInt32.toInt32)), .unset, .unset, .unset, .unset] []))
        obtain ⟨T1172, h1172, X1172, e1172, E1172, A1172, D1172, U1172, st1172⟩ := newO X0 hx hZ hown (own_w hw 1 rfl) (own_w hw 2 rfl) (own_w hw 3 rfl) e0 (g := (mkF m 78 #[.val (.int nb), .val (.int ca), .val (.int cb), .val (.int cc), .val (.int (nb &&& (3 : Int32))), .val (.int ((ca &&& (65535 : Int32)).toUInt32.toUInt16.toUInt32.toInt32)), .val (.int ((cb &&& (65535 : Int32)).toUInt32.toUInt16.toUInt32.toInt32)), .val (.int ((cc &&& (65535 : Int32)).toUInt32.toUInt16.toUInt32.toInt32)), .unset, .unset, .unset, .unset] [])) rfl (hb hby at_78) (by decide) (by decide)
        obtain ⟨b1172, g1172⟩ : ∃ z, z = h0.size := ⟨_, rfl⟩
        rw [← g1172] at A1172 D1172 U1172 st1172
        have F1172_value : Fld Z h1172 b1172 "java/lang/String" "value" "[B" .null := D1172 (Or.inr (own_w hw 17 rfl)) (ty := (.array .byte)) own_lm_167
        have F1172_coder : Fld Z h1172 b1172 "java/lang/String" "coder" "B" (.int (0 : Int32)) := D1172 (Or.inr (own_w hw 18 rfl)) (ty := .byte) own_lm_162
        refine own_st (fun u_ k_ => st1172 u_ k_) ?_
        show own_Go p e below _ (T1172.setTop (mkF m 81 #[.val (.int nb), .val (.int ca), .val (.int cb), .val (.int cc), .val (.int (nb &&& (3 : Int32))), .val (.int ((ca &&& (65535 : Int32)).toUInt32.toUInt16.toUInt32.toInt32)), .val (.int ((cb &&& (65535 : Int32)).toUInt32.toUInt16.toUInt32.toInt32)), .val (.int ((cc &&& (65535 : Int32)).toUInt32.toUInt16.toUInt32.toInt32)), .unset, .unset, .unset, .unset] [(.ref b1172)]))
        refine own_st (fun u_ k_ => XS.dup X1172.here hx rfl (hb hby at_81) rfl rfl k_) ?_
        refine own_st (fun u_ k_ => XS.iconst X1172.here hx rfl (hb hby at_82) k_) ?_
        show own_Go p e below _ (T1172.setTop (mkF m 83 #[.val (.int nb), .val (.int ca), .val (.int cb), .val (.int cc), .val (.int (nb &&& (3 : Int32))), .val (.int ((ca &&& (65535 : Int32)).toUInt32.toUInt16.toUInt32.toInt32)), .val (.int ((cb &&& (65535 : Int32)).toUInt32.toUInt16.toUInt32.toInt32)), .val (.int ((cc &&& (65535 : Int32)).toUInt32.toUInt16.toUInt32.toInt32)), .unset, .unset, .unset, .unset] [(.int (2 : Int32)), (.ref b1172), (.ref b1172)]))
        obtain ⟨T1173, h1173, k1173, X1173, e1173, E1173, A1173, Y1173, st1173⟩ := newPE X1172 hx hZ (own_w hw 4 rfl) e1172 (g := (mkF m 83 #[.val (.int nb), .val (.int ca), .val (.int cb), .val (.int cc), .val (.int (nb &&& (3 : Int32))), .val (.int ((ca &&& (65535 : Int32)).toUInt32.toUInt16.toUInt32.toInt32)), .val (.int ((cb &&& (65535 : Int32)).toUInt32.toUInt16.toUInt32.toInt32)), .val (.int ((cc &&& (65535 : Int32)).toUInt32.toUInt16.toUInt32.toInt32)), .unset, .unset, .unset, .unset] [(.int (2 : Int32)), (.ref b1172), (.ref b1172)])) rfl (hb hby at_83) rfl (by decide) (cap := 2) (by decide) (by decide) (by decide) (by decide) (ad := "[C") own_lm_337
        obtain ⟨b1173, g1173⟩ : ∃ z, z = h1172.size := ⟨_, rfl⟩
        rw [← g1173] at A1173 Y1173 st1173
        have V1173 : Arv Z h1173 b1173 k1173 .char (2 : Int32) [(.int (0 : Int32)), (.int (0 : Int32))] (.int (0 : Int32)) := (Arv.new A1173 (by decide)).pad (pad_rep [] (.int (0 : Int32)) 2)
        refine own_st (fun u_ k_ => st1173 u_ k_) ?_
        show own_Go p e below _ (T1173.setTop (mkF m 85 #[.val (.int nb), .val (.int ca), .val (.int cb), .val (.int cc), .val (.int (nb &&& (3 : Int32))), .val (.int ((ca &&& (65535 : Int32)).toUInt32.toUInt16.toUInt32.toInt32)), .val (.int ((cb &&& (65535 : Int32)).toUInt32.toUInt16.toUInt32.toInt32)), .val (.int ((cc &&& (65535 : Int32)).toUInt32.toUInt16.toUInt32.toInt32)), .unset, .unset, .unset, .unset] [(.ref b1173), (.ref b1172), (.ref b1172)]))
        refine own_st (fun u_ k_ => XS.dup X1173.here hx rfl (hb hby at_85) rfl rfl k_) ?_
        refine own_st (fun u_ k_ => XS.iconst X1173.here hx rfl (hb hby at_86) k_) ?_
        show own_Go p e below _ (T1173.setTop (mkF m 87 #[.val (.int nb), .val (.int ca), .val (.int cb), .val (.int cc), .val (.int (nb &&& (3 : Int32))), .val (.int ((ca &&& (65535 : Int32)).toUInt32.toUInt16.toUInt32.toInt32)), .val (.int ((cb &&& (65535 : Int32)).toUInt32.toUInt16.toUInt32.toInt32)), .val (.int ((cc &&& (65535 : Int32)).toUInt32.toUInt16.toUInt32.toInt32)), .unset, .unset, .unset, .unset] [(.int (0 : Int32)), (.ref b1173), (.ref b1173), (.ref b1172), (.ref b1172)]))
        refine own_st (fun u_ k_ => XS.iload X1173.here hx rfl (hb hby at_87) rfl k_) ?_
        obtain ⟨cl1174, Ar1174, q1174, S1174, N1174, H1174, G1174⟩ := id V1173
        have hi1174 : ¬ ((0 : Int32) < 0 ∨ cl1174.slots.size ≤ ((0 : Int32)).toNatClampNeg) := inb_of S1174 ⟨by decide, by decide⟩
        obtain ⟨T1175, h1175, X1175, e1175, W1175, st1175⟩ := stC X1173 hx hZ e1173 Ar1174 (j := (0 : Int32)) hi1174 (g := (mkF m 89 #[.val (.int nb), .val (.int ca), .val (.int cb), .val (.int cc), .val (.int (nb &&& (3 : Int32))), .val (.int ((ca &&& (65535 : Int32)).toUInt32.toUInt16.toUInt32.toInt32)), .val (.int ((cb &&& (65535 : Int32)).toUInt32.toUInt16.toUInt32.toInt32)), .val (.int ((cc &&& (65535 : Int32)).toUInt32.toUInt16.toUInt32.toInt32)), .unset, .unset, .unset, .unset] [(.int ((ca &&& (65535 : Int32)).toUInt32.toUInt16.toUInt32.toInt32)), (.int (0 : Int32)), (.ref b1173), (.ref b1173), (.ref b1172), (.ref b1172)])) rfl rfl (hb hby at_89)
        have O1177 : Old Z n0 h1172 := O0.ext E1172
        have g1176 : n0 ≤ b1173 := Nat.le_trans (own_nl O1177) (Nat.le_of_eq g1173.symm)
        have N1175 := Fr.snoc X1175 N0 g1176
        have V1175 : Arv Z h1175 b1173 k1173 .char (2 : Int32) [(.int (nar .char ((ca &&& (65535 : Int32)).toUInt32.toUInt16.toUInt32.toInt32))), (.int (0 : Int32))] (.int (0 : Int32)) := Arv.set Ar1174 q1174 S1174 N1174 H1174 G1174 (fits_nar_char _) W1175 0 rfl (Nat.le_of_ble_eq_true rfl)
        refine own_st (fun u_ k_ => st1175 u_ k_) ?_
        show own_Go p e below _ (T1175.setTop (mkF m 90 #[.val (.int nb), .val (.int ca), .val (.int cb), .val (.int cc), .val (.int (nb &&& (3 : Int32))), .val (.int ((ca &&& (65535 : Int32)).toUInt32.toUInt16.toUInt32.toInt32)), .val (.int ((cb &&& (65535 : Int32)).toUInt32.toUInt16.toUInt32.toInt32)), .val (.int ((cc &&& (65535 : Int32)).toUInt32.toUInt16.toUInt32.toInt32)), .unset, .unset, .unset, .unset] [(.ref b1173), (.ref b1172), (.ref b1172)]))
        refine own_st (fun u_ k_ => XS.dup X1175.here hx rfl (hb hby at_90) rfl rfl k_) ?_
        refine own_st (fun u_ k_ => XS.iconst X1175.here hx rfl (hb hby at_91) k_) ?_
        show own_Go p e below _ (T1175.setTop (mkF m 92 #[.val (.int nb), .val (.int ca), .val (.int cb), .val (.int cc), .val (.int (nb &&& (3 : Int32))), .val (.int ((ca &&& (65535 : Int32)).toUInt32.toUInt16.toUInt32.toInt32)), .val (.int ((cb &&& (65535 : Int32)).toUInt32.toUInt16.toUInt32.toInt32)), .val (.int ((cc &&& (65535 : Int32)).toUInt32.toUInt16.toUInt32.toInt32)), .unset, .unset, .unset, .unset] [(.int (1 : Int32)), (.ref b1173), (.ref b1173), (.ref b1172), (.ref b1172)]))
        refine own_st (fun u_ k_ => XS.iload X1175.here hx rfl (hb hby at_92) rfl k_) ?_
        obtain ⟨cl1178, Ar1178, q1178, S1178, N1178, H1178, G1178⟩ := id V1175
        have hi1178 : ¬ ((1 : Int32) < 0 ∨ cl1178.slots.size ≤ ((1 : Int32)).toNatClampNeg) := inb_of S1178 ⟨by decide, by decide⟩
        obtain ⟨T1179, h1179, X1179, e1179, W1179, st1179⟩ := stC X1175 hx hZ e1175 Ar1178 (j := (1 : Int32)) hi1178 (g := (mkF m 94 #[.val (.int nb), .val (.int ca), .val (.int cb), .val (.int cc), .val (.int (nb &&& (3 : Int32))), .val (.int ((ca &&& (65535 : Int32)).toUInt32.toUInt16.toUInt32.toInt32)), .val (.int ((cb &&& (65535 : Int32)).toUInt32.toUInt16.toUInt32.toInt32)), .val (.int ((cc &&& (65535 : Int32)).toUInt32.toUInt16.toUInt32.toInt32)), .unset, .unset, .unset, .unset] [(.int ((cb &&& (65535 : Int32)).toUInt32.toUInt16.toUInt32.toInt32)), (.int (1 : Int32)), (.ref b1173), (.ref b1173), (.ref b1172), (.ref b1172)])) rfl rfl (hb hby at_94)
        have N1179 := Fr.snoc X1179 N1175 g1176
        have V1179 : Arv Z h1179 b1173 k1173 .char (2 : Int32) [(.int (nar .char ((ca &&& (65535 : Int32)).toUInt32.toUInt16.toUInt32.toInt32))), (.int (nar .char ((cb &&& (65535 : Int32)).toUInt32.toUInt16.toUInt32.toInt32)))] (.int (0 : Int32)) := Arv.set Ar1178 q1178 S1178 N1178 H1178 G1178 (fits_nar_char _) W1179 1 rfl (Nat.le_of_ble_eq_true rfl)
        refine own_st (fun u_ k_ => st1179 u_ k_) ?_
        show own_Go p e below _ (T1179.setTop (mkF m 95 #[.val (.int nb), .val (.int ca), .val (.int cb), .val (.int cc), .val (.int (nb &&& (3 : Int32))), .val (.int ((ca &&& (65535 : Int32)).toUInt32.toUInt16.toUInt32.toInt32)), .val (.int ((cb &&& (65535 : Int32)).toUInt32.toUInt16.toUInt32.toInt32)), .val (.int ((cc &&& (65535 : Int32)).toUInt32.toUInt16.toUInt32.toInt32)), .unset, .unset, .unset, .unset] [(.ref b1173), (.ref b1172), (.ref b1172)]))
        have F1180 := (Exa.wr W1179 (Exa.wr W1175 (Exa.ext E1173 A1172)))
        have F1181 := (Exa.wr W1179 (Exa.wr W1175 Y1173))
        have g1182 : n0 ≤ b1172 := Nat.le_trans (own_nl O0) (Nat.le_of_eq g1172.symm)
        have ne1183 : b1172 ≠ b1173 := (Nat.ne_of_lt (Nat.lt_of_lt_of_le A1172.lt (Nat.le_of_eq g1173.symm)))
        have F1184 := (Fld.other W1179 (Fld.other W1175 (Fld.ext E1173 F1172_value) (Or.inl ne1183)) (Or.inl ne1183))
        have F1185 := (Fld.other W1179 (Fld.other W1175 (Fld.ext E1173 F1172_coder) (Or.inl ne1183)) (Or.inl ne1183))
        have O1187 : Old Z n0 h1173 := O1177.ext E1173
        have O1188 : Old Z n0 h1175 := O1187.wr W1175 g1176
        have O1189 : Old Z n0 h1179 := O1188.wr W1179 g1176
        obtain ⟨T1186, v1186, L1186, X1186, hQ1186, st1186⟩ := own_callN X1179 hx hZ (y := own_y_198) rfl hown (own_w hw 5 rfl) (own_w hw 6 rfl) (own_w hw 3 rfl) (own_w hw 7 rfl) own_lm_181 (rmSJ_2 l Z a0 hw [] wcs hS b1172 b1173 k1173 (nar .char ((ca &&& (65535 : Int32)).toUInt32.toUInt16.toUInt32.toInt32)) (nar .char ((cb &&& (65535 : Int32)).toUInt32.toUInt16.toUInt32.toInt32)) h1179 n0 O1189 F1180 F1181 g1182 F1184 F1185 V1179 (own_c16 _) (own_c16 _)) e1179 own_pd_338 (a := b1172) (argsL := [(.ref b1173)]) (rest := [(.ref b1172)]) rfl rfl (g := (mkF m 95 #[.val (.int nb), .val (.int ca), .val (.int cb), .val (.int cc), .val (.int (nb &&& (3 : Int32))), .val (.int ((ca &&& (65535 : Int32)).toUInt32.toUInt16.toUInt32.toInt32)), .val (.int ((cb &&& (65535 : Int32)).toUInt32.toUInt16.toUInt32.toInt32)), .val (.int ((cc &&& (65535 : Int32)).toUInt32.toUInt16.toUInt32.toInt32)), .unset, .unset, .unset, .unset] [(.ref b1173), (.ref b1172), (.ref b1172)])) rfl (by rw [hml]; rfl) rfl (hb hby at_95) (W := 1) rfl (by decide) (by decide) (by decide) (by decide)
        obtain ⟨r_1190, kr_1191, cd_1192, ln_1193, us_1194, rfl, M1186, K1186, z1195, F1196, F1197, F1198, F1199, F1200, pl_1201, pn_1202⟩ := hQ1186
        have N1186 := Fr.app N1179 M1186
        refine own_st (fun u_ k_ => st1186 u_ k_) ?_
        show own_Go p e below _ (T1186.setTop (mkF m 98 #[.val (.int nb), .val (.int ca), .val (.int cb), .val (.int cc), .val (.int (nb &&& (3 : Int32))), .val (.int ((ca &&& (65535 : Int32)).toUInt32.toUInt16.toUInt32.toInt32)), .val (.int ((cb &&& (65535 : Int32)).toUInt32.toUInt16.toUInt32.toInt32)), .val (.int ((cc &&& (65535 : Int32)).toUInt32.toUInt16.toUInt32.toInt32)), .unset, .unset, .unset, .unset] [(.ref b1172)]))
        refine own_st (fun u_ k_ => XS.astore X1186.here hx rfl (hb hby at_98) rfl rfl (l' := #[.val (.int nb), .val (.int ca), .val (.int cb), .val (.int cc), .val (.int (nb &&& (3 : Int32))), .val (.int ((ca &&& (65535 : Int32)).toUInt32.toUInt16.toUInt32.toInt32)), .val (.int ((cb &&& (65535 : Int32)).toUInt32.toUInt16.toUInt32.toInt32)), .val (.int ((cc &&& (65535 : Int32)).toUInt32.toUInt16.toUInt32.toInt32)), .val (.ref b1172), .unset, .unset, .unset]) rfl k_) ?_
        refine own_st (fun u_ k_ => XS.goto X1186.here hx rfl (pc0 := 100) (pc' := 130) rfl (hb hby at_100) (by decide) (by decide) k_) ?_
        show own_Go p e below _ (T1186.setTop (mkF m 130 #[.val (.int nb), .val (.int ca), .val (.int cb), .val (.int cc), .val (.int (nb &&& (3 : Int32))), .val (.int ((ca &&& (65535 : Int32)).toUInt32.toUInt16.toUInt32.toInt32)), .val (.int ((cb &&& (65535 : Int32)).toUInt32.toUInt16.toUInt32.toInt32)), .val (.int ((cc &&& (65535 : Int32)).toUInt32.toUInt16.toUInt32.toInt32)), .val (.ref b1172), .unset, .unset, .unset] []))
        refine own_st (fun u_ k_ => XS.aload X1186.here hx rfl (hb hby at_130) rfl rfl k_) ?_
        have O1204 : Old Z n0 T1186.heap := O1189.keep K1186 (allS g1182 all0)
        have R1205 : CHr Z own_EL s.vm h0 s.vm h1172 := R0.trans (CHr.ext E1172 R0.1)
        have R1206 : CHr Z own_EL s.vm h0 s.vm h1173 := R1205.trans (CHr.ext E1173 R1205.1)
        have sf_1208 : Safe Z own_EL s.vm h1173 b1173 := Safe.exa hZ_0.alike Y1173 own_lm_346 own_lm_202
        have R1207 : CHr Z own_EL s.vm h0 s.vm h1175 := R1206.trans (CHr.wr W1175 sf_1208 R1206.1)
        have F1210 := (Exa.wr W1175 Y1173)
        have sf_1211 : Safe Z own_EL s.vm h1175 b1173 := Safe.exa hZ_0.alike F1210 own_lm_346 own_lm_202
        have R1209 : CHr Z own_EL s.vm h0 s.vm h1179 := R1207.trans (CHr.wr W1179 sf_1211 R1207.1)
        have sf_1213 : Safe Z own_EL s.vm h0 b1172 := Safe.new (Nat.le_of_eq g1172.symm)
        have sf_1214 : Safe Z own_EL s.vm h1172 b1172 := Safe.ext E1172 R0.1 sf_1213
        have sf_1215 : Safe Z own_EL s.vm h1173 b1172 := Safe.ext E1173 R1205.1 sf_1214
        have sf_1216 : Safe Z own_EL s.vm h1175 b1172 := Safe.wr W1175 sf_1208 R1206.1 sf_1215
        have sf_1217 : Safe Z own_EL s.vm h1179 b1172 := Safe.wr W1179 sf_1211 R1207.1 sf_1216
        have R1212 : CHr Z own_EL s.vm h0 s.vm T1186.heap := R1209.trans (CHr.keep K1186 (sfS sf_1217 sf0) R1209.1)
        obtain ⟨T1203, v1203, L1203, X1203, Si1203, hZ1203, hown1203, hQ1203, hr1203, st1203⟩ := own_callSH X1186 hx hZ hSi0 (Nat.le_trans (Nat.zero_le _) (Nat.le_trans (Nat.le_trans (Nat.le_trans (Nat.le_trans E1172.1 E1173.1) (Nat.le_of_eq W1175.size.symm)) (Nat.le_of_eq W1179.size.symm)) K1186.1)) (own_hEL hw) R1212.1 own_sf0 (y := own_y_298) hown (own_w hw 23 rfl) (own_w hw 24 rfl) (own_w hw 25 rfl) (own_w hw 26 rfl) own_lm_293 (rmAt l Z a0 hw [] wcs hS b1172 T1186.heap n0 O1204 ) rfl own_pd_339 (argsL := [(.ref b1172)]) (rest := []) rfl rfl (g := (mkF m 132 #[.val (.int nb), .val (.int ca), .val (.int cb), .val (.int cc), .val (.int (nb &&& (3 : Int32))), .val (.int ((ca &&& (65535 : Int32)).toUInt32.toUInt16.toUInt32.toInt32)), .val (.int ((cb &&& (65535 : Int32)).toUInt32.toUInt16.toUInt32.toInt32)), .val (.int ((cc &&& (65535 : Int32)).toUInt32.toUInt16.toUInt32.toInt32)), .val (.ref b1172), .unset, .unset, .unset] [(.ref b1172)])) rfl (by rw [hml]; rfl) rfl (hb hby at_132) (W := 0) rfl (by decide) (by decide) (by decide) (by decide)
        obtain ⟨qa_1218, qt_1219, rfl, M1203, K1203, z1220, z1221, F1222, F1223, F1224, F1225, F1226, F1227⟩ := hQ1203
        have N1203 := Fr.app N1186 M1203
        refine own_st (fun u_ k_ => st1203 u_ k_) ?_
        show own_Go p e below _ (T1203.setTop (mkF m 135 #[.val (.int nb), .val (.int ca), .val (.int cb), .val (.int cc), .val (.int (nb &&& (3 : Int32))), .val (.int ((ca &&& (65535 : Int32)).toUInt32.toUInt16.toUInt32.toInt32)), .val (.int ((cb &&& (65535 : Int32)).toUInt32.toUInt16.toUInt32.toInt32)), .val (.int ((cc &&& (65535 : Int32)).toUInt32.toUInt16.toUInt32.toInt32)), .val (.ref b1172), .unset, .unset, .unset] [(.ref qa_1218)]))
        refine own_st (fun u_ k_ => XS.astore X1203.here hx rfl (hb hby at_135) rfl rfl (l' := #[.val (.int nb), .val (.int ca), .val (.int cb), .val (.int cc), .val (.int (nb &&& (3 : Int32))), .val (.int ((ca &&& (65535 : Int32)).toUInt32.toUInt16.toUInt32.toInt32)), .val (.int ((cb &&& (65535 : Int32)).toUInt32.toUInt16.toUInt32.toInt32)), .val (.int ((cc &&& (65535 : Int32)).toUInt32.toUInt16.toUInt32.toInt32)), .val (.ref b1172), .val (.ref qa_1218), .unset, .unset]) rfl k_) ?_
        refine own_st (fun u_ k_ => XS.aload X1203.here hx rfl (hb hby at_137) rfl rfl k_) ?_
        show own_Go p e below _ (T1203.setTop (mkF m 139 #[.val (.int nb), .val (.int ca), .val (.int cb), .val (.int cc), .val (.int (nb &&& (3 : Int32))), .val (.int ((ca &&& (65535 : Int32)).toUInt32.toUInt16.toUInt32.toInt32)), .val (.int ((cb &&& (65535 : Int32)).toUInt32.toUInt16.toUInt32.toInt32)), .val (.int ((cc &&& (65535 : Int32)).toUInt32.toUInt16.toUInt32.toInt32)), .val (.ref b1172), .val (.ref qa_1218), .unset, .unset] [(.ref qa_1218)]))
        have O1229 : Old Z n0 T1203.heap := O1204.keep K1203 all0
        obtain ⟨T1228, v1228, L1228, X1228, hQ1228, st1228⟩ := own_callV X1203 hx hZ1203 (y := own_y_302) (z := own_y_302) hown1203 (own_w hw 58 rfl) (own_w hw 59 rfl) (notFace_of_selects (args := #[]) (mvT hZ1203 (own_w hw 61 rfl))) (own_w hw 61 rfl) (own_w hw 60 rfl) (own_w hw 25 rfl) (own_w hw 62 rfl) own_lm_293 (rmGdefinition l Z a0 hw [] wcs hS qa_1218 T1203.heap n0 O1229 F1224) rfl F1222 own_pd_340 (argsL := []) (rest := []) rfl rfl (g := (mkF m 139 #[.val (.int nb), .val (.int ca), .val (.int cb), .val (.int cc), .val (.int (nb &&& (3 : Int32))), .val (.int ((ca &&& (65535 : Int32)).toUInt32.toUInt16.toUInt32.toInt32)), .val (.int ((cb &&& (65535 : Int32)).toUInt32.toUInt16.toUInt32.toInt32)), .val (.int ((cc &&& (65535 : Int32)).toUInt32.toUInt16.toUInt32.toInt32)), .val (.ref b1172), .val (.ref qa_1218), .unset, .unset] [(.ref qa_1218)])) rfl (by rw [hml]; rfl) rfl (hb hby at_139) (W := 0) rfl (by decide) (by decide) (by decide) (by decide)
        obtain ⟨rfl, M1228, e1228⟩ := hQ1228
        have N1228 := Fr.app N1203 M1228
        refine own_st (fun u_ k_ => st1228 u_ k_) ?_
        show own_Go p e below _ (T1228.setTop (mkF m 142 #[.val (.int nb), .val (.int ca), .val (.int cb), .val (.int cc), .val (.int (nb &&& (3 : Int32))), .val (.int ((ca &&& (65535 : Int32)).toUInt32.toUInt16.toUInt32.toInt32)), .val (.int ((cb &&& (65535 : Int32)).toUInt32.toUInt16.toUInt32.toInt32)), .val (.int ((cc &&& (65535 : Int32)).toUInt32.toUInt16.toUInt32.toInt32)), .val (.ref b1172), .val (.ref qa_1218), .unset, .unset] [.null]))
        refine own_st (fun u_ k_ => XS.ifnullYes X1228.here hx rfl (pc0 := 142) (pc' := 147) rfl (hb hby at_142) rfl (by decide) (by decide) k_) ?_
        refine own_st (fun u_ k_ => XS.aload X1228.here hx rfl (hb hby at_147) rfl rfl k_) ?_
        show own_Go p e below _ (T1228.setTop (mkF m 149 #[.val (.int nb), .val (.int ca), .val (.int cb), .val (.int cc), .val (.int (nb &&& (3 : Int32))), .val (.int ((ca &&& (65535 : Int32)).toUInt32.toUInt16.toUInt32.toInt32)), .val (.int ((cb &&& (65535 : Int32)).toUInt32.toUInt16.toUInt32.toInt32)), .val (.int ((cc &&& (65535 : Int32)).toUInt32.toUInt16.toUInt32.toInt32)), .val (.ref b1172), .val (.ref qa_1218), .unset, .unset] [(.ref qa_1218)]))
        obtain ⟨T1230, v1230, L1230, X1230, hQ1230, st1230⟩ := own_callV X1228 hx hZ1203 (y := own_y_310) (z := own_y_310) hown1203 (own_w hw 63 rfl) (own_w hw 64 rfl) (notFace_of_selects (args := #[]) (mvT hZ1203 (own_w hw 66 rfl))) (own_w hw 66 rfl) (own_w hw 65 rfl) (own_w hw 25 rfl) (own_w hw 67 rfl) own_lm_293 (rmGbean l Z a0 hw [] wcs hS qa_1218 T1203.heap n0 O1229 F1226) e1228 F1222 own_pd_341 (argsL := []) (rest := []) rfl rfl (g := (mkF m 149 #[.val (.int nb), .val (.int ca), .val (.int cb), .val (.int cc), .val (.int (nb &&& (3 : Int32))), .val (.int ((ca &&& (65535 : Int32)).toUInt32.toUInt16.toUInt32.toInt32)), .val (.int ((cb &&& (65535 : Int32)).toUInt32.toUInt16.toUInt32.toInt32)), .val (.int ((cc &&& (65535 : Int32)).toUInt32.toUInt16.toUInt32.toInt32)), .val (.ref b1172), .val (.ref qa_1218), .unset, .unset] [(.ref qa_1218)])) rfl (by rw [hml]; rfl) rfl (hb hby at_149) (W := 0) rfl (by decide) (by decide) (by decide) (by decide)
        obtain ⟨rfl, M1230, e1230⟩ := hQ1230
        have N1230 := Fr.app N1228 M1230
        refine own_st (fun u_ k_ => st1230 u_ k_) ?_
        show own_Go p e below _ (T1230.setTop (mkF m 152 #[.val (.int nb), .val (.int ca), .val (.int cb), .val (.int cc), .val (.int (nb &&& (3 : Int32))), .val (.int ((ca &&& (65535 : Int32)).toUInt32.toUInt16.toUInt32.toInt32)), .val (.int ((cb &&& (65535 : Int32)).toUInt32.toUInt16.toUInt32.toInt32)), .val (.int ((cc &&& (65535 : Int32)).toUInt32.toUInt16.toUInt32.toInt32)), .val (.ref b1172), .val (.ref qa_1218), .unset, .unset] [.null]))
        refine own_st (fun u_ k_ => XS.ifnullYes X1230.here hx rfl (pc0 := 152) (pc' := 157) rfl (hb hby at_152) rfl (by decide) (by decide) k_) ?_
        refine own_st (fun u_ k_ => XS.aload X1230.here hx rfl (hb hby at_157) rfl rfl k_) ?_
        show own_Go p e below _ (T1230.setTop (mkF m 159 #[.val (.int nb), .val (.int ca), .val (.int cb), .val (.int cc), .val (.int (nb &&& (3 : Int32))), .val (.int ((ca &&& (65535 : Int32)).toUInt32.toUInt16.toUInt32.toInt32)), .val (.int ((cb &&& (65535 : Int32)).toUInt32.toUInt16.toUInt32.toInt32)), .val (.int ((cc &&& (65535 : Int32)).toUInt32.toUInt16.toUInt32.toInt32)), .val (.ref b1172), .val (.ref qa_1218), .unset, .unset] [(.ref qa_1218)]))
        obtain ⟨T1231, v1231, L1231, X1231, hQ1231, st1231⟩ := own_callV X1230 hx hZ1203 (y := own_y_306) (z := own_y_306) hown1203 (own_w hw 68 rfl) (own_w hw 69 rfl) (notFace_of_selects (args := #[]) (mvT hZ1203 (own_w hw 71 rfl))) (own_w hw 71 rfl) (own_w hw 70 rfl) (own_w hw 25 rfl) (own_w hw 72 rfl) own_lm_293 (rmGvalue l Z a0 hw [] wcs hS qa_1218 qt_1219 T1203.heap n0 O1229 F1225) e1230 F1222 own_pd_342 (argsL := []) (rest := []) rfl rfl (g := (mkF m 159 #[.val (.int nb), .val (.int ca), .val (.int cb), .val (.int cc), .val (.int (nb &&& (3 : Int32))), .val (.int ((ca &&& (65535 : Int32)).toUInt32.toUInt16.toUInt32.toInt32)), .val (.int ((cb &&& (65535 : Int32)).toUInt32.toUInt16.toUInt32.toInt32)), .val (.int ((cc &&& (65535 : Int32)).toUInt32.toUInt16.toUInt32.toInt32)), .val (.ref b1172), .val (.ref qa_1218), .unset, .unset] [(.ref qa_1218)])) rfl (by rw [hml]; rfl) rfl (hb hby at_159) (W := 0) rfl (by decide) (by decide) (by decide) (by decide)
        obtain ⟨rfl, M1231, e1231⟩ := hQ1231
        have N1231 := Fr.app N1230 M1231
        refine own_st (fun u_ k_ => st1231 u_ k_) ?_
        show own_Go p e below _ (T1231.setTop (mkF m 162 #[.val (.int nb), .val (.int ca), .val (.int cb), .val (.int cc), .val (.int (nb &&& (3 : Int32))), .val (.int ((ca &&& (65535 : Int32)).toUInt32.toUInt16.toUInt32.toInt32)), .val (.int ((cb &&& (65535 : Int32)).toUInt32.toUInt16.toUInt32.toInt32)), .val (.int ((cc &&& (65535 : Int32)).toUInt32.toUInt16.toUInt32.toInt32)), .val (.ref b1172), .val (.ref qa_1218), .unset, .unset] [(.ref qt_1219)]))
        refine own_st (fun u_ k_ => XS.astore X1231.here hx rfl (hb hby at_162) rfl rfl (l' := #[.val (.int nb), .val (.int ca), .val (.int cb), .val (.int cc), .val (.int (nb &&& (3 : Int32))), .val (.int ((ca &&& (65535 : Int32)).toUInt32.toUInt16.toUInt32.toInt32)), .val (.int ((cb &&& (65535 : Int32)).toUInt32.toUInt16.toUInt32.toInt32)), .val (.int ((cc &&& (65535 : Int32)).toUInt32.toUInt16.toUInt32.toInt32)), .val (.ref b1172), .val (.ref qa_1218), .val (.ref qt_1219), .unset]) rfl k_) ?_
        refine own_st (fun u_ k_ => XS.aload X1231.here hx rfl (hb hby at_164) rfl rfl k_) ?_
        show own_Go p e below _ (T1231.setTop (mkF m 166 #[.val (.int nb), .val (.int ca), .val (.int cb), .val (.int cc), .val (.int (nb &&& (3 : Int32))), .val (.int ((ca &&& (65535 : Int32)).toUInt32.toUInt16.toUInt32.toInt32)), .val (.int ((cb &&& (65535 : Int32)).toUInt32.toUInt16.toUInt32.toInt32)), .val (.int ((cc &&& (65535 : Int32)).toUInt32.toUInt16.toUInt32.toInt32)), .val (.ref b1172), .val (.ref qa_1218), .val (.ref qt_1219), .unset] [(.ref qt_1219)]))
        obtain ⟨T1232, X1232, e1232, st1232⟩ := instY X1231 hx hZ1203 hown1203 (own_w hw 73 rfl) e1231 (Ins.self F1223) (g := (mkF m 166 #[.val (.int nb), .val (.int ca), .val (.int cb), .val (.int cc), .val (.int (nb &&& (3 : Int32))), .val (.int ((ca &&& (65535 : Int32)).toUInt32.toUInt16.toUInt32.toInt32)), .val (.int ((cb &&& (65535 : Int32)).toUInt32.toUInt16.toUInt32.toInt32)), .val (.int ((cc &&& (65535 : Int32)).toUInt32.toUInt16.toUInt32.toInt32)), .val (.ref b1172), .val (.ref qa_1218), .val (.ref qt_1219), .unset] [(.ref qt_1219)])) rfl rfl (hb hby at_166)
        refine own_st (fun u_ k_ => st1232 u_ k_) ?_
        show own_Go p e below _ (T1232.setTop (mkF m 169 #[.val (.int nb), .val (.int ca), .val (.int cb), .val (.int cc), .val (.int (nb &&& (3 : Int32))), .val (.int ((ca &&& (65535 : Int32)).toUInt32.toUInt16.toUInt32.toInt32)), .val (.int ((cb &&& (65535 : Int32)).toUInt32.toUInt16.toUInt32.toInt32)), .val (.int ((cc &&& (65535 : Int32)).toUInt32.toUInt16.toUInt32.toInt32)), .val (.ref b1172), .val (.ref qa_1218), .val (.ref qt_1219), .unset] [(.int (1 : Int32))]))
        refine own_st (fun u_ k_ => XS.ifYes X1232.here hx rfl (pc0 := 169) (pc' := 174) rfl (hb hby at_169) rfl (XT.i0_ne_t (by decide)) (by decide) (by decide) k_) ?_
        refine own_st (fun u_ k_ => XS.aload X1232.here hx rfl (hb hby at_174) rfl rfl k_) ?_
        show own_Go p e below _ (T1232.setTop (mkF m 176 #[.val (.int nb), .val (.int ca), .val (.int cb), .val (.int cc), .val (.int (nb &&& (3 : Int32))), .val (.int ((ca &&& (65535 : Int32)).toUInt32.toUInt16.toUInt32.toInt32)), .val (.int ((cb &&& (65535 : Int32)).toUInt32.toUInt16.toUInt32.toInt32)), .val (.int ((cc &&& (65535 : Int32)).toUInt32.toUInt16.toUInt32.toInt32)), .val (.ref b1172), .val (.ref qa_1218), .val (.ref qt_1219), .unset] [(.ref qt_1219)]))
        obtain ⟨T1233, X1233, e1233, st1233⟩ := castY X1232 hx hZ1203 hown1203 (own_w hw 73 rfl) e1232 (Ins.self F1223) (g := (mkF m 176 #[.val (.int nb), .val (.int ca), .val (.int cb), .val (.int cc), .val (.int (nb &&& (3 : Int32))), .val (.int ((ca &&& (65535 : Int32)).toUInt32.toUInt16.toUInt32.toInt32)), .val (.int ((cb &&& (65535 : Int32)).toUInt32.toUInt16.toUInt32.toInt32)), .val (.int ((cc &&& (65535 : Int32)).toUInt32.toUInt16.toUInt32.toInt32)), .val (.ref b1172), .val (.ref qa_1218), .val (.ref qt_1219), .unset] [(.ref qt_1219)])) rfl rfl (hb hby at_176)
        refine own_st (fun u_ k_ => st1233 u_ k_) ?_
        show own_Go p e below _ (T1233.setTop (mkF m 179 #[.val (.int nb), .val (.int ca), .val (.int cb), .val (.int cc), .val (.int (nb &&& (3 : Int32))), .val (.int ((ca &&& (65535 : Int32)).toUInt32.toUInt16.toUInt32.toInt32)), .val (.int ((cb &&& (65535 : Int32)).toUInt32.toUInt16.toUInt32.toInt32)), .val (.int ((cc &&& (65535 : Int32)).toUInt32.toUInt16.toUInt32.toInt32)), .val (.ref b1172), .val (.ref qa_1218), .val (.ref qt_1219), .unset] [(.ref qt_1219)]))
        obtain ⟨T1234, v1234, L1234, X1234, hQ1234, st1234⟩ := own_callV X1233 hx hZ1203 (y := own_y_314) (z := own_y_314) hown1203 (own_w hw 75 rfl) (own_w hw 76 rfl) (notFace_of_selects (args := #[]) (mvT hZ1203 (own_w hw 78 rfl))) (own_w hw 78 rfl) (own_w hw 77 rfl) (own_w hw 31 rfl) (own_w hw 79 rfl) own_lm_289 (rmGt l Z a0 hw [] wcs hS qt_1219 b1172 T1203.heap n0 O1229 F1227) e1233 F1223 own_pd_343 (argsL := []) (rest := []) rfl rfl (g := (mkF m 179 #[.val (.int nb), .val (.int ca), .val (.int cb), .val (.int cc), .val (.int (nb &&& (3 : Int32))), .val (.int ((ca &&& (65535 : Int32)).toUInt32.toUInt16.toUInt32.toInt32)), .val (.int ((cb &&& (65535 : Int32)).toUInt32.toUInt16.toUInt32.toInt32)), .val (.int ((cc &&& (65535 : Int32)).toUInt32.toUInt16.toUInt32.toInt32)), .val (.ref b1172), .val (.ref qa_1218), .val (.ref qt_1219), .unset] [(.ref qt_1219)])) rfl (by rw [hml]; rfl) rfl (hb hby at_179) (W := 0) rfl (by decide) (by decide) (by decide) (by decide)
        obtain ⟨rfl, M1234, e1234⟩ := hQ1234
        have N1234 := Fr.app N1231 M1234
        refine own_st (fun u_ k_ => st1234 u_ k_) ?_
        show own_Go p e below _ (T1234.setTop (mkF m 182 #[.val (.int nb), .val (.int ca), .val (.int cb), .val (.int cc), .val (.int (nb &&& (3 : Int32))), .val (.int ((ca &&& (65535 : Int32)).toUInt32.toUInt16.toUInt32.toInt32)), .val (.int ((cb &&& (65535 : Int32)).toUInt32.toUInt16.toUInt32.toInt32)), .val (.int ((cc &&& (65535 : Int32)).toUInt32.toUInt16.toUInt32.toInt32)), .val (.ref b1172), .val (.ref qa_1218), .val (.ref qt_1219), .unset] [(.ref b1172)]))
        refine own_st (fun u_ k_ => XS.astore X1234.here hx rfl (hb hby at_182) rfl rfl (l' := #[.val (.int nb), .val (.int ca), .val (.int cb), .val (.int cc), .val (.int (nb &&& (3 : Int32))), .val (.int ((ca &&& (65535 : Int32)).toUInt32.toUInt16.toUInt32.toInt32)), .val (.int ((cb &&& (65535 : Int32)).toUInt32.toUInt16.toUInt32.toInt32)), .val (.int ((cc &&& (65535 : Int32)).toUInt32.toUInt16.toUInt32.toInt32)), .val (.ref b1172), .val (.ref qa_1218), .val (.ref qt_1219), .val (.ref b1172)]) rfl k_) ?_
        refine own_st (fun u_ k_ => XS.aload X1234.here hx rfl (hb hby at_184) rfl rfl k_) ?_
        show own_Go p e below _ (T1234.setTop (mkF m 186 #[.val (.int nb), .val (.int ca), .val (.int cb), .val (.int cc), .val (.int (nb &&& (3 : Int32))), .val (.int ((ca &&& (65535 : Int32)).toUInt32.toUInt16.toUInt32.toInt32)), .val (.int ((cb &&& (65535 : Int32)).toUInt32.toUInt16.toUInt32.toInt32)), .val (.int ((cc &&& (65535 : Int32)).toUInt32.toUInt16.toUInt32.toInt32)), .val (.ref b1172), .val (.ref qa_1218), .val (.ref qt_1219), .val (.ref b1172)] [(.ref b1172)]))
        have F1235 := (F1196.keep K1203)
        have F1236 := (F1198.keep K1203 nin0)
        have F1237 := (F1197.keep K1203 nin0)
        have F1238 := (F1200.keep K1203 nin0)
        obtain ⟨T1239, v1239, L1239, X1239, hQ1239, st1239⟩ := own_callV X1234 hx hZ1203 (y := own_y_330) (z := own_y_330) hown1203 (own_w hw 80 rfl) (own_w hw 81 rfl) (notFace_of_selects (args := #[]) (mvT hZ1203 (own_w hw 83 rfl))) (own_w hw 83 rfl) (own_w hw 82 rfl) (own_w hw 3 rfl) (own_w hw 84 rfl) own_lm_181 (rmLn l Z a0 hw [] wcs hS b1172 r_1190 kr_1191 cd_1192 ln_1193 us_1194 T1203.heap n0 O1229 F1235 F1236 F1237 F1238 pn_1202) e1234 F1235 own_pd_344 (argsL := []) (rest := []) rfl rfl (g := (mkF m 186 #[.val (.int nb), .val (.int ca), .val (.int cb), .val (.int cc), .val (.int (nb &&& (3 : Int32))), .val (.int ((ca &&& (65535 : Int32)).toUInt32.toUInt16.toUInt32.toInt32)), .val (.int ((cb &&& (65535 : Int32)).toUInt32.toUInt16.toUInt32.toInt32)), .val (.int ((cc &&& (65535 : Int32)).toUInt32.toUInt16.toUInt32.toInt32)), .val (.ref b1172), .val (.ref qa_1218), .val (.ref qt_1219), .val (.ref b1172)] [(.ref b1172)])) rfl (by rw [hml]; rfl) rfl (hb hby at_186) (W := 0) rfl (by decide) (by decide) (by decide) (by decide)
        obtain ⟨rfl, M1239, e1239⟩ := hQ1239
        have N1239 := Fr.app N1234 M1239
        refine own_st (fun u_ k_ => st1239 u_ k_) ?_
        show own_Go p e below _ (T1239.setTop (mkF m 189 #[.val (.int nb), .val (.int ca), .val (.int cb), .val (.int cc), .val (.int (nb &&& (3 : Int32))), .val (.int ((ca &&& (65535 : Int32)).toUInt32.toUInt16.toUInt32.toInt32)), .val (.int ((cb &&& (65535 : Int32)).toUInt32.toUInt16.toUInt32.toInt32)), .val (.int ((cc &&& (65535 : Int32)).toUInt32.toUInt16.toUInt32.toInt32)), .val (.ref b1172), .val (.ref qa_1218), .val (.ref qt_1219), .val (.ref b1172)] [(.int (ln_1193 >>> (cd_1192 &&& 31)))]))
        refine own_st (fun u_ k_ => XS.iload X1239.here hx rfl (hb hby at_189) rfl k_) ?_
        refine own_st (fun u_ k_ => XS.icmpNo X1239.here hx rfl (hb hby at_191) rfl (XT.ii_ne_f (pl_1201.trans hc1171.symm)) k_) ?_
        show own_Go p e below _ (T1239.setTop (mkF m 194 #[.val (.int nb), .val (.int ca), .val (.int cb), .val (.int cc), .val (.int (nb &&& (3 : Int32))), .val (.int ((ca &&& (65535 : Int32)).toUInt32.toUInt16.toUInt32.toInt32)), .val (.int ((cb &&& (65535 : Int32)).toUInt32.toUInt16.toUInt32.toInt32)), .val (.int ((cc &&& (65535 : Int32)).toUInt32.toUInt16.toUInt32.toInt32)), .val (.ref b1172), .val (.ref qa_1218), .val (.ref qt_1219), .val (.ref b1172)] []))
        refine own_st (fun u_ k_ => XS.aload X1239.here hx rfl (hb hby at_194) rfl rfl k_) ?_
        refine own_st (fun u_ k_ => XS.aload X1239.here hx rfl (hb hby at_196) rfl rfl k_) ?_
        show own_Go p e below _ (T1239.setTop (mkF m 198 #[.val (.int nb), .val (.int ca), .val (.int cb), .val (.int cc), .val (.int (nb &&& (3 : Int32))), .val (.int ((ca &&& (65535 : Int32)).toUInt32.toUInt16.toUInt32.toInt32)), .val (.int ((cb &&& (65535 : Int32)).toUInt32.toUInt16.toUInt32.toInt32)), .val (.int ((cc &&& (65535 : Int32)).toUInt32.toUInt16.toUInt32.toInt32)), .val (.ref b1172), .val (.ref qa_1218), .val (.ref qt_1219), .val (.ref b1172)] [(.ref b1172), (.ref b1172)]))
        obtain ⟨T1240, v1240, L1240, X1240, hQ1240, st1240⟩ := own_callV X1239 hx hZ1203 (y := own_y_336) (z := own_y_336) hown1203 (own_w hw 91 rfl) (own_w hw 92 rfl) (notFace_of_selects (args := #[]) (mvT hZ1203 (own_w hw 94 rfl))) (own_w hw 94 rfl) (own_w hw 93 rfl) (own_w hw 3 rfl) (own_w hw 95 rfl) own_lm_181 (rmEq l Z a0 hw [] wcs hS b1172 T1203.heap n0 O1229 ) e1239 F1235 own_pd_345 (argsL := [(.ref b1172)]) (rest := []) rfl rfl (g := (mkF m 198 #[.val (.int nb), .val (.int ca), .val (.int cb), .val (.int cc), .val (.int (nb &&& (3 : Int32))), .val (.int ((ca &&& (65535 : Int32)).toUInt32.toUInt16.toUInt32.toInt32)), .val (.int ((cb &&& (65535 : Int32)).toUInt32.toUInt16.toUInt32.toInt32)), .val (.int ((cc &&& (65535 : Int32)).toUInt32.toUInt16.toUInt32.toInt32)), .val (.ref b1172), .val (.ref qa_1218), .val (.ref qt_1219), .val (.ref b1172)] [(.ref b1172), (.ref b1172)])) rfl (by rw [hml]; rfl) rfl (hb hby at_198) (W := 0) rfl (by decide) (by decide) (by decide) (by decide)
        obtain ⟨rfl, M1240, e1240⟩ := hQ1240
        have N1240 := Fr.app N1239 M1240
        refine own_st (fun u_ k_ => st1240 u_ k_) ?_
        show own_Go p e below _ (T1240.setTop (mkF m 201 #[.val (.int nb), .val (.int ca), .val (.int cb), .val (.int cc), .val (.int (nb &&& (3 : Int32))), .val (.int ((ca &&& (65535 : Int32)).toUInt32.toUInt16.toUInt32.toInt32)), .val (.int ((cb &&& (65535 : Int32)).toUInt32.toUInt16.toUInt32.toInt32)), .val (.int ((cc &&& (65535 : Int32)).toUInt32.toUInt16.toUInt32.toInt32)), .val (.ref b1172), .val (.ref qa_1218), .val (.ref qt_1219), .val (.ref b1172)] [(.int (1 : Int32))]))
        refine own_st (fun u_ k_ => XS.ifNo X1240.here hx rfl (hb hby at_201) rfl (XT.i0_eq_f (by decide)) k_) ?_
        refine own_st (fun u_ k_ => XS.iconst X1240.here hx rfl (hb hby at_204) k_) ?_
        show own_Go p e below _ (T1240.setTop (mkF m 205 #[.val (.int nb), .val (.int ca), .val (.int cb), .val (.int cc), .val (.int (nb &&& (3 : Int32))), .val (.int ((ca &&& (65535 : Int32)).toUInt32.toUInt16.toUInt32.toInt32)), .val (.int ((cb &&& (65535 : Int32)).toUInt32.toUInt16.toUInt32.toInt32)), .val (.int ((cc &&& (65535 : Int32)).toUInt32.toUInt16.toUInt32.toInt32)), .val (.ref b1172), .val (.ref qa_1218), .val (.ref qt_1219), .val (.ref b1172)] [(.int (1 : Int32))]))
        refine own_st (fun u_ k_ => XS.goto X1240.here hx rfl (pc0 := 205) (pc' := 209) rfl (hb hby at_205) (by decide) (by decide) k_) ?_
        have K1241 : Keep h0 h1172 [] := (Keep.refl h0 []).ext E1172
        have K1242 : Keep h0 h1173 [] := K1241.ext E1173
        have z1244 : h0.size ≤ b1173 := Nat.le_trans E1172.1 (Nat.le_of_eq g1173.symm)
        have K1243 : Keep h0 h1175 [] := K1242.wr W1175 (Or.inr z1244)
        have K1245 : Keep h0 h1179 [] := K1243.wr W1179 (Or.inr z1244)
        have z1247 : h0.size ≤ b1172 := Nat.le_trans (Nat.le_refl _) (Nat.le_of_eq g1172.symm)
        have K1246 : Keep h0 T1186.heap [] := K1245.trans K1186 (allS (Or.inr z1247) all0)
        have K1248 : Keep h0 T1203.heap [] := K1246.trans K1203 all0
        have R1249 : CHr Z own_EL s.vm h0 T1203.vm T1203.heap := R1212.trans hr1203
        exact own_retXH X1240 Si1203 (Nat.le_refl _) e1240 hZ1203 (own_hEL hw) hs0 R1249 hx hlk hret rfl (Or.inl ⟨rfl, by simp, _, rfl⟩) (hb hby at_209) (by decide) (by decide) (show Qrm0 Z wcs nb ca cb cc h0 n0 (some (.int (1 : Int32))) T1240.heap _ from (by rw [e1240]; exact ⟨rfl, N1240, K1248⟩))
      · refine own_st (fun u_ k_ => XS.icmpYes X0.here hx rfl (pc0 := 75) (pc' := 103) rfl (hb hby at_75) rfl (XT.ii_ne_t hc1171) (by decide) (by decide) k_) ?_
        show own_Go p e below _ (s₁.setTop (mkF m 103 #[.val (.int nb), .val (.int ca), .val (.int cb), .val (.int cc), .val (.int (nb &&& (3 : Int32))), .val (.int ((ca &&& (65535 : Int32)).toUInt32.toUInt16.toUInt32.toInt32)), .val (.int ((cb &&& (65535 : Int32)).toUInt32.toUInt16.toUInt32.toInt32)), .val (.int ((cc &&& (65535 : Int32)).toUInt32.toUInt16.toUInt32.toInt32)), .unset, .unset, .unset, .unset] []))
        obtain ⟨T1250, h1250, X1250, e1250, E1250, A1250, D1250, U1250, st1250⟩ := newO X0 hx hZ hown (own_w hw 1 rfl) (own_w hw 2 rfl) (own_w hw 3 rfl) e0 (g := (mkF m 103 #[.val (.int nb), .val (.int ca), .val (.int cb), .val (.int cc), .val (.int (nb &&& (3 : Int32))), .val (.int ((ca &&& (65535 : Int32)).toUInt32.toUInt16.toUInt32.toInt32)), .val (.int ((cb &&& (65535 : Int32)).toUInt32.toUInt16.toUInt32.toInt32)), .val (.int ((cc &&& (65535 : Int32)).toUInt32.toUInt16.toUInt32.toInt32)), .unset, .unset, .unset, .unset] [])) rfl (hb hby at_103) (by decide) (by decide)
        obtain ⟨b1250, g1250⟩ : ∃ z, z = h0.size := ⟨_, rfl⟩
        rw [← g1250] at A1250 D1250 U1250 st1250
        have F1250_value : Fld Z h1250 b1250 "java/lang/String" "value" "[B" .null := D1250 (Or.inr (own_w hw 17 rfl)) (ty := (.array .byte)) own_lm_167
        have F1250_coder : Fld Z h1250 b1250 "java/lang/String" "coder" "B" (.int (0 : Int32)) := D1250 (Or.inr (own_w hw 18 rfl)) (ty := .byte) own_lm_162
        refine own_st (fun u_ k_ => st1250 u_ k_) ?_
        show own_Go p e below _ (T1250.setTop (mkF m 106 #[.val (.int nb), .val (.int ca), .val (.int cb), .val (.int cc), .val (.int (nb &&& (3 : Int32))), .val (.int ((ca &&& (65535 : Int32)).toUInt32.toUInt16.toUInt32.toInt32)), .val (.int ((cb &&& (65535 : Int32)).toUInt32.toUInt16.toUInt32.toInt32)), .val (.int ((cc &&& (65535 : Int32)).toUInt32.toUInt16.toUInt32.toInt32)), .unset, .unset, .unset, .unset] [(.ref b1250)]))
        refine own_st (fun u_ k_ => XS.dup X1250.here hx rfl (hb hby at_106) rfl rfl k_) ?_
        refine own_st (fun u_ k_ => XS.iconst X1250.here hx rfl (hb hby at_107) k_) ?_
        show own_Go p e below _ (T1250.setTop (mkF m 108 #[.val (.int nb), .val (.int ca), .val (.int cb), .val (.int cc), .val (.int (nb &&& (3 : Int32))), .val (.int ((ca &&& (65535 : Int32)).toUInt32.toUInt16.toUInt32.toInt32)), .val (.int ((cb &&& (65535 : Int32)).toUInt32.toUInt16.toUInt32.toInt32)), .val (.int ((cc &&& (65535 : Int32)).toUInt32.toUInt16.toUInt32.toInt32)), .unset, .unset, .unset, .unset] [(.int (3 : Int32)), (.ref b1250), (.ref b1250)]))
        obtain ⟨T1251, h1251, k1251, X1251, e1251, E1251, A1251, Y1251, st1251⟩ := newPE X1250 hx hZ (own_w hw 4 rfl) e1250 (g := (mkF m 108 #[.val (.int nb), .val (.int ca), .val (.int cb), .val (.int cc), .val (.int (nb &&& (3 : Int32))), .val (.int ((ca &&& (65535 : Int32)).toUInt32.toUInt16.toUInt32.toInt32)), .val (.int ((cb &&& (65535 : Int32)).toUInt32.toUInt16.toUInt32.toInt32)), .val (.int ((cc &&& (65535 : Int32)).toUInt32.toUInt16.toUInt32.toInt32)), .unset, .unset, .unset, .unset] [(.int (3 : Int32)), (.ref b1250), (.ref b1250)])) rfl (hb hby at_108) rfl (by decide) (cap := 3) (by decide) (by decide) (by decide) (by decide) (ad := "[C") own_lm_337
        obtain ⟨b1251, g1251⟩ : ∃ z, z = h1250.size := ⟨_, rfl⟩
        rw [← g1251] at A1251 Y1251 st1251
        have V1251 : Arv Z h1251 b1251 k1251 .char (3 : Int32) [(.int (0 : Int32)), (.int (0 : Int32)), (.int (0 : Int32))] (.int (0 : Int32)) := (Arv.new A1251 (by decide)).pad (pad_rep [] (.int (0 : Int32)) 3)
        refine own_st (fun u_ k_ => st1251 u_ k_) ?_
        show own_Go p e below _ (T1251.setTop (mkF m 110 #[.val (.int nb), .val (.int ca), .val (.int cb), .val (.int cc), .val (.int (nb &&& (3 : Int32))), .val (.int ((ca &&& (65535 : Int32)).toUInt32.toUInt16.toUInt32.toInt32)), .val (.int ((cb &&& (65535 : Int32)).toUInt32.toUInt16.toUInt32.toInt32)), .val (.int ((cc &&& (65535 : Int32)).toUInt32.toUInt16.toUInt32.toInt32)), .unset, .unset, .unset, .unset] [(.ref b1251), (.ref b1250), (.ref b1250)]))
        refine own_st (fun u_ k_ => XS.dup X1251.here hx rfl (hb hby at_110) rfl rfl k_) ?_
        refine own_st (fun u_ k_ => XS.iconst X1251.here hx rfl (hb hby at_111) k_) ?_
        show own_Go p e below _ (T1251.setTop (mkF m 112 #[.val (.int nb), .val (.int ca), .val (.int cb), .val (.int cc), .val (.int (nb &&& (3 : Int32))), .val (.int ((ca &&& (65535 : Int32)).toUInt32.toUInt16.toUInt32.toInt32)), .val (.int ((cb &&& (65535 : Int32)).toUInt32.toUInt16.toUInt32.toInt32)), .val (.int ((cc &&& (65535 : Int32)).toUInt32.toUInt16.toUInt32.toInt32)), .unset, .unset, .unset, .unset] [(.int (0 : Int32)), (.ref b1251), (.ref b1251), (.ref b1250), (.ref b1250)]))
        refine own_st (fun u_ k_ => XS.iload X1251.here hx rfl (hb hby at_112) rfl k_) ?_
        obtain ⟨cl1252, Ar1252, q1252, S1252, N1252, H1252, G1252⟩ := id V1251
        have hi1252 : ¬ ((0 : Int32) < 0 ∨ cl1252.slots.size ≤ ((0 : Int32)).toNatClampNeg) := inb_of S1252 ⟨by decide, by decide⟩
        obtain ⟨T1253, h1253, X1253, e1253, W1253, st1253⟩ := stC X1251 hx hZ e1251 Ar1252 (j := (0 : Int32)) hi1252 (g := (mkF m 114 #[.val (.int nb), .val (.int ca), .val (.int cb), .val (.int cc), .val (.int (nb &&& (3 : Int32))), .val (.int ((ca &&& (65535 : Int32)).toUInt32.toUInt16.toUInt32.toInt32)), .val (.int ((cb &&& (65535 : Int32)).toUInt32.toUInt16.toUInt32.toInt32)), .val (.int ((cc &&& (65535 : Int32)).toUInt32.toUInt16.toUInt32.toInt32)), .unset, .unset, .unset, .unset] [(.int ((ca &&& (65535 : Int32)).toUInt32.toUInt16.toUInt32.toInt32)), (.int (0 : Int32)), (.ref b1251), (.ref b1251), (.ref b1250), (.ref b1250)])) rfl rfl (hb hby at_114)
        have O1255 : Old Z n0 h1250 := O0.ext E1250
        have g1254 : n0 ≤ b1251 := Nat.le_trans (own_nl O1255) (Nat.le_of_eq g1251.symm)
        have N1253 := Fr.snoc X1253 N0 g1254
        have V1253 : Arv Z h1253 b1251 k1251 .char (3 : Int32) [(.int (nar .char ((ca &&& (65535 : Int32)).toUInt32.toUInt16.toUInt32.toInt32))), (.int (0 : Int32)), (.int (0 : Int32))] (.int (0 : Int32)) := Arv.set Ar1252 q1252 S1252 N1252 H1252 G1252 (fits_nar_char _) W1253 0 rfl (Nat.le_of_ble_eq_true rfl)
        refine own_st (fun u_ k_ => st1253 u_ k_) ?_
        show own_Go p e below _ (T1253.setTop (mkF m 115 #[.val (.int nb), .val (.int ca), .val (.int cb), .val (.int cc), .val (.int (nb &&& (3 : Int32))), .val (.int ((ca &&& (65535 : Int32)).toUInt32.toUInt16.toUInt32.toInt32)), .val (.int ((cb &&& (65535 : Int32)).toUInt32.toUInt16.toUInt32.toInt32)), .val (.int ((cc &&& (65535 : Int32)).toUInt32.toUInt16.toUInt32.toInt32)), .unset, .unset, .unset, .unset] [(.ref b1251), (.ref b1250), (.ref b1250)]))
        refine own_st (fun u_ k_ => XS.dup X1253.here hx rfl (hb hby at_115) rfl rfl k_) ?_
        refine own_st (fun u_ k_ => XS.iconst X1253.here hx rfl (hb hby at_116) k_) ?_
        show own_Go p e below _ (T1253.setTop (mkF m 117 #[.val (.int nb), .val (.int ca), .val (.int cb), .val (.int cc), .val (.int (nb &&& (3 : Int32))), .val (.int ((ca &&& (65535 : Int32)).toUInt32.toUInt16.toUInt32.toInt32)), .val (.int ((cb &&& (65535 : Int32)).toUInt32.toUInt16.toUInt32.toInt32)), .val (.int ((cc &&& (65535 : Int32)).toUInt32.toUInt16.toUInt32.toInt32)), .unset, .unset, .unset, .unset] [(.int (1 : Int32)), (.ref b1251), (.ref b1251), (.ref b1250), (.ref b1250)]))
        refine own_st (fun u_ k_ => XS.iload X1253.here hx rfl (hb hby at_117) rfl k_) ?_
        obtain ⟨cl1256, Ar1256, q1256, S1256, N1256, H1256, G1256⟩ := id V1253
        have hi1256 : ¬ ((1 : Int32) < 0 ∨ cl1256.slots.size ≤ ((1 : Int32)).toNatClampNeg) := inb_of S1256 ⟨by decide, by decide⟩
        obtain ⟨T1257, h1257, X1257, e1257, W1257, st1257⟩ := stC X1253 hx hZ e1253 Ar1256 (j := (1 : Int32)) hi1256 (g := (mkF m 119 #[.val (.int nb), .val (.int ca), .val (.int cb), .val (.int cc), .val (.int (nb &&& (3 : Int32))), .val (.int ((ca &&& (65535 : Int32)).toUInt32.toUInt16.toUInt32.toInt32)), .val (.int ((cb &&& (65535 : Int32)).toUInt32.toUInt16.toUInt32.toInt32)), .val (.int ((cc &&& (65535 : Int32)).toUInt32.toUInt16.toUInt32.toInt32)), .unset, .unset, .unset, .unset] [(.int ((cb &&& (65535 : Int32)).toUInt32.toUInt16.toUInt32.toInt32)), (.int (1 : Int32)), (.ref b1251), (.ref b1251), (.ref b1250), (.ref b1250)])) rfl rfl (hb hby at_119)
        have N1257 := Fr.snoc X1257 N1253 g1254
        have V1257 : Arv Z h1257 b1251 k1251 .char (3 : Int32) [(.int (nar .char ((ca &&& (65535 : Int32)).toUInt32.toUInt16.toUInt32.toInt32))), (.int (nar .char ((cb &&& (65535 : Int32)).toUInt32.toUInt16.toUInt32.toInt32))), (.int (0 : Int32))] (.int (0 : Int32)) := Arv.set Ar1256 q1256 S1256 N1256 H1256 G1256 (fits_nar_char _) W1257 1 rfl (Nat.le_of_ble_eq_true rfl)
        refine own_st (fun u_ k_ => st1257 u_ k_) ?_
        show own_Go p e below _ (T1257.setTop (mkF m 120 #[.val (.int nb), .val (.int ca), .val (.int cb), .val (.int cc), .val (.int (nb &&& (3 : Int32))), .val (.int ((ca &&& (65535 : Int32)).toUInt32.toUInt16.toUInt32.toInt32)), .val (.int ((cb &&& (65535 : Int32)).toUInt32.toUInt16.toUInt32.toInt32)), .val (.int ((cc &&& (65535 : Int32)).toUInt32.toUInt16.toUInt32.toInt32)), .unset, .unset, .unset, .unset] [(.ref b1251), (.ref b1250), (.ref b1250)]))
        refine own_st (fun u_ k_ => XS.dup X1257.here hx rfl (hb hby at_120) rfl rfl k_) ?_
        refine own_st (fun u_ k_ => XS.iconst X1257.here hx rfl (hb hby at_121) k_) ?_
        show own_Go p e below _ (T1257.setTop (mkF m 122 #[.val (.int nb), .val (.int ca), .val (.int cb), .val (.int cc), .val (.int (nb &&& (3 : Int32))), .val (.int ((ca &&& (65535 : Int32)).toUInt32.toUInt16.toUInt32.toInt32)), .val (.int ((cb &&& (65535 : Int32)).toUInt32.toUInt16.toUInt32.toInt32)), .val (.int ((cc &&& (65535 : Int32)).toUInt32.toUInt16.toUInt32.toInt32)), .unset, .unset, .unset, .unset] [(.int (2 : Int32)), (.ref b1251), (.ref b1251), (.ref b1250), (.ref b1250)]))
        refine own_st (fun u_ k_ => XS.iload X1257.here hx rfl (hb hby at_122) rfl k_) ?_
        obtain ⟨cl1258, Ar1258, q1258, S1258, N1258, H1258, G1258⟩ := id V1257
        have hi1258 : ¬ ((2 : Int32) < 0 ∨ cl1258.slots.size ≤ ((2 : Int32)).toNatClampNeg) := inb_of S1258 ⟨by decide, by decide⟩
        obtain ⟨T1259, h1259, X1259, e1259, W1259, st1259⟩ := stC X1257 hx hZ e1257 Ar1258 (j := (2 : Int32)) hi1258 (g := (mkF m 124 #[.val (.int nb), .val (.int ca), .val (.int cb), .val (.int cc), .val (.int (nb &&& (3 : Int32))), .val (.int ((ca &&& (65535 : Int32)).toUInt32.toUInt16.toUInt32.toInt32)), .val (.int ((cb &&& (65535 : Int32)).toUInt32.toUInt16.toUInt32.toInt32)), .val (.int ((cc &&& (65535 : Int32)).toUInt32.toUInt16.toUInt32.toInt32)), .unset, .unset, .unset, .unset] [(.int ((cc &&& (65535 : Int32)).toUInt32.toUInt16.toUInt32.toInt32)), (.int (2 : Int32)), (.ref b1251), (.ref b1251), (.ref b1250), (.ref b1250)])) rfl rfl (hb hby at_124)
        have N1259 := Fr.snoc X1259 N1257 g1254
        have V1259 : Arv Z h1259 b1251 k1251 .char (3 : Int32) [(.int (nar .char ((ca &&& (65535 : Int32)).toUInt32.toUInt16.toUInt32.toInt32))), (.int (nar .char ((cb &&& (65535 : Int32)).toUInt32.toUInt16.toUInt32.toInt32))), (.int (nar .char ((cc &&& (65535 : Int32)).toUInt32.toUInt16.toUInt32.toInt32)))] (.int (0 : Int32)) := Arv.set Ar1258 q1258 S1258 N1258 H1258 G1258 (fits_nar_char _) W1259 2 rfl (Nat.le_of_ble_eq_true rfl)
        refine own_st (fun u_ k_ => st1259 u_ k_) ?_
        show own_Go p e below _ (T1259.setTop (mkF m 125 #[.val (.int nb), .val (.int ca), .val (.int cb), .val (.int cc), .val (.int (nb &&& (3 : Int32))), .val (.int ((ca &&& (65535 : Int32)).toUInt32.toUInt16.toUInt32.toInt32)), .val (.int ((cb &&& (65535 : Int32)).toUInt32.toUInt16.toUInt32.toInt32)), .val (.int ((cc &&& (65535 : Int32)).toUInt32.toUInt16.toUInt32.toInt32)), .unset, .unset, .unset, .unset] [(.ref b1251), (.ref b1250), (.ref b1250)]))
        have F1260 := (Exa.wr W1259 (Exa.wr W1257 (Exa.wr W1253 (Exa.ext E1251 A1250))))
        have F1261 := (Exa.wr W1259 (Exa.wr W1257 (Exa.wr W1253 Y1251)))
        have g1262 : n0 ≤ b1250 := Nat.le_trans (own_nl O0) (Nat.le_of_eq g1250.symm)
        have ne1263 : b1250 ≠ b1251 := (Nat.ne_of_lt (Nat.lt_of_lt_of_le A1250.lt (Nat.le_of_eq g1251.symm)))
        have F1264 := (Fld.other W1259 (Fld.other W1257 (Fld.other W1253 (Fld.ext E1251 F1250_value) (Or.inl ne1263)) (Or.inl ne1263)) (Or.inl ne1263))
        have F1265 := (Fld.other W1259 (Fld.other W1257 (Fld.other W1253 (Fld.ext E1251 F1250_coder) (Or.inl ne1263)) (Or.inl ne1263)) (Or.inl ne1263))
        have O1267 : Old Z n0 h1251 := O1255.ext E1251
        have O1268 : Old Z n0 h1253 := O1267.wr W1253 g1254
        have O1269 : Old Z n0 h1257 := O1268.wr W1257 g1254
        have O1270 : Old Z n0 h1259 := O1269.wr W1259 g1254
        obtain ⟨T1266, v1266, L1266, X1266, hQ1266, st1266⟩ := own_callN X1259 hx hZ (y := own_y_198) rfl hown (own_w hw 5 rfl) (own_w hw 6 rfl) (own_w hw 3 rfl) (own_w hw 7 rfl) own_lm_181 (rmSJ_3 l Z a0 hw [] wcs hS b1250 b1251 k1251 (nar .char ((ca &&& (65535 : Int32)).toUInt32.toUInt16.toUInt32.toInt32)) (nar .char ((cb &&& (65535 : Int32)).toUInt32.toUInt16.toUInt32.toInt32)) (nar .char ((cc &&& (65535 : Int32)).toUInt32.toUInt16.toUInt32.toInt32)) h1259 n0 O1270 F1260 F1261 g1262 F1264 F1265 V1259 (own_c16 _) (own_c16 _) (own_c16 _)) e1259 own_pd_338 (a := b1250) (argsL := [(.ref b1251)]) (rest := [(.ref b1250)]) rfl rfl (g := (mkF m 125 #[.val (.int nb), .val (.int ca), .val (.int cb), .val (.int cc), .val (.int (nb &&& (3 : Int32))), .val (.int ((ca &&& (65535 : Int32)).toUInt32.toUInt16.toUInt32.toInt32)), .val (.int ((cb &&& (65535 : Int32)).toUInt32.toUInt16.toUInt32.toInt32)), .val (.int ((cc &&& (65535 : Int32)).toUInt32.toUInt16.toUInt32.toInt32)), .unset, .unset, .unset, .unset] [(.ref b1251), (.ref b1250), (.ref b1250)])) rfl (by rw [hml]; rfl) rfl (hb hby at_125) (W := 1) rfl (by decide) (by decide) (by decide) (by decide)
        obtain ⟨r_1271, kr_1272, cd_1273, ln_1274, us_1275, rfl, M1266, K1266, z1276, F1277, F1278, F1279, F1280, F1281, pl_1282, pn_1283⟩ := hQ1266
        have N1266 := Fr.app N1259 M1266
        refine own_st (fun u_ k_ => st1266 u_ k_) ?_
        show own_Go p e below _ (T1266.setTop (mkF m 128 #[.val (.int nb), .val (.int ca), .val (.int cb), .val (.int cc), .val (.int (nb &&& (3 : Int32))), .val (.int ((ca &&& (65535 : Int32)).toUInt32.toUInt16.toUInt32.toInt32)), .val (.int ((cb &&& (65535 : Int32)).toUInt32.toUInt16.toUInt32.toInt32)), .val (.int ((cc &&& (65535 : Int32)).toUInt32.toUInt16.toUInt32.toInt32)), .unset, .unset, .unset, .unset] [(.ref b1250)]))
        refine own_st (fun u_ k_ => XS.astore X1266.here hx rfl (hb hby at_128) rfl rfl (l' := #[.val (.int nb), .val (.int ca), .val (.int cb), .val (.int cc), .val (.int (nb &&& (3 : Int32))), .val (.int ((ca &&& (65535 : Int32)).toUInt32.toUInt16.toUInt32.toInt32)), .val (.int ((cb &&& (65535 : Int32)).toUInt32.toUInt16.toUInt32.toInt32)), .val (.int ((cc &&& (65535 : Int32)).toUInt32.toUInt16.toUInt32.toInt32)), .val (.ref b1250), .unset, .unset, .unset]) rfl k_) ?_
        refine own_st (fun u_ k_ => XS.aload X1266.here hx rfl (hb hby at_130) rfl rfl k_) ?_
        show own_Go p e below _ (T1266.setTop (mkF m 132 #[.val (.int nb), .val (.int ca), .val (.int cb), .val (.int cc), .val (.int (nb &&& (3 : Int32))), .val (.int ((ca &&& (65535 : Int32)).toUInt32.toUInt16.toUInt32.toInt32)), .val (.int ((cb &&& (65535 : Int32)).toUInt32.toUInt16.toUInt32.toInt32)), .val (.int ((cc &&& (65535 : Int32)).toUInt32.toUInt16.toUInt32.toInt32)), .val (.ref b1250), .unset, .unset, .unset] [(.ref b1250)]))
        have O1285 : Old Z n0 T1266.heap := O1270.keep K1266 (allS g1262 all0)
        have R1286 : CHr Z own_EL s.vm h0 s.vm h1250 := R0.trans (CHr.ext E1250 R0.1)
        have R1287 : CHr Z own_EL s.vm h0 s.vm h1251 := R1286.trans (CHr.ext E1251 R1286.1)
        have sf_1289 : Safe Z own_EL s.vm h1251 b1251 := Safe.exa hZ_0.alike Y1251 own_lm_346 own_lm_202
        have R1288 : CHr Z own_EL s.vm h0 s.vm h1253 := R1287.trans (CHr.wr W1253 sf_1289 R1287.1)
        have F1291 := (Exa.wr W1253 Y1251)
        have sf_1292 : Safe Z own_EL s.vm h1253 b1251 := Safe.exa hZ_0.alike F1291 own_lm_346 own_lm_202
        have R1290 : CHr Z own_EL s.vm h0 s.vm h1257 := R1288.trans (CHr.wr W1257 sf_1292 R1288.1)
        have F1294 := (Exa.wr W1257 F1291)
        have sf_1295 : Safe Z own_EL s.vm h1257 b1251 := Safe.exa hZ_0.alike F1294 own_lm_346 own_lm_202
        have R1293 : CHr Z own_EL s.vm h0 s.vm h1259 := R1290.trans (CHr.wr W1259 sf_1295 R1290.1)
        have sf_1297 : Safe Z own_EL s.vm h0 b1250 := Safe.new (Nat.le_of_eq g1250.symm)
        have sf_1298 : Safe Z own_EL s.vm h1250 b1250 := Safe.ext E1250 R0.1 sf_1297
        have sf_1299 : Safe Z own_EL s.vm h1251 b1250 := Safe.ext E1251 R1286.1 sf_1298
        have sf_1300 : Safe Z own_EL s.vm h1253 b1250 := Safe.wr W1253 sf_1289 R1287.1 sf_1299
        have sf_1301 : Safe Z own_EL s.vm h1257 b1250 := Safe.wr W1257 sf_1292 R1288.1 sf_1300
        have sf_1302 : Safe Z own_EL s.vm h1259 b1250 := Safe.wr W1259 sf_1295 R1290.1 sf_1301
        have R1296 : CHr Z own_EL s.vm h0 s.vm T1266.heap := R1293.trans (CHr.keep K1266 (sfS sf_1302 sf0) R1293.1)
        obtain ⟨T1284, v1284, L1284, X1284, Si1284, hZ1284, hown1284, hQ1284, hr1284, st1284⟩ := own_callSH X1266 hx hZ hSi0 (Nat.le_trans (Nat.zero_le _) (Nat.le_trans (Nat.le_trans (Nat.le_trans (Nat.le_trans (Nat.le_trans E1250.1 E1251.1) (Nat.le_of_eq W1253.size.symm)) (Nat.le_of_eq W1257.size.symm)) (Nat.le_of_eq W1259.size.symm)) K1266.1)) (own_hEL hw) R1296.1 own_sf0 (y := own_y_298) hown (own_w hw 23 rfl) (own_w hw 24 rfl) (own_w hw 25 rfl) (own_w hw 26 rfl) own_lm_293 (rmAt l Z a0 hw [] wcs hS b1250 T1266.heap n0 O1285 ) rfl own_pd_339 (argsL := [(.ref b1250)]) (rest := []) rfl rfl (g := (mkF m 132 #[.val (.int nb), .val (.int ca), .val (.int cb), .val (.int cc), .val (.int (nb &&& (3 : Int32))), .val (.int ((ca &&& (65535 : Int32)).toUInt32.toUInt16.toUInt32.toInt32)), .val (.int ((cb &&& (65535 : Int32)).toUInt32.toUInt16.toUInt32.toInt32)), .val (.int ((cc &&& (65535 : Int32)).toUInt32.toUInt16.toUInt32.toInt32)), .val (.ref b1250), .unset, .unset, .unset] [(.ref b1250)])) rfl (by rw [hml]; rfl) rfl (hb hby at_132) (W := 0) rfl (by decide) (by decide) (by decide) (by decide)
        obtain ⟨qa_1303, qt_1304, rfl, M1284, K1284, z1305, z1306, F1307, F1308, F1309, F1310, F1311, F1312⟩ := hQ1284
        have N1284 := Fr.app N1266 M1284
        refine own_st (fun u_ k_ => st1284 u_ k_) ?_
        show own_Go p e below _ (T1284.setTop (mkF m 135 #[.val (.int nb), .val (.int ca), .val (.int cb), .val (.int cc), .val (.int (nb &&& (3 : Int32))), .val (.int ((ca &&& (65535 : Int32)).toUInt32.toUInt16.toUInt32.toInt32)), .val (.int ((cb &&& (65535 : Int32)).toUInt32.toUInt16.toUInt32.toInt32)), .val (.int ((cc &&& (65535 : Int32)).toUInt32.toUInt16.toUInt32.toInt32)), .val (.ref b1250), .unset, .unset, .unset] [(.ref qa_1303)]))
        refine own_st (fun u_ k_ => XS.astore X1284.here hx rfl (hb hby at_135) rfl rfl (l' := #[.val (.int nb), .val (.int ca), .val (.int cb), .val (.int cc), .val (.int (nb &&& (3 : Int32))), .val (.int ((ca &&& (65535 : Int32)).toUInt32.toUInt16.toUInt32.toInt32)), .val (.int ((cb &&& (65535 : Int32)).toUInt32.toUInt16.toUInt32.toInt32)), .val (.int ((cc &&& (65535 : Int32)).toUInt32.toUInt16.toUInt32.toInt32)), .val (.ref b1250), .val (.ref qa_1303), .unset, .unset]) rfl k_) ?_
        refine own_st (fun u_ k_ => XS.aload X1284.here hx rfl (hb hby at_137) rfl rfl k_) ?_
        show own_Go p e below _ (T1284.setTop (mkF m 139 #[.val (.int nb), .val (.int ca), .val (.int cb), .val (.int cc), .val (.int (nb &&& (3 : Int32))), .val (.int ((ca &&& (65535 : Int32)).toUInt32.toUInt16.toUInt32.toInt32)), .val (.int ((cb &&& (65535 : Int32)).toUInt32.toUInt16.toUInt32.toInt32)), .val (.int ((cc &&& (65535 : Int32)).toUInt32.toUInt16.toUInt32.toInt32)), .val (.ref b1250), .val (.ref qa_1303), .unset, .unset] [(.ref qa_1303)]))
        have O1314 : Old Z n0 T1284.heap := O1285.keep K1284 all0
        obtain ⟨T1313, v1313, L1313, X1313, hQ1313, st1313⟩ := own_callV X1284 hx hZ1284 (y := own_y_302) (z := own_y_302) hown1284 (own_w hw 58 rfl) (own_w hw 59 rfl) (notFace_of_selects (args := #[]) (mvT hZ1284 (own_w hw 61 rfl))) (own_w hw 61 rfl) (own_w hw 60 rfl) (own_w hw 25 rfl) (own_w hw 62 rfl) own_lm_293 (rmGdefinition l Z a0 hw [] wcs hS qa_1303 T1284.heap n0 O1314 F1309) rfl F1307 own_pd_340 (argsL := []) (rest := []) rfl rfl (g := (mkF m 139 #[.val (.int nb), .val (.int ca), .val (.int cb), .val (.int cc), .val (.int (nb &&& (3 : Int32))), .val (.int ((ca &&& (65535 : Int32)).toUInt32.toUInt16.toUInt32.toInt32)), .val (.int ((cb &&& (65535 : Int32)).toUInt32.toUInt16.toUInt32.toInt32)), .val (.int ((cc &&& (65535 : Int32)).toUInt32.toUInt16.toUInt32.toInt32)), .val (.ref b1250), .val (.ref qa_1303), .unset, .unset] [(.ref qa_1303)])) rfl (by rw [hml]; rfl) rfl (hb hby at_139) (W := 0) rfl (by decide) (by decide) (by decide) (by decide)
        obtain ⟨rfl, M1313, e1313⟩ := hQ1313
        have N1313 := Fr.app N1284 M1313
        refine own_st (fun u_ k_ => st1313 u_ k_) ?_
        show own_Go p e below _ (T1313.setTop (mkF m 142 #[.val (.int nb), .val (.int ca), .val (.int cb), .val (.int cc), .val (.int (nb &&& (3 : Int32))), .val (.int ((ca &&& (65535 : Int32)).toUInt32.toUInt16.toUInt32.toInt32)), .val (.int ((cb &&& (65535 : Int32)).toUInt32.toUInt16.toUInt32.toInt32)), .val (.int ((cc &&& (65535 : Int32)).toUInt32.toUInt16.toUInt32.toInt32)), .val (.ref b1250), .val (.ref qa_1303), .unset, .unset] [.null]))
        refine own_st (fun u_ k_ => XS.ifnullYes X1313.here hx rfl (pc0 := 142) (pc' := 147) rfl (hb hby at_142) rfl (by decide) (by decide) k_) ?_
        refine own_st (fun u_ k_ => XS.aload X1313.here hx rfl (hb hby at_147) rfl rfl k_) ?_
        show own_Go p e below _ (T1313.setTop (mkF m 149 #[.val (.int nb), .val (.int ca), .val (.int cb), .val (.int cc), .val (.int (nb &&& (3 : Int32))), .val (.int ((ca &&& (65535 : Int32)).toUInt32.toUInt16.toUInt32.toInt32)), .val (.int ((cb &&& (65535 : Int32)).toUInt32.toUInt16.toUInt32.toInt32)), .val (.int ((cc &&& (65535 : Int32)).toUInt32.toUInt16.toUInt32.toInt32)), .val (.ref b1250), .val (.ref qa_1303), .unset, .unset] [(.ref qa_1303)]))
        obtain ⟨T1315, v1315, L1315, X1315, hQ1315, st1315⟩ := own_callV X1313 hx hZ1284 (y := own_y_310) (z := own_y_310) hown1284 (own_w hw 63 rfl) (own_w hw 64 rfl) (notFace_of_selects (args := #[]) (mvT hZ1284 (own_w hw 66 rfl))) (own_w hw 66 rfl) (own_w hw 65 rfl) (own_w hw 25 rfl) (own_w hw 67 rfl) own_lm_293 (rmGbean l Z a0 hw [] wcs hS qa_1303 T1284.heap n0 O1314 F1311) e1313 F1307 own_pd_341 (argsL := []) (rest := []) rfl rfl (g := (mkF m 149 #[.val (.int nb), .val (.int ca), .val (.int cb), .val (.int cc), .val (.int (nb &&& (3 : Int32))), .val (.int ((ca &&& (65535 : Int32)).toUInt32.toUInt16.toUInt32.toInt32)), .val (.int ((cb &&& (65535 : Int32)).toUInt32.toUInt16.toUInt32.toInt32)), .val (.int ((cc &&& (65535 : Int32)).toUInt32.toUInt16.toUInt32.toInt32)), .val (.ref b1250), .val (.ref qa_1303), .unset, .unset] [(.ref qa_1303)])) rfl (by rw [hml]; rfl) rfl (hb hby at_149) (W := 0) rfl (by decide) (by decide) (by decide) (by decide)
        obtain ⟨rfl, M1315, e1315⟩ := hQ1315
        have N1315 := Fr.app N1313 M1315
        refine own_st (fun u_ k_ => st1315 u_ k_) ?_
        show own_Go p e below _ (T1315.setTop (mkF m 152 #[.val (.int nb), .val (.int ca), .val (.int cb), .val (.int cc), .val (.int (nb &&& (3 : Int32))), .val (.int ((ca &&& (65535 : Int32)).toUInt32.toUInt16.toUInt32.toInt32)), .val (.int ((cb &&& (65535 : Int32)).toUInt32.toUInt16.toUInt32.toInt32)), .val (.int ((cc &&& (65535 : Int32)).toUInt32.toUInt16.toUInt32.toInt32)), .val (.ref b1250), .val (.ref qa_1303), .unset, .unset] [.null]))
        refine own_st (fun u_ k_ => XS.ifnullYes X1315.here hx rfl (pc0 := 152) (pc' := 157) rfl (hb hby at_152) rfl (by decide) (by decide) k_) ?_
        refine own_st (fun u_ k_ => XS.aload X1315.here hx rfl (hb hby at_157) rfl rfl k_) ?_
        show own_Go p e below _ (T1315.setTop (mkF m 159 #[.val (.int nb), .val (.int ca), .val (.int cb), .val (.int cc), .val (.int (nb &&& (3 : Int32))), .val (.int ((ca &&& (65535 : Int32)).toUInt32.toUInt16.toUInt32.toInt32)), .val (.int ((cb &&& (65535 : Int32)).toUInt32.toUInt16.toUInt32.toInt32)), .val (.int ((cc &&& (65535 : Int32)).toUInt32.toUInt16.toUInt32.toInt32)), .val (.ref b1250), .val (.ref qa_1303), .unset, .unset] [(.ref qa_1303)]))
        obtain ⟨T1316, v1316, L1316, X1316, hQ1316, st1316⟩ := own_callV X1315 hx hZ1284 (y := own_y_306) (z := own_y_306) hown1284 (own_w hw 68 rfl) (own_w hw 69 rfl) (notFace_of_selects (args := #[]) (mvT hZ1284 (own_w hw 71 rfl))) (own_w hw 71 rfl) (own_w hw 70 rfl) (own_w hw 25 rfl) (own_w hw 72 rfl) own_lm_293 (rmGvalue l Z a0 hw [] wcs hS qa_1303 qt_1304 T1284.heap n0 O1314 F1310) e1315 F1307 own_pd_342 (argsL := []) (rest := []) rfl rfl (g := (mkF m 159 #[.val (.int nb), .val (.int ca), .val (.int cb), .val (.int cc), .val (.int (nb &&& (3 : Int32))), .val (.int ((ca &&& (65535 : Int32)).toUInt32.toUInt16.toUInt32.toInt32)), .val (.int ((cb &&& (65535 : Int32)).toUInt32.toUInt16.toUInt32.toInt32)), .val (.int ((cc &&& (65535 : Int32)).toUInt32.toUInt16.toUInt32.toInt32)), .val (.ref b1250), .val (.ref qa_1303), .unset, .unset] [(.ref qa_1303)])) rfl (by rw [hml]; rfl) rfl (hb hby at_159) (W := 0) rfl (by decide) (by decide) (by decide) (by decide)
        obtain ⟨rfl, M1316, e1316⟩ := hQ1316
        have N1316 := Fr.app N1315 M1316
        refine own_st (fun u_ k_ => st1316 u_ k_) ?_
        show own_Go p e below _ (T1316.setTop (mkF m 162 #[.val (.int nb), .val (.int ca), .val (.int cb), .val (.int cc), .val (.int (nb &&& (3 : Int32))), .val (.int ((ca &&& (65535 : Int32)).toUInt32.toUInt16.toUInt32.toInt32)), .val (.int ((cb &&& (65535 : Int32)).toUInt32.toUInt16.toUInt32.toInt32)), .val (.int ((cc &&& (65535 : Int32)).toUInt32.toUInt16.toUInt32.toInt32)), .val (.ref b1250), .val (.ref qa_1303), .unset, .unset] [(.ref qt_1304)]))
        refine own_st (fun u_ k_ => XS.astore X1316.here hx rfl (hb hby at_162) rfl rfl (l' := #[.val (.int nb), .val (.int ca), .val (.int cb), .val (.int cc), .val (.int (nb &&& (3 : Int32))), .val (.int ((ca &&& (65535 : Int32)).toUInt32.toUInt16.toUInt32.toInt32)), .val (.int ((cb &&& (65535 : Int32)).toUInt32.toUInt16.toUInt32.toInt32)), .val (.int ((cc &&& (65535 : Int32)).toUInt32.toUInt16.toUInt32.toInt32)), .val (.ref b1250), .val (.ref qa_1303), .val (.ref qt_1304), .unset]) rfl k_) ?_
        refine own_st (fun u_ k_ => XS.aload X1316.here hx rfl (hb hby at_164) rfl rfl k_) ?_
        show own_Go p e below _ (T1316.setTop (mkF m 166 #[.val (.int nb), .val (.int ca), .val (.int cb), .val (.int cc), .val (.int (nb &&& (3 : Int32))), .val (.int ((ca &&& (65535 : Int32)).toUInt32.toUInt16.toUInt32.toInt32)), .val (.int ((cb &&& (65535 : Int32)).toUInt32.toUInt16.toUInt32.toInt32)), .val (.int ((cc &&& (65535 : Int32)).toUInt32.toUInt16.toUInt32.toInt32)), .val (.ref b1250), .val (.ref qa_1303), .val (.ref qt_1304), .unset] [(.ref qt_1304)]))
        obtain ⟨T1317, X1317, e1317, st1317⟩ := instY X1316 hx hZ1284 hown1284 (own_w hw 73 rfl) e1316 (Ins.self F1308) (g := (mkF m 166 #[.val (.int nb), .val (.int ca), .val (.int cb), .val (.int cc), .val (.int (nb &&& (3 : Int32))), .val (.int ((ca &&& (65535 : Int32)).toUInt32.toUInt16.toUInt32.toInt32)), .val (.int ((cb &&& (65535 : Int32)).toUInt32.toUInt16.toUInt32.toInt32)), .val (.int ((cc &&& (65535 : Int32)).toUInt32.toUInt16.toUInt32.toInt32)), .val (.ref b1250), .val (.ref qa_1303), .val (.ref qt_1304), .unset] [(.ref qt_1304)])) rfl rfl (hb hby at_166)
        refine own_st (fun u_ k_ => st1317 u_ k_) ?_
        show own_Go p e below _ (T1317.setTop (mkF m 169 #[.val (.int nb), .val (.int ca), .val (.int cb), .val (.int cc), .val (.int (nb &&& (3 : Int32))), .val (.int ((ca &&& (65535 : Int32)).toUInt32.toUInt16.toUInt32.toInt32)), .val (.int ((cb &&& (65535 : Int32)).toUInt32.toUInt16.toUInt32.toInt32)), .val (.int ((cc &&& (65535 : Int32)).toUInt32.toUInt16.toUInt32.toInt32)), .val (.ref b1250), .val (.ref qa_1303), .val (.ref qt_1304), .unset] [(.int (1 : Int32))]))
        refine own_st (fun u_ k_ => XS.ifYes X1317.here hx rfl (pc0 := 169) (pc' := 174) rfl (hb hby at_169) rfl (XT.i0_ne_t (by decide)) (by decide) (by decide) k_) ?_
        refine own_st (fun u_ k_ => XS.aload X1317.here hx rfl (hb hby at_174) rfl rfl k_) ?_
        show own_Go p e below _ (T1317.setTop (mkF m 176 #[.val (.int nb), .val (.int ca), .val (.int cb), .val (.int cc), .val (.int (nb &&& (3 : Int32))), .val (.int ((ca &&& (65535 : Int32)).toUInt32.toUInt16.toUInt32.toInt32)), .val (.int ((cb &&& (65535 : Int32)).toUInt32.toUInt16.toUInt32.toInt32)), .val (.int ((cc &&& (65535 : Int32)).toUInt32.toUInt16.toUInt32.toInt32)), .val (.ref b1250), .val (.ref qa_1303), .val (.ref qt_1304), .unset] [(.ref qt_1304)]))
        obtain ⟨T1318, X1318, e1318, st1318⟩ := castY X1317 hx hZ1284 hown1284 (own_w hw 73 rfl) e1317 (Ins.self F1308) (g := (mkF m 176 #[.val (.int nb), .val (.int ca), .val (.int cb), .val (.int cc), .val (.int (nb &&& (3 : Int32))), .val (.int ((ca &&& (65535 : Int32)).toUInt32.toUInt16.toUInt32.toInt32)), .val (.int ((cb &&& (65535 : Int32)).toUInt32.toUInt16.toUInt32.toInt32)), .val (.int ((cc &&& (65535 : Int32)).toUInt32.toUInt16.toUInt32.toInt32)), .val (.ref b1250), .val (.ref qa_1303), .val (.ref qt_1304), .unset] [(.ref qt_1304)])) rfl rfl (hb hby at_176)
        refine own_st (fun u_ k_ => st1318 u_ k_) ?_
        show own_Go p e below _ (T1318.setTop (mkF m 179 #[.val (.int nb), .val (.int ca), .val (.int cb), .val (.int cc), .val (.int (nb &&& (3 : Int32))), .val (.int ((ca &&& (65535 : Int32)).toUInt32.toUInt16.toUInt32.toInt32)), .val (.int ((cb &&& (65535 : Int32)).toUInt32.toUInt16.toUInt32.toInt32)), .val (.int ((cc &&& (65535 : Int32)).toUInt32.toUInt16.toUInt32.toInt32)), .val (.ref b1250), .val (.ref qa_1303), .val (.ref qt_1304), .unset] [(.ref qt_1304)]))
        obtain ⟨T1319, v1319, L1319, X1319, hQ1319, st1319⟩ := own_callV X1318 hx hZ1284 (y := own_y_314) (z := own_y_314) hown1284 (own_w hw 75 rfl) (own_w hw 76 rfl) (notFace_of_selects (args := #[]) (mvT hZ1284 (own_w hw 78 rfl))) (own_w hw 78 rfl) (own_w hw 77 rfl) (own_w hw 31 rfl) (own_w hw 79 rfl) own_lm_289 (rmGt l Z a0 hw [] wcs hS qt_1304 b1250 T1284.heap n0 O1314 F1312) e1318 F1308 own_pd_343 (argsL := []) (rest := []) rfl rfl (g := (mkF m 179 #[.val (.int nb), .val (.int ca), .val (.int cb), .val (.int cc), .val (.int (nb &&& (3 : Int32))), .val (.int ((ca &&& (65535 : Int32)).toUInt32.toUInt16.toUInt32.toInt32)), .val (.int ((cb &&& (65535 : Int32)).toUInt32.toUInt16.toUInt32.toInt32)), .val (.int ((cc &&& (65535 : Int32)).toUInt32.toUInt16.toUInt32.toInt32)), .val (.ref b1250), .val (.ref qa_1303), .val (.ref qt_1304), .unset] [(.ref qt_1304)])) rfl (by rw [hml]; rfl) rfl (hb hby at_179) (W := 0) rfl (by decide) (by decide) (by decide) (by decide)
        obtain ⟨rfl, M1319, e1319⟩ := hQ1319
        have N1319 := Fr.app N1316 M1319
        refine own_st (fun u_ k_ => st1319 u_ k_) ?_
        show own_Go p e below _ (T1319.setTop (mkF m 182 #[.val (.int nb), .val (.int ca), .val (.int cb), .val (.int cc), .val (.int (nb &&& (3 : Int32))), .val (.int ((ca &&& (65535 : Int32)).toUInt32.toUInt16.toUInt32.toInt32)), .val (.int ((cb &&& (65535 : Int32)).toUInt32.toUInt16.toUInt32.toInt32)), .val (.int ((cc &&& (65535 : Int32)).toUInt32.toUInt16.toUInt32.toInt32)), .val (.ref b1250), .val (.ref qa_1303), .val (.ref qt_1304), .unset] [(.ref b1250)]))
        refine own_st (fun u_ k_ => XS.astore X1319.here hx rfl (hb hby at_182) rfl rfl (l' := #[.val (.int nb), .val (.int ca), .val (.int cb), .val (.int cc), .val (.int (nb &&& (3 : Int32))), .val (.int ((ca &&& (65535 : Int32)).toUInt32.toUInt16.toUInt32.toInt32)), .val (.int ((cb &&& (65535 : Int32)).toUInt32.toUInt16.toUInt32.toInt32)), .val (.int ((cc &&& (65535 : Int32)).toUInt32.toUInt16.toUInt32.toInt32)), .val (.ref b1250), .val (.ref qa_1303), .val (.ref qt_1304), .val (.ref b1250)]) rfl k_) ?_
        refine own_st (fun u_ k_ => XS.aload X1319.here hx rfl (hb hby at_184) rfl rfl k_) ?_
        show own_Go p e below _ (T1319.setTop (mkF m 186 #[.val (.int nb), .val (.int ca), .val (.int cb), .val (.int cc), .val (.int (nb &&& (3 : Int32))), .val (.int ((ca &&& (65535 : Int32)).toUInt32.toUInt16.toUInt32.toInt32)), .val (.int ((cb &&& (65535 : Int32)).toUInt32.toUInt16.toUInt32.toInt32)), .val (.int ((cc &&& (65535 : Int32)).toUInt32.toUInt16.toUInt32.toInt32)), .val (.ref b1250), .val (.ref qa_1303), .val (.ref qt_1304), .val (.ref b1250)] [(.ref b1250)]))
        have F1320 := (F1277.keep K1284)
        have F1321 := (F1279.keep K1284 nin0)
        have F1322 := (F1278.keep K1284 nin0)
        have F1323 := (F1281.keep K1284 nin0)
        obtain ⟨T1324, v1324, L1324, X1324, hQ1324, st1324⟩ := own_callV X1319 hx hZ1284 (y := own_y_330) (z := own_y_330) hown1284 (own_w hw 80 rfl) (own_w hw 81 rfl) (notFace_of_selects (args := #[]) (mvT hZ1284 (own_w hw 83 rfl))) (own_w hw 83 rfl) (own_w hw 82 rfl) (own_w hw 3 rfl) (own_w hw 84 rfl) own_lm_181 (rmLn l Z a0 hw [] wcs hS b1250 r_1271 kr_1272 cd_1273 ln_1274 us_1275 T1284.heap n0 O1314 F1320 F1321 F1322 F1323 pn_1283) e1319 F1320 own_pd_344 (argsL := []) (rest := []) rfl rfl (g := (mkF m 186 #[.val (.int nb), .val (.int ca), .val (.int cb), .val (.int cc), .val (.int (nb &&& (3 : Int32))), .val (.int ((ca &&& (65535 : Int32)).toUInt32.toUInt16.toUInt32.toInt32)), .val (.int ((cb &&& (65535 : Int32)).toUInt32.toUInt16.toUInt32.toInt32)), .val (.int ((cc &&& (65535 : Int32)).toUInt32.toUInt16.toUInt32.toInt32)), .val (.ref b1250), .val (.ref qa_1303), .val (.ref qt_1304), .val (.ref b1250)] [(.ref b1250)])) rfl (by rw [hml]; rfl) rfl (hb hby at_186) (W := 0) rfl (by decide) (by decide) (by decide) (by decide)
        obtain ⟨rfl, M1324, e1324⟩ := hQ1324
        have N1324 := Fr.app N1319 M1324
        refine own_st (fun u_ k_ => st1324 u_ k_) ?_
        show own_Go p e below _ (T1324.setTop (mkF m 189 #[.val (.int nb), .val (.int ca), .val (.int cb), .val (.int cc), .val (.int (nb &&& (3 : Int32))), .val (.int ((ca &&& (65535 : Int32)).toUInt32.toUInt16.toUInt32.toInt32)), .val (.int ((cb &&& (65535 : Int32)).toUInt32.toUInt16.toUInt32.toInt32)), .val (.int ((cc &&& (65535 : Int32)).toUInt32.toUInt16.toUInt32.toInt32)), .val (.ref b1250), .val (.ref qa_1303), .val (.ref qt_1304), .val (.ref b1250)] [(.int (ln_1274 >>> (cd_1273 &&& 31)))]))
        refine own_st (fun u_ k_ => XS.iload X1324.here hx rfl (hb hby at_189) rfl k_) ?_
        refine own_st (fun u_ k_ => XS.icmpNo X1324.here hx rfl (hb hby at_191) rfl (XT.ii_ne_f (pl_1282.trans (own_and3 hc1047 hc1100 hc1171).symm)) k_) ?_
        show own_Go p e below _ (T1324.setTop (mkF m 194 #[.val (.int nb), .val (.int ca), .val (.int cb), .val (.int cc), .val (.int (nb &&& (3 : Int32))), .val (.int ((ca &&& (65535 : Int32)).toUInt32.toUInt16.toUInt32.toInt32)), .val (.int ((cb &&& (65535 : Int32)).toUInt32.toUInt16.toUInt32.toInt32)), .val (.int ((cc &&& (65535 : Int32)).toUInt32.toUInt16.toUInt32.toInt32)), .val (.ref b1250), .val (.ref qa_1303), .val (.ref qt_1304), .val (.ref b1250)] []))
        refine own_st (fun u_ k_ => XS.aload X1324.here hx rfl (hb hby at_194) rfl rfl k_) ?_
        refine own_st (fun u_ k_ => XS.aload X1324.here hx rfl (hb hby at_196) rfl rfl k_) ?_
        show own_Go p e below _ (T1324.setTop (mkF m 198 #[.val (.int nb), .val (.int ca), .val (.int cb), .val (.int cc), .val (.int (nb &&& (3 : Int32))), .val (.int ((ca &&& (65535 : Int32)).toUInt32.toUInt16.toUInt32.toInt32)), .val (.int ((cb &&& (65535 : Int32)).toUInt32.toUInt16.toUInt32.toInt32)), .val (.int ((cc &&& (65535 : Int32)).toUInt32.toUInt16.toUInt32.toInt32)), .val (.ref b1250), .val (.ref qa_1303), .val (.ref qt_1304), .val (.ref b1250)] [(.ref b1250), (.ref b1250)]))
        obtain ⟨T1325, v1325, L1325, X1325, hQ1325, st1325⟩ := own_callV X1324 hx hZ1284 (y := own_y_336) (z := own_y_336) hown1284 (own_w hw 91 rfl) (own_w hw 92 rfl) (notFace_of_selects (args := #[]) (mvT hZ1284 (own_w hw 94 rfl))) (own_w hw 94 rfl) (own_w hw 93 rfl) (own_w hw 3 rfl) (own_w hw 95 rfl) own_lm_181 (rmEq l Z a0 hw [] wcs hS b1250 T1284.heap n0 O1314 ) e1324 F1320 own_pd_345 (argsL := [(.ref b1250)]) (rest := []) rfl rfl (g := (mkF m 198 #[.val (.int nb), .val (.int ca), .val (.int cb), .val (.int cc), .val (.int (nb &&& (3 : Int32))), .val (.int ((ca &&& (65535 : Int32)).toUInt32.toUInt16.toUInt32.toInt32)), .val (.int ((cb &&& (65535 : Int32)).toUInt32.toUInt16.toUInt32.toInt32)), .val (.int ((cc &&& (65535 : Int32)).toUInt32.toUInt16.toUInt32.toInt32)), .val (.ref b1250), .val (.ref qa_1303), .val (.ref qt_1304), .val (.ref b1250)] [(.ref b1250), (.ref b1250)])) rfl (by rw [hml]; rfl) rfl (hb hby at_198) (W := 0) rfl (by decide) (by decide) (by decide) (by decide)
        obtain ⟨rfl, M1325, e1325⟩ := hQ1325
        have N1325 := Fr.app N1324 M1325
        refine own_st (fun u_ k_ => st1325 u_ k_) ?_
        show own_Go p e below _ (T1325.setTop (mkF m 201 #[.val (.int nb), .val (.int ca), .val (.int cb), .val (.int cc), .val (.int (nb &&& (3 : Int32))), .val (.int ((ca &&& (65535 : Int32)).toUInt32.toUInt16.toUInt32.toInt32)), .val (.int ((cb &&& (65535 : Int32)).toUInt32.toUInt16.toUInt32.toInt32)), .val (.int ((cc &&& (65535 : Int32)).toUInt32.toUInt16.toUInt32.toInt32)), .val (.ref b1250), .val (.ref qa_1303), .val (.ref qt_1304), .val (.ref b1250)] [(.int (1 : Int32))]))
        refine own_st (fun u_ k_ => XS.ifNo X1325.here hx rfl (hb hby at_201) rfl (XT.i0_eq_f (by decide)) k_) ?_
        refine own_st (fun u_ k_ => XS.iconst X1325.here hx rfl (hb hby at_204) k_) ?_
        show own_Go p e below _ (T1325.setTop (mkF m 205 #[.val (.int nb), .val (.int ca), .val (.int cb), .val (.int cc), .val (.int (nb &&& (3 : Int32))), .val (.int ((ca &&& (65535 : Int32)).toUInt32.toUInt16.toUInt32.toInt32)), .val (.int ((cb &&& (65535 : Int32)).toUInt32.toUInt16.toUInt32.toInt32)), .val (.int ((cc &&& (65535 : Int32)).toUInt32.toUInt16.toUInt32.toInt32)), .val (.ref b1250), .val (.ref qa_1303), .val (.ref qt_1304), .val (.ref b1250)] [(.int (1 : Int32))]))
        refine own_st (fun u_ k_ => XS.goto X1325.here hx rfl (pc0 := 205) (pc' := 209) rfl (hb hby at_205) (by decide) (by decide) k_) ?_
        have K1326 : Keep h0 h1250 [] := (Keep.refl h0 []).ext E1250
        have K1327 : Keep h0 h1251 [] := K1326.ext E1251
        have z1329 : h0.size ≤ b1251 := Nat.le_trans E1250.1 (Nat.le_of_eq g1251.symm)
        have K1328 : Keep h0 h1253 [] := K1327.wr W1253 (Or.inr z1329)
        have K1330 : Keep h0 h1257 [] := K1328.wr W1257 (Or.inr z1329)
        have K1331 : Keep h0 h1259 [] := K1330.wr W1259 (Or.inr z1329)
        have z1333 : h0.size ≤ b1250 := Nat.le_trans (Nat.le_refl _) (Nat.le_of_eq g1250.symm)
        have K1332 : Keep h0 T1266.heap [] := K1331.trans K1266 (allS (Or.inr z1333) all0)
        have K1334 : Keep h0 T1284.heap [] := K1332.trans K1284 all0
        have R1335 : CHr Z own_EL s.vm h0 T1284.vm T1284.heap := R1296.trans hr1284
        exact own_retXH X1325 Si1284 (Nat.le_refl _) e1325 hZ1284 (own_hEL hw) hs0 R1335 hx hlk hret rfl (Or.inl ⟨rfl, by simp, _, rfl⟩) (hb hby at_209) (by decide) (by decide) (show Qrm0 Z wcs nb ca cb cc h0 n0 (some (.int (1 : Int32))) T1325.heap _ from (by rw [e1325]; exact ⟨rfl, N1325, K1334⟩))
set_option maxRecDepth 65536 in
set_option maxHeartbeats 40000000 in
theorem comes_1 {Post : Tables → Env → Array Value → State → Outcome → State → Prop} (hpost : ∀ tb e args s v u, (limb_1_1.after args s (.returned v) u = true ∧ limb_1_2.after args s (.returned v) u = true ∧ True) → ReturnedEndW s (.returned v) u (Jvm.fieldLocs frame_1_writes args s ++ Jvm.arrayLocs frame_1_arrays args s ++ Jvm.staticLocs frame_1_statics s) 24 2176 → Post tb e args s (.returned v) u) :
    ArmFor flags0 classFile x code maxLocals ret World_1 tables_1 room_1 Calls_1 rest_1 Pre_1 Post := by
  intro l hfl _ _ p e ha hc hk s m args below hf hA hF happ hP
  obtain ⟨hcalls, hrest, hpre⟩ := hP
  obtain ⟨-, -, -, hnamed, -, -, -, hat⟩ := (Spec.applies_iff hf).mp happ
  obtain ⟨hg, hn⟩ := and_e (Cond.before_iff.mp (show (Jvm.Cond.and given_1 narrow_1).before args s = true from hpre))
  obtain ⟨hcount, hr0⟩ := and_e hg
  obtain ⟨ha0, hr1⟩ := and_e hr0
  obtain ⟨ha1, hr2⟩ := and_e hr1
  obtain ⟨ha2, hr3⟩ := and_e hr2
  have ha3 := hr3
  obtain ⟨w_0, w_1, w_2, w_3, rfl⟩ : ∃ w_0 w_1 w_2 w_3 : Value, args = #[w_0, w_1, w_2, w_3] := by
    have hs : args.size = 4 := by simpa [Cond.value, given_1] using hcount
    obtain ⟨L⟩ := args
    match L, hs with
    | [w_0, w_1, w_2, w_3], _ => exact ⟨w_0, w_1, w_2, w_3, rfl⟩
  have hw := fun d (hd : d ∈ tables_1) => atoms_spec (ws := Jvm.Cond.code x code maxLocals ret :: tables_1) hat d (List.mem_cons_of_mem _ hd)
  have hfit : Fit s := fun {y c} hc i hi => by
    obtain ⟨ha, rfl⟩ := Array.getElem?_eq_some_iff.mp hc
    have q := List.all_eq_true.mp ((Array.all_eq_true_iff_forall_mem.mp hF) _ (Array.getElem_mem ha)) i (List.mem_range.mpr hi)
    simpa [Array.getElem?_eq_getElem hi] using q
  obtain ⟨i_0, ei_0⟩ := is_v ha0
  obtain rfl : w_0 = (.int i_0) := Option.some.inj ei_0
  obtain ⟨i_1, ei_1⟩ := is_v ha1
  obtain rfl : w_1 = (.int i_1) := Option.some.inj ei_1
  obtain ⟨i_2, ei_2⟩ := is_v ha2
  obtain rfl : w_2 = (.int i_2) := Option.some.inj ei_2
  obtain ⟨i_3, ei_3⟩ := is_v ha3
  obtain rfl : w_3 = (.int i_3) := Option.some.inj ei_3
  obtain ⟨hsets, hown0⟩ := atoms_of _ (rest_1_c_eq ▸ (show rest_1_c.before _ s = true from hrest))
  obtain ⟨wcs, ecs⟩ := is_v (Cond.before_iff.mp (hsets _ (List.mem_of_getElem? (i := 1) rfl)))
  have hcs := own_stne ecs (Cond.before_iff.mp (hsets _ (List.mem_of_getElem? (i := 2) rfl)))
  have hCH : CHv s own_EL s.vm s.heap := CHv.start (own_hEL hw) (fun p hp => hcalls.1 p hp) (hsets _ (List.mem_of_getElem? (i := 2) rfl)) (own_w hw 16 rfl) (own_w hw 2 rfl)
  have hS : own_S s wcs := ⟨(Sta.start ecs (Or.inl (hsets _ (List.mem_of_getElem? (i := 0) rfl)))), hcs, (Sta.start (own_steq (Cond.before_iff.mp (hsets _ (List.mem_of_getElem? (i := 12) rfl)))) (Or.inl (hsets _ (List.mem_of_getElem? (i := 11) rfl)))), (Sta.start (own_steq (Cond.before_iff.mp (hsets _ (List.mem_of_getElem? (i := 15) rfl)))) (Or.inl (hsets _ (List.mem_of_getElem? (i := 14) rfl)))), (Sta.start (own_steq (Cond.before_iff.mp (hsets _ (List.mem_of_getElem? (i := 18) rfl)))) (Or.inl (hsets _ (List.mem_of_getElem? (i := 17) rfl))))⟩
  obtain ⟨n, o, h1, h2, h3, _, L, rfl, ⟨rfl, N, _⟩, -, hq⟩ := rm0 l s _ hw tables_1 wcs hS i_0 i_1 i_2 i_3 s.heap s.heap.size (Old.start s) p e ha hc hk s m _ below hf ((Spec.applies_iff_loose hf).mp happ).1 ⟨rfl, State.Warmed39.refl s, rfl, hCH, sf0⟩ trivial
  refine ⟨n, _, h1, h2, h3, hpost _ _ _ _ _ _ ⟨Cond.after_iff.mpr rfl, Cond.after_iff.mpr (eq_i res_at (Term.int_eval (1)) rfl), trivial⟩ ⟨hq.1, hq.2.1, hq.2.2.1, (hq.2.2.2.sift fun y hy => Or.inr (N y hy)).mono (by decide) (by decide)⟩⟩
theorem main_1_1 : Claimed_1_1 := comes_1 fun _ _ _ _ _ _ h hF => ⟨h.1, hF⟩
theorem main_1_2 : Claimed_1_2 := comes_1 fun _ _ _ _ _ _ h hF => ⟨h.2.1, hF⟩
end Jvm.Pilot.@@N@@
namespace Jvm.Pilot.@@N@@
open Jvm Jvm.ClassFile Sem Op Lib Jvm.Free Jvm.Stand Jvm.Pilot.@@N@@.Jvm.D
/-! MADE BY PROGRAM (witnessworld.py) out of the Statement's table words and the real class files: 22 classes; the members and pool entries that the words name. The judged class is class 1, her method 1. -/
namespace start1
open Jvm.ClassFile
def u (s : String) : CpInfo := .utf8 (stringToUtf16 s)
/-- a pool by its gaps: so many unusable entries, then the entry; so many at the end -/
def gap : Nat → List CpInfo → List CpInfo
  | 0, r => r
  | n + 1, r => .unusable :: gap n r
def poolList (es : List (Nat × CpInfo)) (last : Nat) : List CpInfo := es.foldr (fun e r => gap e.1 (e.2 :: r)) (gap last [])
def pool (es : List (Nat × CpInfo)) (last : Nat) : Array CpInfo := ⟨poolList es last⟩
def fileOf (pool : Array CpInfo) (this : Nat) (attrs : Array Attribute := #[]) (ms : Array MethodInfo := #[]) (fl : Nat := 33) (sup : Nat := 0) (ifs : Array Nat := #[]) (fds : Array FieldInfo := #[]) : ClassFile where
  minorVersion := 0
  majorVersion := 65
  constantPool := pool
  accessFlags := fl
  thisClass := this
  superClass := sup
  interfaces := ifs
  fields := fds
  methods := ms
  attributes := attrs
def plain (name : String) (sup : Option ClassId) : Class where
  name := name
  kind := .ordinary
  loader := none
  accessFlags := 33
  super := sup
  interfaces := #[]
  cf := none
  fields := #[]
  methods := #[]
  instanceTypes := #[]
  staticTypes := #[]
  resolved := #[]
  callSites := []
  init := .initialized
  statics := none
  mirror := none

def pool0 : Array CpInfo := pool [(5, u "<init>"), (0, u "()V"), (1, .class_ 10), (1, u "java/lang/Object")] 113

def k0c0 : Code := { maxStack := 0, maxLocals := 1, code := object_method_1_code, exceptionTable := #[], attributes := #[] }
def k0m0 : Method := { name := "<init>", desc := "()V", sig := { parameters := [], returnType := none }, accessFlags := 1, code := some k0c0 }
/-- java/lang/Object -/
def k0 : Class := { plain "java/lang/Object" none with
  accessFlags := 33
  interfaces := #[]
  cf := some (fileOf pool0 8 #[] #[{ accessFlags := 1, nameIndex := 5, descriptorIndex := 6, attributes := #[] }] 33 0 #[] #[])
  fields := #[]
  methods := #[k0m0]
  instanceTypes := #[]
  staticTypes := #[]
  resolved := Array.replicate 124 none
  statics := none }

def pool1 : Array CpInfo := pool [(2, .class_ 4), (1, u "java/lang/Object"), (0, u "<init>"), (0, u "()V"), (0, .integer 65535), (0, .class_ 9), (0, u "java/lang/String"), (0, .methodref 8 11), (0, .nameAndType 5 12), (0, u "([C)V"), (0, .methodref 14 15), (0, .class_ 16), (0, .nameAndType 17 18), (0, u "com/example/forgewire/forgewire/beans/ArgumentMatcher$Argument"), (0, u "text"), (0, u "(Ljava/lang/String;)Lcom/example/forgewire/forgewire/beans/ArgumentMatcher$Argument;"), (0, .methodref 14 20), (0, .nameAndType 21 22), (0, u "definition"), (0, u "()Lcom/example/forgewire/forgewire/beans/ConstructorArgument;"), (0, .methodref 14 24), (0, .nameAndType 25 26), (0, u "bean"), (0, u "()Ljava/lang/Object;"), (0, .methodref 14 28), (0, .nameAndType 29 30), (0, u "value"), (0, u "()Lcom/example/forgewire/forgewire/beans/ValueDefinition;"), (0, .class_ 32), (0, u "com/example/forgewire/forgewire/beans/ValueDefinition$Text"), (0, .methodref 31 34), (0, .nameAndType 17 35), (0, u "()Ljava/lang/String;"), (0, .methodref 8 37), (0, .nameAndType 38 39), (0, u "length"), (0, u "()I"), (0, .methodref 8 41), (0, .nameAndType 42 43), (0, u "equals"), (0, u "(Ljava/lang/Object;)Z"), (0, .class_ 45), (0, u "com/example/forgewire/forgewire/beans/ArgumentTextPinLaw"), (2, u "law"), (0, u "(IIII)Z")] 10

def k1m0 : Method := { name := "<init>", desc := "()V", sig := { parameters := [], returnType := none }, accessFlags := 1, code := none }
def k1c1 : Code := { maxStack := 6, maxLocals := 12, code := code, exceptionTable := #[], attributes := #[] }
def k1m1 : Method := { name := "law", desc := "(IIII)Z", sig := { parameters := [.int, .int, .int, .int], returnType := some .boolean }, accessFlags := 9, code := some k1c1 }
/-- com/example/forgewire/forgewire/beans/ArgumentTextPinLaw -/
def k1 : Class := { plain "com/example/forgewire/forgewire/beans/ArgumentTextPinLaw" (some 0) with
  accessFlags := 49
  interfaces := #[]
  cf := some (fileOf pool1 44 #[] #[{ accessFlags := 1, nameIndex := 5, descriptorIndex := 6, attributes := #[] }, { accessFlags := 9, nameIndex := 48, descriptorIndex := 49, attributes := #[] }] 49 2 #[] #[])
  fields := #[]
  methods := #[k1m0, k1m1]
  instanceTypes := #[]
  staticTypes := #[]
  resolved := Array.replicate 60 none
  statics := none }

def pool2 : Array CpInfo := pool [(1, .class_ 2), (0, u "java/io/Serializable"), (0, .class_ 4), (0, u "java/lang/Object")] 2

/-- java/io/Serializable -/
def k2 : Class := { plain "java/io/Serializable" (some 0) with
  accessFlags := 1537
  interfaces := #[]
  cf := some (fileOf pool2 1 #[] #[] 1537 3 #[] #[])
  fields := #[]
  methods := #[]
  instanceTypes := #[]
  staticTypes := #[]
  resolved := Array.replicate 7 none
  statics := none }

def pool3 : Array CpInfo := pool [(1, .class_ 2), (0, u "java/lang/Comparable"), (0, .class_ 4), (0, u "java/lang/Object")] 7

/-- java/lang/Comparable -/
def k3 : Class := { plain "java/lang/Comparable" (some 0) with
  accessFlags := 1537
  interfaces := #[]
  cf := some (fileOf pool3 1 #[] #[] 1537 3 #[] #[])
  fields := #[]
  methods := #[]
  instanceTypes := #[]
  staticTypes := #[]
  resolved := Array.replicate 12 none
  statics := none }

def pool4 : Array CpInfo := pool [(2, .class_ 4), (1, u "java/lang/CharSequence"), (42, .class_ 48), (0, u "java/lang/CharSequence$1CodePointIterator"), (10, .class_ 60), (0, u "java/lang/CharSequence$1CharIterator"), (5, .class_ 67), (0, u "java/lang/Object")] 63

/-- java/lang/CharSequence -/
def k4 : Class := { plain "java/lang/CharSequence" (some 0) with
  accessFlags := 1537
  interfaces := #[]
  cf := some (fileOf pool4 2 #[.nestMembers #[47, 59]] #[] 1537 66 #[] #[])
  fields := #[]
  methods := #[]
  instanceTypes := #[]
  staticTypes := #[]
  resolved := Array.replicate 131 none
  statics := none }

def pool5 : Array CpInfo := pool [(1, .class_ 2), (0, u "java/lang/constant/Constable"), (0, .class_ 4), (0, u "java/lang/Object")] 6

/-- java/lang/constant/Constable -/
def k5 : Class := { plain "java/lang/constant/Constable" (some 0) with
  accessFlags := 1537
  interfaces := #[]
  cf := some (fileOf pool5 1 #[] #[] 1537 3 #[] #[])
  fields := #[]
  methods := #[]
  instanceTypes := #[]
  staticTypes := #[]
  resolved := Array.replicate 11 none
  statics := none }

def pool6 : Array CpInfo := pool [(1, .class_ 2), (0, u "java/lang/constant/ConstantDesc"), (0, .class_ 4), (0, u "java/lang/Object")] 32

/-- java/lang/constant/ConstantDesc -/
def k6 : Class := { plain "java/lang/constant/ConstantDesc" (some 0) with
  accessFlags := 1537
  interfaces := #[]
  cf := some (fileOf pool6 1 #[] #[] 1537 3 #[] #[])
  fields := #[]
  methods := #[]
  instanceTypes := #[]
  staticTypes := #[]
  resolved := Array.replicate 37 none
  statics := none }

def pool7 : Array CpInfo := pool [(1, .methodref 2 3), (0, .class_ 4), (0, .nameAndType 5 6), (0, u "java/lang/Object"), (0, u "<init>"), (0, u "()V"), (0, .string 8), (0, u ""), (0, .fieldref 10 11), (0, .class_ 12), (0, .nameAndType 13 14), (0, u "java/lang/String"), (0, u "value"), (0, u "[B"), (0, .fieldref 10 16), (0, .nameAndType 17 18), (0, u "coder"), (0, u "B"), (2, u "hash"), (0, u "I"), (2, u "hashIsZero"), (0, u "Z"), (0, .methodref 10 28), (0, .nameAndType 5 29), (0, u "([CIILjava/lang/Void;)V"), (8, .fieldref 10 39), (0, .nameAndType 40 26), (0, u "COMPACT_STRINGS"), (1, .class_ 44), (1, u "java/lang/StringUTF16"), (0, u "compress"), (1, .methodref 42 48), (0, .nameAndType 49 50), (0, u "coderFromArrayLen"), (0, u "([BI)B"), (126, .methodref 42 178), (0, .nameAndType 45 179), (0, u "([CII)[B"), (154, u "()I"), (0, .methodref 10 336), (0, .nameAndType 17 337), (0, u "()B"), (169, u "length"), (35, u "equals"), (29, u "(Ljava/lang/Object;)Z"), (1, .class_ 576), (0, u "java/lang/CharSequence"), (22, u "CASE_INSENSITIVE_ORDER"), (0, u "Ljava/util/Comparator;"), (409, u "([C)V"), (90, u "serialPersistentFields"), (0, u "[Ljava/io/ObjectStreamField;"), (0, .class_ 1104), (0, u "java/lang/String$CaseInsensitiveComparator"), (1, .class_ 1107), (0, u "java/io/Serializable"), (0, .class_ 1109), (0, u "java/lang/Comparable"), (0, .class_ 1111), (0, u "java/lang/constant/Constable"), (0, .class_ 1113), (0, u "java/lang/constant/ConstantDesc"), (2, u "serialVersionUID"), (0, u "J"), (3, u "REPL"), (0, u "C"), (2, u "LATIN1"), (1, u "UTF16")] 323

def k7m0 : Method := { name := "<init>", desc := "()V", sig := { parameters := [], returnType := none }, accessFlags := 1, code := none }
def k7c1 : Code := { maxStack := 5, maxLocals := 2, code := jdk_42_method_3_code, exceptionTable := #[], attributes := #[] }
def k7m1 : Method := { name := "<init>", desc := "([C)V", sig := { parameters := [(.array .char)], returnType := none }, accessFlags := 1, code := some k7c1 }
def k7c2 : Code := { maxStack := 2, maxLocals := 1, code := jdk_42_method_54_code, exceptionTable := #[], attributes := #[] }
def k7m2 : Method := { name := "length", desc := "()I", sig := { parameters := [], returnType := some .int }, accessFlags := 1, code := some k7c2 }
def k7c3 : Code := { maxStack := 2, maxLocals := 3, code := jdk_42_method_66_code, exceptionTable := #[], attributes := #[] }
def k7m3 : Method := { name := "equals", desc := "(Ljava/lang/Object;)Z", sig := { parameters := [(.object "java/lang/Object")], returnType := some .boolean }, accessFlags := 1, code := some k7c3 }
def k7c4 : Code := { maxStack := 4, maxLocals := 6, code := jdk_42_method_149_code, exceptionTable := #[], attributes := #[] }
def k7m4 : Method := { name := "<init>", desc := "([CIILjava/lang/Void;)V", sig := { parameters := [(.array .char), .int, .int, (.object "java/lang/Void")], returnType := none }, accessFlags := 2, code := some k7c4 }
def k7c5 : Code := { maxStack := 1, maxLocals := 1, code := jdk_42_method_152_code, exceptionTable := #[], attributes := #[] }
def k7m5 : Method := { name := "coder", desc := "()B", sig := { parameters := [], returnType := some .byte }, accessFlags := 0, code := some k7c5 }
/-- java/lang/String -/
def k7 : Class := { plain "java/lang/String" (some 0) with
  accessFlags := 49
  interfaces := #[2, 3, 4, 5, 6]
  cf := some (fileOf pool7 10 #[.nestMembers #[1103]] #[{ accessFlags := 1, nameIndex := 5, descriptorIndex := 6, attributes := #[] }, { accessFlags := 1, nameIndex := 5, descriptorIndex := 1010, attributes := #[] }, { accessFlags := 1, nameIndex := 507, descriptorIndex := 334, attributes := #[] }, { accessFlags := 1, nameIndex := 543, descriptorIndex := 573, attributes := #[] }, { accessFlags := 2, nameIndex := 5, descriptorIndex := 29, attributes := #[] }, { accessFlags := 0, nameIndex := 17, descriptorIndex := 337, attributes := #[] }] 49 2 #[1106, 1108, 575, 1110, 1112] #[{ accessFlags := 18, nameIndex := 13, descriptorIndex := 14, attributes := #[] }, { accessFlags := 18, nameIndex := 17, descriptorIndex := 18, attributes := #[] }, { accessFlags := 2, nameIndex := 21, descriptorIndex := 22, attributes := #[] }, { accessFlags := 2, nameIndex := 25, descriptorIndex := 26, attributes := #[] }, { accessFlags := 26, nameIndex := 1116, descriptorIndex := 1117, attributes := #[] }, { accessFlags := 24, nameIndex := 40, descriptorIndex := 26, attributes := #[] }, { accessFlags := 26, nameIndex := 1101, descriptorIndex := 1102, attributes := #[] }, { accessFlags := 26, nameIndex := 1121, descriptorIndex := 1122, attributes := #[] }, { accessFlags := 25, nameIndex := 599, descriptorIndex := 600, attributes := #[] }, { accessFlags := 24, nameIndex := 1125, descriptorIndex := 18, attributes := #[] }, { accessFlags := 24, nameIndex := 1127, descriptorIndex := 18, attributes := #[] }])
  fields := #[{ name := "value", type := (.array .byte), accessFlags := 18, slot := 0, constantValue := 0 }, { name := "coder", type := .byte, accessFlags := 18, slot := 1, constantValue := 0 }, { name := "hash", type := .int, accessFlags := 2, slot := 2, constantValue := 0 }, { name := "hashIsZero", type := .boolean, accessFlags := 2, slot := 3, constantValue := 0 }, { name := "serialVersionUID", type := .long, accessFlags := 26, slot := 0, constantValue := 0 }, { name := "COMPACT_STRINGS", type := .boolean, accessFlags := 24, slot := 1, constantValue := 0 }, { name := "serialPersistentFields", type := (.array (.object "java/io/ObjectStreamField")), accessFlags := 26, slot := 2, constantValue := 0 }, { name := "REPL", type := .char, accessFlags := 26, slot := 3, constantValue := 0 }, { name := "CASE_INSENSITIVE_ORDER", type := (.object "java/util/Comparator"), accessFlags := 25, slot := 4, constantValue := 0 }, { name := "LATIN1", type := .byte, accessFlags := 24, slot := 5, constantValue := 0 }, { name := "UTF16", type := .byte, accessFlags := 24, slot := 6, constantValue := 0 }]
  methods := #[k7m0, k7m1, k7m2, k7m3, k7m4, k7m5]
  instanceTypes := #[(.array .byte), .byte, .int, .boolean]
  staticTypes := #[.long, .boolean, (.array (.object "java/io/ObjectStreamField")), .char, (.object "java/util/Comparator"), .byte, .byte]
  resolved := Array.replicate 1451 none
  statics := some 0 }

def pool8 : Array CpInfo := pool [(1, .methodref 2 3), (0, .class_ 4), (0, .nameAndType 5 6), (0, u "java/lang/Object"), (0, u "<init>"), (0, u "()V"), (0, .class_ 8), (0, u "java/lang/Record")] 13

def k8c0 : Code := { maxStack := 1, maxLocals := 1, code := jdk_30_method_1_code, exceptionTable := #[], attributes := #[] }
def k8m0 : Method := { name := "<init>", desc := "()V", sig := { parameters := [], returnType := none }, accessFlags := 4, code := some k8c0 }
/-- java/lang/Record -/
def k8 : Class := { plain "java/lang/Record" (some 0) with
  accessFlags := 1057
  interfaces := #[]
  cf := some (fileOf pool8 7 #[] #[{ accessFlags := 4, nameIndex := 5, descriptorIndex := 6, attributes := #[] }] 1057 2 #[] #[])
  fields := #[]
  methods := #[k8m0]
  instanceTypes := #[]
  staticTypes := #[]
  resolved := Array.replicate 22 none
  statics := none }

def pool9 : Array CpInfo := pool [(1, .methodref 2 3), (0, .class_ 4), (0, .nameAndType 5 6), (0, u "java/lang/Record"), (0, u "<init>"), (0, u "()V"), (0, .fieldref 8 9), (0, .class_ 10), (0, .nameAndType 11 12), (0, u "com/example/forgewire/forgewire/beans/ArgumentMatcher$Argument"), (0, u "definition"), (0, u "Lcom/example/forgewire/forgewire/beans/ConstructorArgument;"), (0, .fieldref 8 14), (0, .nameAndType 15 16), (0, u "value"), (0, u "Lcom/example/forgewire/forgewire/beans/ValueDefinition;"), (0, .fieldref 8 18), (0, .nameAndType 19 20), (0, u "bean"), (0, u "Ljava/lang/Object;"), (4, u "()Lcom/example/forgewire/forgewire/beans/ValueDefinition;"), (0, .methodref 8 27), (0, .nameAndType 5 28), (0, u "(Lcom/example/forgewire/forgewire/beans/ConstructorArgument;Lcom/example/forgewire/forgewire/beans/ValueDefinition;Ljava/lang/Object;)V"), (0, .class_ 30), (0, u "com/example/forgewire/forgewire/beans/ValueDefinition$Text"), (0, .methodref 29 32), (0, .nameAndType 5 33), (0, u "(Ljava/lang/String;)V"), (18, u "text"), (0, u "(Ljava/lang/String;)Lcom/example/forgewire/forgewire/beans/ArgumentMatcher$Argument;"), (3, u "()Lcom/example/forgewire/forgewire/beans/ConstructorArgument;"), (0, u "()Ljava/lang/Object;"), (3, .class_ 63), (0, u "com/example/forgewire/forgewire/beans/ArgumentMatcher")] 24

def k9c0 : Code := { maxStack := 2, maxLocals := 4, code := prog_3_method_2_code, exceptionTable := #[], attributes := #[] }
def k9m0 : Method := { name := "<init>", desc := "(Lcom/example/forgewire/forgewire/beans/ConstructorArgument;Lcom/example/forgewire/forgewire/beans/ValueDefinition;Ljava/lang/Object;)V", sig := { parameters := [(.object "com/example/forgewire/forgewire/beans/ConstructorArgument"), (.object "com/example/forgewire/forgewire/beans/ValueDefinition"), (.object "java/lang/Object")], returnType := none }, accessFlags := 0, code := some k9c0 }
def k9c1 : Code := { maxStack := 6, maxLocals := 1, code := prog_3_method_4_code, exceptionTable := #[], attributes := #[] }
def k9m1 : Method := { name := "text", desc := "(Ljava/lang/String;)Lcom/example/forgewire/forgewire/beans/ArgumentMatcher$Argument;", sig := { parameters := [(.object "java/lang/String")], returnType := some (.object "com/example/forgewire/forgewire/beans/ArgumentMatcher$Argument") }, accessFlags := 8, code := some k9c1 }
def k9c2 : Code := { maxStack := 1, maxLocals := 1, code := prog_3_method_8_code, exceptionTable := #[], attributes := #[] }
def k9m2 : Method := { name := "definition", desc := "()Lcom/example/forgewire/forgewire/beans/ConstructorArgument;", sig := { parameters := [], returnType := some (.object "com/example/forgewire/forgewire/beans/ConstructorArgument") }, accessFlags := 1, code := some k9c2 }
def k9c3 : Code := { maxStack := 1, maxLocals := 1, code := prog_3_method_9_code, exceptionTable := #[], attributes := #[] }
def k9m3 : Method := { name := "value", desc := "()Lcom/example/forgewire/forgewire/beans/ValueDefinition;", sig := { parameters := [], returnType := some (.object "com/example/forgewire/forgewire/beans/ValueDefinition") }, accessFlags := 1, code := some k9c3 }
def k9c4 : Code := { maxStack := 1, maxLocals := 1, code := prog_3_method_10_code, exceptionTable := #[], attributes := #[] }
def k9m4 : Method := { name := "bean", desc := "()Ljava/lang/Object;", sig := { parameters := [], returnType := some (.object "java/lang/Object") }, accessFlags := 1, code := some k9c4 }
/-- com/example/forgewire/forgewire/beans/ArgumentMatcher$Argument -/
def k9 : Class := { plain "com/example/forgewire/forgewire/beans/ArgumentMatcher$Argument" (some 8) with
  accessFlags := 48
  interfaces := #[]
  cf := some (fileOf pool9 8 #[.nestHost 62] #[{ accessFlags := 0, nameIndex := 5, descriptorIndex := 28, attributes := #[] }, { accessFlags := 8, nameIndex := 52, descriptorIndex := 53, attributes := #[] }, { accessFlags := 1, nameIndex := 11, descriptorIndex := 57, attributes := #[] }, { accessFlags := 1, nameIndex := 15, descriptorIndex := 25, attributes := #[] }, { accessFlags := 1, nameIndex := 19, descriptorIndex := 58, attributes := #[] }] 48 2 #[] #[{ accessFlags := 18, nameIndex := 11, descriptorIndex := 12, attributes := #[] }, { accessFlags := 18, nameIndex := 15, descriptorIndex := 16, attributes := #[] }, { accessFlags := 18, nameIndex := 19, descriptorIndex := 20, attributes := #[] }])
  fields := #[{ name := "definition", type := (.object "com/example/forgewire/forgewire/beans/ConstructorArgument"), accessFlags := 18, slot := 0, constantValue := 0 }, { name := "value", type := (.object "com/example/forgewire/forgewire/beans/ValueDefinition"), accessFlags := 18, slot := 1, constantValue := 0 }, { name := "bean", type := (.object "java/lang/Object"), accessFlags := 18, slot := 2, constantValue := 0 }]
  methods := #[k9m0, k9m1, k9m2, k9m3, k9m4]
  instanceTypes := #[(.object "com/example/forgewire/forgewire/beans/ConstructorArgument"), (.object "com/example/forgewire/forgewire/beans/ValueDefinition"), (.object "java/lang/Object")]
  staticTypes := #[]
  resolved := Array.replicate 88 none
  statics := none }

def pool10 : Array CpInfo := pool [(1, .class_ 2), (0, u "com/example/forgewire/forgewire/beans/ValueDefinition"), (0, .class_ 4), (0, u "java/lang/Object"), (3, .class_ 9), (0, u "com/example/forgewire/forgewire/beans/ValueDefinition$PropertiesOf"), (0, .class_ 11), (0, u "com/example/forgewire/forgewire/beans/ValueDefinition$MapOf"), (0, .class_ 13), (0, u "com/example/forgewire/forgewire/beans/ValueDefinition$MapOf$Entry"), (0, .class_ 15), (0, u "com/example/forgewire/forgewire/beans/ValueDefinition$SetOf"), (0, .class_ 17), (0, u "com/example/forgewire/forgewire/beans/ValueDefinition$ListOf"), (0, .class_ 19), (0, u "com/example/forgewire/forgewire/beans/ValueDefinition$InnerBean"), (0, .class_ 21), (0, u "com/example/forgewire/forgewire/beans/ValueDefinition$Reference"), (0, .class_ 23), (0, u "com/example/forgewire/forgewire/beans/ValueDefinition$Null"), (0, .class_ 25), (0, u "com/example/forgewire/forgewire/beans/ValueDefinition$Text")] 11

/-- com/example/forgewire/forgewire/beans/ValueDefinition -/
def k10 : Class := { plain "com/example/forgewire/forgewire/beans/ValueDefinition" (some 0) with
  accessFlags := 1537
  interfaces := #[]
  cf := some (fileOf pool10 1 #[.nestMembers #[8, 10, 12, 14, 16, 18, 20, 22, 24]] #[] 1537 3 #[] #[])
  fields := #[]
  methods := #[]
  instanceTypes := #[]
  staticTypes := #[]
  resolved := Array.replicate 37 none
  statics := none }

def pool11 : Array CpInfo := pool [(1, .methodref 2 3), (0, .class_ 4), (0, .nameAndType 5 6), (0, u "java/lang/Record"), (0, u "<init>"), (0, u "()V"), (0, .string 8), (0, u "text"), (0, .methodref 10 11), (0, .class_ 12), (0, .nameAndType 13 14), (0, u "java/util/Objects"), (0, u "requireNonNull"), (0, u "(Ljava/lang/Object;Ljava/lang/String;)Ljava/lang/Object;"), (0, .fieldref 16 17), (0, .class_ 18), (0, .nameAndType 8 19), (0, u "com/example/forgewire/forgewire/beans/ValueDefinition$Text"), (0, u "Ljava/lang/String;"), (12, .class_ 33), (0, u "com/example/forgewire/forgewire/beans/ValueDefinition"), (0, u "(Ljava/lang/String;)V"), (3, u "()Ljava/lang/String;")] 22

def k11c0 : Code := { maxStack := 2, maxLocals := 2, code := prog_71_method_1_code, exceptionTable := #[], attributes := #[] }
def k11m0 : Method := { name := "<init>", desc := "(Ljava/lang/String;)V", sig := { parameters := [(.object "java/lang/String")], returnType := none }, accessFlags := 1, code := some k11c0 }
def k11c1 : Code := { maxStack := 1, maxLocals := 1, code := prog_71_method_5_code, exceptionTable := #[], attributes := #[] }
def k11m1 : Method := { name := "text", desc := "()Ljava/lang/String;", sig := { parameters := [], returnType := some (.object "java/lang/String") }, accessFlags := 1, code := some k11c1 }
/-- com/example/forgewire/forgewire/beans/ValueDefinition$Text -/
def k11 : Class := { plain "com/example/forgewire/forgewire/beans/ValueDefinition$Text" (some 8) with
  accessFlags := 49
  interfaces := #[10]
  cf := some (fileOf pool11 16 #[.nestHost 32] #[{ accessFlags := 1, nameIndex := 5, descriptorIndex := 34, attributes := #[] }, { accessFlags := 1, nameIndex := 8, descriptorIndex := 38, attributes := #[] }] 49 2 #[32] #[{ accessFlags := 18, nameIndex := 8, descriptorIndex := 19, attributes := #[] }])
  fields := #[{ name := "text", type := (.object "java/lang/String"), accessFlags := 18, slot := 0, constantValue := 0 }]
  methods := #[k11m0, k11m1]
  instanceTypes := #[(.object "java/lang/String")]
  staticTypes := #[]
  resolved := Array.replicate 61 none
  statics := none }

def pool12 : Array CpInfo := pool [(2, .class_ 4), (1, u "java/lang/Object"), (0, u "<init>"), (0, u "()V"), (35, .class_ 44), (1, u "java/util/Objects"), (0, u "requireNonNull"), (48, u "(Ljava/lang/Object;Ljava/lang/String;)Ljava/lang/Object;")] 89

def k12m0 : Method := { name := "<init>", desc := "()V", sig := { parameters := [], returnType := none }, accessFlags := 2, code := none }
def k12c1 : Code := { maxStack := 3, maxLocals := 2, code := jdk_31_method_11_code, exceptionTable := #[], attributes := #[] }
def k12m1 : Method := { name := "requireNonNull", desc := "(Ljava/lang/Object;Ljava/lang/String;)Ljava/lang/Object;", sig := { parameters := [(.object "java/lang/Object"), (.object "java/lang/String")], returnType := some (.object "java/lang/Object") }, accessFlags := 9, code := some k12c1 }
/-- java/util/Objects -/
def k12 : Class := { plain "java/util/Objects" (some 0) with
  accessFlags := 49
  interfaces := #[]
  cf := some (fileOf pool12 42 #[] #[{ accessFlags := 2, nameIndex := 5, descriptorIndex := 6, attributes := #[] }, { accessFlags := 9, nameIndex := 45, descriptorIndex := 94, attributes := #[] }] 49 2 #[] #[])
  fields := #[]
  methods := #[k12m0, k12m1]
  instanceTypes := #[]
  staticTypes := #[]
  resolved := Array.replicate 184 none
  statics := none }

def pool13 : Array CpInfo := pool [(6, .class_ 8), (1, u "java/lang/Object"), (0, u "<init>"), (0, u "()V"), (0, .methodref 12 13), (0, .class_ 14), (0, .nameAndType 15 16), (0, u "java/lang/StringUTF16"), (0, u "newBytesLength"), (0, u "(I)I"), (3, .integer 1073741823), (23, .fieldref 12 45), (0, .nameAndType 46 47), (0, u "$assertionsDisabled"), (0, u "Z"), (11, .fieldref 12 60), (0, .nameAndType 61 62), (0, u "HI_BYTE_SHIFT"), (0, u "I"), (0, .fieldref 12 64), (0, .nameAndType 65 62), (0, u "LO_BYTE_SHIFT"), (5, .methodref 12 72), (0, .nameAndType 73 74), (0, u "getChar"), (0, u "([BI)C"), (32, .methodref 12 108), (0, .nameAndType 109 110), (0, u "newBytesFor"), (0, u "(I)[B"), (0, .methodref 12 112), (0, .nameAndType 113 114), (0, u "putChar"), (0, u "([BII)V"), (0, .methodref 12 116), (0, .nameAndType 117 118), (0, u "compress"), (0, u "([CI[BII)I"), (0, .methodref 12 120), (0, .nameAndType 121 122), (0, u "toBytes"), (0, u "([CII)[B"), (138, u "coderFromArrayLen"), (0, u "([BI)B"), (106, .class_ 371), (1, u "java/lang/StringUTF16$LinesSpliterator"), (58, u "MAX_LENGTH"), (196, .class_ 628), (0, u "java/lang/StringUTF16$CodePointsSpliterator"), (0, .class_ 630), (0, u "java/lang/StringUTF16$CharsSpliterator")] 4

def k13m0 : Method := { name := "<init>", desc := "()V", sig := { parameters := [], returnType := none }, accessFlags := 0, code := none }
def k13c1 : Code := { maxStack := 1, maxLocals := 1, code := jdk_52_method_2_code, exceptionTable := #[], attributes := #[] }
def k13m1 : Method := { name := "newBytesFor", desc := "(I)[B", sig := { parameters := [.int], returnType := some (.array .byte) }, accessFlags := 9, code := some k13c1 }
def k13c2 : Code := { maxStack := 4, maxLocals := 1, code := jdk_52_method_3_code, exceptionTable := #[], attributes := #[] }
def k13m2 : Method := { name := "newBytesLength", desc := "(I)I", sig := { parameters := [.int], returnType := some .int }, accessFlags := 9, code := some k13c2 }
def k13c3 : Code := { maxStack := 4, maxLocals := 3, code := jdk_52_method_4_code, exceptionTable := #[], attributes := #[] }
def k13m3 : Method := { name := "putChar", desc := "([BII)V", sig := { parameters := [(.array .byte), .int, .int], returnType := none }, accessFlags := 8, code := some k13c3 }
def k13c4 : Code := { maxStack := 3, maxLocals := 2, code := jdk_52_method_5_code, exceptionTable := #[], attributes := #[] }
def k13m4 : Method := { name := "getChar", desc := "([BI)C", sig := { parameters := [(.array .byte), .int], returnType := some .char }, accessFlags := 8, code := some k13c4 }
def k13c5 : Code := { maxStack := 4, maxLocals := 5, code := jdk_52_method_14_code, exceptionTable := #[], attributes := #[] }
def k13m5 : Method := { name := "toBytes", desc := "([CII)[B", sig := { parameters := [(.array .char), .int, .int], returnType := some (.array .byte) }, accessFlags := 9, code := some k13c5 }
def k13c6 : Code := { maxStack := 2, maxLocals := 2, code := jdk_52_method_15_code, exceptionTable := #[], attributes := #[] }
def k13m6 : Method := { name := "coderFromArrayLen", desc := "([BI)B", sig := { parameters := [(.array .byte), .int], returnType := some .byte }, accessFlags := 8, code := some k13c6 }
def k13c7 : Code := { maxStack := 5, maxLocals := 6, code := jdk_52_method_16_code, exceptionTable := #[], attributes := #[] }
def k13m7 : Method := { name := "compress", desc := "([CII)[B", sig := { parameters := [(.array .char), .int, .int], returnType := some (.array .byte) }, accessFlags := 9, code := some k13c7 }
def k13c8 : Code := { maxStack := 3, maxLocals := 7, code := jdk_52_method_21_code, exceptionTable := #[], attributes := #[] }
def k13m8 : Method := { name := "compress", desc := "([CI[BII)I", sig := { parameters := [(.array .char), .int, (.array .byte), .int, .int], returnType := some .int }, accessFlags := 9, code := some k13c8 }
/-- java/lang/StringUTF16 -/
def k13 : Class := { plain "java/lang/StringUTF16" (some 0) with
  accessFlags := 48
  interfaces := #[]
  cf := some (fileOf pool13 12 #[.nestMembers #[627, 629, 369]] #[{ accessFlags := 0, nameIndex := 9, descriptorIndex := 10, attributes := #[] }, { accessFlags := 9, nameIndex := 109, descriptorIndex := 110, attributes := #[] }, { accessFlags := 9, nameIndex := 15, descriptorIndex := 16, attributes := #[] }, { accessFlags := 8, nameIndex := 113, descriptorIndex := 114, attributes := #[] }, { accessFlags := 8, nameIndex := 73, descriptorIndex := 74, attributes := #[] }, { accessFlags := 9, nameIndex := 121, descriptorIndex := 122, attributes := #[] }, { accessFlags := 8, nameIndex := 261, descriptorIndex := 262, attributes := #[] }, { accessFlags := 9, nameIndex := 117, descriptorIndex := 122, attributes := #[] }, { accessFlags := 9, nameIndex := 117, descriptorIndex := 118, attributes := #[] }] 48 6 #[] #[{ accessFlags := 26, nameIndex := 61, descriptorIndex := 62, attributes := #[] }, { accessFlags := 26, nameIndex := 65, descriptorIndex := 62, attributes := #[] }, { accessFlags := 24, nameIndex := 430, descriptorIndex := 62, attributes := #[] }, { accessFlags := 4120, nameIndex := 46, descriptorIndex := 47, attributes := #[] }])
  fields := #[{ name := "HI_BYTE_SHIFT", type := .int, accessFlags := 26, slot := 0, constantValue := 0 }, { name := "LO_BYTE_SHIFT", type := .int, accessFlags := 26, slot := 1, constantValue := 0 }, { name := "MAX_LENGTH", type := .int, accessFlags := 24, slot := 2, constantValue := 0 }, { name := "$assertionsDisabled", type := .boolean, accessFlags := 4120, slot := 3, constantValue := 0 }]
  methods := #[k13m0, k13m1, k13m2, k13m3, k13m4, k13m5, k13m6, k13m7, k13m8]
  instanceTypes := #[]
  staticTypes := #[.int, .int, .int, .boolean]
  resolved := Array.replicate 635 none
  statics := some 1 }

def pool14 : Array CpInfo := pool [(4, .class_ 6), (1, u "java/lang/Object"), (0, u "<init>"), (0, u "()V"), (5, .class_ 16), (1, u "java/lang/StringLatin1"), (104, u "$assertionsDisabled"), (0, u "Z"), (98, .class_ 223), (1, u "java/lang/StringLatin1$LinesSpliterator"), (166, .class_ 391), (0, u "java/lang/StringLatin1$CharsSpliterator")] 3

def k14m0 : Method := { name := "<init>", desc := "()V", sig := { parameters := [], returnType := none }, accessFlags := 0, code := none }
/-- java/lang/StringLatin1 -/
def k14 : Class := { plain "java/lang/StringLatin1" (some 0) with
  accessFlags := 48
  interfaces := #[]
  cf := some (fileOf pool14 14 #[.nestMembers #[390, 221]] #[{ accessFlags := 0, nameIndex := 7, descriptorIndex := 8, attributes := #[] }] 48 4 #[] #[{ accessFlags := 4120, nameIndex := 121, descriptorIndex := 122, attributes := #[] }])
  fields := #[{ name := "$assertionsDisabled", type := .boolean, accessFlags := 4120, slot := 0, constantValue := 0 }]
  methods := #[k14m0]
  instanceTypes := #[]
  staticTypes := #[.boolean]
  resolved := Array.replicate 395 none
  statics := none }

def pool15 : Array CpInfo := pool [(2, .class_ 4), (1, u "java/lang/Object"), (0, u "<init>"), (0, u "()V"), (17, .class_ 26), (1, u "jdk/internal/util/Preconditions"), (28, .class_ 56), (0, u "jdk/internal/util/Preconditions$4"), (57, .class_ 115), (0, u "jdk/internal/util/Preconditions$1"), (7, u "SIOOBE_FORMATTER"), (0, u "Ljava/util/function/BiFunction;"), (0, .class_ 126), (0, u "jdk/internal/util/Preconditions$2"), (3, u "AIOOBE_FORMATTER"), (0, .class_ 132), (0, u "jdk/internal/util/Preconditions$3"), (3, u "IOOBE_FORMATTER")] 57

def k15m0 : Method := { name := "<init>", desc := "()V", sig := { parameters := [], returnType := none }, accessFlags := 1, code := none }
/-- jdk/internal/util/Preconditions -/
def k15 : Class := { plain "jdk/internal/util/Preconditions" (some 0) with
  accessFlags := 33
  interfaces := #[]
  cf := some (fileOf pool15 24 #[.nestMembers #[55, 131, 125, 114]] #[{ accessFlags := 1, nameIndex := 5, descriptorIndex := 6, attributes := #[] }] 33 2 #[] #[{ accessFlags := 25, nameIndex := 123, descriptorIndex := 124, attributes := #[] }, { accessFlags := 25, nameIndex := 130, descriptorIndex := 124, attributes := #[] }, { accessFlags := 25, nameIndex := 136, descriptorIndex := 124, attributes := #[] }])
  fields := #[{ name := "SIOOBE_FORMATTER", type := (.object "java/util/function/BiFunction"), accessFlags := 25, slot := 0, constantValue := 0 }, { name := "AIOOBE_FORMATTER", type := (.object "java/util/function/BiFunction"), accessFlags := 25, slot := 1, constantValue := 0 }, { name := "IOOBE_FORMATTER", type := (.object "java/util/function/BiFunction"), accessFlags := 25, slot := 2, constantValue := 0 }]
  methods := #[k15m0]
  instanceTypes := #[]
  staticTypes := #[(.object "java/util/function/BiFunction"), (.object "java/util/function/BiFunction"), (.object "java/util/function/BiFunction")]
  resolved := Array.replicate 194 none
  statics := some 2 }

def pool16 : Array CpInfo := pool [(9, u "<init>"), (6, .class_ 18), (1, u "java/lang/Object"), (0, u "()V"), (1, .class_ 23), (1, u "jdk/internal/util/ArraysSupport"), (0, u "LOG2_ARRAY_LONG_INDEX_SCALE"), (0, u "I"), (2, u "U"), (0, u "Ljdk/internal/misc/Unsafe;"), (8, u "BIG_ENDIAN"), (0, u "Z"), (8, u "LOG2_BYTE_BIT_SIZE"), (4, u "LOG2_ARRAY_INT_INDEX_SCALE"), (54, u "JLA"), (0, u "Ljdk/internal/access/JavaLangAccess;"), (11, u "LOG2_ARRAY_BOOLEAN_INDEX_SCALE"), (9, u "LOG2_ARRAY_BYTE_INDEX_SCALE"), (5, u "LOG2_ARRAY_CHAR_INDEX_SCALE"), (5, u "LOG2_ARRAY_SHORT_INDEX_SCALE"), (18, u "LOG2_ARRAY_FLOAT_INDEX_SCALE"), (24, u "LOG2_ARRAY_DOUBLE_INDEX_SCALE"), (89, u "T_BOOLEAN"), (2, u "T_CHAR"), (1, u "T_FLOAT"), (1, u "T_DOUBLE"), (1, u "T_BYTE"), (1, u "T_SHORT"), (1, u "T_INT"), (1, u "T_LONG"), (1, u "SOFT_MAX_ARRAY_LENGTH")] 83

def k16m0 : Method := { name := "<init>", desc := "()V", sig := { parameters := [], returnType := none }, accessFlags := 2, code := none }
/-- jdk/internal/util/ArraysSupport -/
def k16 : Class := { plain "jdk/internal/util/ArraysSupport" (some 0) with
  accessFlags := 33
  interfaces := #[]
  cf := some (fileOf pool16 21 #[] #[{ accessFlags := 2, nameIndex := 9, descriptorIndex := 19, attributes := #[] }] 33 16 #[] #[{ accessFlags := 24, nameIndex := 28, descriptorIndex := 29, attributes := #[] }, { accessFlags := 26, nameIndex := 38, descriptorIndex := 39, attributes := #[] }, { accessFlags := 25, nameIndex := 121, descriptorIndex := 25, attributes := #[] }, { accessFlags := 25, nameIndex := 131, descriptorIndex := 25, attributes := #[] }, { accessFlags := 25, nameIndex := 137, descriptorIndex := 25, attributes := #[] }, { accessFlags := 25, nameIndex := 143, descriptorIndex := 25, attributes := #[] }, { accessFlags := 25, nameIndex := 53, descriptorIndex := 25, attributes := #[] }, { accessFlags := 25, nameIndex := 24, descriptorIndex := 25, attributes := #[] }, { accessFlags := 25, nameIndex := 162, descriptorIndex := 25, attributes := #[] }, { accessFlags := 25, nameIndex := 187, descriptorIndex := 25, attributes := #[] }, { accessFlags := 26, nameIndex := 48, descriptorIndex := 25, attributes := #[] }, { accessFlags := 25, nameIndex := 277, descriptorIndex := 25, attributes := #[] }, { accessFlags := 25, nameIndex := 280, descriptorIndex := 25, attributes := #[] }, { accessFlags := 25, nameIndex := 282, descriptorIndex := 25, attributes := #[] }, { accessFlags := 25, nameIndex := 284, descriptorIndex := 25, attributes := #[] }, { accessFlags := 25, nameIndex := 286, descriptorIndex := 25, attributes := #[] }, { accessFlags := 25, nameIndex := 288, descriptorIndex := 25, attributes := #[] }, { accessFlags := 25, nameIndex := 290, descriptorIndex := 25, attributes := #[] }, { accessFlags := 25, nameIndex := 292, descriptorIndex := 25, attributes := #[] }, { accessFlags := 26, nameIndex := 108, descriptorIndex := 109, attributes := #[] }, { accessFlags := 25, nameIndex := 294, descriptorIndex := 25, attributes := #[] }])
  fields := #[{ name := "U", type := (.object "jdk/internal/misc/Unsafe"), accessFlags := 24, slot := 0, constantValue := 0 }, { name := "BIG_ENDIAN", type := .boolean, accessFlags := 26, slot := 1, constantValue := 0 }, { name := "LOG2_ARRAY_BOOLEAN_INDEX_SCALE", type := .int, accessFlags := 25, slot := 2, constantValue := 0 }, { name := "LOG2_ARRAY_BYTE_INDEX_SCALE", type := .int, accessFlags := 25, slot := 3, constantValue := 0 }, { name := "LOG2_ARRAY_CHAR_INDEX_SCALE", type := .int, accessFlags := 25, slot := 4, constantValue := 0 }, { name := "LOG2_ARRAY_SHORT_INDEX_SCALE", type := .int, accessFlags := 25, slot := 5, constantValue := 0 }, { name := "LOG2_ARRAY_INT_INDEX_SCALE", type := .int, accessFlags := 25, slot := 6, constantValue := 0 }, { name := "LOG2_ARRAY_LONG_INDEX_SCALE", type := .int, accessFlags := 25, slot := 7, constantValue := 0 }, { name := "LOG2_ARRAY_FLOAT_INDEX_SCALE", type := .int, accessFlags := 25, slot := 8, constantValue := 0 }, { name := "LOG2_ARRAY_DOUBLE_INDEX_SCALE", type := .int, accessFlags := 25, slot := 9, constantValue := 0 }, { name := "LOG2_BYTE_BIT_SIZE", type := .int, accessFlags := 26, slot := 10, constantValue := 0 }, { name := "T_BOOLEAN", type := .int, accessFlags := 25, slot := 11, constantValue := 0 }, { name := "T_CHAR", type := .int, accessFlags := 25, slot := 12, constantValue := 0 }, { name := "T_FLOAT", type := .int, accessFlags := 25, slot := 13, constantValue := 0 }, { name := "T_DOUBLE", type := .int, accessFlags := 25, slot := 14, constantValue := 0 }, { name := "T_BYTE", type := .int, accessFlags := 25, slot := 15, constantValue := 0 }, { name := "T_SHORT", type := .int, accessFlags := 25, slot := 16, constantValue := 0 }, { name := "T_INT", type := .int, accessFlags := 25, slot := 17, constantValue := 0 }, { name := "T_LONG", type := .int, accessFlags := 25, slot := 18, constantValue := 0 }, { name := "JLA", type := (.object "jdk/internal/access/JavaLangAccess"), accessFlags := 26, slot := 19, constantValue := 0 }, { name := "SOFT_MAX_ARRAY_LENGTH", type := .int, accessFlags := 25, slot := 20, constantValue := 0 }]
  methods := #[k16m0]
  instanceTypes := #[]
  staticTypes := #[(.object "jdk/internal/misc/Unsafe"), .boolean, .int, .int, .int, .int, .int, .int, .int, .int, .int, .int, .int, .int, .int, .int, .int, .int, .int, (.object "jdk/internal/access/JavaLangAccess"), .int]
  resolved := Array.replicate 378 none
  statics := none }

def pool17 : Array CpInfo := pool [(1, u "java/lang/Cloneable"), (0, .class_ 1), (0, u "java/lang/Object"), (0, .class_ 3)] 3

/-- java/lang/Cloneable -/
def k17 : Class := { plain "java/lang/Cloneable" (some 0) with
  accessFlags := 1537
  interfaces := #[]
  cf := some (fileOf pool17 2 #[] #[] 1537 4 #[] #[])
  fields := #[]
  methods := #[]
  instanceTypes := #[]
  staticTypes := #[]
  resolved := Array.replicate 8 none
  statics := none }

/-- the primitive byte -/
def k18 : Class := { plain "byte" none with kind := .primitive 'B', accessFlags := 0x411 }
/-- [B -/
def k19 : Class := { plain "[B" (some 0) with kind := .array 18 .byte, interfaces := #[17, 2], accessFlags := 1041 }

/-- the primitive char -/
def k20 : Class := { plain "char" none with kind := .primitive 'C', accessFlags := 0x411 }
/-- [C -/
def k21 : Class := { plain "[C" (some 0) with kind := .array 20 .char, interfaces := #[17, 2], accessFlags := 1041 }

def heap : Heap := #[{ cls := 7, slots := #[.long 0, .int 1, .null, .int 0, .null, .int 0, .int 0], vm := .statics 7 },
  { cls := 13, slots := #[.int 0, .int 8, .int 0, .int 1], vm := .statics 13 },
  { cls := 15, slots := #[.null, .null, .null], vm := .statics 15 }]
def classes : Array Class := #[k0, k1, k2, k3, k4, k5, k6, k7, k8, k9, k10, k11, k12, k13, k14, k15, k16, k17, k18, k19, k20, k21]
def interned : List (Array UInt16 × Addr) := []
def slotsUsed : Nat := 14
def theMethod : MethodId := ⟨1, 1⟩
def args0 : Array Value := #[.int 1, .int 2, .int 300, .int 4]
def aboutOver (below : List Frame) : State where
  vm := { classes := classes, interned := interned.toArray }
  heap := heap
  slotsUsed := slotsUsed
  threads := #[{ frames := .invoking theMethod args0 :: below }]
def below0 : List Frame := [.native { method := ⟨0, 0⟩, args := #[] }]
def about1 : State := aboutOver below0
def p0 : Program := .bare "" "" ""
def e0 : Env := launch0.env 0 0 0
theorem w_frames : about1.frames = Frame.invoking theMethod args0 :: below0 := rfl
set_option maxRecDepth 65536 in
theorem w_args : argsFit about1.vm theMethod args0 = true := by decide +kernel
set_option maxRecDepth 65536 in
theorem w_heap : heapFits about1 = true := by decide +kernel
set_option maxRecDepth 65536 in
theorem w_runnable : about1.curStatus? = some .runnable := by decide +kernel
set_option maxRecDepth 65536 in
theorem w_alone : about1.alone = true := by decide +kernel
set_option maxRecDepth 65536 in
theorem w_named : about1.methodNamed? x = some theMethod := by decide +kernel
set_option maxRecDepth 65536 in
theorem w_hears : about1.hears theMethod below0 = true := by decide +kernel
set_option maxRecDepth 65536 in
theorem w_ripe : about1.ripe theMethod args0 below0 = true := by decide +kernel
theorem w_running : about1.status = .running := rfl
set_option maxRecDepth 65536 in
theorem w_room : about1.hasRoom e0.platform room_1 = true :=
  launch0.hasRoom_least _ room_1 (by decide +kernel) (by decide +kernel) (by decide +kernel) (by decide +kernel) (by decide +kernel) (by decide +kernel)
theorem allAtoms_all (ts : List Jvm.Cond) (a : Array Jvm.Value) (st : Jvm.State) : (allAtoms ts).before a st = ts.all (fun c => c.before a st) := by
  induction ts with
  | nil => rfl
  | cons c t ih =>
    show (Jvm.Cond.and c (allAtoms t)).before a st = _
    rw [Jvm.Cond.before_and, ih, List.all_cons]
def words1 : List Jvm.Cond := Jvm.Cond.code x code maxLocals ret :: tables_1
/-- a 'code' word, met by the world's own term for the bytes: nothing is compared byte by byte -/
theorem code_word {y : MethodName} {bytes : ByteArray} {mx : Nat} {rt : Option FieldType} {a : Array Value} {s : State} {m : MethodId} {meth : Method} {c : Code} (h1 : s.methodNamed? y = some m) (h2 : s.vm.method? m = some meth) (h3 : meth.code = some c) (h4 : c.code = bytes)
    (h5 : (c.maxLocals == mx && c.exceptionTable.isEmpty && decide (c.maxStack ≤ mostOperands) && decide (meth.sig.returnType = rt) && !meth.locks && decide (parseMethodDescriptor y.desc = some meth.sig)) = true) : (Jvm.Cond.code y bytes mx rt).before a s = true := by
  simp only [Bool.and_eq_true, beq_iff_eq, Bool.not_eq_true', decide_eq_true_eq] at h5
  obtain ⟨⟨⟨⟨⟨g1, g2⟩, g3⟩, g4⟩, g5⟩, g6⟩ := h5
  simp [Cond.before, Cond.holds, Cond.value, h1, h2, h3, h4, g1, g2, g3, g4, g5, g6]
def isCode : Jvm.Cond → Bool
  | .code _ _ _ _ => true
  | _ => false
theorem all_split {L : List Jvm.Cond} {P : Jvm.Cond → Bool} (h1 : L.all (fun c => isCode c || P c) = true) (h2 : ∀ c ∈ L.filter isCode, P c = true) : L.all P = true := by
  refine List.all_eq_true.mpr fun c hc => ?_
  have h := List.all_eq_true.mp h1 c hc
  rcases Bool.eq_false_or_eq_true (isCode c) with hi | hi
  · exact h2 c (List.mem_filter.mpr ⟨hc, hi⟩)
  · simpa [hi] using h
set_option maxRecDepth 65536 in
theorem w_c0 : (Jvm.Cond.code x code maxLocals ret).before args0 about1 = true := code_word (m := ⟨1, 1⟩) (meth := k1m1) (c := k1c1) (by decide +kernel) rfl rfl rfl (by decide +kernel)
set_option maxRecDepth 65536 in
theorem w_c1 : (Jvm.Cond.code ({ cls := "java/lang/String", name := "<init>", desc := "([C)V" } : Jvm.MethodName) jdk_42_method_3_code (2 : Nat) (Option.none : Option Jvm.ClassFile.FieldType)).before args0 about1 = true := code_word (m := ⟨7, 1⟩) (meth := k7m1) (c := k7c1) (by decide +kernel) rfl rfl rfl (by decide +kernel)
set_option maxRecDepth 65536 in
theorem w_c2 : (Jvm.Cond.code ({ cls := "java/lang/String", name := "<init>", desc := "([CIILjava/lang/Void;)V" } : Jvm.MethodName) jdk_42_method_149_code (6 : Nat) (Option.none : Option Jvm.ClassFile.FieldType)).before args0 about1 = true := code_word (m := ⟨7, 4⟩) (meth := k7m4) (c := k7c4) (by decide +kernel) rfl rfl rfl (by decide +kernel)
set_option maxRecDepth 65536 in
theorem w_c3 : (Jvm.Cond.code ({ cls := "java/lang/Object", name := "<init>", desc := "()V" } : Jvm.MethodName) object_method_1_code (1 : Nat) (Option.none : Option Jvm.ClassFile.FieldType)).before args0 about1 = true := code_word (m := ⟨0, 0⟩) (meth := k0m0) (c := k0c0) (by decide +kernel) rfl rfl rfl (by decide +kernel)
set_option maxRecDepth 65536 in
theorem w_c4 : (Jvm.Cond.code ({ cls := "com/example/forgewire/forgewire/beans/ArgumentMatcher$Argument", name := "text", desc := "(Ljava/lang/String;)Lcom/example/forgewire/forgewire/beans/ArgumentMatcher$Argument;" } : Jvm.MethodName) prog_3_method_4_code (1 : Nat) (Option.some (Jvm.ClassFile.FieldType.object "com/example/forgewire/forgewire/beans/ArgumentMatcher$Argument"))).before args0 about1 = true := code_word (m := ⟨9, 1⟩) (meth := k9m1) (c := k9c1) (by decide +kernel) rfl rfl rfl (by decide +kernel)
set_option maxRecDepth 65536 in
theorem w_c5 : (Jvm.Cond.code ({ cls := "com/example/forgewire/forgewire/beans/ValueDefinition$Text", name := "<init>", desc := "(Ljava/lang/String;)V" } : Jvm.MethodName) prog_71_method_1_code (2 : Nat) (Option.none : Option Jvm.ClassFile.FieldType)).before args0 about1 = true := code_word (m := ⟨11, 0⟩) (meth := k11m0) (c := k11c0) (by decide +kernel) rfl rfl rfl (by decide +kernel)
set_option maxRecDepth 65536 in
theorem w_c6 : (Jvm.Cond.code ({ cls := "java/lang/Record", name := "<init>", desc := "()V" } : Jvm.MethodName) jdk_30_method_1_code (1 : Nat) (Option.none : Option Jvm.ClassFile.FieldType)).before args0 about1 = true := code_word (m := ⟨8, 0⟩) (meth := k8m0) (c := k8c0) (by decide +kernel) rfl rfl rfl (by decide +kernel)
set_option maxRecDepth 65536 in
theorem w_c7 : (Jvm.Cond.code ({ cls := "java/util/Objects", name := "requireNonNull", desc := "(Ljava/lang/Object;Ljava/lang/String;)Ljava/lang/Object;" } : Jvm.MethodName) jdk_31_method_11_code (2 : Nat) (Option.some (Jvm.ClassFile.FieldType.object "java/lang/Object"))).before args0 about1 = true := code_word (m := ⟨12, 1⟩) (meth := k12m1) (c := k12c1) (by decide +kernel) rfl rfl rfl (by decide +kernel)
set_option maxRecDepth 65536 in
theorem w_c8 : (Jvm.Cond.code ({ cls := "com/example/forgewire/forgewire/beans/ArgumentMatcher$Argument", name := "<init>", desc := "(Lcom/example/forgewire/forgewire/beans/ConstructorArgument;Lcom/example/forgewire/forgewire/beans/ValueDefinition;Ljava/lang/Object;)V" } : Jvm.MethodName) prog_3_method_2_code (4 : Nat) (Option.none : Option Jvm.ClassFile.FieldType)).before args0 about1 = true := code_word (m := ⟨9, 0⟩) (meth := k9m0) (c := k9c0) (by decide +kernel) rfl rfl rfl (by decide +kernel)
set_option maxRecDepth 65536 in
theorem w_c9 : (Jvm.Cond.code ({ cls := "com/example/forgewire/forgewire/beans/ArgumentMatcher$Argument", name := "definition", desc := "()Lcom/example/forgewire/forgewire/beans/ConstructorArgument;" } : Jvm.MethodName) prog_3_method_8_code (1 : Nat) (Option.some (Jvm.ClassFile.FieldType.object "com/example/forgewire/forgewire/beans/ConstructorArgument"))).before args0 about1 = true := code_word (m := ⟨9, 2⟩) (meth := k9m2) (c := k9c2) (by decide +kernel) rfl rfl rfl (by decide +kernel)
set_option maxRecDepth 65536 in
theorem w_c10 : (Jvm.Cond.code ({ cls := "com/example/forgewire/forgewire/beans/ArgumentMatcher$Argument", name := "bean", desc := "()Ljava/lang/Object;" } : Jvm.MethodName) prog_3_method_10_code (1 : Nat) (Option.some (Jvm.ClassFile.FieldType.object "java/lang/Object"))).before args0 about1 = true := code_word (m := ⟨9, 4⟩) (meth := k9m4) (c := k9c4) (by decide +kernel) rfl rfl rfl (by decide +kernel)
set_option maxRecDepth 65536 in
theorem w_c11 : (Jvm.Cond.code ({ cls := "com/example/forgewire/forgewire/beans/ArgumentMatcher$Argument", name := "value", desc := "()Lcom/example/forgewire/forgewire/beans/ValueDefinition;" } : Jvm.MethodName) prog_3_method_9_code (1 : Nat) (Option.some (Jvm.ClassFile.FieldType.object "com/example/forgewire/forgewire/beans/ValueDefinition"))).before args0 about1 = true := code_word (m := ⟨9, 3⟩) (meth := k9m3) (c := k9c3) (by decide +kernel) rfl rfl rfl (by decide +kernel)
set_option maxRecDepth 65536 in
theorem w_c12 : (Jvm.Cond.code ({ cls := "com/example/forgewire/forgewire/beans/ValueDefinition$Text", name := "text", desc := "()Ljava/lang/String;" } : Jvm.MethodName) prog_71_method_5_code (1 : Nat) (Option.some (Jvm.ClassFile.FieldType.object "java/lang/String"))).before args0 about1 = true := code_word (m := ⟨11, 1⟩) (meth := k11m1) (c := k11c1) (by decide +kernel) rfl rfl rfl (by decide +kernel)
set_option maxRecDepth 65536 in
theorem w_c13 : (Jvm.Cond.code ({ cls := "java/lang/String", name := "length", desc := "()I" } : Jvm.MethodName) jdk_42_method_54_code (1 : Nat) (Option.some Jvm.ClassFile.FieldType.int)).before args0 about1 = true := code_word (m := ⟨7, 2⟩) (meth := k7m2) (c := k7c2) (by decide +kernel) rfl rfl rfl (by decide +kernel)
set_option maxRecDepth 65536 in
theorem w_c14 : (Jvm.Cond.code ({ cls := "java/lang/String", name := "coder", desc := "()B" } : Jvm.MethodName) jdk_42_method_152_code (1 : Nat) (Option.some Jvm.ClassFile.FieldType.byte)).before args0 about1 = true := code_word (m := ⟨7, 5⟩) (meth := k7m5) (c := k7c5) (by decide +kernel) rfl rfl rfl (by decide +kernel)
set_option maxRecDepth 65536 in
theorem w_c15 : (Jvm.Cond.code ({ cls := "java/lang/String", name := "equals", desc := "(Ljava/lang/Object;)Z" } : Jvm.MethodName) jdk_42_method_66_code (3 : Nat) (Option.some Jvm.ClassFile.FieldType.boolean)).before args0 about1 = true := code_word (m := ⟨7, 3⟩) (meth := k7m3) (c := k7c3) (by decide +kernel) rfl rfl rfl (by decide +kernel)
set_option maxRecDepth 65536 in
theorem w_c16 : (Jvm.Cond.code ({ cls := "java/lang/StringUTF16", name := "compress", desc := "([CII)[B" } : Jvm.MethodName) jdk_52_method_16_code (6 : Nat) (Option.some (Jvm.ClassFile.FieldType.array Jvm.ClassFile.FieldType.byte))).before args0 about1 = true := code_word (m := ⟨13, 7⟩) (meth := k13m7) (c := k13c7) (by decide +kernel) rfl rfl rfl (by decide +kernel)
set_option maxRecDepth 65536 in
theorem w_c17 : (Jvm.Cond.code ({ cls := "java/lang/StringUTF16", name := "compress", desc := "([CI[BII)I" } : Jvm.MethodName) jdk_52_method_21_code (7 : Nat) (Option.some Jvm.ClassFile.FieldType.int)).before args0 about1 = true := code_word (m := ⟨13, 8⟩) (meth := k13m8) (c := k13c8) (by decide +kernel) rfl rfl rfl (by decide +kernel)
set_option maxRecDepth 65536 in
theorem w_c18 : (Jvm.Cond.code ({ cls := "java/lang/StringUTF16", name := "coderFromArrayLen", desc := "([BI)B" } : Jvm.MethodName) jdk_52_method_15_code (2 : Nat) (Option.some Jvm.ClassFile.FieldType.byte)).before args0 about1 = true := code_word (m := ⟨13, 6⟩) (meth := k13m6) (c := k13c6) (by decide +kernel) rfl rfl rfl (by decide +kernel)
set_option maxRecDepth 65536 in
theorem w_c19 : (Jvm.Cond.code ({ cls := "java/lang/StringUTF16", name := "toBytes", desc := "([CII)[B" } : Jvm.MethodName) jdk_52_method_14_code (5 : Nat) (Option.some (Jvm.ClassFile.FieldType.array Jvm.ClassFile.FieldType.byte))).before args0 about1 = true := code_word (m := ⟨13, 5⟩) (meth := k13m5) (c := k13c5) (by decide +kernel) rfl rfl rfl (by decide +kernel)
set_option maxRecDepth 65536 in
theorem w_c20 : (Jvm.Cond.code ({ cls := "java/lang/StringUTF16", name := "newBytesFor", desc := "(I)[B" } : Jvm.MethodName) jdk_52_method_2_code (1 : Nat) (Option.some (Jvm.ClassFile.FieldType.array Jvm.ClassFile.FieldType.byte))).before args0 about1 = true := code_word (m := ⟨13, 1⟩) (meth := k13m1) (c := k13c1) (by decide +kernel) rfl rfl rfl (by decide +kernel)
set_option maxRecDepth 65536 in
theorem w_c21 : (Jvm.Cond.code ({ cls := "java/lang/StringUTF16", name := "newBytesLength", desc := "(I)I" } : Jvm.MethodName) jdk_52_method_3_code (1 : Nat) (Option.some Jvm.ClassFile.FieldType.int)).before args0 about1 = true := code_word (m := ⟨13, 2⟩) (meth := k13m2) (c := k13c2) (by decide +kernel) rfl rfl rfl (by decide +kernel)
set_option maxRecDepth 65536 in
theorem w_c22 : (Jvm.Cond.code ({ cls := "java/lang/StringUTF16", name := "putChar", desc := "([BII)V" } : Jvm.MethodName) jdk_52_method_4_code (3 : Nat) (Option.none : Option Jvm.ClassFile.FieldType)).before args0 about1 = true := code_word (m := ⟨13, 3⟩) (meth := k13m3) (c := k13c3) (by decide +kernel) rfl rfl rfl (by decide +kernel)
set_option maxRecDepth 65536 in
theorem w_c23 : (Jvm.Cond.code ({ cls := "java/lang/StringUTF16", name := "getChar", desc := "([BI)C" } : Jvm.MethodName) jdk_52_method_5_code (2 : Nat) (Option.some Jvm.ClassFile.FieldType.char)).before args0 about1 = true := code_word (m := ⟨13, 4⟩) (meth := k13m4) (c := k13c4) (by decide +kernel) rfl rfl rfl (by decide +kernel)
def codes1 : List Jvm.Cond := [Jvm.Cond.code x code maxLocals ret, Jvm.Cond.code ({ cls := "java/lang/String", name := "<init>", desc := "([C)V" } : Jvm.MethodName) jdk_42_method_3_code (2 : Nat) (Option.none : Option Jvm.ClassFile.FieldType), Jvm.Cond.code ({ cls := "java/lang/String", name := "<init>", desc := "([CIILjava/lang/Void;)V" } : Jvm.MethodName) jdk_42_method_149_code (6 : Nat) (Option.none : Option Jvm.ClassFile.FieldType), Jvm.Cond.code ({ cls := "java/lang/Object", name := "<init>", desc := "()V" } : Jvm.MethodName) object_method_1_code (1 : Nat) (Option.none : Option Jvm.ClassFile.FieldType), Jvm.Cond.code ({ cls := "com/example/forgewire/forgewire/beans/ArgumentMatcher$Argument", name := "text", desc := "(Ljava/lang/String;)Lcom/example/forgewire/forgewire/beans/ArgumentMatcher$Argument;" } : Jvm.MethodName) prog_3_method_4_code (1 : Nat) (Option.some (Jvm.ClassFile.FieldType.object "com/example/forgewire/forgewire/beans/ArgumentMatcher$Argument")), Jvm.Cond.code ({ cls := "com/example/forgewire/forgewire/beans/ValueDefinition$Text", name := "<init>", desc := "(Ljava/lang/String;)V" } : Jvm.MethodName) prog_71_method_1_code (2 : Nat) (Option.none : Option Jvm.ClassFile.FieldType), Jvm.Cond.code ({ cls := "java/lang/Record", name := "<init>", desc := "()V" } : Jvm.MethodName) jdk_30_method_1_code (1 : Nat) (Option.none : Option Jvm.ClassFile.FieldType), Jvm.Cond.code ({ cls := "java/util/Objects", name := "requireNonNull", desc := "(Ljava/lang/Object;Ljava/lang/String;)Ljava/lang/Object;" } : Jvm.MethodName) jdk_31_method_11_code (2 : Nat) (Option.some (Jvm.ClassFile.FieldType.object "java/lang/Object")), Jvm.Cond.code ({ cls := "com/example/forgewire/forgewire/beans/ArgumentMatcher$Argument", name := "<init>", desc := "(Lcom/example/forgewire/forgewire/beans/ConstructorArgument;Lcom/example/forgewire/forgewire/beans/ValueDefinition;Ljava/lang/Object;)V" } : Jvm.MethodName) prog_3_method_2_code (4 : Nat) (Option.none : Option Jvm.ClassFile.FieldType), Jvm.Cond.code ({ cls := "com/example/forgewire/forgewire/beans/ArgumentMatcher$Argument", name := "definition", desc := "()Lcom/example/forgewire/forgewire/beans/ConstructorArgument;" } : Jvm.MethodName) prog_3_method_8_code (1 : Nat) (Option.some (Jvm.ClassFile.FieldType.object "com/example/forgewire/forgewire/beans/ConstructorArgument")), Jvm.Cond.code ({ cls := "com/example/forgewire/forgewire/beans/ArgumentMatcher$Argument", name := "bean", desc := "()Ljava/lang/Object;" } : Jvm.MethodName) prog_3_method_10_code (1 : Nat) (Option.some (Jvm.ClassFile.FieldType.object "java/lang/Object")), Jvm.Cond.code ({ cls := "com/example/forgewire/forgewire/beans/ArgumentMatcher$Argument", name := "value", desc := "()Lcom/example/forgewire/forgewire/beans/ValueDefinition;" } : Jvm.MethodName) prog_3_method_9_code (1 : Nat) (Option.some (Jvm.ClassFile.FieldType.object "com/example/forgewire/forgewire/beans/ValueDefinition")), Jvm.Cond.code ({ cls := "com/example/forgewire/forgewire/beans/ValueDefinition$Text", name := "text", desc := "()Ljava/lang/String;" } : Jvm.MethodName) prog_71_method_5_code (1 : Nat) (Option.some (Jvm.ClassFile.FieldType.object "java/lang/String")), Jvm.Cond.code ({ cls := "java/lang/String", name := "length", desc := "()I" } : Jvm.MethodName) jdk_42_method_54_code (1 : Nat) (Option.some Jvm.ClassFile.FieldType.int), Jvm.Cond.code ({ cls := "java/lang/String", name := "coder", desc := "()B" } : Jvm.MethodName) jdk_42_method_152_code (1 : Nat) (Option.some Jvm.ClassFile.FieldType.byte), Jvm.Cond.code ({ cls := "java/lang/String", name := "equals", desc := "(Ljava/lang/Object;)Z" } : Jvm.MethodName) jdk_42_method_66_code (3 : Nat) (Option.some Jvm.ClassFile.FieldType.boolean), Jvm.Cond.code ({ cls := "java/lang/StringUTF16", name := "compress", desc := "([CII)[B" } : Jvm.MethodName) jdk_52_method_16_code (6 : Nat) (Option.some (Jvm.ClassFile.FieldType.array Jvm.ClassFile.FieldType.byte)), Jvm.Cond.code ({ cls := "java/lang/StringUTF16", name := "compress", desc := "([CI[BII)I" } : Jvm.MethodName) jdk_52_method_21_code (7 : Nat) (Option.some Jvm.ClassFile.FieldType.int), Jvm.Cond.code ({ cls := "java/lang/StringUTF16", name := "coderFromArrayLen", desc := "([BI)B" } : Jvm.MethodName) jdk_52_method_15_code (2 : Nat) (Option.some Jvm.ClassFile.FieldType.byte), Jvm.Cond.code ({ cls := "java/lang/StringUTF16", name := "toBytes", desc := "([CII)[B" } : Jvm.MethodName) jdk_52_method_14_code (5 : Nat) (Option.some (Jvm.ClassFile.FieldType.array Jvm.ClassFile.FieldType.byte)), Jvm.Cond.code ({ cls := "java/lang/StringUTF16", name := "newBytesFor", desc := "(I)[B" } : Jvm.MethodName) jdk_52_method_2_code (1 : Nat) (Option.some (Jvm.ClassFile.FieldType.array Jvm.ClassFile.FieldType.byte)), Jvm.Cond.code ({ cls := "java/lang/StringUTF16", name := "newBytesLength", desc := "(I)I" } : Jvm.MethodName) jdk_52_method_3_code (1 : Nat) (Option.some Jvm.ClassFile.FieldType.int), Jvm.Cond.code ({ cls := "java/lang/StringUTF16", name := "putChar", desc := "([BII)V" } : Jvm.MethodName) jdk_52_method_4_code (3 : Nat) (Option.none : Option Jvm.ClassFile.FieldType), Jvm.Cond.code ({ cls := "java/lang/StringUTF16", name := "getChar", desc := "([BI)C" } : Jvm.MethodName) jdk_52_method_5_code (2 : Nat) (Option.some Jvm.ClassFile.FieldType.char)]
set_option maxRecDepth 65536 in
theorem codes_eq : words1.filter isCode = codes1 := rfl
theorem w_codes : ∀ c ∈ words1.filter isCode, c.before args0 about1 = true := by
  rw [codes_eq]
  intro c hc
  simp only [codes1, List.mem_cons, List.not_mem_nil, or_false] at hc
  rcases hc with rfl | rfl | rfl | rfl | rfl | rfl | rfl | rfl | rfl | rfl | rfl | rfl | rfl | rfl | rfl | rfl | rfl | rfl | rfl | rfl | rfl | rfl | rfl | rfl
  · exact w_c0
  · exact w_c1
  · exact w_c2
  · exact w_c3
  · exact w_c4
  · exact w_c5
  · exact w_c6
  · exact w_c7
  · exact w_c8
  · exact w_c9
  · exact w_c10
  · exact w_c11
  · exact w_c12
  · exact w_c13
  · exact w_c14
  · exact w_c15
  · exact w_c16
  · exact w_c17
  · exact w_c18
  · exact w_c19
  · exact w_c20
  · exact w_c21
  · exact w_c22
  · exact w_c23
set_option maxRecDepth 65536 in
theorem w_t1 : (words1.take 24).all (fun c => isCode c || c.before args0 about1) = true := by decide +kernel
set_option maxRecDepth 65536 in
theorem w_t2 : ((words1.drop 24).take 24).all (fun c => isCode c || c.before args0 about1) = true := by decide +kernel
set_option maxRecDepth 65536 in
theorem w_t3 : (((words1.drop 24).drop 24).take 24).all (fun c => isCode c || c.before args0 about1) = true := by decide +kernel
set_option maxRecDepth 65536 in
theorem w_t4 : ((((words1.drop 24).drop 24).drop 24).take 24).all (fun c => isCode c || c.before args0 about1) = true := by decide +kernel
set_option maxRecDepth 65536 in
theorem w_t5 : (((((words1.drop 24).drop 24).drop 24).drop 24).take 24).all (fun c => isCode c || c.before args0 about1) = true := by decide +kernel
set_option maxRecDepth 65536 in
theorem w_t6 : (((((words1.drop 24).drop 24).drop 24).drop 24).drop 24).all (fun c => isCode c || c.before args0 about1) = true := by decide +kernel
theorem w_tables : (allAtoms (Jvm.Cond.code x code maxLocals ret :: tables_1)).before args0 about1 = true := by
  rw [allAtoms_all]
  show words1.all (fun c => c.before args0 about1) = true
  refine all_split ?_ w_codes
  rw [← List.take_append_drop 24 words1, List.all_append, w_t1, ← List.take_append_drop 24 (words1.drop 24), List.all_append, w_t2, ← List.take_append_drop 24 ((words1.drop 24).drop 24), List.all_append, w_t3, ← List.take_append_drop 24 (((words1.drop 24).drop 24).drop 24), List.all_append, w_t4, ← List.take_append_drop 24 ((((words1.drop 24).drop 24).drop 24).drop 24), List.all_append, w_t5, w_t6]
  rfl
set_option maxRecDepth 65536 in
theorem w_rest : rest_1_c.before args0 about1 = true := by decide +kernel
set_option maxRecDepth 65536 in
theorem w_case : (Jvm.Cond.and given_1 narrow_1).before args0 about1 = true := by decide +kernel
set_option maxRecDepth 65536 in
theorem w_consts : constsHeld consts_1 about1 := Jvm.Lit.constsHeldB_iff.mp (by decide +kernel)
theorem w_applies : (headSpec (Jvm.Cond.code x code maxLocals ret :: tables_1) room_1).applies x e0.platform about1 = true :=
  (Spec.applies_iff w_frames).mpr ⟨w_running, w_runnable, w_alone, w_named, w_hears, w_ripe, w_room, w_tables⟩
theorem atStart : AtStart classFile x code maxLocals ret World_1 tables_1 room_1 Calls_1 rest_1 Pre_1 launch0 p0 e0 about1 theMethod args0 below0 :=
  ⟨lists_1, trivial, launch0.admits_env _ _ _, launch0.least_env, fairChoices_fair.cas, fairChoices_fair.clock, w_frames, w_args, w_heap, w_applies, ⟨w_consts, trivial⟩, w_rest, w_case⟩
end start1
theorem witness_1 : WitnessClaimed_1 := ⟨start1.p0, start1.e0, start1.about1, start1.theMethod, start1.args0, start1.below0, start1.atStart⟩
end Jvm.Pilot.@@N@@
