import JvmDerived
import JvmDerived.Pilot.@@N@@Statement
import JvmDerived.Pilot.@@N@@Code
set_option linter.unusedVariables false
set_option linter.unusedSimpArgs false
namespace Jvm.Pilot.@@N@@
open Jvm Jvm.ClassFile Sem Op Lib Jvm.Free Jvm.Stand Jvm.LawKit Jvm.RoadKit Bundle Jvm.Pilot.@@N@@.Jvm.D
set_option maxRecDepth 65536
set_option maxHeartbeats 40000000
abbrev o35 (a0 : Array Value) (Z : State) : Prop := ∀ d ∈ tables_1, d.before a0 Z = true
theorem o2 {a0 : Array Value} {Z : State} (hw : ∀ d ∈ tables_1, d.before a0 Z = true) (i : Nat) {d : Jvm.Cond} (h : tables_1[i]? = some d) : d.before a0 Z = true := hw _ (List.mem_of_getElem? h)
section Own
variable {p : Program} {l : Launch} {e : Env} {R : Room} {s : State} {m : MethodId} {args : Array Value} {below : List Frame} {meth : Method} {c : Code} {T : State} {locs : List Loc} {cells slots : Nat} {Z : State} {a0 : Array Value} {h : Heap}
def o11 (p : Program) (e : Env) (below : List Frame) (P : Outcome → State → Prop) (U : State) : Prop := ∃ s₂ o, Steps p.tables e below U s₂ ∧ s₂.status = .running ∧ Ended s₂ below o ∧ P o s₂
theorem o4 {P : Outcome → State → Prop} {U V : State} (k : ∀ t, Steps p.tables e below U t → Steps p.tables e below V t) (h : o11 p e below P U) : o11 p e below P V := by
  obtain ⟨a, b, c, d⟩ := h; exact ⟨a, b, k _ c, d⟩
def o822 (s : State) (Q : Option Value → Heap → List Loc → Prop) (rc rs : Nat) (o : Outcome) (U : State) : Prop := ∃ v L, o = .returned v ∧ Q v U.heap L ∧ FrameEnd s o U L rc rs
theorem o843 (X : Stand p l e R s m args below meth c T locs cells slots) {Q : Option Value → Heap → List Loc → Prop} {rc rs : Nat} {g : JFrame} {v : Option Value} (hlk : meth.locks = false) (hv : meth.sig.returnType = none → v = none) (hq : Q v T.heap locs) (hc : cells ≤ rc) (hl : slots ≤ rs)
    (k : ∀ fs, (∀ (f : JFrame) (acts : List Action), f.method = m → f.locked = none → f.entered = [] → (doReturn e (T.setTop f) acts v).1 = T.setFrames fs) → Steps p.tables e below (T.setTop g) (T.setFrames fs)) : o11 p e below (o822 s Q rc rs) (T.setTop g) := by
  obtain ⟨fs, hr, hrun, hended, hW, hsame⟩ := X.leave (v := v) hv hlk
  exact ⟨_, _, k fs hr, hrun, hended, _, _, rfl, hq, ⟨_, rfl⟩, hW, hsame.mono hc hl⟩
theorem o81 (X : Stand p l e R s m args below meth c T locs cells slots) (hx : p.tables.exec = Jvm.exec) {Q : Option Value → Heap → List Loc → Prop} {rc rs pc : Nat} {Ls : Array Slot} (hlk : meth.locks = false) (hret : meth.sig.returnType = none) (hd : decode c.code pc = .ok (.return_, 1)) (hc : cells ≤ rc) (hl : slots ≤ rs) (hq : Q none T.heap locs) : o11 p e below (o822 s Q rc rs) (T.setTop (mkF m pc Ls [])) :=
  o843 X hlk (fun _ => rfl) hq hc hl fun _ hr => X.returnOut hx hret hd hr
theorem o69 (X : Stand p l e R s m args below meth c T locs cells slots) (hx : p.tables.exec = Jvm.exec) {Q : Option Value → Heap → List Loc → Prop} {rc rs pc : Nat} {Ls : Array Slot} {w : Value} {t : FieldType} {i : Instr} {rest : List Value} (hlk : meth.locks = false) (hret : meth.sig.returnType = some t) (hn : narrow t w = w)
    (hi : (i = .ireturn ∧ (t = .int ∨ t = .boolean ∨ t = .byte ∨ t = .char ∨ t = .short) ∧ ∃ z, w = .int z) ∨ (i = .lreturn ∧ t = .long ∧ ∃ z, w = .long z) ∨ (i = .dreturn ∧ t = .double ∧ ∃ z, w = .double z) ∨ (i = .freturn ∧ t = .float ∧ ∃ z, w = .float z) ∨ (i = .areturn ∧ t.isReference = true ∧ w.isRef = true))
    (hd : decode c.code pc = .ok (i, 1)) (hc : cells ≤ rc) (hl : slots ≤ rs) (hq : Q (some w) T.heap locs) : o11 p e below (o822 s Q rc rs) (T.setTop (mkF m pc Ls (w :: rest))) :=
  o843 X hlk (fun q => by rw [hret] at q; cases q) hq hc hl fun _ hr => retOut X hx hret hn hi hd hr
theorem o866 {y : MethodName} {bytes : ByteArray} {maxL : Nat} {ret : Option FieldType} {rm : Room} {ws : List Cond} {as' : Array Value} {Q : Option Value → Heap → List Loc → Prop} (hn : plainFor y = true)
    (b : ∀ (p : Program) (e : Env) (s : State) (m : MethodId) (below : List Frame) (meth : Method) (c : Code) (s₁ : State), p.tables.exec = Jvm.exec → c.code = bytes → c.maxLocals = maxL → s.vm.findClass y.cls = some m.cls → meth.name = y.name → meth.sig.returnType = ret → meth.locks = false → Z.Warmed39 s.vm → s₁.heap = h → Stand p l e rm s m as' below meth c s₁ [] 0 0 →
      o11 p e below (o822 s Q rm.cells rm.slots) (s₁.setTop (entryFrame m as' maxL))) :
    MetFree l y (head1 (Cond.code y bytes maxL ret :: ws) rm) (fun a U => a = as' ∧ Z.Warmed39 U.vm ∧ U.heap = h) (fun _ _ _ _ _ => True) (fun _ U o U' => ∃ v L, o = .returned v ∧ Q v U'.heap L ∧ FrameEnd U o U' L rm.cells rm.slots) := by
  refine MetFree.of_bodySF hn hisR ?_
  intro p e s m args below meth c s₁ Bd hml0 hP hK
  obtain ⟨rfl, hZ, hh⟩ := hP
  exact b p e s m below meth c s₁ Bd.exec Bd.bytes hml0 (findClass_of_methodNamed Bd.named) (name_of_methodNamed Bd.named Bd.method).1 Bd.returns Bd.notSynchronized hZ (by rw [← hh, Bd.state]; rfl) (Stand.of_body Bd)
abbrev o21 (l : Launch) (y : MethodName) (bytes : ByteArray) (maxL : Nat) (ret : Option FieldType) (ws : List Cond) (rm : Room) (Z : State) (h : Heap) (as' : Array Value) (Q : Option Value → Heap → List Loc → Prop) : Prop :=
  MetFree l y (head1 (Cond.code y bytes maxL ret :: ws) rm) (fun a U => a = as' ∧ Z.Warmed39 U.vm ∧ U.heap = h) (fun _ _ _ _ _ => True) (fun _ U o U' => ∃ v L, o = .returned v ∧ Q v U'.heap L ∧ FrameEnd U o U' L rm.cells rm.slots)
abbrev o412 (p : Program) (l : Launch) (e : Env) (R : Room) (s : State) (m : MethodId) (args : Array Value) (below : List Frame) (meth : Method) (c : Code) (T : State) (locs : List Loc) (cells slots : Nat) (g : JFrame) (len : Nat) (rest : List Value) (Q : Option Value → Heap → List Loc → Prop) : Prop :=
  ∃ (T' : State) (v : Option Value) (L : List Loc), Stand p l e R s m args below meth c T' (locs ++ L) cells slots ∧ Q v T'.heap L ∧ ∀ t, Steps p.tables e below (T'.setTop { g with pc := g.pc + len, stack := v.toList ++ rest }) t → Steps p.tables e below (T.setTop g) t
theorem o78 (X : Stand p l e R s m args below meth c T locs cells slots) (hx : p.tables.exec = Jvm.exec) (hZ : Z.Warmed39 s.vm) {own : String} {index : Nat} {y : MethodName} {bytes : ByteArray} {maxL : Nat} {ret : Option FieldType} {rm : Room} {as' : Array Value} {Q : Option Value → Heap → List Loc → Prop}
    (hown : s.vm.findClass own = some m.cls) (w1 : (Cond.methodLink own index y).before a0 Z = true) (w2 : (Cond.static y).before a0 Z = true) (w3 : (Cond.initialized y.cls).before a0 Z = true) (w4 : (Cond.code y bytes maxL ret).before a0 Z = true)
    (hy : y.cls ≠ "java/lang/invoke/MethodHandle" ∧ y.cls ≠ "java/lang/invoke/VarHandle") (hM : o21 l y bytes maxL ret [] rm Z h as' Q) (eT : T.heap = h) {ps : List FieldType} {r : Option FieldType} (hd : parseMethodDescriptor y.desc = some ⟨ps, r⟩) {argsL rest : List Value} (hl : argsL.length = ps.length) (ha : argsL.toArray = as')
    {g : JFrame} (hg : g.method = m) (hsize : g.locals.size = c.maxLocals) (hstack : g.stack = argsL.reverse ++ rest) (hdg : decode c.code g.pc = .ok (.invokestatic index, 3)) {W : Nat} (hW : 2 * g.monitorRoom + (rest.map fun v => v.category).sum = W) (h1 : rm.frames + 1 ≤ R.frames := by decide) (h2 : W + (maxL + 11) + rm.locals ≤ R.locals := by decide) (h3 : cells + rm.cells ≤ R.cells := by decide) (h4 : slots + rm.slots ≤ R.slots := by decide) :
    o412 p l e R s m args below meth c T locs (cells + rm.cells) (slots + rm.slots) g 3 rest Q := by
  obtain ⟨v, _, ⟨T', L', k', n'⟩, -, X', ⟨Lc, hQ, l1, y1, z1⟩, st⟩ := Jvm.LawKit.callS X hx (y := y) hown (mvT hZ w1) (mvT hZ w2) (mvT hZ w3) (mvT hZ w4) hy (backOf (W := W) hM hZ w4 w3 h1 h2) (g := g) hg hsize (argsL := argsL) (rest := rest) (lenOf hd hl) hstack (Nat.le_of_eq hW) hdg (fun _ _ => ⟨ha, eT, h3, h4⟩)
  dsimp only [Pt.U, Pt.locs, Pt.cells, Pt.slots] at X' l1 y1 z1 st hQ
  subst l1 y1 z1
  exact ⟨T', v, Lc, X', hQ, st⟩
theorem o87 (X : Stand p l e R s m args below meth c T locs cells slots) (hx : p.tables.exec = Jvm.exec) (hZ : Z.Warmed39 s.vm) {own : String} {index : Nat} {y : MethodName} {bytes : ByteArray} {maxL : Nat} {rm : Room} {as' : Array Value} {Q : Option Value → Heap → List Loc → Prop} (hy1 : y.name = "<init>")
    (hown : s.vm.findClass own = some m.cls) (w1 : (Cond.methodLink own index y).before a0 Z = true) (w2 : (Cond.instanceMethod y).before a0 Z = true) (w3 : (Cond.initialized y.cls).before a0 Z = true) (w4 : (Cond.code y bytes maxL none).before a0 Z = true)
    (hy : y.cls ≠ "java/lang/invoke/MethodHandle" ∧ y.cls ≠ "java/lang/invoke/VarHandle") (hM : o21 l y bytes maxL none [] rm Z h as' Q) (eT : T.heap = h) {ps : List FieldType} {r : Option FieldType} (hd : parseMethodDescriptor y.desc = some ⟨ps, r⟩) {a : Addr} {argsL rest : List Value} (hl : argsL.length = ps.length) (ha : (.ref a :: argsL).toArray = as')
    {g : JFrame} (hg : g.method = m) (hsize : g.locals.size = c.maxLocals) (hstack : g.stack = argsL.reverse ++ .ref a :: rest) (hdg : decode c.code g.pc = .ok (.invokespecial index, 3)) {W : Nat} (hW : 2 * g.monitorRoom + (rest.map fun v => v.category).sum = W) (h1 : rm.frames + 1 ≤ R.frames := by decide) (h2 : W + (maxL + 11) + rm.locals ≤ R.locals := by decide) (h3 : cells + rm.cells ≤ R.cells := by decide) (h4 : slots + rm.slots ≤ R.slots := by decide) :
    o412 p l e R s m args below meth c T locs (cells + rm.cells) (slots + rm.slots) g 3 rest Q := by
  obtain ⟨v, _, ⟨T', L', k', n'⟩, -, X', ⟨Lc, hQ, l1, y1, z1⟩, st⟩ := X.specialBack hx (y := y) hy1 hown (mvT hZ w1) (mvT hZ w2) (mvT hZ w4) hy (backOf (W := W) hM hZ w4 w3 h1 h2) (g := g) hg hsize (Steps.refl _) (a := a) (argsL := argsL) (rest := rest) (lenOf hd hl) hstack (Nat.le_of_eq hW) hdg (fun _ _ => ⟨ha, eT, h3, h4⟩)
  dsimp only [Pt.U, Pt.locs, Pt.cells, Pt.slots] at X' l1 y1 z1 st hQ
  subst l1 y1 z1
  exact ⟨T', v, Lc, X', hQ, fun _ k => st.trans k⟩
theorem o63 (X : Stand p l e R s m args below meth c T locs cells slots) (hx : p.tables.exec = Jvm.exec) (hZ : Z.Warmed39 s.vm) {own C : String} {index : Nat} {y z : MethodName} {bytes : ByteArray} {maxL : Nat} {ret : Option FieldType} {rm : Room} {as' : Array Value} {Q : Option Value → Heap → List Loc → Prop}
    (hown : s.vm.findClass own = some m.cls) (w1 : (Cond.methodLink own index y).before a0 Z = true) (w2 : (Cond.declares y).before a0 Z = true) (hnf : NotFace s y) (w5 : (Cond.selects C y z).before a0 Z = true) (w6 : (Cond.instanceMethod z).before a0 Z = true) (w3 : (Cond.initialized z.cls).before a0 Z = true) (w4 : (Cond.code z bytes maxL ret).before a0 Z = true)
    (hy : y.cls ≠ "java/lang/invoke/MethodHandle" ∧ y.cls ≠ "java/lang/invoke/VarHandle") (hM : o21 l z bytes maxL ret [] rm Z h as' Q) (eT : T.heap = h) {a : Addr} (E : Exa Z h a C) {ps : List FieldType} {r : Option FieldType} (hd : parseMethodDescriptor y.desc = some ⟨ps, r⟩) {argsL rest : List Value} (hl : argsL.length = ps.length) (ha : (.ref a :: argsL).toArray = as')
    {g : JFrame} (hg : g.method = m) (hsize : g.locals.size = c.maxLocals) (hstack : g.stack = argsL.reverse ++ .ref a :: rest) (hdg : decode c.code g.pc = .ok (.invokevirtual index, 3)) {W : Nat} (hW : 2 * g.monitorRoom + (rest.map fun v => v.category).sum = W) (h1 : rm.frames + 1 ≤ R.frames := by decide) (h2 : W + (maxL + 11) + rm.locals ≤ R.locals := by decide) (h3 : cells + rm.cells ≤ R.cells := by decide) (h4 : slots + rm.slots ≤ R.slots := by decide) :
    o412 p l e R s m args below meth c T locs (cells + rm.cells) (slots + rm.slots) g 3 rest Q := by
  obtain ⟨cq, kq, qa, qb, qc⟩ := isOf hZ eT E
  obtain ⟨v, _, ⟨T', L', k', n'⟩, -, X', ⟨Lc, hQ, l1, y1, z1⟩, st⟩ := X.virtualBack hx (y := y) (z := z) hown (mvT hZ w1) (mvT hZ w2) hnf (mvT hZ w5) (mvT hZ w6) hy (backOf (W := W) hM hZ w4 w3 h1 h2) qa qc (g := g) hg hsize (Steps.refl _) (argsL := argsL) (rest := rest) (lenOf hd hl) hstack (Nat.le_of_eq hW) hdg (fun _ _ => ⟨ha, eT, h3, h4⟩)
  dsimp only [Pt.U, Pt.locs, Pt.cells, Pt.slots] at X' l1 y1 z1 st hQ
  subst l1 y1 z1
  exact ⟨T', v, Lc, X', hQ, fun _ k => st.trans k⟩
theorem o991 (X : Stand p l e R s m args below meth c T locs cells slots) (hx : p.tables.exec = Jvm.exec) (hZ : Z.Warmed39 s.vm) {own C owner : String} {index : Nat} {y z : MethodName} {bytes : ByteArray} {maxL : Nat} {ret : Option FieldType} {rm : Room} {as' : Array Value} {Q : Option Value → Heap → List Loc → Prop}
    (hown : s.vm.findClass own = some m.cls) (w1 : (Cond.methodLink own index y).before a0 Z = true) (w7 : (Cond.sameMethod y.cls owner y.name y.desc).before a0 Z = true) (w2 : (Cond.declares ⟨owner, y.name, y.desc⟩).before a0 Z = true) (w5 : (Cond.selects C y z).before a0 Z = true) (w6 : (Cond.instanceMethod z).before a0 Z = true) (w3 : (Cond.initialized z.cls).before a0 Z = true) (w4 : (Cond.code z bytes maxL ret).before a0 Z = true)
    (hy : owner ≠ "java/lang/invoke/MethodHandle" ∧ owner ≠ "java/lang/invoke/VarHandle") (hM : o21 l z bytes maxL ret [] rm Z h as' Q) (eT : T.heap = h) {a : Addr} (E : Exa Z h a C) {ps : List FieldType} {r : Option FieldType} (hd : parseMethodDescriptor y.desc = some ⟨ps, r⟩) {argsL rest : List Value} (hl : argsL.length = ps.length) (ha : (.ref a :: argsL).toArray = as')
    {g : JFrame} (hg : g.method = m) (hsize : g.locals.size = c.maxLocals) (hstack : g.stack = argsL.reverse ++ .ref a :: rest) (hdg : decode c.code g.pc = .ok (.invokevirtual index, 3)) {W : Nat} (hW : 2 * g.monitorRoom + (rest.map fun v => v.category).sum = W) (h1 : rm.frames + 1 ≤ R.frames := by decide) (h2 : W + (maxL + 11) + rm.locals ≤ R.locals := by decide) (h3 : cells + rm.cells ≤ R.cells := by decide) (h4 : slots + rm.slots ≤ R.slots := by decide) :
    o412 p l e R s m args below meth c T locs (cells + rm.cells) (slots + rm.slots) g 3 rest Q := by
  obtain ⟨cq, kq, qa, qb, qc⟩ := isOf hZ eT E
  obtain ⟨v, _, ⟨T', L', k', n'⟩, -, X', ⟨Lc, hQ, l1, y1, z1⟩, st⟩ := X.virtualBackUp hx (x := y) (y := z) hown (mvT hZ w1) (mvT hZ w7) (mvT hZ w2) hy (mvT hZ w5) (mvT hZ w6) (backOf (W := W) hM hZ w4 w3 h1 h2) qa qc (g := g) hg hsize (Steps.refl _) (argsL := argsL) (rest := rest) (lenOf hd hl) hstack (Nat.le_of_eq hW) hdg (fun _ _ => ⟨ha, eT, h3, h4⟩)
  dsimp only [Pt.U, Pt.locs, Pt.cells, Pt.slots] at X' l1 y1 z1 st hQ
  subst l1 y1 z1
  exact ⟨T', v, Lc, X', hQ, fun _ k => st.trans k⟩
theorem o992 (X : Stand p l e R s m args below meth c T locs cells slots) (hx : p.tables.exec = Jvm.exec) (hZ : Z.Warmed39 s.vm) {own C : String} {index count : Nat} {y z : MethodName} {bytes : ByteArray} {maxL : Nat} {ret : Option FieldType} {rm : Room} {as' : Array Value} {Q : Option Value → Heap → List Loc → Prop}
    (hown : s.vm.findClass own = some m.cls) (w1 : (Cond.methodLink own index y).before a0 Z = true) (w2 : (Cond.declares y).before a0 Z = true) (w7 : (Cond.interfaceMethod y.cls y.cls y.name y.desc).before args s = true) (w5 : (Cond.selects C y z).before a0 Z = true) (w6 : (Cond.instanceMethod z).before a0 Z = true) (w8 : (Cond.publicMethod z).before a0 Z = true) (w9 : (Cond.unhidden C y.name y.desc).before a0 Z = true) (w10 : (Cond.castable C y.cls).before a0 Z = true) (w3 : (Cond.initialized z.cls).before a0 Z = true) (w4 : (Cond.code z bytes maxL ret).before a0 Z = true)
    (hy : y.cls ≠ "java/lang/invoke/MethodHandle" ∧ y.cls ≠ "java/lang/invoke/VarHandle") (hM : o21 l z bytes maxL ret [] rm Z h as' Q) (eT : T.heap = h) {a : Addr} (E : Exa Z h a C) {ps : List FieldType} {r : Option FieldType} (hd : parseMethodDescriptor y.desc = some ⟨ps, r⟩) {argsL rest : List Value} (hl : argsL.length = ps.length) (ha : (.ref a :: argsL).toArray = as')
    {g : JFrame} (hg : g.method = m) (hsize : g.locals.size = c.maxLocals) (hstack : g.stack = argsL.reverse ++ .ref a :: rest) (hdg : decode c.code g.pc = .ok (.invokeinterface index count, 5)) {W : Nat} (hW : 2 * g.monitorRoom + (rest.map fun v => v.category).sum = W) (h1 : rm.frames + 1 ≤ R.frames := by decide) (h2 : W + (maxL + 11) + rm.locals ≤ R.locals := by decide) (h3 : cells + rm.cells ≤ R.cells := by decide) (h4 : slots + rm.slots ≤ R.slots := by decide) :
    o412 p l e R s m args below meth c T locs (cells + rm.cells) (slots + rm.slots) g 5 rest Q := by
  obtain ⟨cq, kq, qa, qb, qc⟩ := isOf hZ eT E
  obtain ⟨v, _, ⟨T', L', k', n'⟩, -, X', ⟨Lc, hQ, l1, y1, z1⟩, st⟩ := X.interfaceBack hx (xi := y) (y := z) hown (mvT hZ w1) (mvT hZ w2) w7 (mvT hZ w5) (mvT hZ w6) (mvT hZ w8) (mvT hZ w9) (mvT hZ w10) hy (backOf (W := W) hM hZ w4 w3 h1 h2) qa qb qc (g := g) hg hsize (Steps.refl _) (argsL := argsL) (rest := rest) (lenOf hd hl) hstack (Nat.le_of_eq hW) hdg (fun _ _ => ⟨ha, eT, h3, h4⟩)
  dsimp only [Pt.U, Pt.locs, Pt.cells, Pt.slots] at X' l1 y1 z1 st hQ
  subst l1 y1 z1
  exact ⟨T', v, Lc, X', hQ, fun _ k => st.trans k⟩
theorem o998 (hZ : Z.Warmed39 s.vm) {y : MethodName} {n : Nat} (w1 : (Cond.instantiable y.cls n).before a0 Z = true) (w2 : (Cond.privateMethod y).before a0 Z = true) (w3 : (Cond.instanceMethod y).before a0 Z = true) (hy : y.cls ≠ "java/lang/invoke/MethodHandle" ∧ y.cls ≠ "java/lang/invoke/VarHandle") : (Cond.selects y.cls y y).before args s = true := by
  obtain ⟨c, k, h1, h2, -, h3, -⟩ := Cond.instantiable_spec (mvT hZ w1 (args := args))
  exact Jvm.Stand.selects_self_of_private h1 h2 (by simp at h3; exact h3.1) (Cond.privateMethod_at (mvP hZ w2 (args := args))) (mvT hZ w3) hy
theorem o95 (X : Stand p l e R s m args below meth c T locs cells slots) (hx : p.tables.exec = Jvm.exec) (hZ : Z.Warmed39 s.vm) {own : String} {index : Nat} {y : MethodName} {bytes : ByteArray} {maxL : Nat} {ret : Option FieldType} {rm : Room} {as' : Array Value} {Q : Option Value → Heap → List Loc → Prop}
    (hown : s.vm.findClass own = some m.cls) (w1 : (Cond.methodLink own index y).before a0 Z = true) (w6 : (Cond.instanceMethod y).before a0 Z = true) (w5 : (Cond.selects y.cls y y).before args s = true) (w7 : (Cond.privateMethod y).before a0 Z = true) (w3 : (Cond.initialized y.cls).before a0 Z = true) (w4 : (Cond.code y bytes maxL ret).before a0 Z = true)
    (hy : y.cls ≠ "java/lang/invoke/MethodHandle" ∧ y.cls ≠ "java/lang/invoke/VarHandle") (hM : o21 l y bytes maxL ret [] rm Z h as' Q) (eT : T.heap = h) {a : Addr} {C : String} (E : Exa Z h a C) {ps : List FieldType} {r : Option FieldType} (hd : parseMethodDescriptor y.desc = some ⟨ps, r⟩) {argsL rest : List Value} (hl : argsL.length = ps.length) (ha : (.ref a :: argsL).toArray = as')
    {g : JFrame} (hg : g.method = m) (hsize : g.locals.size = c.maxLocals) (hstack : g.stack = argsL.reverse ++ .ref a :: rest) (hdg : decode c.code g.pc = .ok (.invokevirtual index, 3)) {W : Nat} (hW : 2 * g.monitorRoom + (rest.map fun v => v.category).sum = W) (h1 : rm.frames + 1 ≤ R.frames := by decide) (h2 : W + (maxL + 11) + rm.locals ≤ R.locals := by decide) (h3 : cells + rm.cells ≤ R.cells := by decide) (h4 : slots + rm.slots ≤ R.slots := by decide) :
    o412 p l e R s m args below meth c T locs (cells + rm.cells) (slots + rm.slots) g 3 rest Q := by
  obtain ⟨cq, q, q'⟩ := E.cell
  obtain ⟨v, _, ⟨T', L', k', n'⟩, -, X', ⟨Lc, hQ, l1, y1, z1⟩, st⟩ := X.privateBack hx (y := y) hown (mvT hZ w1) (mvT hZ w6) w5 (Cond.privateMethod_at (mvP hZ w7 (args := #[]))) (mvT hZ w4) hy (backOf (W := W) hM hZ w4 w3 h1 h2) (g := g) hg hsize (Steps.refl _) (a := a) (by rw [eT]; exact q) q' (argsL := argsL) (rest := rest) (lenOf hd hl) hstack (Nat.le_of_eq hW) hdg (fun _ _ => ⟨ha, eT, h3, h4⟩)
  dsimp only [Pt.U, Pt.locs, Pt.cells, Pt.slots] at X' l1 y1 z1 st hQ
  subst l1 y1 z1
  exact ⟨T', v, Lc, X', hQ, fun _ k => st.trans k⟩
theorem o103 {n0 : Nat} {Z : State} (O : Old Z n0 h) : n0 ≤ h.size := O.1 ▸ O.2.1
theorem o1017 {x : Bool} (h : x = true) : x = true := h
end Own
section Own2
variable {args : Array Value} {Z : State} {a : Addr} {O f d : String} {k : Int32} {t : Term} {v : Value} {ty : FieldType}
theorem o999 (ht : t.eval args Z none [] Z = some (.ref a)) (h : (Cond.eq (.field t O f d) (.int k)).value args Z none Z [] = some true) : Fld Z Z.heap a O f d (.int k) := by
  obtain ⟨x, y, ea, eb, -, k2⟩ := cmp_v (Or.inl h)
  obtain rfl : y = .int k := (Option.some.inj (eb.symm.trans (Term.int_eval k)))
  obtain ⟨z, rfl⟩ := k2
  obtain rfl : z = k := by simpa [Cond.value, ea, eb] using h
  rw [fld_at ht] at ea
  exact Fld.start ea
theorem o1014 {c : Cell} (ht : t.eval args Z none [] Z = some (.ref a)) (A : Arr Z Z.heap a c ty) (h : (Cond.eq (.length t) (.int k)).value args Z none Z [] = some true) : c.slots.size < 2 ^ 31 ∧ c.slots.size.toInt32 = k := by
  obtain ⟨x, y, ea, eb, -, k2⟩ := cmp_v (Or.inl h)
  obtain rfl : y = .int k := (Option.some.inj (eb.symm.trans (Term.int_eval k)))
  obtain ⟨z, rfl⟩ := k2
  obtain rfl : z = k := by simpa [Cond.value, ea, eb] using h
  have hc := Arr.fin (State.Warmed39.refl Z).alike A
  simp only [Term.eval, ht, Option.bind_eq_bind, Option.bind_some, hc] at ea
  split at ea
  · rename_i hl
    exact ⟨by simpa using hl, by simpa using ea⟩
  · cases ea
theorem o1000 {n : Nat} {k : Int32} (h : n < 2 ^ 31) (e : n.toInt32 = k) : n = k.toNatClampNeg := by
  subst e
  have := len_toInt h
  simp [Int32.toNatClampNeg, this]
theorem o1001 {c : Cell} {i : Int32} (ht : t.eval args Z none [] Z = some (.ref a)) (A : Arr Z Z.heap a c ty) (h : (Cond.eq (.elem t (.int i)) (.int k)).value args Z none Z [] = some true) : c.slots[i.toNatClampNeg]? = some (.int k) := by
  obtain ⟨x, y, ea, eb, -, k2⟩ := cmp_v (Or.inl h)
  obtain rfl : y = .int k := (Option.some.inj (eb.symm.trans (Term.int_eval k)))
  obtain ⟨z, rfl⟩ := k2
  obtain rfl : z = k := by simpa [Cond.value, ea, eb] using h
  exact (elem_in ea ht (Term.int_eval i) A.1).2
theorem o426 (x : Int32) : nar .byte x.toInt8.toInt32 = x.toInt8.toInt32 := by simp [nar]
theorem o1002 (h : v.isRef = true) : narrow ty v = v := by cases v <;> first | rfl | (cases ty <;> rfl) | simp [Value.isRef] at h
theorem o1003 (h : v.isRef = true) (ht : ty.isReference = true := by rfl) : fits ty v = true := by cases v <;> cases ty <;> simp_all [Value.isRef, fits, FieldType.isReference]
theorem o836 (x : Int32) : narrow .char (.int x.toUInt32.toUInt16.toUInt32.toInt32) = .int x.toUInt32.toUInt16.toUInt32.toInt32 := by
  have : x.toUInt32.toUInt16.toUInt32.toInt32.toUInt32.toUInt16.toUInt32.toInt32 = x.toUInt32.toUInt16.toUInt32.toInt32 := by
    apply Int32.toBitVec_inj.1
    apply BitVec.eq_of_toNat_eq
    simp
  show Value.int _ = _
  exact congrArg Value.int this
theorem o1004 (x : Int32) : narrow .byte (.int x.toInt8.toInt32) = .int x.toInt8.toInt32 := by
  have : x.toInt8.toInt32.toInt8.toInt32 = x.toInt8.toInt32 := by simp
  show Value.int _ = _
  exact congrArg Value.int this
end Own2
def o6 := @XS.iloadN
def o33 := @XS.sipush
def o14 := @XS.icmpNo
def o16 := @XS.iconst
def o15 := @XS.goto
def o61 := @XS.dup
def o79 := @XS.i2b
def o3 := @XS.aloadN
def o68 := @XS.ifNo
def o65 := @XT.i0_eq_f
def o185 := @XS.ifnonnullNo
def o84 := @XS.astoreN
def o20 := @XS.istore
def o8 := @XS.iload
def o19 := @XT.ii_ge_f
def o13 := @XS.icmpYes
def o73 := @XT.ii_le_t
def o12 := @XS.iinc
def o175 := @XT.ii_ge_t
def o66 := @XT.ii_eq_t
def o34 := @XS.bipush
def o88 := @XS.ifYes
def o164 := @XT.i0_ne_t
def o76 := @XS.astore
def o72 := @XS.aload
def o99 := @XS.aconstNull
def o180 := @XT.i0_ne_f
def o93 := @XT.ii_ne_f
def o94 := @XS.istoreN
def o86 := @XS.ifnonnullYes
def o107 := @XS.iadd
def o108 := @XS.iand
def o165 := @XT.i0_eq_t
abbrev o0 (x : Int32) : Slot := .val (.int x)
abbrev o1 (a : Addr) : Slot := .val (.ref a)
abbrev o5 : Slot := .unset
abbrev o9 (x : Int32) : Int32 := (x &&& (255 : Int32)).toUInt32.toUInt16.toUInt32.toInt32
section OwnK
variable {p : Program} {e : Env} {below : List Frame} {P : Outcome → State → Prop} {V : State} {α β γ : Type}
theorem o22 {A B : α → Prop} {U : α → State} (h : ∃ x, A x ∧ B x ∧ ∀ t, Steps p.tables e below (U x) t → Steps p.tables e below V t) (k : ∀ x, A x → B x → o11 p e below P (U x)) : o11 p e below P V := by
  obtain ⟨x, a, b, s⟩ := h; exact o4 s (k x a b)
theorem o32 {A B C : α → β → Prop} {U : α → β → State} (h : ∃ x y, A x y ∧ B x y ∧ C x y ∧ ∀ t, Steps p.tables e below (U x y) t → Steps p.tables e below V t) (k : ∀ x y, A x y → B x y → C x y → o11 p e below P (U x y)) : o11 p e below P V := by
  obtain ⟨x, y, a, b, c, s⟩ := h; exact o4 s (k x y a b c)
theorem o1018 {A B C D E F : α → β → Prop} {U : α → β → State} (h : ∃ x y, A x y ∧ B x y ∧ C x y ∧ D x y ∧ E x y ∧ F x y ∧ ∀ t, Steps p.tables e below (U x y) t → Steps p.tables e below V t) (k : ∀ x y, A x y → B x y → C x y → D x y → E x y → F x y → o11 p e below P (U x y)) : o11 p e below P V := by
  obtain ⟨x, y, a, b, c, d, e, f, s⟩ := h; exact o4 s (k x y a b c d e f)
theorem o1019 {A B C D E : α → β → γ → Prop} {U : α → β → γ → State} (h : ∃ x y z, A x y z ∧ B x y z ∧ C x y z ∧ D x y z ∧ E x y z ∧ ∀ t, Steps p.tables e below (U x y z) t → Steps p.tables e below V t) (k : ∀ x y z, A x y z → B x y z → C x y z → D x y z → E x y z → o11 p e below P (U x y z)) : o11 p e below P V := by
  obtain ⟨x, y, z, a, b, c, d, f, s⟩ := h; exact o4 s (k x y z a b c d f)
theorem o1020 {A B C D E F : α → β → γ → Prop} {U : α → β → γ → State} (h : ∃ x y z, A x y z ∧ B x y z ∧ C x y z ∧ D x y z ∧ E x y z ∧ F x y z ∧ ∀ t, Steps p.tables e below (U x y z) t → Steps p.tables e below V t) (k : ∀ x y z, A x y z → B x y z → C x y z → D x y z → E x y z → F x y z → o11 p e below P (U x y z)) : o11 p e below P V := by
  obtain ⟨x, y, z, a, b, c, d, f, g, s⟩ := h; exact o4 s (k x y z a b c d f g)
end OwnK
section OwnK2
variable {p : Program} {l : Launch} {e : Env} {R : Room} {s : State} {m : MethodId} {args : Array Value} {below : List Frame} {meth : Method} {c : Code} {T : State} {locs : List Loc} {cells slots : Nat} {P : Outcome → State → Prop} {g : JFrame} {len : Nat} {rest : List Value} {Q : Option Value → Heap → List Loc → Prop}
theorem o17 (h : o412 p l e R s m args below meth c T locs cells slots g len rest Q) (k : ∀ (T' : State) (v : Option Value) (L : List Loc), Stand p l e R s m args below meth c T' (locs ++ L) cells slots → Q v T'.heap L → o11 p e below P (T'.setTop { g with pc := g.pc + len, stack := v.toList ++ rest })) : o11 p e below P (T.setTop g) := by
  obtain ⟨x, y, z, a, b, s⟩ := h; exact o4 s (k x y z a b)
end OwnK2
section OwnK3
variable {l : Launch} {Z : State} {h : Heap}
theorem o18 {y : MethodName} {bytes : ByteArray} {maxL : Nat} {ret : Option FieldType} {rm : Room} {ws : List Cond} {as' : Array Value} {Q : Option Value → Heap → List Loc → Prop} (hn : plainFor y = true)
    (b : ∀ (p : Program) (e : Env) (s : State) (m : MethodId) (below : List Frame) (meth : Method) (c : Code) (s₁ : State), p.tables.exec = Jvm.exec → c.code = bytes → c.maxLocals = maxL → s.vm.findClass y.cls = some m.cls → meth.name = y.name → meth.sig.returnType = ret → meth.locks = false → Z.Warmed39 s.vm → s₁.heap = h → Stand p l e rm s m as' below meth c s₁ [] 0 0 →
      o11 p e below (o822 s Q rm.cells rm.slots) (s₁.setTop (entryFrame m as' maxL))) :
 o21 l y bytes maxL ret ws rm Z h as' Q := o866 hn b
end OwnK3
section OwnL
variable {p : Program} {l : Launch} {e : Env} {R : Room} {s : State} {m : MethodId} {args : Array Value} {below : List Frame} {meth : Method} {c : Code} {T : State} {locs : List Loc} {cells slots : Nat} {Z : State} {a0 : Array Value} {h h' : Heap} {a : Addr} {k : ClassId} {n j x : Int32} {vs : List Value} {dv v : Value} {ty : FieldType} {g : JFrame} {rest : List Value} {t : State}
theorem o77 (X : Stand p l e R s m args below meth c T locs cells slots) (hx : p.tables.exec = Jvm.exec) (hZ : Z.Warmed39 s.vm) (eT : T.heap = h) (F : Arv Z h a k .byte n vs dv) (hj : ¬ j < 0 ∧ j < n) (hv : vs.getD j.toNatClampNeg dv = v) (hg : g.method = m) (hs : g.stack = .int j :: .ref a :: rest) (hd : decode c.code g.pc = .ok (.baload, 1))
    (q : Steps p.tables e below (T.setTop { g with pc := g.pc + 1, stack := v :: rest }) t) : Steps p.tables e below (T.setTop g) t := by
  obtain ⟨cc, Ar, -, S, N, H, -⟩ := F
  exact X.baloadBytes hx (by rw [eT]; exact Ar.1) (State.isArrayOf_alike hZ.alike Ar.2.1) Ar.2.2 (inb_of S hj) (H.at (inb_of S hj) hv) hg hs hd t q
theorem o104 (X : Stand p l e R s m args below meth c T locs cells slots) (hx : p.tables.exec = Jvm.exec) (hZ : Z.Warmed39 s.vm) (eT : T.heap = h) (F : Arv Z h a k .char n vs dv) (hj : ¬ j < 0 ∧ j < n) (hv : vs.getD j.toNatClampNeg dv = v) (hg : g.method = m) (hs : g.stack = .int j :: .ref a :: rest) (hd : decode c.code g.pc = .ok (.caload, 1))
    (q : Steps p.tables e below (T.setTop { g with pc := g.pc + 1, stack := v :: rest }) t) : Steps p.tables e below (T.setTop g) t := by
  obtain ⟨cc, Ar, -, S, N, H, -⟩ := F
  exact X.caload hx (by rw [eT]; exact Ar.1) (State.isArrayOf_alike hZ.alike Ar.2.1) Ar.2.2 (inb_of S hj) (H.at (inb_of S hj) hv) hg hs hd t q
theorem o1021 {C : String} (X : Stand p l e R s m args below meth c T locs cells slots) (hx : p.tables.exec = Jvm.exec) (hZ : Z.Warmed39 s.vm) (eT : T.heap = h) (F : Arv Z h a k (.object C) n vs dv) (hj : ¬ j < 0 ∧ j < n) (hv : vs.getD j.toNatClampNeg dv = v) (hg : g.method = m) (hs : g.stack = .int j :: .ref a :: rest) (hd : decode c.code g.pc = .ok (.aaload, 1))
    (q : Steps p.tables e below (T.setTop { g with pc := g.pc + 1, stack := v :: rest }) t) : Steps p.tables e below (T.setTop g) t := by
  obtain ⟨cc, Ar, -, S, N, H, -⟩ := F
  exact X.aaload hx (by rw [eT]; exact Ar.1) (State.isArrayOf_alike hZ.alike Ar.2.1) rfl Ar.2.2 (inb_of S hj) (H.at (inb_of S hj) hv) hg hs hd t q
theorem o75 (X : Stand p l e R s m args below meth c T locs cells slots) (hx : p.tables.exec = Jvm.exec) (hZ : Z.Warmed39 s.vm) (eT : T.heap = h) (F : Arv Z h a k ty n vs dv) (hg : g.method = m) (hs : g.stack = .ref a :: rest) (hd : decode c.code g.pc = .ok (.arraylength, 1))
    (q : Steps p.tables e below (T.setTop { g with pc := g.pc + 1, stack := .int n :: rest }) t) : Steps p.tables e below (T.setTop g) t := by
  obtain ⟨cc, Ar, -, S, N, H, -⟩ := F
  refine X.arraylength hx (by rw [eT]; exact Ar.1) (State.isArrayOf_alike hZ.alike Ar.2.1) hg hs hd t ?_
  rw [len_of S N]; exact q
theorem o105 (X : Stand p l e R s m args below meth c T locs cells slots) (hx : p.tables.exec = Jvm.exec) (hZ : Z.Warmed39 s.vm) (eT : T.heap = h) (F : Arv Z h a k .char n vs dv) (hj : ¬ j < 0 ∧ j < n) (hg : g.method = m) (hs : g.stack = .int x :: .int j :: .ref a :: rest) (hd : decode c.code g.pc = .ok (.castore, 1)) :
    ∃ T' h', Stand p l e R s m args below meth c T' (locs ++ [⟨a, j.toNatClampNeg⟩]) cells slots ∧ T'.heap = h' ∧ Wr h h' a j.toNatClampNeg (.int (nar .char x)) ∧ ∀ t, Steps p.tables e below (T'.setTop { g with pc := g.pc + 1, stack := rest }) t → Steps p.tables e below (T.setTop g) t := by
  obtain ⟨cc, Ar, -, S, -⟩ := F
  exact stC X hx hZ eT Ar (inb_of S hj) hg hs hd
theorem o101 (X : Stand p l e R s m args below meth c T locs cells slots) (hx : p.tables.exec = Jvm.exec) (hZ : Z.Warmed39 s.vm) (eT : T.heap = h) (F : Arv Z h a k .byte n vs dv) (hj : ¬ j < 0 ∧ j < n) (hg : g.method = m) (hs : g.stack = .int x :: .int j :: .ref a :: rest) (hd : decode c.code g.pc = .ok (.bastore, 1)) :
    ∃ T' h', Stand p l e R s m args below meth c T' (locs ++ [⟨a, j.toNatClampNeg⟩]) cells slots ∧ T'.heap = h' ∧ Wr h h' a j.toNatClampNeg (.int (nar .byte x)) ∧ ∀ t, Steps p.tables e below (T'.setTop { g with pc := g.pc + 1, stack := rest }) t → Steps p.tables e below (T.setTop g) t := by
  obtain ⟨cc, Ar, -, S, -⟩ := F
  exact stB X hx hZ eT Ar (inb_of S hj) hg hs hd
theorem o74 (F : Arv Z h a k ty n vs dv) (hv : fits ty v = true) (W : Wr h h' a j.toNatClampNeg v) (i : Nat) (hj : j.toNatClampNeg = i) (hi : i < vs.length) : Arv Z h' a k ty n (vs.set i v) dv := by
  obtain ⟨cc, Ar, q, S, N, H, G⟩ := F
  exact Arv.set Ar q S N H G hv W i hj hi
end OwnL
section OwnW
variable {p : Program} {l : Launch} {e : Env} {R : Room} {s : State} {m : MethodId} {args : Array Value} {below : List Frame} {meth : Method} {c : Code} {T : State} {locs : List Loc} {cells slots : Nat} {Z : State} {a0 : Array Value} {h : Heap} {vm₀ : Vm} {k₀ : Nat}
def o823 (s : State) (Q : Option Value → Heap → List Loc → Prop) (rc rs : Nat) (o : Outcome) (U : State) : Prop := ∃ v L, o = .returned v ∧ Q v U.heap L ∧ ReturnedEndW s o U L rc rs
theorem o837 (X : Stand p l e R (s.setVm vm₀) m args below meth c T locs cells slots) (hS : s.Since vm₀ k₀) (hk : k₀ ≤ h.size) (eT : T.heap = h) {Q : Option Value → Heap → List Loc → Prop} {rc rs : Nat} {g : JFrame} {v : Option Value} (hlk : meth.locks = false) (hv : meth.sig.returnType = none → v = none) (hq : Q v T.heap locs) (hc : cells ≤ rc) (hl : slots ≤ rs)
    (k : ∀ fs, (∀ (f : JFrame) (acts : List Action), f.method = m → f.locked = none → f.entered = [] → (doReturn e (T.setTop f) acts v).1 = T.setFrames fs) → Steps p.tables e below (T.setTop g) (T.setFrames fs)) : o11 p e below (o823 s Q rc rs) (T.setTop g) := by
  obtain ⟨fs, hr, hrun, hended, hR⟩ := X.leaveW hS (by rw [eT]; exact hk) (v := v) hv hlk
  exact ⟨_, _, k fs hr, hrun, hended, _, _, rfl, hq, hR.1, hR.2.1, hR.2.2.1, hR.2.2.2.mono hc hl⟩
theorem o993 (X : Stand p l e R (s.setVm vm₀) m args below meth c T locs cells slots) (hS : s.Since vm₀ k₀) (hk : k₀ ≤ h.size) (eT : T.heap = h) (hx : p.tables.exec = Jvm.exec) {Q : Option Value → Heap → List Loc → Prop} {rc rs pc : Nat} {Ls : Array Slot} (hlk : meth.locks = false) (hret : meth.sig.returnType = none) (hd : decode c.code pc = .ok (.return_, 1)) (hc : cells ≤ rc) (hl : slots ≤ rs) (hq : Q none T.heap locs) : o11 p e below (o823 s Q rc rs) (T.setTop (mkF m pc Ls [])) :=
  o837 X hS hk eT hlk (fun _ => rfl) hq hc hl fun _ hr => X.returnOut hx hret hd hr
theorem o994 (X : Stand p l e R (s.setVm vm₀) m args below meth c T locs cells slots) (hS : s.Since vm₀ k₀) (hk : k₀ ≤ h.size) (eT : T.heap = h) (hx : p.tables.exec = Jvm.exec) {Q : Option Value → Heap → List Loc → Prop} {rc rs pc : Nat} {Ls : Array Slot} {w : Value} {t : FieldType} {i : Instr} {rest : List Value} (hlk : meth.locks = false) (hret : meth.sig.returnType = some t) (hn : narrow t w = w)
    (hi : (i = .ireturn ∧ (t = .int ∨ t = .boolean ∨ t = .byte ∨ t = .char ∨ t = .short) ∧ ∃ z, w = .int z) ∨ (i = .lreturn ∧ t = .long ∧ ∃ z, w = .long z) ∨ (i = .dreturn ∧ t = .double ∧ ∃ z, w = .double z) ∨ (i = .freturn ∧ t = .float ∧ ∃ z, w = .float z) ∨ (i = .areturn ∧ t.isReference = true ∧ w.isRef = true))
    (hd : decode c.code pc = .ok (i, 1)) (hc : cells ≤ rc) (hl : slots ≤ rs) (hq : Q (some w) T.heap locs) : o11 p e below (o823 s Q rc rs) (T.setTop (mkF m pc Ls (w :: rest))) :=
  o837 X hS hk eT hlk (fun q => by rw [hret] at q; cases q) hq hc hl fun _ hr => retOut X hx hret hn hi hd hr
abbrev o427 (l : Launch) (y : MethodName) (bytes : ByteArray) (maxL : Nat) (ret : Option FieldType) (ws : List Cond) (rm : Room) (Z : State) (h : Heap) (as' : Array Value) (Q : Option Value → Heap → List Loc → Prop) : Prop :=
  MetFree l y (head1 (Cond.code y bytes maxL ret :: ws) rm) (fun a U => a = as' ∧ Z.Warmed39 U.vm ∧ U.heap = h) (fun _ _ _ _ _ => True) (fun _ U o U' => ∃ v L, o = .returned v ∧ Q v U'.heap L ∧ ReturnedEndW U o U' L rm.cells rm.slots)
theorem o995 {y : MethodName} {bytes : ByteArray} {maxL : Nat} {ret : Option FieldType} {rm : Room} {ws : List Cond} {as' : Array Value} {Q : Option Value → Heap → List Loc → Prop} (hn : plainFor y = true)
    (b : ∀ (p : Program) (e : Env) (s : State) (m : MethodId) (below : List Frame) (meth : Method) (c : Code) (s₁ : State), p.tables.exec = Jvm.exec → c.code = bytes → c.maxLocals = maxL → (s.setVm s.vm).vm.findClass y.cls = some m.cls → meth.name = y.name → meth.sig.returnType = ret → meth.locks = false → Z.Warmed39 (s.setVm s.vm).vm → s₁.heap = h → Stand p l e rm (s.setVm s.vm) m as' below meth c s₁ [] 0 0 → s.Since s.vm 0 →
      o11 p e below (o823 s Q rm.cells rm.slots) (s₁.setTop (entryFrame m as' maxL))) :
    o427 l y bytes maxL ret ws rm Z h as' Q := by
  refine MetFree.of_bodySF hn hisR ?_
  intro p e s m args below meth c s₁ Bd hml0 hP hK
  obtain ⟨rfl, hZ, hh⟩ := hP
  exact b p e s m below meth c s₁ Bd.exec Bd.bytes hml0 (findClass_of_methodNamed Bd.named) (name_of_methodNamed Bd.named Bd.method).1 Bd.returns Bd.notSynchronized hZ (by rw [← hh, Bd.state]; rfl) (Stand.of_body Bd) ((State.WarmedH.refl s).since 0)
abbrev o428 (p : Program) (l : Launch) (e : Env) (R : Room) (s : State) (m : MethodId) (args : Array Value) (below : List Frame) (meth : Method) (c : Code) (T : State) (locs : List Loc) (cells slots : Nat) (Z : State) (own : String) (g : JFrame) (len : Nat) (rest : List Value) (Q : Option Value → Heap → List Loc → Prop) : Prop :=
  ∃ (T' : State) (v : Option Value) (L : List Loc), Stand p l e R (s.setVm T'.vm) m args below meth c T' (locs ++ L) cells slots ∧ s.Since T'.vm T'.heap.size ∧ Z.Warmed39 (s.setVm T'.vm).vm ∧ (s.setVm T'.vm).vm.findClass own = some m.cls ∧ Q v T'.heap L ∧ ∀ t, Steps p.tables e below (T'.setTop { g with pc := g.pc + len, stack := v.toList ++ rest }) t → Steps p.tables e below (T.setTop g) t
theorem o908 (X : Stand p l e R (s.setVm vm₀) m args below meth c T locs cells slots) (hx : p.tables.exec = Jvm.exec) (hZ : Z.Warmed39 (s.setVm vm₀).vm) (hS : s.Since vm₀ k₀) (hk : k₀ ≤ h.size) {own : String} {index : Nat} {y : MethodName} {bytes : ByteArray} {maxL : Nat} {ret : Option FieldType} {rm : Room} {as' : Array Value} {Q : Option Value → Heap → List Loc → Prop}
    (hown : (s.setVm vm₀).vm.findClass own = some m.cls) (w1 : (Cond.methodLink own index y).before a0 Z = true) (w2 : (Cond.static y).before a0 Z = true) (w3 : (Cond.initialized y.cls).before a0 Z = true) (w4 : (Cond.code y bytes maxL ret).before a0 Z = true)
    (hy : y.cls ≠ "java/lang/invoke/MethodHandle" ∧ y.cls ≠ "java/lang/invoke/VarHandle") (hM : o427 l y bytes maxL ret [] rm Z h as' Q) (eT : T.heap = h) {ps : List FieldType} {r : Option FieldType} (hd : parseMethodDescriptor y.desc = some ⟨ps, r⟩) {argsL rest : List Value} (hl : argsL.length = ps.length) (ha : argsL.toArray = as')
    {g : JFrame} (hg : g.method = m) (hsize : g.locals.size = c.maxLocals) (hstack : g.stack = argsL.reverse ++ rest) (hdg : decode c.code g.pc = .ok (.invokestatic index, 3)) {W : Nat} (hW : 2 * g.monitorRoom + (rest.map fun v => v.category).sum = W) (h1 : rm.frames + 1 ≤ R.frames := by decide) (h2 : W + (maxL + 11) + rm.locals ≤ R.locals := by decide) (h3 : cells + rm.cells ≤ R.cells := by decide) (h4 : slots + rm.slots ≤ R.slots := by decide) :
    o428 p l e R s m args below meth c T locs (cells + rm.cells) (slots + rm.slots) Z own g 3 rest Q := by
  obtain ⟨v, _, ⟨T', L', k', n'⟩, -, X', hS', hgr, ⟨Lc, hQ, l1, y1, z1⟩, st⟩ := callSS X hx (y := y) hown (mvT hZ w1) (mvT hZ w2) (mvT hZ w3) (mvT hZ w4) hy (backOfS (W := W) hM hZ w4 w3 h1 h2) (g := g) hg hsize (argsL := argsL) (rest := rest) (lenOf hd hl) hstack (Nat.le_of_eq hW) hdg (fun _ _ => ⟨ha, eT, h3, h4⟩)
  dsimp only [Pt.U, Pt.locs, Pt.cells, Pt.slots] at X' hS' hgr l1 y1 z1 st hQ
  subst l1 y1 z1
  obtain ⟨r1, r2, r3, r4⟩ := rebS hS (by rw [eT]; exact hk) X' hS' hgr hZ hown
  exact ⟨T', v, Lc, r1, r2, r3, r4, hQ, fun _ k => st.trans k⟩
theorem o909 (X : Stand p l e R (s.setVm vm₀) m args below meth c T locs cells slots) (hx : p.tables.exec = Jvm.exec) (hZ : Z.Warmed39 (s.setVm vm₀).vm) (hS : s.Since vm₀ k₀) (hk : k₀ ≤ h.size) {own : String} {index : Nat} {y : MethodName} {bytes : ByteArray} {maxL : Nat} {rm : Room} {as' : Array Value} {Q : Option Value → Heap → List Loc → Prop} (hy1 : y.name = "<init>")
    (hown : (s.setVm vm₀).vm.findClass own = some m.cls) (w1 : (Cond.methodLink own index y).before a0 Z = true) (w2 : (Cond.instanceMethod y).before a0 Z = true) (w3 : (Cond.initialized y.cls).before a0 Z = true) (w4 : (Cond.code y bytes maxL none).before a0 Z = true)
    (hy : y.cls ≠ "java/lang/invoke/MethodHandle" ∧ y.cls ≠ "java/lang/invoke/VarHandle") (hM : o427 l y bytes maxL none [] rm Z h as' Q) (eT : T.heap = h) {ps : List FieldType} {r : Option FieldType} (hd : parseMethodDescriptor y.desc = some ⟨ps, r⟩) {a : Addr} {argsL rest : List Value} (hl : argsL.length = ps.length) (ha : (.ref a :: argsL).toArray = as')
    {g : JFrame} (hg : g.method = m) (hsize : g.locals.size = c.maxLocals) (hstack : g.stack = argsL.reverse ++ .ref a :: rest) (hdg : decode c.code g.pc = .ok (.invokespecial index, 3)) {W : Nat} (hW : 2 * g.monitorRoom + (rest.map fun v => v.category).sum = W) (h1 : rm.frames + 1 ≤ R.frames := by decide) (h2 : W + (maxL + 11) + rm.locals ≤ R.locals := by decide) (h3 : cells + rm.cells ≤ R.cells := by decide) (h4 : slots + rm.slots ≤ R.slots := by decide) :
    o428 p l e R s m args below meth c T locs (cells + rm.cells) (slots + rm.slots) Z own g 3 rest Q := by
  obtain ⟨v, _, ⟨T', L', k', n'⟩, -, X', hS', hgr, ⟨Lc, hQ, l1, y1, z1⟩, st⟩ := X.specialBackS hx (y := y) hy1 hown (mvT hZ w1) (mvT hZ w2) (mvT hZ w4) hy (backOfS (W := W) hM hZ w4 w3 h1 h2) (g := g) hg hsize (Steps.refl _) (a := a) (argsL := argsL) (rest := rest) (lenOf hd hl) hstack (Nat.le_of_eq hW) hdg (fun _ _ => ⟨ha, eT, h3, h4⟩)
  dsimp only [Pt.U, Pt.locs, Pt.cells, Pt.slots] at X' hS' hgr l1 y1 z1 st hQ
  subst l1 y1 z1
  obtain ⟨r1, r2, r3, r4⟩ := rebS hS (by rw [eT]; exact hk) X' hS' hgr hZ hown
  exact ⟨T', v, Lc, r1, r2, r3, r4, hQ, fun _ k => st.trans k⟩
theorem o910 (X : Stand p l e R (s.setVm vm₀) m args below meth c T locs cells slots) (hx : p.tables.exec = Jvm.exec) (hZ : Z.Warmed39 (s.setVm vm₀).vm) (hS : s.Since vm₀ k₀) (hk : k₀ ≤ h.size) {own C : String} {index : Nat} {y z : MethodName} {bytes : ByteArray} {maxL : Nat} {ret : Option FieldType} {rm : Room} {as' : Array Value} {Q : Option Value → Heap → List Loc → Prop}
    (hown : (s.setVm vm₀).vm.findClass own = some m.cls) (w1 : (Cond.methodLink own index y).before a0 Z = true) (w2 : (Cond.declares y).before a0 Z = true) (hnf : NotFace (s.setVm vm₀) y) (w5 : (Cond.selects C y z).before a0 Z = true) (w6 : (Cond.instanceMethod z).before a0 Z = true) (w3 : (Cond.initialized z.cls).before a0 Z = true) (w4 : (Cond.code z bytes maxL ret).before a0 Z = true)
    (hy : y.cls ≠ "java/lang/invoke/MethodHandle" ∧ y.cls ≠ "java/lang/invoke/VarHandle") (hM : o427 l z bytes maxL ret [] rm Z h as' Q) (eT : T.heap = h) {a : Addr} (E : Exa Z h a C) {ps : List FieldType} {r : Option FieldType} (hd : parseMethodDescriptor y.desc = some ⟨ps, r⟩) {argsL rest : List Value} (hl : argsL.length = ps.length) (ha : (.ref a :: argsL).toArray = as')
    {g : JFrame} (hg : g.method = m) (hsize : g.locals.size = c.maxLocals) (hstack : g.stack = argsL.reverse ++ .ref a :: rest) (hdg : decode c.code g.pc = .ok (.invokevirtual index, 3)) {W : Nat} (hW : 2 * g.monitorRoom + (rest.map fun v => v.category).sum = W) (h1 : rm.frames + 1 ≤ R.frames := by decide) (h2 : W + (maxL + 11) + rm.locals ≤ R.locals := by decide) (h3 : cells + rm.cells ≤ R.cells := by decide) (h4 : slots + rm.slots ≤ R.slots := by decide) :
    o428 p l e R s m args below meth c T locs (cells + rm.cells) (slots + rm.slots) Z own g 3 rest Q := by
  obtain ⟨cq, kq, qa, qb, qc⟩ := isOf hZ eT E
  obtain ⟨v, _, ⟨T', L', k', n'⟩, -, X', hS', hgr, ⟨Lc, hQ, l1, y1, z1⟩, st⟩ := X.virtualBackS hx (y := y) (z := z) hown (mvT hZ w1) (mvT hZ w2) hnf (mvT hZ w5) (mvT hZ w6) hy (backOfS (W := W) hM hZ w4 w3 h1 h2) qa qc (g := g) hg hsize (Steps.refl _) (argsL := argsL) (rest := rest) (lenOf hd hl) hstack (Nat.le_of_eq hW) hdg (fun _ _ => ⟨ha, eT, h3, h4⟩)
  dsimp only [Pt.U, Pt.locs, Pt.cells, Pt.slots] at X' hS' hgr l1 y1 z1 st hQ
  subst l1 y1 z1
  obtain ⟨r1, r2, r3, r4⟩ := rebS hS (by rw [eT]; exact hk) X' hS' hgr hZ hown
  exact ⟨T', v, Lc, r1, r2, r3, r4, hQ, fun _ k => st.trans k⟩
theorem o911 (X : Stand p l e R (s.setVm vm₀) m args below meth c T locs cells slots) (hx : p.tables.exec = Jvm.exec) (hZ : Z.Warmed39 (s.setVm vm₀).vm) (hS : s.Since vm₀ k₀) (hk : k₀ ≤ h.size) {own C owner : String} {index : Nat} {y z : MethodName} {bytes : ByteArray} {maxL : Nat} {ret : Option FieldType} {rm : Room} {as' : Array Value} {Q : Option Value → Heap → List Loc → Prop}
    (hown : (s.setVm vm₀).vm.findClass own = some m.cls) (w1 : (Cond.methodLink own index y).before a0 Z = true) (w7 : (Cond.sameMethod y.cls owner y.name y.desc).before a0 Z = true) (w2 : (Cond.declares ⟨owner, y.name, y.desc⟩).before a0 Z = true) (w5 : (Cond.selects C y z).before a0 Z = true) (w6 : (Cond.instanceMethod z).before a0 Z = true) (w3 : (Cond.initialized z.cls).before a0 Z = true) (w4 : (Cond.code z bytes maxL ret).before a0 Z = true)
    (hy : owner ≠ "java/lang/invoke/MethodHandle" ∧ owner ≠ "java/lang/invoke/VarHandle") (hM : o427 l z bytes maxL ret [] rm Z h as' Q) (eT : T.heap = h) {a : Addr} (E : Exa Z h a C) {ps : List FieldType} {r : Option FieldType} (hd : parseMethodDescriptor y.desc = some ⟨ps, r⟩) {argsL rest : List Value} (hl : argsL.length = ps.length) (ha : (.ref a :: argsL).toArray = as')
    {g : JFrame} (hg : g.method = m) (hsize : g.locals.size = c.maxLocals) (hstack : g.stack = argsL.reverse ++ .ref a :: rest) (hdg : decode c.code g.pc = .ok (.invokevirtual index, 3)) {W : Nat} (hW : 2 * g.monitorRoom + (rest.map fun v => v.category).sum = W) (h1 : rm.frames + 1 ≤ R.frames := by decide) (h2 : W + (maxL + 11) + rm.locals ≤ R.locals := by decide) (h3 : cells + rm.cells ≤ R.cells := by decide) (h4 : slots + rm.slots ≤ R.slots := by decide) :
    o428 p l e R s m args below meth c T locs (cells + rm.cells) (slots + rm.slots) Z own g 3 rest Q := by
  obtain ⟨cq, kq, qa, qb, qc⟩ := isOf hZ eT E
  obtain ⟨v, _, ⟨T', L', k', n'⟩, -, X', hS', hgr, ⟨Lc, hQ, l1, y1, z1⟩, st⟩ := virtualBackUpS X hx (x := y) (y := z) hown (mvT hZ w1) (mvT hZ w7) (mvT hZ w2) hy (mvT hZ w5) (mvT hZ w6) (backOfS (W := W) hM hZ w4 w3 h1 h2) qa qc (g := g) hg hsize (Steps.refl _) (argsL := argsL) (rest := rest) (lenOf hd hl) hstack (Nat.le_of_eq hW) hdg (fun _ _ => ⟨ha, eT, h3, h4⟩)
  dsimp only [Pt.U, Pt.locs, Pt.cells, Pt.slots] at X' hS' hgr l1 y1 z1 st hQ
  subst l1 y1 z1
  obtain ⟨r1, r2, r3, r4⟩ := rebS hS (by rw [eT]; exact hk) X' hS' hgr hZ hown
  exact ⟨T', v, Lc, r1, r2, r3, r4, hQ, fun _ k => st.trans k⟩
theorem o912 (X : Stand p l e R (s.setVm vm₀) m args below meth c T locs cells slots) (hx : p.tables.exec = Jvm.exec) (hZ : Z.Warmed39 (s.setVm vm₀).vm) (hS : s.Since vm₀ k₀) (hk : k₀ ≤ h.size) {own C : String} {index count : Nat} {y z : MethodName} {bytes : ByteArray} {maxL : Nat} {ret : Option FieldType} {rm : Room} {as' : Array Value} {Q : Option Value → Heap → List Loc → Prop}
    (hown : (s.setVm vm₀).vm.findClass own = some m.cls) (w1 : (Cond.methodLink own index y).before a0 Z = true) (w2 : (Cond.declares y).before a0 Z = true) (w7 : (Cond.interfaceMethod y.cls y.cls y.name y.desc).before args (s.setVm vm₀) = true) (w5 : (Cond.selects C y z).before a0 Z = true) (w6 : (Cond.instanceMethod z).before a0 Z = true) (w8 : (Cond.publicMethod z).before a0 Z = true) (w9 : (Cond.unhidden C y.name y.desc).before a0 Z = true) (w10 : (Cond.castable C y.cls).before a0 Z = true) (w3 : (Cond.initialized z.cls).before a0 Z = true) (w4 : (Cond.code z bytes maxL ret).before a0 Z = true)
    (hy : y.cls ≠ "java/lang/invoke/MethodHandle" ∧ y.cls ≠ "java/lang/invoke/VarHandle") (hM : o427 l z bytes maxL ret [] rm Z h as' Q) (eT : T.heap = h) {a : Addr} (E : Exa Z h a C) {ps : List FieldType} {r : Option FieldType} (hd : parseMethodDescriptor y.desc = some ⟨ps, r⟩) {argsL rest : List Value} (hl : argsL.length = ps.length) (ha : (.ref a :: argsL).toArray = as')
    {g : JFrame} (hg : g.method = m) (hsize : g.locals.size = c.maxLocals) (hstack : g.stack = argsL.reverse ++ .ref a :: rest) (hdg : decode c.code g.pc = .ok (.invokeinterface index count, 5)) {W : Nat} (hW : 2 * g.monitorRoom + (rest.map fun v => v.category).sum = W) (h1 : rm.frames + 1 ≤ R.frames := by decide) (h2 : W + (maxL + 11) + rm.locals ≤ R.locals := by decide) (h3 : cells + rm.cells ≤ R.cells := by decide) (h4 : slots + rm.slots ≤ R.slots := by decide) :
    o428 p l e R s m args below meth c T locs (cells + rm.cells) (slots + rm.slots) Z own g 5 rest Q := by
  obtain ⟨cq, kq, qa, qb, qc⟩ := isOf hZ eT E
  obtain ⟨v, _, ⟨T', L', k', n'⟩, -, X', hS', hgr, ⟨Lc, hQ, l1, y1, z1⟩, st⟩ := X.interfaceBackS hx (xi := y) (y := z) hown (mvT hZ w1) (mvT hZ w2) w7 (mvT hZ w5) (mvT hZ w6) (mvT hZ w8) (mvT hZ w9) (mvT hZ w10) hy (backOfS (W := W) hM hZ w4 w3 h1 h2) qa qb qc (g := g) hg hsize (Steps.refl _) (argsL := argsL) (rest := rest) (lenOf hd hl) hstack (Nat.le_of_eq hW) hdg (fun _ _ => ⟨ha, eT, h3, h4⟩)
  dsimp only [Pt.U, Pt.locs, Pt.cells, Pt.slots] at X' hS' hgr l1 y1 z1 st hQ
  subst l1 y1 z1
  obtain ⟨r1, r2, r3, r4⟩ := rebS hS (by rw [eT]; exact hk) X' hS' hgr hZ hown
  exact ⟨T', v, Lc, r1, r2, r3, r4, hQ, fun _ k => st.trans k⟩
theorem o913 (X : Stand p l e R (s.setVm vm₀) m args below meth c T locs cells slots) (hx : p.tables.exec = Jvm.exec) (hZ : Z.Warmed39 (s.setVm vm₀).vm) (hS : s.Since vm₀ k₀) (hk : k₀ ≤ h.size) {own : String} {index : Nat} {y : MethodName} {bytes : ByteArray} {maxL : Nat} {ret : Option FieldType} {rm : Room} {as' : Array Value} {Q : Option Value → Heap → List Loc → Prop}
    (hown : (s.setVm vm₀).vm.findClass own = some m.cls) (w1 : (Cond.methodLink own index y).before a0 Z = true) (w6 : (Cond.instanceMethod y).before a0 Z = true) (w5 : (Cond.selects y.cls y y).before args (s.setVm vm₀) = true) (w7 : (Cond.privateMethod y).before a0 Z = true) (w3 : (Cond.initialized y.cls).before a0 Z = true) (w4 : (Cond.code y bytes maxL ret).before a0 Z = true)
    (hy : y.cls ≠ "java/lang/invoke/MethodHandle" ∧ y.cls ≠ "java/lang/invoke/VarHandle") (hM : o427 l y bytes maxL ret [] rm Z h as' Q) (eT : T.heap = h) {a : Addr} {C : String} (E : Exa Z h a C) {ps : List FieldType} {r : Option FieldType} (hd : parseMethodDescriptor y.desc = some ⟨ps, r⟩) {argsL rest : List Value} (hl : argsL.length = ps.length) (ha : (.ref a :: argsL).toArray = as')
    {g : JFrame} (hg : g.method = m) (hsize : g.locals.size = c.maxLocals) (hstack : g.stack = argsL.reverse ++ .ref a :: rest) (hdg : decode c.code g.pc = .ok (.invokevirtual index, 3)) {W : Nat} (hW : 2 * g.monitorRoom + (rest.map fun v => v.category).sum = W) (h1 : rm.frames + 1 ≤ R.frames := by decide) (h2 : W + (maxL + 11) + rm.locals ≤ R.locals := by decide) (h3 : cells + rm.cells ≤ R.cells := by decide) (h4 : slots + rm.slots ≤ R.slots := by decide) :
    o428 p l e R s m args below meth c T locs (cells + rm.cells) (slots + rm.slots) Z own g 3 rest Q := by
  obtain ⟨cq, q, q'⟩ := E.cell
  obtain ⟨v, _, ⟨T', L', k', n'⟩, -, X', hS', hgr, ⟨Lc, hQ, l1, y1, z1⟩, st⟩ := privateBackS X hx (y := y) hown (mvT hZ w1) (mvT hZ w6) w5 (Cond.privateMethod_at (mvP hZ w7 (args := #[]))) (mvT hZ w4) hy (backOfS (W := W) hM hZ w4 w3 h1 h2) (g := g) hg hsize (Steps.refl _) (a := a) (by rw [eT]; exact q) q' (argsL := argsL) (rest := rest) (lenOf hd hl) hstack (Nat.le_of_eq hW) hdg (fun _ _ => ⟨ha, eT, h3, h4⟩)
  dsimp only [Pt.U, Pt.locs, Pt.cells, Pt.slots] at X' hS' hgr l1 y1 z1 st hQ
  subst l1 y1 z1
  obtain ⟨r1, r2, r3, r4⟩ := rebS hS (by rw [eT]; exact hk) X' hS' hgr hZ hown
  exact ⟨T', v, Lc, r1, r2, r3, r4, hQ, fun _ k => st.trans k⟩
end OwnW
section OwnHeld
variable {p : Program} {l : Launch} {e : Env} {R : Room} {s : State} {m : MethodId} {args : Array Value} {below : List Frame} {meth : Method} {c : Code} {T : State} {locs : List Loc} {cells slots : Nat} {Z : State} {a0 : Array Value} {h : Heap} {vm₀ : Vm} {k₀ : Nat} {EL : List (String × Nat)} {h0 : Heap} {sf : List Addr}
def o824 (s : State) (Z : State) (EL : List (String × Nat)) (Q : Option Value → Heap → List Loc → Prop) (rc rs : Nat) (o : Outcome) (U : State) : Prop := ∃ v L, o = .returned v ∧ Q v U.heap L ∧ CHr Z EL s.vm s.heap U.vm U.heap ∧ ReturnedEndW s o U L rc rs
theorem o838 (X : Stand p l e R (s.setVm vm₀) m args below meth c T locs cells slots) (hS : s.Since vm₀ k₀) (hk : k₀ ≤ h.size) (eT : T.heap = h) (hZ : Z.Warmed39 (s.setVm vm₀).vm) (hEL : EW Z a0 EL) (hs0 : s.heap = h0) (hR : CHr Z EL s.vm h0 vm₀ h) {Q : Option Value → Heap → List Loc → Prop} {rc rs : Nat} {g : JFrame} {v : Option Value} (hlk : meth.locks = false) (hv : meth.sig.returnType = none → v = none) (hq : Q v T.heap locs) (hc : cells ≤ rc) (hl : slots ≤ rs)
    (k : ∀ fs, (∀ (f : JFrame) (acts : List Action), f.method = m → f.locked = none → f.entered = [] → (doReturn e (T.setTop f) acts v).1 = T.setFrames fs) → Steps p.tables e below (T.setTop g) (T.setFrames fs)) : o11 p e below (o824 s Z EL Q rc rs) (T.setTop g) := by
  have hC : CHr Z EL s.vm s.heap T.vm T.heap := by
    rw [hs0, eT]; exact hR.trans (CHv.at X hZ hEL hR.1)
  obtain ⟨fs, hr, hrun, hended, hR'⟩ := X.leaveW hS (by rw [eT]; exact hk) (v := v) hv hlk
  exact ⟨_, _, k fs hr, hrun, hended, _, _, rfl, hq, hC, hR'.1, hR'.2.1, hR'.2.2.1, hR'.2.2.2.mono hc hl⟩
theorem o996 (X : Stand p l e R (s.setVm vm₀) m args below meth c T locs cells slots) (hS : s.Since vm₀ k₀) (hk : k₀ ≤ h.size) (eT : T.heap = h) (hZ : Z.Warmed39 (s.setVm vm₀).vm) (hEL : EW Z a0 EL) (hs0 : s.heap = h0) (hR : CHr Z EL s.vm h0 vm₀ h) (hx : p.tables.exec = Jvm.exec) {Q : Option Value → Heap → List Loc → Prop} {rc rs pc : Nat} {Ls : Array Slot} (hlk : meth.locks = false) (hret : meth.sig.returnType = none) (hd : decode c.code pc = .ok (.return_, 1)) (hc : cells ≤ rc) (hl : slots ≤ rs) (hq : Q none T.heap locs) : o11 p e below (o824 s Z EL Q rc rs) (T.setTop (mkF m pc Ls [])) :=
  o838 X hS hk eT hZ hEL hs0 hR hlk (fun _ => rfl) hq hc hl fun _ hr => X.returnOut hx hret hd hr
theorem o368 (X : Stand p l e R (s.setVm vm₀) m args below meth c T locs cells slots) (hS : s.Since vm₀ k₀) (hk : k₀ ≤ h.size) (eT : T.heap = h) (hZ : Z.Warmed39 (s.setVm vm₀).vm) (hEL : EW Z a0 EL) (hs0 : s.heap = h0) (hR : CHr Z EL s.vm h0 vm₀ h) (hx : p.tables.exec = Jvm.exec) {Q : Option Value → Heap → List Loc → Prop} {rc rs pc : Nat} {Ls : Array Slot} {w : Value} {t : FieldType} {i : Instr} {rest : List Value} (hlk : meth.locks = false) (hret : meth.sig.returnType = some t) (hn : narrow t w = w)
    (hi : (i = .ireturn ∧ (t = .int ∨ t = .boolean ∨ t = .byte ∨ t = .char ∨ t = .short) ∧ ∃ z, w = .int z) ∨ (i = .lreturn ∧ t = .long ∧ ∃ z, w = .long z) ∨ (i = .dreturn ∧ t = .double ∧ ∃ z, w = .double z) ∨ (i = .freturn ∧ t = .float ∧ ∃ z, w = .float z) ∨ (i = .areturn ∧ t.isReference = true ∧ w.isRef = true))
    (hd : decode c.code pc = .ok (i, 1)) (hc : cells ≤ rc) (hl : slots ≤ rs) (hq : Q (some w) T.heap locs) : o11 p e below (o824 s Z EL Q rc rs) (T.setTop (mkF m pc Ls (w :: rest))) :=
  o838 X hS hk eT hZ hEL hs0 hR hlk (fun q => by rw [hret] at q; cases q) hq hc hl fun _ hr => retOut X hx hret hn hi hd hr
abbrev o206 (EL : List (String × Nat)) (sf : List Addr) (l : Launch) (y : MethodName) (bytes : ByteArray) (maxL : Nat) (ret : Option FieldType) (ws : List Cond) (rm : Room) (Z : State) (h : Heap) (as' : Array Value) (Q : Option Value → Heap → List Loc → Prop) : Prop :=
  MetFree l y (head1 (Cond.code y bytes maxL ret :: ws) rm) (fun a U => a = as' ∧ Z.Warmed39 U.vm ∧ U.heap = h ∧ CHv Z EL U.vm h ∧ ∀ x ∈ sf, Safe Z EL U.vm h x) (fun _ _ _ _ _ => True) (fun _ U o U' => ∃ v L, o = .returned v ∧ Q v U'.heap L ∧ CHr Z EL U.vm U.heap U'.vm U'.heap ∧ ReturnedEndW U o U' L rm.cells rm.slots)
theorem o461 {y : MethodName} {bytes : ByteArray} {maxL : Nat} {ret : Option FieldType} {rm : Room} {ws : List Cond} {as' : Array Value} {Q : Option Value → Heap → List Loc → Prop} (hn : plainFor y = true)
    (b : ∀ (p : Program) (e : Env) (s : State) (m : MethodId) (below : List Frame) (meth : Method) (c : Code) (s₁ : State), p.tables.exec = Jvm.exec → c.code = bytes → c.maxLocals = maxL → (s.setVm s.vm).vm.findClass y.cls = some m.cls → meth.name = y.name → meth.sig.returnType = ret → meth.locks = false → Z.Warmed39 (s.setVm s.vm).vm → s₁.heap = h → Stand p l e rm (s.setVm s.vm) m as' below meth c s₁ [] 0 0 → s.Since s.vm 0 → s.heap = h → CHv Z EL s.vm h → (∀ x ∈ sf, Safe Z EL s.vm h x) →
      o11 p e below (o824 s Z EL Q rm.cells rm.slots) (s₁.setTop (entryFrame m as' maxL))) :
    o206 EL sf l y bytes maxL ret ws rm Z h as' Q := by
  refine MetFree.of_bodySF hn hisR ?_
  intro p e s m args below meth c s₁ Bd hml0 hP hK
  obtain ⟨rfl, hZ, hh, hC, hsf⟩ := hP
  exact b p e s m below meth c s₁ Bd.exec Bd.bytes hml0 (findClass_of_methodNamed Bd.named) (name_of_methodNamed Bd.named Bd.method).1 Bd.returns Bd.notSynchronized hZ (by rw [← hh, Bd.state]; rfl) (Stand.of_body Bd) ((State.WarmedH.refl s).since 0) hh hC hsf
theorem o429 {y : MethodName} {bytes : ByteArray} {maxL : Nat} {ret : Option FieldType} {rm : Room} {len W : Nat} {as' : Array Value} {Q : Option Value → Heap → List Loc → Prop} (hM : o206 EL sf l y bytes maxL ret [] rm Z h as' Q)
    (hZ : Z.Warmed39 vm₀) (wc : (Cond.code y bytes maxL ret).before a0 Z = true) (wz : (Cond.initialized y.cls).before a0 Z = true) (hf : rm.frames + 1 ≤ R.frames) (hl : W + (maxL + 11) + rm.locals ≤ R.locals) (hEL : EW Z a0 EL) (H : CHv Z EL vm₀ h) (hsf : ∀ x ∈ sf, x < h.size ∧ Safe Z EL vm₀ h x) :
    BackS l R p e below (s.setVm vm₀) args y len W (fun A a => a = as' ∧ A.U.heap = h ∧ A.cells + rm.cells ≤ R.cells ∧ A.slots + rm.slots ≤ R.slots)
      (fun A _ v B => ∃ L, Q v B.U.heap L ∧ B.locs = A.locs ++ L ∧ B.cells = A.cells + rm.cells ∧ B.slots = A.slots + rm.slots ∧ CHr Z EL vm₀ h B.U.vm B.U.heap) :=
  BackS.of_freeW (bytes := bytes) (maxL := maxL) (ret := ret) (E := fun _ first o t L k n => k = rm.cells ∧ n = rm.slots ∧ (∃ v, o = .returned v ∧ Q v t.heap L) ∧ CHr Z EL first.vm first.heap t.vm t.heap) hM hf hl
    (fun m meth c A a Y hp => have hU : Z.Warmed39 A.U.vm := wtrans (s := s.setVm vm₀) hZ Y.warmed
      ⟨by show (Cond.and _ .tt).before a A.U = true; rw [Cond.before_and, mv hU wc]; rfl, mv hU wc, mv hU wz, hp.2.2.1, hp.2.2.2⟩)
    (fun m meth c A a g mk Y hp => have K := CHv.at Y hZ hEL H; ⟨hp.1, wtrans (s := s.setVm vm₀) hZ Y.warmed, hp.2.1, K.1, fun x q => K.safe (hsf x q).1 (hsf x q).2⟩) (fun _ _ _ _ _ _ _ _ _ => trivial)
    (fun _ _ _ _ ⟨v, L, h1, h2, h3, h4⟩ => ⟨L, _, _, h4, rfl, rfl, ⟨v, h1, h2⟩, h3⟩)
    (fun m meth c A a g mk v t L k n Y hp _ _ ⟨e1, e2, ⟨v', e3, e4⟩, e5⟩ => by
      cases e3; subst e1 e2
      refine ⟨L, e4, rfl, rfl, rfl, (CHv.at Y hZ hEL H).trans ?_⟩
      rw [← hp.2.1]; exact e5)
theorem o688 {vm : Vm} : ∀ x ∈ ([] : List Addr), x < h.size ∧ Safe Z EL vm h x := fun _ q => nomatch q
theorem o1015 {vm : Vm} {x : Addr} (lt : x < h.size) (n : Safe Z EL vm h x) (r : ∀ y ∈ sf, y < h.size ∧ Safe Z EL vm h y) : ∀ y ∈ x :: sf, y < h.size ∧ Safe Z EL vm h y := fun y q => by
  rcases List.mem_cons.mp q with rfl | q
  · exact ⟨lt, n⟩
  · exact r y q
abbrev o430 (EL : List (String × Nat)) (vm₀ : Vm) (h : Heap) (p : Program) (l : Launch) (e : Env) (R : Room) (s : State) (m : MethodId) (args : Array Value) (below : List Frame) (meth : Method) (c : Code) (T : State) (locs : List Loc) (cells slots : Nat) (Z : State) (own : String) (g : JFrame) (len : Nat) (rest : List Value) (Q : Option Value → Heap → List Loc → Prop) : Prop :=
  ∃ (T' : State) (v : Option Value) (L : List Loc), Stand p l e R (s.setVm T'.vm) m args below meth c T' (locs ++ L) cells slots ∧ s.Since T'.vm T'.heap.size ∧ Z.Warmed39 (s.setVm T'.vm).vm ∧ (s.setVm T'.vm).vm.findClass own = some m.cls ∧ Q v T'.heap L ∧ CHr Z EL vm₀ h T'.vm T'.heap ∧ ∀ t, Steps p.tables e below (T'.setTop { g with pc := g.pc + len, stack := v.toList ++ rest }) t → Steps p.tables e below (T.setTop g) t
theorem o914 (X : Stand p l e R (s.setVm vm₀) m args below meth c T locs cells slots) (hx : p.tables.exec = Jvm.exec) (hZ : Z.Warmed39 (s.setVm vm₀).vm) (hS : s.Since vm₀ k₀) (hk : k₀ ≤ h.size) (hEL : EW Z a0 EL) (H : CHv Z EL vm₀ h) (hsf : ∀ x ∈ sf, x < h.size ∧ Safe Z EL vm₀ h x) {own : String} {index : Nat} {y : MethodName} {bytes : ByteArray} {maxL : Nat} {ret : Option FieldType} {rm : Room} {as' : Array Value} {Q : Option Value → Heap → List Loc → Prop}
    (hown : (s.setVm vm₀).vm.findClass own = some m.cls) (w1 : (Cond.methodLink own index y).before a0 Z = true) (w2 : (Cond.static y).before a0 Z = true) (w3 : (Cond.initialized y.cls).before a0 Z = true) (w4 : (Cond.code y bytes maxL ret).before a0 Z = true)
    (hy : y.cls ≠ "java/lang/invoke/MethodHandle" ∧ y.cls ≠ "java/lang/invoke/VarHandle") (hM : o206 EL sf l y bytes maxL ret [] rm Z h as' Q) (eT : T.heap = h) {ps : List FieldType} {r : Option FieldType} (hd : parseMethodDescriptor y.desc = some ⟨ps, r⟩) {argsL rest : List Value} (hl : argsL.length = ps.length) (ha : argsL.toArray = as')
    {g : JFrame} (hg : g.method = m) (hsize : g.locals.size = c.maxLocals) (hstack : g.stack = argsL.reverse ++ rest) (hdg : decode c.code g.pc = .ok (.invokestatic index, 3)) {W : Nat} (hW : 2 * g.monitorRoom + (rest.map fun v => v.category).sum = W) (h1 : rm.frames + 1 ≤ R.frames := by decide) (h2 : W + (maxL + 11) + rm.locals ≤ R.locals := by decide) (h3 : cells + rm.cells ≤ R.cells := by decide) (h4 : slots + rm.slots ≤ R.slots := by decide) :
    o430 EL vm₀ h p l e R s m args below meth c T locs (cells + rm.cells) (slots + rm.slots) Z own g 3 rest Q := by
  obtain ⟨v, _, ⟨T', L', k', n'⟩, -, X', hS', hgr, ⟨Lc, hQ, l1, y1, z1, hr⟩, st⟩ := callSS X hx (y := y) hown (mvT hZ w1) (mvT hZ w2) (mvT hZ w3) (mvT hZ w4) hy (o429 (W := W) hM hZ w4 w3 h1 h2 hEL H hsf) (g := g) hg hsize (argsL := argsL) (rest := rest) (lenOf hd hl) hstack (Nat.le_of_eq hW) hdg (fun _ _ => ⟨ha, eT, h3, h4⟩)
  dsimp only [Pt.U, Pt.locs, Pt.cells, Pt.slots] at X' hS' hgr l1 y1 z1 st hQ hr
  subst l1 y1 z1
  obtain ⟨r1, r2, r3, r4⟩ := rebS hS (by rw [eT]; exact hk) X' hS' hgr hZ hown
  exact ⟨T', v, Lc, r1, r2, r3, r4, hQ, hr, fun _ k => st.trans k⟩
theorem o915 (X : Stand p l e R (s.setVm vm₀) m args below meth c T locs cells slots) (hx : p.tables.exec = Jvm.exec) (hZ : Z.Warmed39 (s.setVm vm₀).vm) (hS : s.Since vm₀ k₀) (hk : k₀ ≤ h.size) (hEL : EW Z a0 EL) (H : CHv Z EL vm₀ h) (hsf : ∀ x ∈ sf, x < h.size ∧ Safe Z EL vm₀ h x) {own : String} {index : Nat} {y : MethodName} {bytes : ByteArray} {maxL : Nat} {rm : Room} {as' : Array Value} {Q : Option Value → Heap → List Loc → Prop} (hy1 : y.name = "<init>")
    (hown : (s.setVm vm₀).vm.findClass own = some m.cls) (w1 : (Cond.methodLink own index y).before a0 Z = true) (w2 : (Cond.instanceMethod y).before a0 Z = true) (w3 : (Cond.initialized y.cls).before a0 Z = true) (w4 : (Cond.code y bytes maxL none).before a0 Z = true)
    (hy : y.cls ≠ "java/lang/invoke/MethodHandle" ∧ y.cls ≠ "java/lang/invoke/VarHandle") (hM : o206 EL sf l y bytes maxL none [] rm Z h as' Q) (eT : T.heap = h) {ps : List FieldType} {r : Option FieldType} (hd : parseMethodDescriptor y.desc = some ⟨ps, r⟩) {a : Addr} {argsL rest : List Value} (hl : argsL.length = ps.length) (ha : (.ref a :: argsL).toArray = as')
    {g : JFrame} (hg : g.method = m) (hsize : g.locals.size = c.maxLocals) (hstack : g.stack = argsL.reverse ++ .ref a :: rest) (hdg : decode c.code g.pc = .ok (.invokespecial index, 3)) {W : Nat} (hW : 2 * g.monitorRoom + (rest.map fun v => v.category).sum = W) (h1 : rm.frames + 1 ≤ R.frames := by decide) (h2 : W + (maxL + 11) + rm.locals ≤ R.locals := by decide) (h3 : cells + rm.cells ≤ R.cells := by decide) (h4 : slots + rm.slots ≤ R.slots := by decide) :
    o430 EL vm₀ h p l e R s m args below meth c T locs (cells + rm.cells) (slots + rm.slots) Z own g 3 rest Q := by
  obtain ⟨v, _, ⟨T', L', k', n'⟩, -, X', hS', hgr, ⟨Lc, hQ, l1, y1, z1, hr⟩, st⟩ := X.specialBackS hx (y := y) hy1 hown (mvT hZ w1) (mvT hZ w2) (mvT hZ w4) hy (o429 (W := W) hM hZ w4 w3 h1 h2 hEL H hsf) (g := g) hg hsize (Steps.refl _) (a := a) (argsL := argsL) (rest := rest) (lenOf hd hl) hstack (Nat.le_of_eq hW) hdg (fun _ _ => ⟨ha, eT, h3, h4⟩)
  dsimp only [Pt.U, Pt.locs, Pt.cells, Pt.slots] at X' hS' hgr l1 y1 z1 st hQ hr
  subst l1 y1 z1
  obtain ⟨r1, r2, r3, r4⟩ := rebS hS (by rw [eT]; exact hk) X' hS' hgr hZ hown
  exact ⟨T', v, Lc, r1, r2, r3, r4, hQ, hr, fun _ k => st.trans k⟩
theorem o492 (X : Stand p l e R (s.setVm vm₀) m args below meth c T locs cells slots) (hx : p.tables.exec = Jvm.exec) (hZ : Z.Warmed39 (s.setVm vm₀).vm) (hS : s.Since vm₀ k₀) (hk : k₀ ≤ h.size) (hEL : EW Z a0 EL) (H : CHv Z EL vm₀ h) (hsf : ∀ x ∈ sf, x < h.size ∧ Safe Z EL vm₀ h x) {own C : String} {index : Nat} {y z : MethodName} {bytes : ByteArray} {maxL : Nat} {ret : Option FieldType} {rm : Room} {as' : Array Value} {Q : Option Value → Heap → List Loc → Prop}
    (hown : (s.setVm vm₀).vm.findClass own = some m.cls) (w1 : (Cond.methodLink own index y).before a0 Z = true) (w2 : (Cond.declares y).before a0 Z = true) (hnf : NotFace (s.setVm vm₀) y) (w5 : (Cond.selects C y z).before a0 Z = true) (w6 : (Cond.instanceMethod z).before a0 Z = true) (w3 : (Cond.initialized z.cls).before a0 Z = true) (w4 : (Cond.code z bytes maxL ret).before a0 Z = true)
    (hy : y.cls ≠ "java/lang/invoke/MethodHandle" ∧ y.cls ≠ "java/lang/invoke/VarHandle") (hM : o206 EL sf l z bytes maxL ret [] rm Z h as' Q) (eT : T.heap = h) {a : Addr} (E : Exa Z h a C) {ps : List FieldType} {r : Option FieldType} (hd : parseMethodDescriptor y.desc = some ⟨ps, r⟩) {argsL rest : List Value} (hl : argsL.length = ps.length) (ha : (.ref a :: argsL).toArray = as')
    {g : JFrame} (hg : g.method = m) (hsize : g.locals.size = c.maxLocals) (hstack : g.stack = argsL.reverse ++ .ref a :: rest) (hdg : decode c.code g.pc = .ok (.invokevirtual index, 3)) {W : Nat} (hW : 2 * g.monitorRoom + (rest.map fun v => v.category).sum = W) (h1 : rm.frames + 1 ≤ R.frames := by decide) (h2 : W + (maxL + 11) + rm.locals ≤ R.locals := by decide) (h3 : cells + rm.cells ≤ R.cells := by decide) (h4 : slots + rm.slots ≤ R.slots := by decide) :
    o430 EL vm₀ h p l e R s m args below meth c T locs (cells + rm.cells) (slots + rm.slots) Z own g 3 rest Q := by
  obtain ⟨cq, kq, qa, qb, qc⟩ := isOf hZ eT E
  obtain ⟨v, _, ⟨T', L', k', n'⟩, -, X', hS', hgr, ⟨Lc, hQ, l1, y1, z1, hr⟩, st⟩ := X.virtualBackS hx (y := y) (z := z) hown (mvT hZ w1) (mvT hZ w2) hnf (mvT hZ w5) (mvT hZ w6) hy (o429 (W := W) hM hZ w4 w3 h1 h2 hEL H hsf) qa qc (g := g) hg hsize (Steps.refl _) (argsL := argsL) (rest := rest) (lenOf hd hl) hstack (Nat.le_of_eq hW) hdg (fun _ _ => ⟨ha, eT, h3, h4⟩)
  dsimp only [Pt.U, Pt.locs, Pt.cells, Pt.slots] at X' hS' hgr l1 y1 z1 st hQ hr
  subst l1 y1 z1
  obtain ⟨r1, r2, r3, r4⟩ := rebS hS (by rw [eT]; exact hk) X' hS' hgr hZ hown
  exact ⟨T', v, Lc, r1, r2, r3, r4, hQ, hr, fun _ k => st.trans k⟩
theorem o916 (X : Stand p l e R (s.setVm vm₀) m args below meth c T locs cells slots) (hx : p.tables.exec = Jvm.exec) (hZ : Z.Warmed39 (s.setVm vm₀).vm) (hS : s.Since vm₀ k₀) (hk : k₀ ≤ h.size) (hEL : EW Z a0 EL) (H : CHv Z EL vm₀ h) (hsf : ∀ x ∈ sf, x < h.size ∧ Safe Z EL vm₀ h x) {own C owner : String} {index : Nat} {y z : MethodName} {bytes : ByteArray} {maxL : Nat} {ret : Option FieldType} {rm : Room} {as' : Array Value} {Q : Option Value → Heap → List Loc → Prop}
    (hown : (s.setVm vm₀).vm.findClass own = some m.cls) (w1 : (Cond.methodLink own index y).before a0 Z = true) (w7 : (Cond.sameMethod y.cls owner y.name y.desc).before a0 Z = true) (w2 : (Cond.declares ⟨owner, y.name, y.desc⟩).before a0 Z = true) (w5 : (Cond.selects C y z).before a0 Z = true) (w6 : (Cond.instanceMethod z).before a0 Z = true) (w3 : (Cond.initialized z.cls).before a0 Z = true) (w4 : (Cond.code z bytes maxL ret).before a0 Z = true)
    (hy : owner ≠ "java/lang/invoke/MethodHandle" ∧ owner ≠ "java/lang/invoke/VarHandle") (hM : o206 EL sf l z bytes maxL ret [] rm Z h as' Q) (eT : T.heap = h) {a : Addr} (E : Exa Z h a C) {ps : List FieldType} {r : Option FieldType} (hd : parseMethodDescriptor y.desc = some ⟨ps, r⟩) {argsL rest : List Value} (hl : argsL.length = ps.length) (ha : (.ref a :: argsL).toArray = as')
    {g : JFrame} (hg : g.method = m) (hsize : g.locals.size = c.maxLocals) (hstack : g.stack = argsL.reverse ++ .ref a :: rest) (hdg : decode c.code g.pc = .ok (.invokevirtual index, 3)) {W : Nat} (hW : 2 * g.monitorRoom + (rest.map fun v => v.category).sum = W) (h1 : rm.frames + 1 ≤ R.frames := by decide) (h2 : W + (maxL + 11) + rm.locals ≤ R.locals := by decide) (h3 : cells + rm.cells ≤ R.cells := by decide) (h4 : slots + rm.slots ≤ R.slots := by decide) :
    o430 EL vm₀ h p l e R s m args below meth c T locs (cells + rm.cells) (slots + rm.slots) Z own g 3 rest Q := by
  obtain ⟨cq, kq, qa, qb, qc⟩ := isOf hZ eT E
  obtain ⟨v, _, ⟨T', L', k', n'⟩, -, X', hS', hgr, ⟨Lc, hQ, l1, y1, z1, hr⟩, st⟩ := virtualBackUpS X hx (x := y) (y := z) hown (mvT hZ w1) (mvT hZ w7) (mvT hZ w2) hy (mvT hZ w5) (mvT hZ w6) (o429 (W := W) hM hZ w4 w3 h1 h2 hEL H hsf) qa qc (g := g) hg hsize (Steps.refl _) (argsL := argsL) (rest := rest) (lenOf hd hl) hstack (Nat.le_of_eq hW) hdg (fun _ _ => ⟨ha, eT, h3, h4⟩)
  dsimp only [Pt.U, Pt.locs, Pt.cells, Pt.slots] at X' hS' hgr l1 y1 z1 st hQ hr
  subst l1 y1 z1
  obtain ⟨r1, r2, r3, r4⟩ := rebS hS (by rw [eT]; exact hk) X' hS' hgr hZ hown
  exact ⟨T', v, Lc, r1, r2, r3, r4, hQ, hr, fun _ k => st.trans k⟩
theorem o917 (X : Stand p l e R (s.setVm vm₀) m args below meth c T locs cells slots) (hx : p.tables.exec = Jvm.exec) (hZ : Z.Warmed39 (s.setVm vm₀).vm) (hS : s.Since vm₀ k₀) (hk : k₀ ≤ h.size) (hEL : EW Z a0 EL) (H : CHv Z EL vm₀ h) (hsf : ∀ x ∈ sf, x < h.size ∧ Safe Z EL vm₀ h x) {own C : String} {index count : Nat} {y z : MethodName} {bytes : ByteArray} {maxL : Nat} {ret : Option FieldType} {rm : Room} {as' : Array Value} {Q : Option Value → Heap → List Loc → Prop}
    (hown : (s.setVm vm₀).vm.findClass own = some m.cls) (w1 : (Cond.methodLink own index y).before a0 Z = true) (w2 : (Cond.declares y).before a0 Z = true) (w7 : (Cond.interfaceMethod y.cls y.cls y.name y.desc).before args (s.setVm vm₀) = true) (w5 : (Cond.selects C y z).before a0 Z = true) (w6 : (Cond.instanceMethod z).before a0 Z = true) (w8 : (Cond.publicMethod z).before a0 Z = true) (w9 : (Cond.unhidden C y.name y.desc).before a0 Z = true) (w10 : (Cond.castable C y.cls).before a0 Z = true) (w3 : (Cond.initialized z.cls).before a0 Z = true) (w4 : (Cond.code z bytes maxL ret).before a0 Z = true)
    (hy : y.cls ≠ "java/lang/invoke/MethodHandle" ∧ y.cls ≠ "java/lang/invoke/VarHandle") (hM : o206 EL sf l z bytes maxL ret [] rm Z h as' Q) (eT : T.heap = h) {a : Addr} (E : Exa Z h a C) {ps : List FieldType} {r : Option FieldType} (hd : parseMethodDescriptor y.desc = some ⟨ps, r⟩) {argsL rest : List Value} (hl : argsL.length = ps.length) (ha : (.ref a :: argsL).toArray = as')
    {g : JFrame} (hg : g.method = m) (hsize : g.locals.size = c.maxLocals) (hstack : g.stack = argsL.reverse ++ .ref a :: rest) (hdg : decode c.code g.pc = .ok (.invokeinterface index count, 5)) {W : Nat} (hW : 2 * g.monitorRoom + (rest.map fun v => v.category).sum = W) (h1 : rm.frames + 1 ≤ R.frames := by decide) (h2 : W + (maxL + 11) + rm.locals ≤ R.locals := by decide) (h3 : cells + rm.cells ≤ R.cells := by decide) (h4 : slots + rm.slots ≤ R.slots := by decide) :
    o430 EL vm₀ h p l e R s m args below meth c T locs (cells + rm.cells) (slots + rm.slots) Z own g 5 rest Q := by
  obtain ⟨cq, kq, qa, qb, qc⟩ := isOf hZ eT E
  obtain ⟨v, _, ⟨T', L', k', n'⟩, -, X', hS', hgr, ⟨Lc, hQ, l1, y1, z1, hr⟩, st⟩ := X.interfaceBackS hx (xi := y) (y := z) hown (mvT hZ w1) (mvT hZ w2) w7 (mvT hZ w5) (mvT hZ w6) (mvT hZ w8) (mvT hZ w9) (mvT hZ w10) hy (o429 (W := W) hM hZ w4 w3 h1 h2 hEL H hsf) qa qb qc (g := g) hg hsize (Steps.refl _) (argsL := argsL) (rest := rest) (lenOf hd hl) hstack (Nat.le_of_eq hW) hdg (fun _ _ => ⟨ha, eT, h3, h4⟩)
  dsimp only [Pt.U, Pt.locs, Pt.cells, Pt.slots] at X' hS' hgr l1 y1 z1 st hQ hr
  subst l1 y1 z1
  obtain ⟨r1, r2, r3, r4⟩ := rebS hS (by rw [eT]; exact hk) X' hS' hgr hZ hown
  exact ⟨T', v, Lc, r1, r2, r3, r4, hQ, hr, fun _ k => st.trans k⟩
theorem o918 (X : Stand p l e R (s.setVm vm₀) m args below meth c T locs cells slots) (hx : p.tables.exec = Jvm.exec) (hZ : Z.Warmed39 (s.setVm vm₀).vm) (hS : s.Since vm₀ k₀) (hk : k₀ ≤ h.size) (hEL : EW Z a0 EL) (H : CHv Z EL vm₀ h) (hsf : ∀ x ∈ sf, x < h.size ∧ Safe Z EL vm₀ h x) {own : String} {index : Nat} {y : MethodName} {bytes : ByteArray} {maxL : Nat} {ret : Option FieldType} {rm : Room} {as' : Array Value} {Q : Option Value → Heap → List Loc → Prop}
    (hown : (s.setVm vm₀).vm.findClass own = some m.cls) (w1 : (Cond.methodLink own index y).before a0 Z = true) (w6 : (Cond.instanceMethod y).before a0 Z = true) (w5 : (Cond.selects y.cls y y).before args (s.setVm vm₀) = true) (w7 : (Cond.privateMethod y).before a0 Z = true) (w3 : (Cond.initialized y.cls).before a0 Z = true) (w4 : (Cond.code y bytes maxL ret).before a0 Z = true)
    (hy : y.cls ≠ "java/lang/invoke/MethodHandle" ∧ y.cls ≠ "java/lang/invoke/VarHandle") (hM : o206 EL sf l y bytes maxL ret [] rm Z h as' Q) (eT : T.heap = h) {a : Addr} {C : String} (E : Exa Z h a C) {ps : List FieldType} {r : Option FieldType} (hd : parseMethodDescriptor y.desc = some ⟨ps, r⟩) {argsL rest : List Value} (hl : argsL.length = ps.length) (ha : (.ref a :: argsL).toArray = as')
    {g : JFrame} (hg : g.method = m) (hsize : g.locals.size = c.maxLocals) (hstack : g.stack = argsL.reverse ++ .ref a :: rest) (hdg : decode c.code g.pc = .ok (.invokevirtual index, 3)) {W : Nat} (hW : 2 * g.monitorRoom + (rest.map fun v => v.category).sum = W) (h1 : rm.frames + 1 ≤ R.frames := by decide) (h2 : W + (maxL + 11) + rm.locals ≤ R.locals := by decide) (h3 : cells + rm.cells ≤ R.cells := by decide) (h4 : slots + rm.slots ≤ R.slots := by decide) :
    o430 EL vm₀ h p l e R s m args below meth c T locs (cells + rm.cells) (slots + rm.slots) Z own g 3 rest Q := by
  obtain ⟨cq, q, q'⟩ := E.cell
  obtain ⟨v, _, ⟨T', L', k', n'⟩, -, X', hS', hgr, ⟨Lc, hQ, l1, y1, z1, hr⟩, st⟩ := privateBackS X hx (y := y) hown (mvT hZ w1) (mvT hZ w6) w5 (Cond.privateMethod_at (mvP hZ w7 (args := #[]))) (mvT hZ w4) hy (o429 (W := W) hM hZ w4 w3 h1 h2 hEL H hsf) (g := g) hg hsize (Steps.refl _) (a := a) (by rw [eT]; exact q) q' (argsL := argsL) (rest := rest) (lenOf hd hl) hstack (Nat.le_of_eq hW) hdg (fun _ _ => ⟨ha, eT, h3, h4⟩)
  dsimp only [Pt.U, Pt.locs, Pt.cells, Pt.slots] at X' hS' hgr l1 y1 z1 st hQ hr
  subst l1 y1 z1
  obtain ⟨r1, r2, r3, r4⟩ := rebS hS (by rw [eT]; exact hk) X' hS' hgr hZ hown
  exact ⟨T', v, Lc, r1, r2, r3, r4, hQ, hr, fun _ k => st.trans k⟩
end OwnHeld
theorem o393 {a0 : Array Value} {Z : State} (hw : ∀ d ∈ tables_1, d.before a0 Z = true) : ∀ a ∈ Bundle.stringAtoms, a.before a0 Z = true := fun a ha => hw a (by revert a; decide +kernel)
abbrev o23 : List (String × Nat) := [("com/example/forgewire/forgewire/xml/DefinitionReader$Subject", 29), ("com/example/forgewire/forgewire/xml/DefinitionReader$Subject", 31), ("com/example/forgewire/forgewire/xml/DefinitionReader$Subject", 37), ("com/example/forgewire/forgewire/xml/DefinitionReader$Subject", 39)]
theorem o172 {a0 : Array Value} {Z : State} (hw : o35 a0 Z) : EW Z a0 o23 := (EW.cons (o2 hw 144 rfl) (by decide) (EW.cons (o2 hw 147 rfl) (by decide) (EW.cons (o2 hw 193 rfl) (by decide) (EW.cons (o2 hw 194 rfl) (by decide) EW.nil))))
theorem o867 {t : Term} {k j : Int32} {args : Array Value} {Z : State} (ht : t.eval args Z none [] Z = some (.int j)) (h : (Cond.not (Cond.eq t (.int k))).value args Z none Z [] = some true) : ¬ j = k := by
  have h2 := not_v h
  simpa [Cond.value, ht, Term.int_eval] using h2
theorem o1005 {t : Term} {k : Int32} {args : Array Value} {Z : State} (h : (Cond.eq t (.int k)).value args Z none Z [] = some true) : t.eval args Z none [] Z = some (.int k) := by
  obtain ⟨x, y, ea, eb, -, k2⟩ := cmp_v (Or.inl h)
  obtain rfl : y = .int k := (Option.some.inj (eb.symm.trans (Term.int_eval k)))
  obtain ⟨z, rfl⟩ := k2
  obtain rfl : z = k := by simpa [Cond.value, ea, eb] using h
  exact ea
def o689 (v : Int32) : Prop := v.toUInt32.toUInt16.toUInt32.toInt32 = v
theorem o1016 (x : Int32) : o689 (nar .char x) := by
  unfold o689 nar
  apply Int32.toBitVec_inj.1
  apply BitVec.eq_of_toNat_eq
  simp
theorem o874 (x : BitVec 32) : x % 65536#32 = x &&& 65535#32 := by
  apply BitVec.eq_of_toNat_eq
  simp only [BitVec.toNat_umod, BitVec.toNat_and]
  exact (Nat.and_two_pow_sub_one_eq_mod _ 16).symm
theorem o876 (i : Nat) : (255#32).getLsbD i = decide (i < 8) := by
  rw [show (255#32) = BitVec.ofNat 32 (2^8-1) from rfl, BitVec.getLsbD_ofNat, Nat.testBit_two_pow_sub_one]
  by_cases h : i < 8
  · simp [h]; omega
  · simp [h]
theorem o875 (i : Nat) : (65535#32).getLsbD i = decide (i < 16) := by
  rw [show (65535#32) = BitVec.ofNat 32 (2^16-1) from rfl, BitVec.getLsbD_ofNat, Nat.testBit_two_pow_sub_one]
  by_cases h : i < 16
  · simp [h]; omega
  · simp [h]
theorem o1022 (c : Int32) (h : o689 c) : (((((c >>> ((0 : Int32) &&& 31)).toInt8.toInt32) &&& (255 : Int32)) <<< ((0 : Int32) &&& 31)) ||| ((((c >>> ((8 : Int32) &&& 31)).toInt8.toInt32) &&& (255 : Int32)) <<< ((8 : Int32) &&& 31))).toUInt32.toUInt16.toUInt32.toInt32 = c := by
  unfold o689 at h
  conv => rhs; rw [← h]
  apply Int32.toBitVec_inj.1
  simp
  simp only [o874]
  apply BitVec.eq_of_getLsbD_eq
  intro i hi
  simp only [BitVec.getLsbD_or, BitVec.getLsbD_and, BitVec.getLsbD_shiftLeft, o876, o875, BitVec.getLsbD_signExtend, BitVec.getLsbD_sshiftRight]
  by_cases h8 : i < 8
  · have h16 : i < 16 := by omega
    simp [h8, h16, hi]
  · by_cases h16 : i < 16
    · have e : 8 + (i - 8) = i := by omega
      have a1 : i - 8 < 8 := by omega
      have a2 : i - 8 < 32 := by omega
      simp [h8, h16, hi, e, a1, a2]
    · simp [h8, h16]
theorem o176 (x : Int32) : ¬ (255 : Int32) < (x &&& (255 : Int32)).toUInt32.toUInt16.toUInt32.toInt32 := by
  rw [i2c_mask, Int32.lt_iff_toInt_lt]
  have h1 := c_and x 255 (by decide)
  omega
theorem o997 (x : Int32) : ¬ (255 : Int32) < nar .char (x &&& (255 : Int32)).toUInt32.toUInt16.toUInt32.toInt32 := by
  have h : nar .char (x &&& (255 : Int32)).toUInt32.toUInt16.toUInt32.toInt32 = (x &&& (255 : Int32)).toUInt32.toUInt16.toUInt32.toInt32 := Value.int.inj (o836 _)
  rw [h]; exact o176 x
theorem o690 {args : Array Value} {s : State} {C : String} {x y z : MethodName} (hsel : (Cond.selects C x z).before args s = true) (hc : z.cls = y.cls) : NotFace s y := fun r0 h0 => by
  obtain ⟨c2, r2, m2, q1, q2, q3, q4, kP, hkP, hkPi⟩ := Cond.selects_spec hsel
  have a := findClass_of_methodNamed h0
  have b := findClass_of_methodNamed q3
  rw [hc] at b
  have e := Option.some.inj (a.symm.trans b)
  exact ⟨kP, by rw [e]; exact hkP, hkPi⟩
theorem o321 {Z : State} {a0 : Array Value} {C : String} {x y z : MethodName} (w1 : (Cond.selects C x z).before a0 Z = true) (hc : z.cls = y.cls) (w2 : (Cond.instanceMethod y).before a0 Z = true) (hy : y.cls ≠ "java/lang/invoke/MethodHandle" ∧ y.cls ≠ "java/lang/invoke/VarHandle") : (Cond.sameMethod y.cls y.cls y.name y.desc).before a0 Z = true := by
  obtain ⟨c2, r2, m2, q1, q2, q3, q4, kP, hkP, hkPi⟩ := Cond.selects_spec w1
  obtain ⟨mk, methM, hnamed, -, -, -⟩ := Cond.instanceMethod_spec w2
  have a := findClass_of_methodNamed hnamed
  have b := findClass_of_methodNamed q3
  rw [hc] at b
  have e : mk.cls = m2.cls := Option.some.inj (a.symm.trans b)
  have f := State.methodFound?_of_named hnamed hy
  have hn' : Z.methodNamed? ⟨y.cls, y.name, y.desc⟩ = some mk := hnamed
  simp [Cond.before, Cond.holds, Cond.value, a, f, hn', e, hkP, hkPi]
section OwnSp
variable {p : Program} {l : Launch} {e : Env} {R : Room} {s : State} {m : MethodId} {args : Array Value} {below : List Frame} {meth : Method} {c : Code} {T : State} {locs : List Loc} {cells slots : Nat} {Z : State} {a0 : Array Value} {h : Heap} {a : Addr}
theorem o96 (hZ : Z.Warmed39 s.vm) {y : MethodName} {C : String} (w1 : (Cond.selects C y y).before a0 Z = true) (w2 : (Cond.privateMethod y).before a0 Z = true) (w3 : (Cond.instanceMethod y).before a0 Z = true) (hy : y.cls ≠ "java/lang/invoke/MethodHandle" ∧ y.cls ≠ "java/lang/invoke/VarHandle") : (Cond.selects y.cls y y).before args s = true := by
  obtain ⟨c2, r2, m2, q1, q2, q3, q4, kP, hkP, hkPi⟩ := Cond.selects_spec (mvT (args := args) hZ w1)
  exact Jvm.Stand.selects_self_of_private (findClass_of_methodNamed q3) hkP hkPi (Cond.privateMethod_at (mvP hZ w2 (args := args))) (mvT hZ w3) hy
theorem o186 (X : Stand p l e R s m args below meth c T locs cells slots) (hx : p.tables.exec = Jvm.exec) (hZ : Z.Warmed39 s.vm) {own K : String} {index : Nat} {y : MethodName} {bytes : ByteArray} {maxL : Nat} {ret : Option FieldType} {rm : Room} {as' : Array Value} {Q : Option Value → Heap → List Loc → Prop}
    (hown : s.vm.findClass own = some m.cls) (w1 : (Cond.methodLink own index y).before a0 Z = true) (w2 : (Cond.sameMethod y.cls y.cls y.name y.desc).before a0 Z = true) (w6 : (Cond.instanceMethod y).before a0 Z = true) (w7 : (Cond.superclass own y.cls).before a0 Z = true) (hn : y.name ≠ "<init>") (w3 : (Cond.initialized y.cls).before a0 Z = true) (w4 : (Cond.code y bytes maxL ret).before a0 Z = true)
    (hM : o21 l y bytes maxL ret [] rm Z h as' Q) (eT : T.heap = h) {a : Addr} (F : Ins Z h a K true) {ps : List FieldType} {r : Option FieldType} (hd : parseMethodDescriptor y.desc = some ⟨ps, r⟩) {argsL rest : List Value} (hl : argsL.length = ps.length) (ha : (.ref a :: argsL).toArray = as')
    {g : JFrame} (hg : g.method = m) (hsize : g.locals.size = c.maxLocals) (hstack : g.stack = argsL.reverse ++ .ref a :: rest) (hdg : decode c.code g.pc = .ok (.invokespecial index, 3)) {W : Nat} (hW : 2 * g.monitorRoom + (rest.map fun v => v.category).sum = W) (h1 : rm.frames + 1 ≤ R.frames := by decide) (h2 : W + (maxL + 11) + rm.locals ≤ R.locals := by decide) (h3 : cells + rm.cells ≤ R.cells := by decide) (h4 : slots + rm.slots ≤ R.slots := by decide) :
    o412 p l e R s m args below meth c T locs (cells + rm.cells) (slots + rm.slots) g 3 rest Q := by
  obtain ⟨v, _, ⟨T', L', k', n'⟩, -, X', ⟨Lc, hQ, l1, y1, z1⟩, st⟩ := superBack X hx hZ hown w1 w2 w6 w7 hn (backOf (W := W) hM hZ w4 w3 h1 h2) eT F (g := g) hg hsize w4 (argsL := argsL) (rest := rest) (lenOf hd hl) hstack (Nat.le_of_eq hW) hdg (fun _ _ => ⟨ha, eT, h3, h4⟩)
  dsimp only [Pt.U, Pt.locs, Pt.cells, Pt.slots] at X' l1 y1 z1 st hQ
  subst l1 y1 z1
  exact ⟨T', v, Lc, X', hQ, fun _ k => st.trans k⟩
end OwnSp
theorem o504 {a b : Addr} (h : a ≠ b) : ¬ (Value.ref a = Value.ref b) := fun q => h (by cases q; rfl)
theorem o420 (x : Int32) : nar .char x.toUInt32.toUInt16.toUInt32.toInt32 = x.toUInt32.toUInt16.toUInt32.toInt32 := Value.int.inj (o836 x)
theorem o411 {x : Int32} (h : nar .char x = x) : fits .char (.int x) = true := by rw [← h]; exact fits_nar_char _
def o64 (Z : State) (wcs : Int32) : Prop := Sta Z Z.heap "java/lang/String" "COMPACT_STRINGS" "Z" (.int wcs) ∧ ¬ wcs = (0 : Int32)
theorem o522 : decode jdk_42_method_139_code 0 = .ok (.getstatic 38, 3) := by decide +kernel
theorem o523 : decode jdk_42_method_139_code 3 = .ok (.ifCond .eq 23, 3) := by decide +kernel
theorem o524 : decode jdk_42_method_139_code 6 = .ok (.iload_n 0, 1) := by decide +kernel
theorem o525 : decode jdk_42_method_139_code 7 = .ok (.invokestatic 1015, 3) := by decide +kernel
theorem o796 : decode jdk_43_method_3_code 0 = .ok (.iload_n 0, 1) := by decide +kernel
theorem o797 : decode jdk_43_method_3_code 1 = .ok (.sipush 255, 3) := by decide +kernel
theorem o798 : decode jdk_43_method_3_code 4 = .ok (.if_icmp .gt 7, 3) := by decide +kernel
theorem o799 : decode jdk_43_method_3_code 7 = .ok (.iconst 1, 1) := by decide +kernel
theorem o800 : decode jdk_43_method_3_code 8 = .ok (.goto 4, 3) := by decide +kernel
theorem o692 : decode jdk_43_method_3_code 12 = .ok (.ireturn, 1) := by decide +kernel
abbrev o839 : MethodName := ⟨"java/lang/StringLatin1", "canEncode", "(C)Z"⟩
theorem o413 : plainName "java/lang/StringLatin1" = true := by first | (simp [plainName, overriddenIn]; done) | decide +kernel
section OwnV
variable {l : Launch} {Z : State} {a0 : Array Value} {ws : List Jvm.Cond} {wcs : Int32}
theorem o1006 (hw : o35 a0 Z) (hS : o64 Z wcs) (iv0 : Int32) (h0 : Heap) (n0 : Nat) (O0 : Old Z n0 h0) (pk2 : ¬ (255 : Int32) < iv0) :
    o21 l o839 jdk_43_method_3_code 1 (some .boolean) ws ⟨0, 0, 0, 0⟩ Z h0 #[.int iv0] (fun v h L => v = some (.int 1) ∧ Fr n0 L ∧ h = h0) := by
  refine o18 (plainFor_of_name o413) ?_
  intro p e s m below meth c s₁ hx hby hml hown hnm hret hlk hZ e0 X0
  have N0 := Fr.nil n0
  refine o4 (fun u j => castTop (show entryFrame m #[.int iv0] 1 = mkF m 0 #[o0 iv0] [] from rfl) j) ?_
  refine o4 (fun u j => o6 X0.here hx rfl (hb hby o796) rfl (o33 X0.here hx rfl (hb hby o797) (o14 X0.here hx rfl (hb hby o798) rfl (XT.ii_gt_f pk2) (o16 X0.here hx rfl (hb hby o799) (o15 X0.here hx rfl (pc0 := 8) (pc' := 12) rfl (hb hby o800) (by decide) (by decide) j))))) ?_
  exact o69 X0 hx hlk hret rfl (Or.inl ⟨rfl, by simp, _, rfl⟩) (hb hby o692) (by decide) (by decide) (by rw [e0]; exact ⟨rfl, N0, rfl⟩)
theorem o414 : ("java/lang/StringLatin1" : String) ≠ "java/lang/invoke/MethodHandle" ∧ ("java/lang/StringLatin1" : String) ≠ "java/lang/invoke/VarHandle" := by decide +kernel
theorem o856 : parseMethodDescriptor "(C)Z" = some ⟨[.char], some .boolean⟩ := by decide +kernel
theorem o508 : decode jdk_42_method_139_code 10 = .ok (.ifCond .eq 16, 3) := by decide +kernel
theorem o509 : decode jdk_42_method_139_code 13 = .ok (.new 10, 3) := by decide +kernel
abbrev o7 : String := "java/lang/String"
theorem o91 : parseFieldDescriptor "[B" = some (.array .byte) := by decide +kernel
theorem o92 : parseFieldDescriptor "B" = some .byte := by decide +kernel
theorem o510 : decode jdk_42_method_139_code 16 = .ok (.dup, 1) := by decide +kernel
theorem o511 : decode jdk_42_method_139_code 17 = .ok (.iload_n 0, 1) := by decide +kernel
theorem o512 : decode jdk_42_method_139_code 18 = .ok (.invokestatic 1018, 3) := by decide +kernel
theorem o693 : decode jdk_43_method_46_code 0 = .ok (.iconst 1, 1) := by decide +kernel
theorem o694 : decode jdk_43_method_46_code 1 = .ok (.newarray .byte, 2) := by decide +kernel
theorem o214 : "[" ++ (newarray.typeOf .byte).toString = "[B" := by decide +kernel
theorem o695 : decode jdk_43_method_46_code 3 = .ok (.dup, 1) := by decide +kernel
theorem o696 : decode jdk_43_method_46_code 4 = .ok (.iconst 0, 1) := by decide +kernel
theorem o697 : decode jdk_43_method_46_code 5 = .ok (.iload_n 0, 1) := by decide +kernel
theorem o698 : decode jdk_43_method_46_code 6 = .ok (.i2b, 1) := by decide +kernel
theorem o699 : decode jdk_43_method_46_code 7 = .ok (.bastore, 1) := by decide +kernel
theorem o700 : decode jdk_43_method_46_code 8 = .ok (.areturn, 1) := by decide +kernel
abbrev o840 : MethodName := ⟨"java/lang/StringLatin1", "toBytes", "(C)[B"⟩
theorem o1007 (hw : o35 a0 Z) (hS : o64 Z wcs) (iv0 : Int32) (h0 : Heap) (n0 : Nat) (O0 : Old Z n0 h0)  :
    o21 l o840 jdk_43_method_46_code 1 (some (.array .byte)) ws ⟨0, 1, 1, 0⟩ Z h0 #[.int iv0] (fun v h L => ∃ nz0 : Addr, ∃ kz1 : ClassId, v = some (.ref nz0) ∧ Fr n0 L ∧ Keep h0 h [] ∧ h0.size ≤ nz0 ∧ Exa Z h nz0 "[B" ∧ Arv Z h nz0 kz1 .byte 1 [(.int (iv0.toInt8.toInt32))] (.int 0)) := by
  refine o18 (plainFor_of_name o413) ?_
  intro p e s m below meth c s₁ hx hby hml hown hnm hret hlk hZ e0 X0
  have N0 := Fr.nil n0
  refine o4 (fun u j => castTop (show entryFrame m #[.int iv0] 1 = mkF m 0 #[o0 iv0] [] from rfl) j) ?_
  refine o4 (fun u j => o16 X0.here hx rfl (hb hby o693) j) ?_
  have q_ := newPE X0 hx hZ (o2 hw 14 rfl) e0 (g := (mkF m 1 #[o0 iv0] [.int 1])) rfl (hb hby o694) rfl (by decide) (cap := 1) (by decide) (by decide) (by decide) (by decide) (ad := "[B") o214
  obtain ⟨T10, h10, k10, X10, e10, E10, A10, Y10, st10⟩ := q_
  have q_ : ∃ z, z = h0.size := ⟨_, rfl⟩
  obtain ⟨b10, g10⟩ := q_
  rw [← g10] at A10 Y10 st10
  have V10 : Arv Z h10 b10 k10 .byte 1 [.int 0] (.int 0) := (Arv.new A10 (by decide)).pad (pad_rep [] (.int 0) 1)
  refine o4 (fun u j => st10 u j) ?_
  refine o4 (fun u j => o61 X10.here hx rfl (hb hby o695) rfl rfl (o16 X10.here hx rfl (hb hby o696) (o6 X10.here hx rfl (hb hby o697) rfl (o79 X10.here hx rfl (hb hby o698) rfl j)))) ?_
  refine o32 (o101 X10 hx hZ e10 V10 (j := 0) (by decide) rfl rfl (hb hby o699)) ?_
  intro T11 h11 X11 e11 W11
  rw [o426] at W11
  have g12 := Nat.le_trans (o103 O0) (Nat.le_of_eq g10.symm)
  have N11 := Fr.snoc X11 N0 g12
  have V11 : Arv Z h11 b10 k10 .byte 1 [(.int (iv0.toInt8.toInt32))] (.int 0) := o74 V10 (fits_nar_byte _) W11 0 rfl (Nat.le_of_ble_eq_true rfl)
  have K13 := (Keep.refl h0 []).ext E10
  have z15 := Nat.le_trans (Nat.le_refl _) (Nat.le_of_eq g10.symm)
  have K14 := K13.wr W11 (Or.inr z15)
  have F16 := (Exa.wr W11 Y10)
  exact o69 X11 hx hlk hret rfl (Or.inr (Or.inr (Or.inr (Or.inr ⟨rfl, rfl, rfl⟩)))) (hb hby o700) (by decide) (by decide) (by rw [e11]; exact ⟨b10, k10, rfl, N11, K14, z15, F16, V11⟩)
theorem o857 : parseMethodDescriptor "(C)[B" = some ⟨[.char], some (.array .byte)⟩ := by decide +kernel
theorem o513 : decode jdk_42_method_139_code 21 = .ok (.iconst 0, 1) := by decide +kernel
theorem o514 : decode jdk_42_method_139_code 22 = .ok (.invokespecial 209, 3) := by decide +kernel
theorem o526 : decode jdk_42_method_151_code 0 = .ok (.aload_n 0, 1) := by decide +kernel
theorem o527 : decode jdk_42_method_151_code 1 = .ok (.invokespecial 1, 3) := by decide +kernel
theorem o528 : decode jdk_42_method_151_code 4 = .ok (.aload_n 0, 1) := by decide +kernel
theorem o529 : decode jdk_42_method_151_code 5 = .ok (.aload_n 1, 1) := by decide +kernel
theorem o530 : decode jdk_42_method_151_code 6 = .ok (.putfield 9, 3) := by decide +kernel
theorem o531 : decode jdk_42_method_151_code 9 = .ok (.aload_n 0, 1) := by decide +kernel
theorem o515 : decode jdk_42_method_151_code 10 = .ok (.iload_n 2, 1) := by decide +kernel
theorem o516 : decode jdk_42_method_151_code 11 = .ok (.putfield 15, 3) := by decide +kernel
theorem o828 : ("coder" : String) ≠ "value" := by decide +kernel
def o309 {Z : State} {a0 : Array Value} (hw : o35 a0 Z) := slot_ne (Or.inr (o2 hw 25 rfl)) (Or.inr (o2 hw 23 rfl)) o828 (t := .byte) (t' := (.array .byte)) o92 o91
theorem o517 : decode jdk_42_method_151_code 14 = .ok (.return_, 1) := by decide +kernel
theorem o829 : ("value" : String) ≠ "coder" := by decide +kernel
def o310 {Z : State} {a0 : Array Value} (hw : o35 a0 Z) := slot_ne (Or.inr (o2 hw 23 rfl)) (Or.inr (o2 hw 25 rfl)) o829 (t := (.array .byte)) (t' := .byte) o91 o92
abbrev o841 : MethodName := ⟨"java/lang/String", "<init>", "([BB)V"⟩
theorem o83 : plainName "java/lang/String" = true := by first | (simp [plainName, overriddenIn]; done) | decide +kernel
theorem o1008 (hw : o35 a0 Z) (hS : o64 Z wcs) (ad0 ad1 : Addr) (h0 : Heap) (n0 : Nat) (O0 : Old Z n0 h0) (pe1 : Exa Z h0 ad0 o7) (pf2 : Fld Z h0 ad0 o7 "coder" "B" (.int 0)) (pf3 : Fld Z h0 ad0 o7 "value" "[B" .null) (pg_ad0 : n0 ≤ ad0) :
    o21 l o841 jdk_42_method_151_code 3 none ws ⟨1, 0, 0, 12⟩ Z h0 #[.ref ad0, .ref ad1, .int 0] (fun v h L => v = none ∧ Fr n0 L ∧ Keep h0 h [ad0] ∧ Exa Z h ad0 o7 ∧ Fld Z h ad0 o7 "coder" "B" (.int 0) ∧ Fld Z h ad0 o7 "value" "[B" (.ref ad1)) := by
  refine o18 (plainFor_of_name o83) ?_
  intro p e s m below meth c s₁ hx hby hml hown hnm hret hlk hZ e0 X0
  have N0 := Fr.nil n0
  refine o4 (fun u j => castTop (show entryFrame m #[.ref ad0, .ref ad1, .int 0] 3 = mkF m 0 #[o1 ad0, o1 ad1, o0 0] [] from rfl) j) ?_
  refine o4 (fun u j => o3 X0.here hx rfl (hb hby o526) rfl rfl j) ?_
  refine o22 (initO X0 hx hZ hown (o2 hw 19 rfl) (o2 hw 20 rfl) (o2 hw 21 rfl) e0 rfl (by rw [hml]; rfl) rfl (hb hby o527) (by decide) (W := 0) (by show 2 * 0 + _ ≤ _; exact Nat.le_of_eq rfl) (by decide)) ?_
  intro T31 X31 e31
  refine o4 (fun u j => o3 X31.here hx rfl (hb hby o528) rfl rfl (o3 X31.here hx rfl (hb hby o529) rfl rfl j)) ?_
  refine o32 (putF X31 hx hZ hown (host := "") (Or.inl (o2 hw 22 rfl)) Via.refl e31 pf3 pe1 (Or.inr ⟨(o2 hw 23 rfl), rfl, hnm⟩) (o2 hw 10 rfl) (ty := (.array .byte)) o91 rfl rfl rfl rfl (hb hby o530)) ?_
  intro T32 h32 X32 e32 W32
  have N32 := Fr.snoc X32 N0 pg_ad0
  have F33 : Fld Z h32 ad0 o7 "value" "[B" (.ref ad1) := Fld.same W32 pf3
  refine o4 (fun u j => o3 X32.here hx rfl (hb hby o531) rfl rfl (o6 X32.here hx rfl (hb hby o515) rfl j)) ?_
  have F34 := (Exa.wr W32 pe1)
  have F35 := (Fld.other W32 pf2 (Or.inr (o309 hw)))
  refine o32 (putF X32 hx hZ hown (host := "") (Or.inl (o2 hw 24 rfl)) Via.refl e32 F35 F34 (Or.inr ⟨(o2 hw 25 rfl), rfl, hnm⟩) (o2 hw 10 rfl) (ty := .byte) o92 rfl rfl rfl rfl (hb hby o516)) ?_
  intro T36 h36 X36 e36 W36
  have N36 := Fr.snoc X36 N32 pg_ad0
  have F37 : Fld Z h36 ad0 o7 "coder" "B" (.int 0) := Fld.same W36 F35
  have K38 := (Keep.refl h0 [ad0]).wr W32 (Or.inl (List.mem_of_getElem? (i := 0) rfl))
  have K39 := K38.wr W36 (Or.inl (List.mem_of_getElem? (i := 0) rfl))
  have F40 := (Exa.wr W36 F34)
  have F41 := (Fld.other W36 F33 (Or.inr (o310 hw)))
  exact o81 X36 hx hlk hret (hb hby o517) (by decide) (by decide) (by rw [e36]; exact ⟨rfl, N36, K39, F40, F37, F41⟩)
theorem o67 : ("java/lang/String" : String) ≠ "java/lang/invoke/MethodHandle" ∧ ("java/lang/String" : String) ≠ "java/lang/invoke/VarHandle" := by decide +kernel
theorem o858 : parseMethodDescriptor "([BB)V" = some ⟨[(.array .byte), .byte], none⟩ := by decide +kernel
theorem o518 : decode jdk_42_method_139_code 25 = .ok (.areturn, 1) := by decide +kernel
abbrev o394 : MethodName := ⟨"java/lang/String", "valueOf", "(C)Ljava/lang/String;"⟩
theorem o505 (hw : o35 a0 Z) (hS : o64 Z wcs) (iv0 : Int32) (h0 : Heap) (n0 : Nat) (O0 : Old Z n0 h0) (pk2 : ¬ (255 : Int32) < iv0) :
    o21 l o394 jdk_42_method_139_code 1 (some (.object "java/lang/String")) ws ⟨2, 2, 5, 27⟩ Z h0 #[.int iv0] (fun v h L => ∃ nz0 : Addr, ∃ nz1 : Addr, ∃ kz2 : ClassId, v = some (.ref nz0) ∧ Fr n0 L ∧ Keep h0 h [] ∧ h0.size ≤ nz0 ∧ h0.size ≤ nz1 ∧ Exa Z h nz0 o7 ∧ Fld Z h nz0 o7 "coder" "B" (.int 0) ∧ Fld Z h nz0 o7 "value" "[B" (.ref nz1) ∧ Exa Z h nz1 "[B" ∧ Arv Z h nz1 kz2 .byte 1 [(.int (iv0.toInt8.toInt32))] (.int 0)) := by
  refine o18 (plainFor_of_name o83) ?_
  intro p e s m below meth c s₁ hx hby hml hown hnm hret hlk hZ e0 X0
  have N0 := Fr.nil n0
  refine o4 (fun u j => castTop (show entryFrame m #[.int iv0] 1 = mkF m 0 #[o0 iv0] [] from rfl) j) ?_
  have F51 := Sta.ext O0.2 hS.1
  refine o22 (getS2 X0 hx hZ hown (host := "") (Or.inl (o2 hw 4 rfl)) Via.refl e0 F51 rfl (hb hby o522)) ?_
  intro T52 X52 e52
  refine o4 (fun u j => o68 X52.here hx rfl (hb hby o523) rfl (o65 hS.2) (o6 X52.here hx rfl (hb hby o524) rfl j)) ?_
  refine o17 (o78 X52 hx hZ (y := o839) hown (o2 hw 5 rfl) (o2 hw 6 rfl) (o2 hw 7 rfl) (o2 hw 8 rfl) o414 (o1006 hw hS iv0 h0 n0 O0 pk2) e52 o856 (argsL := [.int iv0]) (rest := []) rfl rfl (g := (mkF m 7 #[o0 iv0] [.int iv0])) rfl (by rw [hml]; rfl) rfl (hb hby o525) (W := 0) rfl) ?_
  intro T53 v53 L53 X53 hQ53
  obtain ⟨rfl, M53, e53⟩ := hQ53
  have N53 := Fr.app N0 M53
  refine o4 (fun u j => o68 X53.here hx rfl (hb hby o508) rfl (o65 (by decide)) j) ?_
  have q_ := newO X53 hx hZ hown (o2 hw 9 rfl) (o2 hw 10 rfl) (o2 hw 2 rfl) e53 (g := (mkF m 13 #[o0 iv0] [])) rfl (hb hby o509) (by decide) (by decide)
  obtain ⟨T54, h54, X54, e54, E54, A54, D54, U54, st54⟩ := q_
  have q_ : ∃ z, z = h0.size := ⟨_, rfl⟩
  obtain ⟨b54, g54⟩ := q_
  rw [← g54] at A54 D54 U54 st54
  have F54_value : Fld Z h54 b54 o7 "value" "[B" .null := D54 (Or.inr (o2 hw 23 rfl)) (ty := (.array .byte)) o91
  have F54_coder : Fld Z h54 b54 o7 "coder" "B" (.int 0) := D54 (Or.inr (o2 hw 25 rfl)) (ty := .byte) o92
  refine o4 (fun u j => st54 u j) ?_
  refine o4 (fun u j => o61 X54.here hx rfl (hb hby o510) rfl rfl (o6 X54.here hx rfl (hb hby o511) rfl j)) ?_
  have O56 := O0.ext E54
  refine o17 (o78 X54 hx hZ (y := o840) hown (o2 hw 11 rfl) (o2 hw 12 rfl) (o2 hw 7 rfl) (o2 hw 13 rfl) o414 (o1007 hw hS iv0 h54 n0 O56 ) e54 o857 (argsL := [.int iv0]) (rest := [.ref b54, .ref b54]) rfl rfl (g := (mkF m 18 #[o0 iv0] [.int iv0, .ref b54, .ref b54])) rfl (by rw [hml]; rfl) rfl (hb hby o512) (W := 2) rfl) ?_
  intro T55 v55 L55 X55 hQ55
  obtain ⟨nz0_57, kz1_58, rfl, M55, K55, z59, F60, F61⟩ := hQ55
  have N55 := Fr.app N53 M55
  refine o4 (fun u j => o16 X55.here hx rfl (hb hby o513) j) ?_
  have F62 := (A54.keep K55)
  have F63 := (F54_coder.keep K55 nin0)
  have F64 := (F54_value.keep K55 nin0)
  have g65 := Nat.le_trans (o103 O0) (Nat.le_of_eq g54.symm)
  have O67 := O56.keep K55 all0
  refine o17 (o87 X55 hx hZ (y := o841) rfl hown (o2 hw 15 rfl) (o2 hw 16 rfl) (o2 hw 2 rfl) (o2 hw 18 rfl) o67 (o1008 hw hS b54 nz0_57 T55.heap n0 O67 F62 F63 F64 g65) rfl o858 (a := b54) (argsL := [.ref nz0_57, .int 0]) (rest := [.ref b54]) rfl rfl (g := (mkF m 22 #[o0 iv0] [.int 0, .ref nz0_57, .ref b54, .ref b54])) rfl (by rw [hml]; rfl) rfl (hb hby o514) (W := 1) rfl) ?_
  intro T66 v66 L66 X66 hQ66
  obtain ⟨rfl, M66, K66, F68, F69, F70⟩ := hQ66
  have N66 := Fr.app N55 M66
  have K71 := (Keep.refl h0 []).ext E54
  have K72 := K71.trans K55 all0
  have z74 := Nat.le_trans (Nat.le_refl _) (Nat.le_of_eq g54.symm)
  have K73 := K72.trans K66 (allS (Or.inr z74) all0)
  have z75 := Nat.le_trans E54.1 z59
  have F76 := (F60.keep K66)
  have ne77 := (Ne.symm (Nat.ne_of_lt (Nat.lt_of_lt_of_le A54.lt z59)))
  have F78 := (F61.keep K66 (ninS ne77 nin0))
  exact o69 X66 hx hlk hret rfl (Or.inr (Or.inr (Or.inr (Or.inr ⟨rfl, rfl, rfl⟩)))) (hb hby o518) (by decide) (by decide) (by exact ⟨b54, nz0_57, kz1_58, rfl, N66, K73, z74, z75, F68, F69, F70, F76, F78⟩)
theorem o369 : parseMethodDescriptor "(C)Ljava/lang/String;" = some ⟨[.char], some (.object "java/lang/String")⟩ := by decide +kernel
abbrev o62 : String := "com/example/forgewire/forgewire/xml/DefinitionReader$Subject"
abbrev o71 : String := "Ljava/lang/String;"
theorem o82 : parseFieldDescriptor "Ljava/lang/String;" = some (.object "java/lang/String") := by decide +kernel
theorem o262 : decode prog_89_method_1_code 0 = .ok (.aload_n 0, 1) := by decide +kernel
theorem o263 : decode prog_89_method_1_code 1 = .ok (.invokespecial 1, 3) := by decide +kernel
theorem o801 : decode jdk_30_method_1_code 0 = .ok (.aload_n 0, 1) := by decide +kernel
theorem o802 : decode jdk_30_method_1_code 1 = .ok (.invokespecial 1, 3) := by decide +kernel
theorem o803 : decode jdk_30_method_1_code 4 = .ok (.return_, 1) := by decide +kernel
abbrev o458 : MethodName := ⟨"java/lang/Record", "<init>", "()V"⟩
theorem o859 : plainName "java/lang/Record" = true := by first | (simp [plainName, overriddenIn]; done) | decide +kernel
theorem o842 (hw : o35 a0 Z) (hS : o64 Z wcs) (ad0 : Addr) (h0 : Heap) (n0 : Nat) (O0 : Old Z n0 h0)  :
    o21 l o458 jdk_30_method_1_code 1 none ws ⟨1, 0, 0, 12⟩ Z h0 #[.ref ad0] (fun v h L => v = none ∧ Fr n0 L ∧ h = h0) := by
  refine o18 (plainFor_of_name o859) ?_
  intro p e s m below meth c s₁ hx hby hml hown hnm hret hlk hZ e0 X0
  have N0 := Fr.nil n0
  refine o4 (fun u j => castTop (show entryFrame m #[.ref ad0] 1 = mkF m 0 #[o1 ad0] [] from rfl) j) ?_
  refine o4 (fun u j => o3 X0.here hx rfl (hb hby o801) rfl rfl j) ?_
  refine o22 (initO X0 hx hZ hown (o2 hw 37 rfl) (o2 hw 20 rfl) (o2 hw 21 rfl) e0 rfl (by rw [hml]; rfl) rfl (hb hby o802) (by decide) (W := 0) (by show 2 * 0 + _ ≤ _; exact Nat.le_of_eq rfl) (by decide)) ?_
  intro T92 X92 e92
  exact o81 X92 hx hlk hret (hb hby o803) (by decide) (by decide) (by rw [e92]; exact ⟨rfl, N0, rfl⟩)
theorem o462 : ("java/lang/Record" : String) ≠ "java/lang/invoke/MethodHandle" ∧ ("java/lang/Record" : String) ≠ "java/lang/invoke/VarHandle" := by decide +kernel
theorem o311 : parseMethodDescriptor "()V" = some ⟨[], none⟩ := by decide +kernel
theorem o264 : decode prog_89_method_1_code 4 = .ok (.aload_n 0, 1) := by decide +kernel
theorem o265 : decode prog_89_method_1_code 5 = .ok (.aload_n 1, 1) := by decide +kernel
theorem o266 : decode prog_89_method_1_code 6 = .ok (.putfield 7, 3) := by decide +kernel
theorem o267 : decode prog_89_method_1_code 9 = .ok (.aload_n 0, 1) := by decide +kernel
theorem o215 : decode prog_89_method_1_code 10 = .ok (.aload_n 2, 1) := by decide +kernel
theorem o216 : decode prog_89_method_1_code 11 = .ok (.putfield 13, 3) := by decide +kernel
theorem o860 : ("part" : String) ≠ "bean" := by decide +kernel
def o463 {Z : State} {a0 : Array Value} (hw : o35 a0 Z) := slot_ne (Or.inr (o2 hw 41 rfl)) (Or.inr (o2 hw 39 rfl)) o860 (t := (.object "java/lang/String")) (t' := (.object "java/lang/String")) o82 o82
theorem o217 : decode prog_89_method_1_code 14 = .ok (.aload_n 0, 1) := by decide +kernel
theorem o218 : decode prog_89_method_1_code 15 = .ok (.aload_n 3, 1) := by decide +kernel
theorem o219 : decode prog_89_method_1_code 16 = .ok (.putfield 16, 3) := by decide +kernel
theorem o861 : ("name" : String) ≠ "bean" := by decide +kernel
def o464 {Z : State} {a0 : Array Value} (hw : o35 a0 Z) := slot_ne (Or.inr (o2 hw 43 rfl)) (Or.inr (o2 hw 39 rfl)) o861 (t := (.object "java/lang/String")) (t' := (.object "java/lang/String")) o82 o82
theorem o862 : ("name" : String) ≠ "part" := by decide +kernel
def o465 {Z : State} {a0 : Array Value} (hw : o35 a0 Z) := slot_ne (Or.inr (o2 hw 43 rfl)) (Or.inr (o2 hw 41 rfl)) o862 (t := (.object "java/lang/String")) (t' := (.object "java/lang/String")) o82 o82
theorem o220 : decode prog_89_method_1_code 19 = .ok (.return_, 1) := by decide +kernel
theorem o863 : ("bean" : String) ≠ "part" := by decide +kernel
def o466 {Z : State} {a0 : Array Value} (hw : o35 a0 Z) := slot_ne (Or.inr (o2 hw 39 rfl)) (Or.inr (o2 hw 41 rfl)) o863 (t := (.object "java/lang/String")) (t' := (.object "java/lang/String")) o82 o82
theorem o864 : ("bean" : String) ≠ "name" := by decide +kernel
def o467 {Z : State} {a0 : Array Value} (hw : o35 a0 Z) := slot_ne (Or.inr (o2 hw 39 rfl)) (Or.inr (o2 hw 43 rfl)) o864 (t := (.object "java/lang/String")) (t' := (.object "java/lang/String")) o82 o82
theorem o865 : ("part" : String) ≠ "name" := by decide +kernel
def o468 {Z : State} {a0 : Array Value} (hw : o35 a0 Z) := slot_ne (Or.inr (o2 hw 41 rfl)) (Or.inr (o2 hw 43 rfl)) o865 (t := (.object "java/lang/String")) (t' := (.object "java/lang/String")) o82 o82
abbrev o395 : MethodName := ⟨"com/example/forgewire/forgewire/xml/DefinitionReader$Subject", "<init>", "(Ljava/lang/String;Ljava/lang/String;Ljava/lang/String;)V"⟩
theorem o312 : plainName "com/example/forgewire/forgewire/xml/DefinitionReader$Subject" = true := by first | (simp [plainName, overriddenIn]; done) | decide +kernel
theorem o1009 (hw : o35 a0 Z) (hS : o64 Z wcs) (ad0 ad1 : Addr) (h0 : Heap) (n0 : Nat) (O0 : Old Z n0 h0) (pe1 : Exa Z h0 ad0 o62) (pf2 : Fld Z h0 ad0 o62 "bean" o71 .null) (pf3 : Fld Z h0 ad0 o62 "name" o71 .null) (pf4 : Fld Z h0 ad0 o62 "part" o71 .null) (pg_ad0 : n0 ≤ ad0) :
    o21 l o395 prog_89_method_1_code 4 none ws ⟨2, 0, 0, 24⟩ Z h0 #[.ref ad0, .null, .ref ad1, .null] (fun v h L => v = none ∧ Fr n0 L ∧ Keep h0 h [ad0] ∧ Exa Z h ad0 o62 ∧ Fld Z h ad0 o62 "bean" o71 .null ∧ Fld Z h ad0 o62 "name" o71 .null ∧ Fld Z h ad0 o62 "part" o71 (.ref ad1)) := by
  refine o18 (plainFor_of_name o312) ?_
  intro p e s m below meth c s₁ hx hby hml hown hnm hret hlk hZ e0 X0
  have N0 := Fr.nil n0
  refine o4 (fun u j => castTop (show entryFrame m #[.ref ad0, .null, .ref ad1, .null] 4 = mkF m 0 #[o1 ad0, .val .null, o1 ad1, .val .null] [] from rfl) j) ?_
  refine o4 (fun u j => o3 X0.here hx rfl (hb hby o262) rfl rfl j) ?_
  refine o17 (o87 X0 hx hZ (y := o458) rfl hown (o2 hw 32 rfl) (o2 hw 33 rfl) (o2 hw 35 rfl) (o2 hw 36 rfl) o462 (o842 hw hS ad0 h0 n0 O0 ) e0 o311 (a := ad0) (argsL := []) (rest := []) rfl rfl (g := (mkF m 1 #[o1 ad0, .val .null, o1 ad1, .val .null] [.ref ad0])) rfl (by rw [hml]; rfl) rfl (hb hby o263) (W := 0) rfl) ?_
  intro T104 v104 L104 X104 hQ104
  obtain ⟨rfl, M104, e104⟩ := hQ104
  have N104 := Fr.app N0 M104
  refine o4 (fun u j => o3 X104.here hx rfl (hb hby o264) rfl rfl (o3 X104.here hx rfl (hb hby o265) rfl rfl j)) ?_
  refine o32 (putF X104 hx hZ hown (host := "") (Or.inl (o2 hw 38 rfl)) Via.refl e104 pf2 pe1 (Or.inr ⟨(o2 hw 39 rfl), rfl, hnm⟩) (o2 hw 27 rfl) (ty := (.object "java/lang/String")) o82 rfl rfl rfl rfl (hb hby o266)) ?_
  intro T105 h105 X105 e105 W105
  have N105 := Fr.snoc X105 N104 pg_ad0
  have F106 : Fld Z h105 ad0 o62 "bean" o71 .null := Fld.same W105 pf2
  refine o4 (fun u j => o3 X105.here hx rfl (hb hby o267) rfl rfl (o3 X105.here hx rfl (hb hby o215) rfl rfl j)) ?_
  have F107 := (Exa.wr W105 pe1)
  have F108 := (Fld.other W105 pf4 (Or.inr (o463 hw)))
  refine o32 (putF X105 hx hZ hown (host := "") (Or.inl (o2 hw 40 rfl)) Via.refl e105 F108 F107 (Or.inr ⟨(o2 hw 41 rfl), rfl, hnm⟩) (o2 hw 27 rfl) (ty := (.object "java/lang/String")) o82 rfl rfl rfl rfl (hb hby o216)) ?_
  intro T109 h109 X109 e109 W109
  have N109 := Fr.snoc X109 N105 pg_ad0
  have F110 : Fld Z h109 ad0 o62 "part" o71 (.ref ad1) := Fld.same W109 F108
  refine o4 (fun u j => o3 X109.here hx rfl (hb hby o217) rfl rfl (o3 X109.here hx rfl (hb hby o218) rfl rfl j)) ?_
  have F111 := (Exa.wr W109 F107)
  have F112 := (Fld.other W109 (Fld.other W105 pf3 (Or.inr (o464 hw))) (Or.inr (o465 hw)))
  refine o32 (putF X109 hx hZ hown (host := "") (Or.inl (o2 hw 42 rfl)) Via.refl e109 F112 F111 (Or.inr ⟨(o2 hw 43 rfl), rfl, hnm⟩) (o2 hw 27 rfl) (ty := (.object "java/lang/String")) o82 rfl rfl rfl rfl (hb hby o219)) ?_
  intro T113 h113 X113 e113 W113
  have N113 := Fr.snoc X113 N109 pg_ad0
  have F114 : Fld Z h113 ad0 o62 "name" o71 .null := Fld.same W113 F112
  have K115 := (Keep.refl h0 [ad0]).wr W105 (Or.inl (List.mem_of_getElem? (i := 0) rfl))
  have K116 := K115.wr W109 (Or.inl (List.mem_of_getElem? (i := 0) rfl))
  have K117 := K116.wr W113 (Or.inl (List.mem_of_getElem? (i := 0) rfl))
  have F118 := (Exa.wr W113 F111)
  have F119 := (Fld.other W113 (Fld.other W109 F106 (Or.inr (o466 hw))) (Or.inr (o467 hw)))
  have F120 := (Fld.other W113 F110 (Or.inr (o468 hw)))
  exact o81 X113 hx hlk hret (hb hby o220) (by decide) (by decide) (by rw [e113]; exact ⟨rfl, N113, K117, F118, F119, F114, F120⟩)
theorem o313 : ("com/example/forgewire/forgewire/xml/DefinitionReader$Subject" : String) ≠ "java/lang/invoke/MethodHandle" ∧ ("com/example/forgewire/forgewire/xml/DefinitionReader$Subject" : String) ≠ "java/lang/invoke/VarHandle" := by decide +kernel
theorem o469 : parseMethodDescriptor "(Ljava/lang/String;Ljava/lang/String;Ljava/lang/String;)V" = some ⟨[(.object "java/lang/String"), (.object "java/lang/String"), (.object "java/lang/String")], none⟩ := by decide +kernel
theorem o268 : decode prog_89_method_5_code 0 = .ok (.aload_n 0, 1) := by decide +kernel
theorem o269 : decode prog_89_method_5_code 1 = .ok (.getfield 16, 3) := by decide +kernel
theorem o270 : decode prog_89_method_5_code 4 = .ok (.ifnonnull 10, 3) := by decide +kernel
theorem o422 : decode prog_89_method_5_code 7 = .ok (.aload_n 0, 1) := by decide +kernel
theorem o423 : decode prog_89_method_5_code 8 = .ok (.getfield 13, 3) := by decide +kernel
theorem o415 : decode prog_89_method_5_code 11 = .ok (.goto 37, 3) := by decide +kernel
theorem o221 : decode prog_89_method_5_code 48 = .ok (.astore_n 1, 1) := by decide +kernel
theorem o222 : decode prog_89_method_5_code 49 = .ok (.aload_n 0, 1) := by decide +kernel
theorem o223 : decode prog_89_method_5_code 50 = .ok (.getfield 7, 3) := by decide +kernel
theorem o224 : decode prog_89_method_5_code 53 = .ok (.ifnonnull 8, 3) := by decide +kernel
theorem o470 : decode prog_89_method_5_code 56 = .ok (.aload_n 1, 1) := by decide +kernel
theorem o471 : decode prog_89_method_5_code 57 = .ok (.astore_n 2, 1) := by decide +kernel
theorem o472 : decode prog_89_method_5_code 58 = .ok (.goto 73, 3) := by decide +kernel
theorem o188 : decode prog_89_method_5_code 131 = .ok (.aload_n 2, 1) := by decide +kernel
theorem o189 : decode prog_89_method_5_code 132 = .ok (.areturn, 1) := by decide +kernel
abbrev o181 : MethodName := ⟨"com/example/forgewire/forgewire/xml/DefinitionReader$Subject", "toString", "()Ljava/lang/String;"⟩
theorem o1010 (hw : o35 a0 Z) (hS : o64 Z wcs) (ad0 ad1 : Addr) (h0 : Heap) (n0 : Nat) (O0 : Old Z n0 h0) (pf2 : Fld Z h0 ad0 o62 "bean" o71 .null) (pf3 : Fld Z h0 ad0 o62 "name" o71 .null) (pf4 : Fld Z h0 ad0 o62 "part" o71 (.ref ad1)) :
    o21 l o181 prog_89_method_5_code 3 (some (.object "java/lang/String")) ws ⟨0, 0, 0, 0⟩ Z h0 #[.ref ad0] (fun v h L => v = some (.ref ad1) ∧ Fr n0 L ∧ h = h0) := by
  refine o18 (plainFor_of_name o312) ?_
  intro p e s m below meth c s₁ hx hby hml hown hnm hret hlk hZ e0 X0
  have N0 := Fr.nil n0
  refine o4 (fun u j => castTop (show entryFrame m #[.ref ad0] 3 = mkF m 0 #[o1 ad0, o5, o5] [] from rfl) j) ?_
  refine o4 (fun u j => o3 X0.here hx rfl (hb hby o268) rfl rfl j) ?_
  refine o22 (getF X0 hx hZ hown (host := "") (Or.inl (o2 hw 42 rfl)) Via.refl e0 pf3 rfl rfl (hb hby o269)) ?_
  intro T132 X132 e132
  refine o4 (fun u j => o185 X132.here hx rfl (hb hby o270) rfl (o3 X132.here hx rfl (hb hby o422) rfl rfl j)) ?_
  refine o22 (getF X132 hx hZ hown (host := "") (Or.inl (o2 hw 40 rfl)) Via.refl e132 pf4 rfl rfl (hb hby o423)) ?_
  intro T133 X133 e133
  refine o4 (fun u j => o15 X133.here hx rfl (pc0 := 11) (pc' := 48) rfl (hb hby o415) (by decide) (by decide) (o84 X133.here hx rfl (hb hby o221) rfl rfl (l' := #[o1 ad0, o1 ad1, o5]) rfl (o3 X133.here hx rfl (hb hby o222) rfl rfl j))) ?_
  refine o22 (getF X133 hx hZ hown (host := "") (Or.inl (o2 hw 38 rfl)) Via.refl e133 pf2 rfl rfl (hb hby o223)) ?_
  intro T134 X134 e134
  refine o4 (fun u j => o185 X134.here hx rfl (hb hby o224) rfl (o3 X134.here hx rfl (hb hby o470) rfl rfl (o84 X134.here hx rfl (hb hby o471) rfl rfl (l' := #[o1 ad0, o1 ad1, o1 ad1]) rfl (o15 X134.here hx rfl (pc0 := 58) (pc' := 131) rfl (hb hby o472) (by decide) (by decide) (o3 X134.here hx rfl (hb hby o188) rfl rfl j))))) ?_
  exact o69 X134 hx hlk hret rfl (Or.inr (Or.inr (Or.inr (Or.inr ⟨rfl, rfl, rfl⟩)))) (hb hby o189) (by decide) (by decide) (by rw [e134]; exact ⟨rfl, N0, rfl⟩)
theorem o207 : parseMethodDescriptor "()Ljava/lang/String;" = some ⟨[], some (.object "java/lang/String")⟩ := by decide +kernel
theorem o322 : decode method_3_code 0 = .ok (.iload_n 0, 1) := by decide +kernel
theorem o323 : decode method_3_code 1 = .ok (.ifCond .ne 59, 3) := by decide +kernel
theorem o502 : decode method_3_code 4 = .ok (.iload_n 2, 1) := by decide +kernel
theorem o503 : decode method_3_code 5 = .ok (.ifCond .ne 19, 3) := by decide +kernel
theorem o804 : decode method_3_code 8 = .ok (.new 8, 3) := by decide +kernel
theorem o701 : decode method_3_code 11 = .ok (.dup, 1) := by decide +kernel
theorem o702 : decode method_3_code 12 = .ok (.iconst 1, 1) := by decide +kernel
theorem o703 : decode method_3_code 13 = .ok (.newarray .char, 2) := by decide +kernel
theorem o433 : "[" ++ (newarray.typeOf .char).toString = "[C" := by decide +kernel
theorem o704 : decode method_3_code 15 = .ok (.dup, 1) := by decide +kernel
theorem o705 : decode method_3_code 16 = .ok (.iconst 0, 1) := by decide +kernel
theorem o706 : decode method_3_code 17 = .ok (.iload 4, 2) := by decide +kernel
theorem o707 : decode method_3_code 19 = .ok (.castore, 1) := by decide +kernel
theorem o708 : decode method_3_code 20 = .ok (.invokespecial 32, 3) := by decide +kernel
theorem o324 : decode jdk_42_method_3_code 0 = .ok (.aload_n 0, 1) := by decide +kernel
theorem o325 : decode jdk_42_method_3_code 1 = .ok (.aload_n 1, 1) := by decide +kernel
theorem o326 : decode jdk_42_method_3_code 2 = .ok (.iconst 0, 1) := by decide +kernel
theorem o327 : decode jdk_42_method_3_code 3 = .ok (.aload_n 1, 1) := by decide +kernel
theorem o328 : decode jdk_42_method_3_code 4 = .ok (.arraylength, 1) := by decide +kernel
theorem o329 : decode jdk_42_method_3_code 5 = .ok (.aconst_null, 1) := by decide +kernel
theorem o330 : decode jdk_42_method_3_code 6 = .ok (.invokespecial 27, 3) := by decide +kernel
theorem o225 : decode jdk_42_method_149_code 0 = .ok (.aload_n 0, 1) := by decide +kernel
theorem o226 : decode jdk_42_method_149_code 1 = .ok (.invokespecial 1, 3) := by decide +kernel
theorem o227 : decode jdk_42_method_149_code 4 = .ok (.iload_n 3, 1) := by decide +kernel
theorem o228 : decode jdk_42_method_149_code 5 = .ok (.ifCond .ne 22, 3) := by decide +kernel
theorem o190 : decode jdk_42_method_149_code 27 = .ok (.getstatic 38, 3) := by decide +kernel
theorem o191 : decode jdk_42_method_149_code 30 = .ok (.ifCond .eq 28, 3) := by decide +kernel
theorem o192 : decode jdk_42_method_149_code 33 = .ok (.aload_n 1, 1) := by decide +kernel
theorem o193 : decode jdk_42_method_149_code 34 = .ok (.iload_n 2, 1) := by decide +kernel
theorem o194 : decode jdk_42_method_149_code 35 = .ok (.iload_n 3, 1) := by decide +kernel
theorem o195 : decode jdk_42_method_149_code 36 = .ok (.invokestatic 177, 3) := by decide +kernel
theorem o271 : decode jdk_52_method_16_code 0 = .ok (.iload_n 2, 1) := by decide +kernel
theorem o272 : decode jdk_52_method_16_code 1 = .ok (.newarray .byte, 2) := by decide +kernel
theorem o273 : decode jdk_52_method_16_code 3 = .ok (.astore_n 3, 1) := by decide +kernel
theorem o274 : decode jdk_52_method_16_code 4 = .ok (.aload_n 0, 1) := by decide +kernel
theorem o275 : decode jdk_52_method_16_code 5 = .ok (.iload_n 1, 1) := by decide +kernel
theorem o276 : decode jdk_52_method_16_code 6 = .ok (.aload_n 3, 1) := by decide +kernel
theorem o277 : decode jdk_52_method_16_code 7 = .ok (.iconst 0, 1) := by decide +kernel
theorem o278 : decode jdk_52_method_16_code 8 = .ok (.iload_n 2, 1) := by decide +kernel
theorem o279 : decode jdk_52_method_16_code 9 = .ok (.invokestatic 115, 3) := by decide +kernel
theorem o280 : decode jdk_52_method_21_code 0 = .ok (.iconst 0, 1) := by decide +kernel
theorem o281 : decode jdk_52_method_21_code 1 = .ok (.istore 5, 2) := by decide +kernel
theorem o28 : decode jdk_52_method_21_code 3 = .ok (.iload 5, 2) := by decide +kernel
theorem o29 : decode jdk_52_method_21_code 5 = .ok (.iload 4, 2) := by decide +kernel
theorem o30 : decode jdk_52_method_21_code 7 = .ok (.if_icmp .ge 37, 3) := by decide +kernel
theorem o36 : decode jdk_52_method_21_code 10 = .ok (.aload_n 0, 1) := by decide +kernel
theorem o37 : decode jdk_52_method_21_code 11 = .ok (.iload_n 1, 1) := by decide +kernel
theorem o38 : decode jdk_52_method_21_code 12 = .ok (.caload, 1) := by decide +kernel
theorem o39 : decode jdk_52_method_21_code 13 = .ok (.istore 6, 2) := by decide +kernel
theorem o40 : decode jdk_52_method_21_code 15 = .ok (.iload 6, 2) := by decide +kernel
theorem o41 : decode jdk_52_method_21_code 17 = .ok (.sipush 255, 3) := by decide +kernel
theorem o42 : decode jdk_52_method_21_code 20 = .ok (.if_icmp .le 6, 3) := by decide +kernel
theorem o43 : decode jdk_52_method_21_code 26 = .ok (.aload_n 2, 1) := by decide +kernel
theorem o44 : decode jdk_52_method_21_code 27 = .ok (.iload_n 3, 1) := by decide +kernel
theorem o45 : decode jdk_52_method_21_code 28 = .ok (.iload 6, 2) := by decide +kernel
theorem o46 : decode jdk_52_method_21_code 30 = .ok (.i2b, 1) := by decide +kernel
theorem o47 : decode jdk_52_method_21_code 31 = .ok (.bastore, 1) := by decide +kernel
theorem o48 : decode jdk_52_method_21_code 32 = .ok (.iinc 1 1, 3) := by decide +kernel
theorem o49 : decode jdk_52_method_21_code 35 = .ok (.iinc 3 1, 3) := by decide +kernel
theorem o50 : decode jdk_52_method_21_code 38 = .ok (.iinc 5 1, 3) := by decide +kernel
theorem o51 : decode jdk_52_method_21_code 41 = .ok (.goto (-38), 3) := by decide +kernel
theorem o229 : decode jdk_52_method_21_code 44 = .ok (.iload 4, 2) := by decide +kernel
theorem o230 : decode jdk_52_method_21_code 46 = .ok (.ireturn, 1) := by decide +kernel
abbrev o314 : MethodName := ⟨"java/lang/StringUTF16", "compress", "([CI[BII)I"⟩
theorem o177 : plainName "java/lang/StringUTF16" = true := by first | (simp [plainName, overriddenIn]; done) | decide +kernel
theorem o1011 (hw : o35 a0 Z) (hS : o64 Z wcs) (ad0 ad1 : Addr) (kc2 : ClassId) (iv3 : Int32) (kc4 : ClassId) (h0 : Heap) (n0 : Nat) (O0 : Old Z n0 h0) (pa2 : Arv Z h0 ad0 kc2 .char 1 [.int iv3] (.int 0)) (pe3 : Exa Z h0 ad1 "[B") (pa4 : Arv Z h0 ad1 kc4 .byte 1 [.int 0] (.int 0)) (pk5 : ¬ (255 : Int32) < iv3) (pg_ad1 : n0 ≤ ad1) :
    o21 l o314 jdk_52_method_21_code 7 (some .int) ws ⟨0, 0, 0, 0⟩ Z h0 #[.ref ad0, .int 0, .ref ad1, .int 0, .int 1] (fun v h L => v = some (.int 1) ∧ Fr n0 L ∧ Keep h0 h [ad1] ∧ Exa Z h ad1 "[B" ∧ Arv Z h ad1 kc4 .byte 1 [(.int (iv3.toInt8.toInt32))] (.int 0)) := by
  refine o18 (plainFor_of_name o177) ?_
  intro p e s m below meth c s₁ hx hby hml hown hnm hret hlk hZ e0 X0
  have N0 := Fr.nil n0
  refine o4 (fun u j => castTop (show entryFrame m #[.ref ad0, .int 0, .ref ad1, .int 0, .int 1] 7 = mkF m 0 #[o1 ad0, o0 0, o1 ad1, o0 0, o0 1, o5, o5] [] from rfl) j) ?_
  refine o4 (fun u j => o16 X0.here hx rfl (hb hby o280) (o20 X0.here hx rfl (hb hby o281) rfl (l' := #[o1 ad0, o0 0, o1 ad1, o0 0, o0 1, o0 0, o5]) rfl (o8 X0.here hx rfl (hb hby o28) rfl (o8 X0.here hx rfl (hb hby o29) rfl (o14 X0.here hx rfl (hb hby o30) rfl (o19 (by decide)) (o3 X0.here hx rfl (hb hby o36) rfl rfl j)))))) ?_
  show o11 p e below _ (s₁.setTop (mkF m 11 #[o1 ad0, o0 0, o1 ad1, o0 0, o0 1, o0 0, o5] [.ref ad0]))
  refine o4 (fun u j => o6 X0.here hx rfl (hb hby o37) rfl (o104 X0 hx hZ e0 pa2 (j := 0) (v := (.int iv3)) (by decide) rfl rfl rfl (hb hby o38) (o20 X0.here hx rfl (hb hby o39) rfl (l' := #[o1 ad0, o0 0, o1 ad1, o0 0, o0 1, o0 0, o0 iv3]) rfl (o8 X0.here hx rfl (hb hby o40) rfl (o33 X0.here hx rfl (hb hby o41) (o13 X0.here hx rfl (pc0 := 20) (pc' := 26) rfl (hb hby o42) rfl (o73 pk5) (by decide) (by decide) j)))))) ?_
  show o11 p e below _ (s₁.setTop (mkF m 26 #[o1 ad0, o0 0, o1 ad1, o0 0, o0 1, o0 0, o0 iv3] []))
  refine o4 (fun u j => o3 X0.here hx rfl (hb hby o43) rfl rfl (o6 X0.here hx rfl (hb hby o44) rfl (o8 X0.here hx rfl (hb hby o45) rfl (o79 X0.here hx rfl (hb hby o46) rfl j)))) ?_
  refine o32 (o101 X0 hx hZ e0 pa4 (j := 0) (by decide) rfl rfl (hb hby o47)) ?_
  intro T148 h148 X148 e148 W148
  rw [o426] at W148
  have N148 := Fr.snoc X148 N0 pg_ad1
  have V148 : Arv Z h148 ad1 kc4 .byte 1 [(.int (iv3.toInt8.toInt32))] (.int 0) := o74 pa4 (fits_nar_byte _) W148 0 rfl (Nat.le_of_ble_eq_true rfl)
  refine o4 (fun u j => o12 X148.here hx rfl (hb hby o48) rfl (l' := #[o1 ad0, o0 1, o1 ad1, o0 0, o0 1, o0 0, o0 iv3]) rfl (o12 X148.here hx rfl (hb hby o49) rfl (l' := #[o1 ad0, o0 1, o1 ad1, o0 1, o0 1, o0 0, o0 iv3]) rfl (o12 X148.here hx rfl (hb hby o50) rfl (l' := #[o1 ad0, o0 1, o1 ad1, o0 1, o0 1, o0 1, o0 iv3]) rfl (o15 X148.here hx rfl (pc0 := 41) (pc' := 3) rfl (hb hby o51) (by decide) (by decide) (o8 X148.here hx rfl (hb hby o28) rfl (o8 X148.here hx rfl (hb hby o29) rfl j)))))) ?_
  show o11 p e below _ (T148.setTop (mkF m 7 #[o1 ad0, o0 1, o1 ad1, o0 1, o0 1, o0 1, o0 iv3] [.int 1, .int 1]))
  refine o4 (fun u j => o13 X148.here hx rfl (pc0 := 7) (pc' := 44) rfl (hb hby o30) rfl (o175 (by decide)) (by decide) (by decide) (o8 X148.here hx rfl (hb hby o229) rfl j)) ?_
  have K149 := (Keep.refl h0 [ad1]).wr W148 (Or.inl (List.mem_of_getElem? (i := 0) rfl))
  have F150 := (Exa.wr W148 pe3)
  exact o69 X148 hx hlk hret rfl (Or.inl ⟨rfl, by simp, _, rfl⟩) (hb hby o230) (by decide) (by decide) (by rw [e148]; exact ⟨rfl, N148, K149, F150, V148⟩)
theorem o178 : ("java/lang/StringUTF16" : String) ≠ "java/lang/invoke/MethodHandle" ∧ ("java/lang/StringUTF16" : String) ≠ "java/lang/invoke/VarHandle" := by decide +kernel
theorem o434 : parseMethodDescriptor "([CI[BII)I" = some ⟨[(.array .char), .int, (.array .byte), .int, .int], some .int⟩ := by decide +kernel
theorem o231 : decode jdk_52_method_16_code 12 = .ok (.istore 4, 2) := by decide +kernel
theorem o232 : decode jdk_52_method_16_code 14 = .ok (.iload 4, 2) := by decide +kernel
theorem o233 : decode jdk_52_method_16_code 16 = .ok (.iload_n 2, 1) := by decide +kernel
theorem o234 : decode jdk_52_method_16_code 17 = .ok (.if_icmp .eq 40, 3) := by decide +kernel
theorem o235 : decode jdk_52_method_16_code 57 = .ok (.aload_n 3, 1) := by decide +kernel
theorem o236 : decode jdk_52_method_16_code 58 = .ok (.areturn, 1) := by decide +kernel
abbrev o315 : MethodName := ⟨"java/lang/StringUTF16", "compress", "([CII)[B"⟩
theorem o1012 (hw : o35 a0 Z) (hS : o64 Z wcs) (ad0 : Addr) (kc1 : ClassId) (iv2 : Int32) (h0 : Heap) (n0 : Nat) (O0 : Old Z n0 h0) (pa2 : Arv Z h0 ad0 kc1 .char 1 [.int iv2] (.int 0)) (pk3 : ¬ (255 : Int32) < iv2) :
    o21 l o315 jdk_52_method_16_code 6 (some (.array .byte)) ws ⟨1, 1, 1, 18⟩ Z h0 #[.ref ad0, .int 0, .int 1] (fun v h L => ∃ nz0 : Addr, ∃ kz1 : ClassId, v = some (.ref nz0) ∧ Fr n0 L ∧ Keep h0 h [] ∧ h0.size ≤ nz0 ∧ Exa Z h nz0 "[B" ∧ Arv Z h nz0 kz1 .byte 1 [(.int (iv2.toInt8.toInt32))] (.int 0)) := by
  refine o18 (plainFor_of_name o177) ?_
  intro p e s m below meth c s₁ hx hby hml hown hnm hret hlk hZ e0 X0
  have N0 := Fr.nil n0
  refine o4 (fun u j => castTop (show entryFrame m #[.ref ad0, .int 0, .int 1] 6 = mkF m 0 #[o1 ad0, o0 0, o0 1, o5, o5, o5] [] from rfl) j) ?_
  refine o4 (fun u j => o6 X0.here hx rfl (hb hby o271) rfl j) ?_
  have q_ := newPE X0 hx hZ (o2 hw 14 rfl) e0 (g := (mkF m 1 #[o1 ad0, o0 0, o0 1, o5, o5, o5] [.int 1])) rfl (hb hby o272) rfl (by decide) (cap := 1) (by decide) (by decide) (by decide) (by decide) (ad := "[B") o214
  obtain ⟨T157, h157, k157, X157, e157, E157, A157, Y157, st157⟩ := q_
  have q_ : ∃ z, z = h0.size := ⟨_, rfl⟩
  obtain ⟨b157, g157⟩ := q_
  rw [← g157] at A157 Y157 st157
  have V157 : Arv Z h157 b157 k157 .byte 1 [.int 0] (.int 0) := (Arv.new A157 (by decide)).pad (pad_rep [] (.int 0) 1)
  refine o4 (fun u j => st157 u j) ?_
  refine o4 (fun u j => o84 X157.here hx rfl (hb hby o273) rfl rfl (l' := #[o1 ad0, o0 0, o0 1, o1 b157, o5, o5]) rfl (o3 X157.here hx rfl (hb hby o274) rfl rfl (o6 X157.here hx rfl (hb hby o275) rfl (o3 X157.here hx rfl (hb hby o276) rfl rfl (o16 X157.here hx rfl (hb hby o277) (o6 X157.here hx rfl (hb hby o278) rfl j)))))) ?_
  show o11 p e below _ (T157.setTop (mkF m 9 #[o1 ad0, o0 0, o0 1, o1 b157, o5, o5] [.int 1, .int 0, .ref b157, .int 0, .ref ad0]))
  have F158 := (pa2.ext E157)
  have g159 := Nat.le_trans (o103 O0) (Nat.le_of_eq g157.symm)
  have O161 := O0.ext E157
  refine o17 (o78 X157 hx hZ (y := o314) hown (o2 hw 65 rfl) (o2 hw 66 rfl) (o2 hw 63 rfl) (o2 hw 67 rfl) o178 (o1011 hw hS ad0 b157 kc1 iv2 k157 h157 n0 O161 F158 Y157 V157 pk3 g159) e157 o434 (argsL := [.ref ad0, .int 0, .ref b157, .int 0, .int 1]) (rest := []) rfl rfl (g := (mkF m 9 #[o1 ad0, o0 0, o0 1, o1 b157, o5, o5] [.int 1, .int 0, .ref b157, .int 0, .ref ad0])) rfl (by rw [hml]; rfl) rfl (hb hby o279) (W := 0) rfl) ?_
  intro T160 v160 L160 X160 hQ160
  obtain ⟨rfl, M160, K160, F162, F163⟩ := hQ160
  have N160 := Fr.app N0 M160
  refine o4 (fun u j => o20 X160.here hx rfl (hb hby o231) rfl (l' := #[o1 ad0, o0 0, o0 1, o1 b157, o0 1, o5]) rfl (o8 X160.here hx rfl (hb hby o232) rfl (o6 X160.here hx rfl (hb hby o233) rfl (o13 X160.here hx rfl (pc0 := 17) (pc' := 57) rfl (hb hby o234) rfl (o66 (by decide)) (by decide) (by decide) (o3 X160.here hx rfl (hb hby o235) rfl rfl j))))) ?_
  have K164 := (Keep.refl h0 []).ext E157
  have z166 := Nat.le_trans (Nat.le_refl _) (Nat.le_of_eq g157.symm)
  have K165 := K164.trans K160 (allS (Or.inr z166) all0)
  exact o69 X160 hx hlk hret rfl (Or.inr (Or.inr (Or.inr (Or.inr ⟨rfl, rfl, rfl⟩)))) (hb hby o236) (by decide) (by decide) (by exact ⟨b157, k157, rfl, N160, K165, z166, F162, F163⟩)
theorem o435 : parseMethodDescriptor "([CII)[B" = some ⟨[(.array .char), .int, .int], some (.array .byte)⟩ := by decide +kernel
theorem o196 : decode jdk_42_method_149_code 39 = .ok (.astore 5, 2) := by decide +kernel
theorem o197 : decode jdk_42_method_149_code 41 = .ok (.aload_n 0, 1) := by decide +kernel
theorem o198 : decode jdk_42_method_149_code 42 = .ok (.aload 5, 2) := by decide +kernel
theorem o199 : decode jdk_42_method_149_code 44 = .ok (.iload_n 3, 1) := by decide +kernel
theorem o200 : decode jdk_42_method_149_code 45 = .ok (.invokestatic 47, 3) := by decide +kernel
theorem o282 : decode jdk_52_method_15_code 0 = .ok (.iload_n 1, 1) := by decide +kernel
theorem o283 : decode jdk_52_method_15_code 1 = .ok (.aload_n 0, 1) := by decide +kernel
theorem o284 : decode jdk_52_method_15_code 2 = .ok (.arraylength, 1) := by decide +kernel
theorem o285 : decode jdk_52_method_15_code 3 = .ok (.isub, 1) := by decide +kernel
theorem o286 : decode jdk_52_method_15_code 4 = .ok (.bipush 31, 2) := by decide +kernel
theorem o287 : decode jdk_52_method_15_code 6 = .ok (.iushr, 1) := by decide +kernel
theorem o288 : decode jdk_52_method_15_code 7 = .ok (.i2b, 1) := by decide +kernel
theorem o289 : decode jdk_52_method_15_code 8 = .ok (.ireturn, 1) := by decide +kernel
abbrev o316 : MethodName := ⟨"java/lang/StringUTF16", "coderFromArrayLen", "([BI)B"⟩
theorem o1013 (hw : o35 a0 Z) (hS : o64 Z wcs) (ad0 : Addr) (kc1 : ClassId) (iv2 : Int32) (h0 : Heap) (n0 : Nat) (O0 : Old Z n0 h0) (pa2 : Arv Z h0 ad0 kc1 .byte 1 [.int iv2] (.int 0)) :
    o21 l o316 jdk_52_method_15_code 2 (some .byte) ws ⟨0, 0, 0, 0⟩ Z h0 #[.ref ad0, .int 1] (fun v h L => v = some (.int 0) ∧ Fr n0 L ∧ h = h0) := by
  refine o18 (plainFor_of_name o177) ?_
  intro p e s m below meth c s₁ hx hby hml hown hnm hret hlk hZ e0 X0
  have N0 := Fr.nil n0
  refine o4 (fun u j => castTop (show entryFrame m #[.ref ad0, .int 1] 2 = mkF m 0 #[o1 ad0, o0 1] [] from rfl) j) ?_
  refine o4 (fun u j => o6 X0.here hx rfl (hb hby o282) rfl (o3 X0.here hx rfl (hb hby o283) rfl rfl (o75 X0 hx hZ e0 pa2 rfl rfl (hb hby o284) (XS.isub X0.here hx rfl (hb hby o285) rfl (o34 X0.here hx rfl (hb hby o286) (XS.iushr X0.here hx rfl (hb hby o287) rfl j)))))) ?_
  show o11 p e below _ (s₁.setTop (mkF m 7 #[o1 ad0, o0 1] [.int 0]))
  refine o4 (fun u j => o79 X0.here hx rfl (hb hby o288) rfl j) ?_
  exact o69 X0 hx hlk hret rfl (Or.inl ⟨rfl, by simp, _, rfl⟩) (hb hby o289) (by decide) (by decide) (by rw [e0]; exact ⟨rfl, N0, rfl⟩)
theorem o436 : parseMethodDescriptor "([BI)B" = some ⟨[(.array .byte), .int], some .byte⟩ := by decide +kernel
theorem o201 : decode jdk_42_method_149_code 48 = .ok (.putfield 15, 3) := by decide +kernel
theorem o202 : decode jdk_42_method_149_code 51 = .ok (.aload_n 0, 1) := by decide +kernel
theorem o203 : decode jdk_42_method_149_code 52 = .ok (.aload 5, 2) := by decide +kernel
theorem o204 : decode jdk_42_method_149_code 54 = .ok (.putfield 9, 3) := by decide +kernel
theorem o205 : decode jdk_42_method_149_code 57 = .ok (.return_, 1) := by decide +kernel
abbrev o317 : MethodName := ⟨"java/lang/String", "<init>", "([CIILjava/lang/Void;)V"⟩
theorem o919 (hw : o35 a0 Z) (hS : o64 Z wcs) (ad0 ad1 : Addr) (kc2 : ClassId) (iv3 : Int32) (h0 : Heap) (n0 : Nat) (O0 : Old Z n0 h0) (pe1 : Exa Z h0 ad0 o7) (pf2 : Fld Z h0 ad0 o7 "coder" "B" (.int 0)) (pf3 : Fld Z h0 ad0 o7 "value" "[B" .null) (pa5 : Arv Z h0 ad1 kc2 .char 1 [.int iv3] (.int 0)) (pk6 : ¬ (255 : Int32) < iv3) (pg_ad0 : n0 ≤ ad0) :
    o21 l o317 jdk_42_method_149_code 6 none ws ⟨2, 1, 1, 35⟩ Z h0 #[.ref ad0, .ref ad1, .int 0, .int 1, .null] (fun v h L => ∃ nz0 : Addr, ∃ kz1 : ClassId, v = none ∧ Fr n0 L ∧ Keep h0 h [ad0] ∧ h0.size ≤ nz0 ∧ Exa Z h ad0 o7 ∧ Fld Z h ad0 o7 "coder" "B" (.int 0) ∧ Fld Z h ad0 o7 "value" "[B" (.ref nz0) ∧ Exa Z h nz0 "[B" ∧ Arv Z h nz0 kz1 .byte 1 [(.int (iv3.toInt8.toInt32))] (.int 0)) := by
  refine o18 (plainFor_of_name o83) ?_
  intro p e s m below meth c s₁ hx hby hml hown hnm hret hlk hZ e0 X0
  have N0 := Fr.nil n0
  refine o4 (fun u j => castTop (show entryFrame m #[.ref ad0, .ref ad1, .int 0, .int 1, .null] 6 = mkF m 0 #[o1 ad0, o1 ad1, o0 0, o0 1, .val .null, o5] [] from rfl) j) ?_
  refine o4 (fun u j => o3 X0.here hx rfl (hb hby o225) rfl rfl j) ?_
  refine o22 (initO X0 hx hZ hown (o2 hw 19 rfl) (o2 hw 20 rfl) (o2 hw 21 rfl) e0 rfl (by rw [hml]; rfl) rfl (hb hby o226) (by decide) (W := 0) (by show 2 * 0 + _ ≤ _; exact Nat.le_of_eq rfl) (by decide)) ?_
  intro T185 X185 e185
  refine o4 (fun u j => o6 X185.here hx rfl (hb hby o227) rfl (o88 X185.here hx rfl (pc0 := 5) (pc' := 27) rfl (hb hby o228) rfl (o164 (by decide)) (by decide) (by decide) j)) ?_
  have F186 := Sta.ext O0.2 hS.1
  refine o22 (getS2 X185 hx hZ hown (host := "") (Or.inl (o2 hw 4 rfl)) Via.refl e185 F186 rfl (hb hby o190)) ?_
  intro T187 X187 e187
  refine o4 (fun u j => o68 X187.here hx rfl (hb hby o191) rfl (o65 hS.2) (o3 X187.here hx rfl (hb hby o192) rfl rfl (o6 X187.here hx rfl (hb hby o193) rfl (o6 X187.here hx rfl (hb hby o194) rfl j)))) ?_
  refine o17 (o78 X187 hx hZ (y := o315) hown (o2 hw 61 rfl) (o2 hw 62 rfl) (o2 hw 63 rfl) (o2 hw 64 rfl) o178 (o1012 hw hS ad1 kc2 iv3 h0 n0 O0 pa5 pk6) e187 o435 (argsL := [.ref ad1, .int 0, .int 1]) (rest := []) rfl rfl (g := (mkF m 36 #[o1 ad0, o1 ad1, o0 0, o0 1, .val .null, o5] [.int 1, .int 0, .ref ad1])) rfl (by rw [hml]; rfl) rfl (hb hby o195) (W := 0) rfl) ?_
  intro T188 v188 L188 X188 hQ188
  obtain ⟨nz0_189, kz1_190, rfl, M188, K188, z191, F192, F193⟩ := hQ188
  have N188 := Fr.app N0 M188
  refine o4 (fun u j => o76 X188.here hx rfl (hb hby o196) rfl rfl (l' := #[o1 ad0, o1 ad1, o0 0, o0 1, .val .null, o1 nz0_189]) rfl (o3 X188.here hx rfl (hb hby o197) rfl rfl (o72 X188.here hx rfl (hb hby o198) rfl rfl (o6 X188.here hx rfl (hb hby o199) rfl j)))) ?_
  have O195 := O0.keep K188 all0
  refine o17 (o78 X188 hx hZ (y := o316) hown (o2 hw 68 rfl) (o2 hw 69 rfl) (o2 hw 63 rfl) (o2 hw 70 rfl) o178 (o1013 hw hS nz0_189 kz1_190 (iv3.toInt8.toInt32) T188.heap n0 O195 F193) rfl o436 (argsL := [.ref nz0_189, .int 1]) (rest := [.ref ad0]) rfl rfl (g := (mkF m 45 #[o1 ad0, o1 ad1, o0 0, o0 1, .val .null, o1 nz0_189] [.int 1, .ref nz0_189, .ref ad0])) rfl (by rw [hml]; rfl) rfl (hb hby o200) (W := 1) rfl) ?_
  intro T194 v194 L194 X194 hQ194
  obtain ⟨rfl, M194, e194⟩ := hQ194
  have N194 := Fr.app N188 M194
  have F196 := (pe1.keep K188)
  have F197 := (pf2.keep K188 nin0)
  refine o32 (putF X194 hx hZ hown (host := "") (Or.inl (o2 hw 24 rfl)) Via.refl e194 F197 F196 (Or.inr ⟨(o2 hw 25 rfl), rfl, hnm⟩) (o2 hw 10 rfl) (ty := .byte) o92 rfl rfl rfl rfl (hb hby o201)) ?_
  intro T198 h198 X198 e198 W198
  have N198 := Fr.snoc X198 N194 pg_ad0
  have F199 : Fld Z h198 ad0 o7 "coder" "B" (.int 0) := Fld.same W198 F197
  refine o4 (fun u j => o3 X198.here hx rfl (hb hby o202) rfl rfl (o72 X198.here hx rfl (hb hby o203) rfl rfl j)) ?_
  have F200 := (Exa.wr W198 F196)
  have F201 := (Fld.other W198 (pf3.keep K188 nin0) (Or.inr (o310 hw)))
  refine o32 (putF X198 hx hZ hown (host := "") (Or.inl (o2 hw 22 rfl)) Via.refl e198 F201 F200 (Or.inr ⟨(o2 hw 23 rfl), rfl, hnm⟩) (o2 hw 10 rfl) (ty := (.array .byte)) o91 rfl rfl rfl rfl (hb hby o204)) ?_
  intro T202 h202 X202 e202 W202
  have N202 := Fr.snoc X202 N198 pg_ad0
  have F203 : Fld Z h202 ad0 o7 "value" "[B" (.ref nz0_189) := Fld.same W202 F201
  have K204 := (Keep.refl h0 [ad0]).trans K188 all0
  have K205 := K204.wr W198 (Or.inl (List.mem_of_getElem? (i := 0) rfl))
  have K206 := K205.wr W202 (Or.inl (List.mem_of_getElem? (i := 0) rfl))
  have z207 := Nat.le_trans (Nat.le_refl _) z191
  have F208 := (Exa.wr W202 F200)
  have F209 := (Fld.other W202 F199 (Or.inr (o309 hw)))
  have F210 := (Exa.wr W202 (Exa.wr W198 F192))
  have ne211 := (Ne.symm (Nat.ne_of_lt (Nat.lt_of_lt_of_le pe1.lt z191)))
  have F212 := ((F193.other W198 ne211).other W202 ne211)
  exact o81 X202 hx hlk hret (hb hby o205) (by decide) (by decide) (by rw [e202]; exact ⟨nz0_189, kz1_190, rfl, N202, K206, z207, F208, F209, F203, F210, F212⟩)
theorem o437 : parseMethodDescriptor "([CIILjava/lang/Void;)V" = some ⟨[(.array .char), .int, .int, (.object "java/lang/Void")], none⟩ := by decide +kernel
theorem o331 : decode jdk_42_method_3_code 9 = .ok (.return_, 1) := by decide +kernel
abbrev o318 : MethodName := ⟨"java/lang/String", "<init>", "([C)V"⟩
theorem o920 (hw : o35 a0 Z) (hS : o64 Z wcs) (ad0 ad1 : Addr) (kc2 : ClassId) (iv3 : Int32) (h0 : Heap) (n0 : Nat) (O0 : Old Z n0 h0) (pe1 : Exa Z h0 ad0 o7) (pf2 : Fld Z h0 ad0 o7 "coder" "B" (.int 0)) (pf3 : Fld Z h0 ad0 o7 "value" "[B" .null) (pa5 : Arv Z h0 ad1 kc2 .char 1 [.int iv3] (.int 0)) (pk6 : ¬ (255 : Int32) < iv3) (pg_ad0 : n0 ≤ ad0) :
    o21 l o318 jdk_42_method_3_code 2 none ws ⟨3, 1, 1, 52⟩ Z h0 #[.ref ad0, .ref ad1] (fun v h L => ∃ nz0 : Addr, ∃ kz1 : ClassId, v = none ∧ Fr n0 L ∧ Keep h0 h [ad0] ∧ h0.size ≤ nz0 ∧ Exa Z h ad0 o7 ∧ Fld Z h ad0 o7 "coder" "B" (.int 0) ∧ Fld Z h ad0 o7 "value" "[B" (.ref nz0) ∧ Exa Z h nz0 "[B" ∧ Arv Z h nz0 kz1 .byte 1 [(.int (iv3.toInt8.toInt32))] (.int 0)) := by
  refine o18 (plainFor_of_name o83) ?_
  intro p e s m below meth c s₁ hx hby hml hown hnm hret hlk hZ e0 X0
  have N0 := Fr.nil n0
  refine o4 (fun u j => castTop (show entryFrame m #[.ref ad0, .ref ad1] 2 = mkF m 0 #[o1 ad0, o1 ad1] [] from rfl) j) ?_
  refine o4 (fun u j => o3 X0.here hx rfl (hb hby o324) rfl rfl (o3 X0.here hx rfl (hb hby o325) rfl rfl (o16 X0.here hx rfl (hb hby o326) (o3 X0.here hx rfl (hb hby o327) rfl rfl (o75 X0 hx hZ e0 pa5 rfl rfl (hb hby o328) (o99 X0.here hx rfl (hb hby o329) j)))))) ?_
  show o11 p e below _ (s₁.setTop (mkF m 6 #[o1 ad0, o1 ad1] [.null, .int 1, .int 0, .ref ad1, .ref ad0]))
  refine o17 (o87 X0 hx hZ (y := o317) rfl hown (o2 hw 58 rfl) (o2 hw 59 rfl) (o2 hw 2 rfl) (o2 hw 60 rfl) o67 (o919 hw hS ad0 ad1 kc2 iv3 h0 n0 O0 pe1 pf2 pf3 pa5 pk6 pg_ad0) e0 o437 (a := ad0) (argsL := [.ref ad1, .int 0, .int 1, .null]) (rest := []) rfl rfl (g := (mkF m 6 #[o1 ad0, o1 ad1] [.null, .int 1, .int 0, .ref ad1, .ref ad0])) rfl (by rw [hml]; rfl) rfl (hb hby o330) (W := 0) rfl) ?_
  intro T223 v223 L223 X223 hQ223
  obtain ⟨nz0_224, kz1_225, rfl, M223, K223, z226, F227, F228, F229, F230, F231⟩ := hQ223
  have N223 := Fr.app N0 M223
  have K232 := (Keep.refl h0 [ad0]).trans K223 (allS (Or.inl (List.mem_of_getElem? (i := 0) rfl)) all0)
  have z233 := Nat.le_trans (Nat.le_refl _) z226
  exact o81 X223 hx hlk hret (hb hby o331) (by decide) (by decide) (by exact ⟨nz0_224, kz1_225, rfl, N223, K232, z233, F227, F228, F229, F230, F231⟩)
theorem o438 : parseMethodDescriptor "([C)V" = some ⟨[(.array .char)], none⟩ := by decide +kernel
theorem o709 : decode method_3_code 23 = .ok (.areturn, 1) := by decide +kernel
abbrev o319 : MethodName := ⟨"com/example/forgewire/forgewire/xml/SubjectToStringPinLaw", "expected", "(ZZZCCC)Ljava/lang/String;"⟩
theorem o421 : plainName "com/example/forgewire/forgewire/xml/SubjectToStringPinLaw" = true := by first | (simp [plainName, overriddenIn]; done) | decide +kernel
theorem o921 (hw : o35 a0 Z) (hS : o64 Z wcs) (iv0 iv1 iv2 : Int32) (h0 : Heap) (n0 : Nat) (O0 : Old Z n0 h0) (pc2 : nar .char iv1 = iv1) (pk5 : ¬ (255 : Int32) < iv1) :
    o21 l o319 method_3_code 6 (some (.object "java/lang/String")) ws ⟨4, 3, 6, 66⟩ Z h0 #[.int 0, .int 1, .int 0, .int iv0, .int iv1, .int iv2] (fun v h L => ∃ nz0 : Addr, ∃ nz1 : Addr, ∃ kz2 : ClassId, v = some (.ref nz0) ∧ Fr n0 L ∧ Keep h0 h [] ∧ h0.size ≤ nz0 ∧ h0.size ≤ nz1 ∧ Exa Z h nz0 o7 ∧ Fld Z h nz0 o7 "coder" "B" (.int 0) ∧ Fld Z h nz0 o7 "value" "[B" (.ref nz1) ∧ Exa Z h nz1 "[B" ∧ Arv Z h nz1 kz2 .byte 1 [(.int (iv1.toInt8.toInt32))] (.int 0)) := by
  refine o18 (plainFor_of_name o421) ?_
  intro p e s m below meth c s₁ hx hby hml hown hnm hret hlk hZ e0 X0
  have N0 := Fr.nil n0
  refine o4 (fun u j => castTop (show entryFrame m #[.int 0, .int 1, .int 0, .int iv0, .int iv1, .int iv2] 6 = mkF m 0 #[o0 0, o0 1, o0 0, o0 iv0, o0 iv1, o0 iv2] [] from rfl) j) ?_
  refine o4 (fun u j => o6 X0.here hx rfl (hb hby o322) rfl (o68 X0.here hx rfl (hb hby o323) rfl (o180 (by decide)) (o6 X0.here hx rfl (hb hby o502) rfl (o68 X0.here hx rfl (hb hby o503) rfl (o180 (by decide)) j)))) ?_
  have q_ := newO X0 hx hZ hown (o2 hw 53 rfl) (o2 hw 10 rfl) (o2 hw 2 rfl) e0 (g := (mkF m 8 #[o0 0, o0 1, o0 0, o0 iv0, o0 iv1, o0 iv2] [])) rfl (hb hby o804) (by decide) (by decide)
  obtain ⟨T250, h250, X250, e250, E250, A250, D250, U250, st250⟩ := q_
  have q_ : ∃ z, z = h0.size := ⟨_, rfl⟩
  obtain ⟨b250, g250⟩ := q_
  rw [← g250] at A250 D250 U250 st250
  have F250_value : Fld Z h250 b250 o7 "value" "[B" .null := D250 (Or.inr (o2 hw 23 rfl)) (ty := (.array .byte)) o91
  have F250_coder : Fld Z h250 b250 o7 "coder" "B" (.int 0) := D250 (Or.inr (o2 hw 25 rfl)) (ty := .byte) o92
  refine o4 (fun u j => st250 u j) ?_
  refine o4 (fun u j => o61 X250.here hx rfl (hb hby o701) rfl rfl (o16 X250.here hx rfl (hb hby o702) j)) ?_
  have q_ := newPE X250 hx hZ (o2 hw 54 rfl) e250 (g := (mkF m 13 #[o0 0, o0 1, o0 0, o0 iv0, o0 iv1, o0 iv2] [.int 1, .ref b250, .ref b250])) rfl (hb hby o703) rfl (by decide) (cap := 1) (by decide) (by decide) (by decide) (by decide) (ad := "[C") o433
  obtain ⟨T251, h251, k251, X251, e251, E251, A251, Y251, st251⟩ := q_
  have q_ : ∃ z, z = h250.size := ⟨_, rfl⟩
  obtain ⟨b251, g251⟩ := q_
  rw [← g251] at A251 Y251 st251
  have V251 : Arv Z h251 b251 k251 .char 1 [.int 0] (.int 0) := (Arv.new A251 (by decide)).pad (pad_rep [] (.int 0) 1)
  refine o4 (fun u j => st251 u j) ?_
  refine o4 (fun u j => o61 X251.here hx rfl (hb hby o704) rfl rfl (o16 X251.here hx rfl (hb hby o705) (o8 X251.here hx rfl (hb hby o706) rfl j))) ?_
  refine o32 (o105 X251 hx hZ e251 V251 (j := 0) (by decide) rfl rfl (hb hby o707)) ?_
  intro T252 h252 X252 e252 W252
  rw [pc2] at W252
  have O254 := O0.ext E250
  have g253 := Nat.le_trans (o103 O254) (Nat.le_of_eq g251.symm)
  have N252 := Fr.snoc X252 N0 g253
  have V252 : Arv Z h252 b251 k251 .char 1 [.int iv1] (.int 0) := o74 V251 (o411 pc2) W252 0 rfl (Nat.le_of_ble_eq_true rfl)
  have F255 := (Exa.wr W252 (Exa.ext E251 A250))
  have ne256 := (Nat.ne_of_lt (Nat.lt_of_lt_of_le A250.lt (Nat.le_of_eq g251.symm)))
  have F257 := (Fld.other W252 (Fld.ext E251 F250_coder) (Or.inl ne256))
  have F258 := (Fld.other W252 (Fld.ext E251 F250_value) (Or.inl ne256))
  have g259 := Nat.le_trans (o103 O0) (Nat.le_of_eq g250.symm)
  have O261 := O254.ext E251
  have O262 := O261.wr W252 g253
  refine o17 (o87 X252 hx hZ (y := o318) rfl hown (o2 hw 55 rfl) (o2 hw 56 rfl) (o2 hw 2 rfl) (o2 hw 57 rfl) o67 (o920 hw hS b250 b251 k251 iv1 h252 n0 O262 F255 F257 F258 V252 pk5 g259) e252 o438 (a := b250) (argsL := [.ref b251]) (rest := [.ref b250]) rfl rfl (g := (mkF m 20 #[o0 0, o0 1, o0 0, o0 iv0, o0 iv1, o0 iv2] [.ref b251, .ref b250, .ref b250])) rfl (by rw [hml]; rfl) rfl (hb hby o708) (W := 1) rfl) ?_
  intro T260 v260 L260 X260 hQ260
  obtain ⟨nz0_263, kz1_264, rfl, M260, K260, z265, F266, F267, F268, F269, F270⟩ := hQ260
  have N260 := Fr.app N252 M260
  have K271 := (Keep.refl h0 []).ext E250
  have K272 := K271.ext E251
  have z274 := Nat.le_trans E250.1 (Nat.le_of_eq g251.symm)
  have K273 := K272.wr W252 (Or.inr z274)
  have z276 := Nat.le_trans (Nat.le_refl _) (Nat.le_of_eq g250.symm)
  have K275 := K273.trans K260 (allS (Or.inr z276) all0)
  have z277 := Nat.le_trans (Nat.le_trans (Nat.le_trans E250.1 E251.1) (Nat.le_of_eq W252.size.symm)) z265
  exact o69 X260 hx hlk hret rfl (Or.inr (Or.inr (Or.inr (Or.inr ⟨rfl, rfl, rfl⟩)))) (hb hby o709) (by decide) (by decide) (by exact ⟨b250, nz0_263, kz1_264, rfl, N260, K275, z276, z277, F266, F267, F268, F269, F270⟩)
theorem o439 : ("com/example/forgewire/forgewire/xml/SubjectToStringPinLaw" : String) ≠ "java/lang/invoke/MethodHandle" ∧ ("com/example/forgewire/forgewire/xml/SubjectToStringPinLaw" : String) ≠ "java/lang/invoke/VarHandle" := by decide +kernel
theorem o440 : parseMethodDescriptor "(ZZZCCC)Ljava/lang/String;" = some ⟨[.boolean, .boolean, .boolean, .char, .char, .char], some (.object "java/lang/String")⟩ := by decide +kernel
theorem o290 : decode jdk_42_method_66_code 0 = .ok (.aload_n 0, 1) := by decide +kernel
theorem o291 : decode jdk_42_method_66_code 1 = .ok (.aload_n 1, 1) := by decide +kernel
theorem o292 : decode jdk_42_method_66_code 2 = .ok (.if_acmp .ne 5, 3) := by decide +kernel
theorem o293 : decode jdk_42_method_66_code 7 = .ok (.aload_n 1, 1) := by decide +kernel
theorem o294 : decode jdk_42_method_66_code 8 = .ok (.instanceof 10, 3) := by decide +kernel
theorem o237 : decode jdk_42_method_66_code 11 = .ok (.ifCond .eq 43, 3) := by decide +kernel
theorem o238 : decode jdk_42_method_66_code 14 = .ok (.aload_n 1, 1) := by decide +kernel
theorem o239 : decode jdk_42_method_66_code 15 = .ok (.checkcast 10, 3) := by decide +kernel
theorem o240 : decode jdk_42_method_66_code 18 = .ok (.astore_n 2, 1) := by decide +kernel
theorem o241 : decode jdk_42_method_66_code 19 = .ok (.getstatic 38, 3) := by decide +kernel
theorem o242 : decode jdk_42_method_66_code 22 = .ok (.ifCond .eq 14, 3) := by decide +kernel
theorem o243 : decode jdk_42_method_66_code 25 = .ok (.aload_n 0, 1) := by decide +kernel
theorem o244 : decode jdk_42_method_66_code 26 = .ok (.getfield 15, 3) := by decide +kernel
theorem o245 : decode jdk_42_method_66_code 29 = .ok (.aload_n 2, 1) := by decide +kernel
theorem o246 : decode jdk_42_method_66_code 30 = .ok (.getfield 15, 3) := by decide +kernel
theorem o247 : decode jdk_42_method_66_code 33 = .ok (.if_icmp .ne 21, 3) := by decide +kernel
theorem o248 : decode jdk_42_method_66_code 36 = .ok (.aload_n 0, 1) := by decide +kernel
theorem o249 : decode jdk_42_method_66_code 37 = .ok (.getfield 9, 3) := by decide +kernel
theorem o250 : decode jdk_42_method_66_code 40 = .ok (.aload_n 2, 1) := by decide +kernel
theorem o251 : decode jdk_42_method_66_code 41 = .ok (.getfield 9, 3) := by decide +kernel
theorem o252 : decode jdk_42_method_66_code 44 = .ok (.invokestatic 541, 3) := by decide +kernel
theorem o295 : decode jdk_43_method_13_code 0 = .ok (.aload_n 0, 1) := by decide +kernel
theorem o296 : decode jdk_43_method_13_code 1 = .ok (.arraylength, 1) := by decide +kernel
theorem o297 : decode jdk_43_method_13_code 2 = .ok (.aload_n 1, 1) := by decide +kernel
theorem o298 : decode jdk_43_method_13_code 3 = .ok (.arraylength, 1) := by decide +kernel
theorem o299 : decode jdk_43_method_13_code 4 = .ok (.if_icmp .ne 30, 3) := by decide +kernel
theorem o300 : decode jdk_43_method_13_code 7 = .ok (.iconst 0, 1) := by decide +kernel
theorem o301 : decode jdk_43_method_13_code 8 = .ok (.istore_n 2, 1) := by decide +kernel
theorem o31 : decode jdk_43_method_13_code 9 = .ok (.iload_n 2, 1) := by decide +kernel
theorem o25 : decode jdk_43_method_13_code 10 = .ok (.aload_n 0, 1) := by decide +kernel
theorem o26 : decode jdk_43_method_13_code 11 = .ok (.arraylength, 1) := by decide +kernel
theorem o27 : decode jdk_43_method_13_code 12 = .ok (.if_icmp .ge 20, 3) := by decide +kernel
theorem o52 : decode jdk_43_method_13_code 15 = .ok (.aload_n 0, 1) := by decide +kernel
theorem o53 : decode jdk_43_method_13_code 16 = .ok (.iload_n 2, 1) := by decide +kernel
theorem o54 : decode jdk_43_method_13_code 17 = .ok (.baload, 1) := by decide +kernel
theorem o55 : decode jdk_43_method_13_code 18 = .ok (.aload_n 1, 1) := by decide +kernel
theorem o56 : decode jdk_43_method_13_code 19 = .ok (.iload_n 2, 1) := by decide +kernel
theorem o57 : decode jdk_43_method_13_code 20 = .ok (.baload, 1) := by decide +kernel
theorem o58 : decode jdk_43_method_13_code 21 = .ok (.if_icmp .eq 5, 3) := by decide +kernel
theorem o59 : decode jdk_43_method_13_code 26 = .ok (.iinc 2 1, 3) := by decide +kernel
theorem o60 : decode jdk_43_method_13_code 29 = .ok (.goto (-20), 3) := by decide +kernel
theorem o253 : decode jdk_43_method_13_code 32 = .ok (.iconst 1, 1) := by decide +kernel
theorem o254 : decode jdk_43_method_13_code 33 = .ok (.ireturn, 1) := by decide +kernel
abbrev o320 : MethodName := ⟨"java/lang/StringLatin1", "equals", "([B[B)Z"⟩
theorem o922 (hw : o35 a0 Z) (hS : o64 Z wcs) (ad0 ad1 : Addr) (kc2 : ClassId) (iv3 : Int32) (kc4 : ClassId) (h0 : Heap) (n0 : Nat) (O0 : Old Z n0 h0) (pa2 : Arv Z h0 ad0 kc2 .byte 1 [.int iv3] (.int 0)) (pa4 : Arv Z h0 ad1 kc4 .byte 1 [.int iv3] (.int 0)) :
    o21 l o320 jdk_43_method_13_code 3 (some .boolean) ws ⟨0, 0, 0, 0⟩ Z h0 #[.ref ad0, .ref ad1] (fun v h L => v = some (.int 1) ∧ Fr n0 L ∧ h = h0) := by
  refine o18 (plainFor_of_name o413) ?_
  intro p e s m below meth c s₁ hx hby hml hown hnm hret hlk hZ e0 X0
  have N0 := Fr.nil n0
  refine o4 (fun u j => castTop (show entryFrame m #[.ref ad0, .ref ad1] 3 = mkF m 0 #[o1 ad0, o1 ad1, o5] [] from rfl) j) ?_
  refine o4 (fun u j => o3 X0.here hx rfl (hb hby o295) rfl rfl (o75 X0 hx hZ e0 pa2 rfl rfl (hb hby o296) (o3 X0.here hx rfl (hb hby o297) rfl rfl (o75 X0 hx hZ e0 pa4 rfl rfl (hb hby o298) (o14 X0.here hx rfl (hb hby o299) rfl (o93 (by decide)) (o16 X0.here hx rfl (hb hby o300) j)))))) ?_
  show o11 p e below _ (s₁.setTop (mkF m 8 #[o1 ad0, o1 ad1, o5] [.int 0]))
  refine o4 (fun u j => o94 X0.here hx rfl (hb hby o301) rfl (l' := #[o1 ad0, o1 ad1, o0 0]) rfl (o6 X0.here hx rfl (hb hby o31) rfl (o3 X0.here hx rfl (hb hby o25) rfl rfl (o75 X0 hx hZ e0 pa2 rfl rfl (hb hby o26) (o14 X0.here hx rfl (hb hby o27) rfl (o19 (by decide)) (o3 X0.here hx rfl (hb hby o52) rfl rfl j)))))) ?_
  show o11 p e below _ (s₁.setTop (mkF m 16 #[o1 ad0, o1 ad1, o0 0] [.ref ad0]))
  refine o4 (fun u j => o6 X0.here hx rfl (hb hby o53) rfl (o77 X0 hx hZ e0 pa2 (j := 0) (v := (.int iv3)) (by decide) rfl rfl rfl (hb hby o54) (o3 X0.here hx rfl (hb hby o55) rfl rfl (o6 X0.here hx rfl (hb hby o56) rfl (o77 X0 hx hZ e0 pa4 (j := 0) (v := (.int iv3)) (by decide) rfl rfl rfl (hb hby o57) (o13 X0.here hx rfl (pc0 := 21) (pc' := 26) rfl (hb hby o58) rfl (o66 rfl) (by decide) (by decide) j)))))) ?_
  show o11 p e below _ (s₁.setTop (mkF m 26 #[o1 ad0, o1 ad1, o0 0] []))
  refine o4 (fun u j => o12 X0.here hx rfl (hb hby o59) rfl (l' := #[o1 ad0, o1 ad1, o0 1]) rfl (o15 X0.here hx rfl (pc0 := 29) (pc' := 9) rfl (hb hby o60) (by decide) (by decide) (o6 X0.here hx rfl (hb hby o31) rfl (o3 X0.here hx rfl (hb hby o25) rfl rfl (o75 X0 hx hZ e0 pa2 rfl rfl (hb hby o26) (o13 X0.here hx rfl (pc0 := 12) (pc' := 32) rfl (hb hby o27) rfl (o175 (by decide)) (by decide) (by decide) j)))))) ?_
  show o11 p e below _ (s₁.setTop (mkF m 32 #[o1 ad0, o1 ad1, o0 1] []))
  refine o4 (fun u j => o16 X0.here hx rfl (hb hby o253) j) ?_
  exact o69 X0 hx hlk hret rfl (Or.inl ⟨rfl, by simp, _, rfl⟩) (hb hby o254) (by decide) (by decide) (by rw [e0]; exact ⟨rfl, N0, rfl⟩)
theorem o441 : parseMethodDescriptor "([B[B)Z" = some ⟨[(.array .byte), (.array .byte)], some .boolean⟩ := by decide +kernel
theorem o255 : decode jdk_42_method_66_code 47 = .ok (.ifCond .eq 7, 3) := by decide +kernel
theorem o256 : decode jdk_42_method_66_code 50 = .ok (.iconst 1, 1) := by decide +kernel
theorem o257 : decode jdk_42_method_66_code 51 = .ok (.goto 4, 3) := by decide +kernel
theorem o258 : decode jdk_42_method_66_code 55 = .ok (.ireturn, 1) := by decide +kernel
abbrev o182 : MethodName := ⟨"java/lang/String", "equals", "(Ljava/lang/Object;)Z"⟩
theorem o923 (hw : o35 a0 Z) (hS : o64 Z wcs) (ad0 ad1 : Addr) (ad2 ad3 : Addr) (kc4 : ClassId) (iv5 : Int32) (kc6 : ClassId) (h0 : Heap) (n0 : Nat) (O0 : Old Z n0 h0) (pf2 : Fld Z h0 ad0 o7 "coder" "B" (.int 0)) (pf3 : Fld Z h0 ad0 o7 "value" "[B" (.ref ad2)) (pe4 : Exa Z h0 ad1 o7) (pf5 : Fld Z h0 ad1 o7 "coder" "B" (.int 0)) (pf6 : Fld Z h0 ad1 o7 "value" "[B" (.ref ad3)) (pa8 : Arv Z h0 ad2 kc4 .byte 1 [.int iv5] (.int 0)) (pa10 : Arv Z h0 ad3 kc6 .byte 1 [.int iv5] (.int 0)) (pn_ad0_ad1 : ad0 ≠ ad1) :
    o21 l o182 jdk_42_method_66_code 3 (some .boolean) ws ⟨1, 0, 0, 14⟩ Z h0 #[.ref ad0, .ref ad1] (fun v h L => v = some (.int 1) ∧ Fr n0 L ∧ h = h0) := by
  refine o18 (plainFor_of_name o83) ?_
  intro p e s m below meth c s₁ hx hby hml hown hnm hret hlk hZ e0 X0
  have N0 := Fr.nil n0
  refine o4 (fun u j => castTop (show entryFrame m #[.ref ad0, .ref ad1] 3 = mkF m 0 #[o1 ad0, o1 ad1, o5] [] from rfl) j) ?_
  refine o4 (fun u j => o3 X0.here hx rfl (hb hby o290) rfl rfl (o3 X0.here hx rfl (hb hby o291) rfl rfl (XT.acmpYes X0.here hx rfl (pc0 := 2) (pc' := 7) rfl (hb hby o292) rfl rfl rfl (XT.aa_ne_t (o504 pn_ad0_ad1)) (by decide) (by decide) (o3 X0.here hx rfl (hb hby o293) rfl rfl j)))) ?_
  have q_ := instY X0 hx hZ hown (o2 hw 9 rfl) e0 (Ins.self pe4) (g := (mkF m 8 #[o1 ad0, o1 ad1, o5] [.ref ad1])) rfl rfl (hb hby o294)
  obtain ⟨T306, X306, e306, st306⟩ := q_
  refine o4 (fun u j => st306 u j) ?_
  refine o4 (fun u j => o68 X306.here hx rfl (hb hby o237) rfl (o65 (by decide)) (o3 X306.here hx rfl (hb hby o238) rfl rfl j)) ?_
  have q_ := castY X306 hx hZ hown (o2 hw 9 rfl) e306 (Ins.self pe4) (g := (mkF m 15 #[o1 ad0, o1 ad1, o5] [.ref ad1])) rfl rfl (hb hby o239)
  obtain ⟨T307, X307, e307, st307⟩ := q_
  refine o4 (fun u j => st307 u j) ?_
  refine o4 (fun u j => o84 X307.here hx rfl (hb hby o240) rfl rfl (l' := #[o1 ad0, o1 ad1, o1 ad1]) rfl j) ?_
  have F308 := Sta.ext O0.2 hS.1
  refine o22 (getS2 X307 hx hZ hown (host := "") (Or.inl (o2 hw 4 rfl)) Via.refl e307 F308 rfl (hb hby o241)) ?_
  intro T309 X309 e309
  refine o4 (fun u j => o68 X309.here hx rfl (hb hby o242) rfl (o65 hS.2) (o3 X309.here hx rfl (hb hby o243) rfl rfl j)) ?_
  refine o22 (getF X309 hx hZ hown (host := "") (Or.inl (o2 hw 24 rfl)) Via.refl e309 pf2 rfl rfl (hb hby o244)) ?_
  intro T310 X310 e310
  refine o4 (fun u j => o3 X310.here hx rfl (hb hby o245) rfl rfl j) ?_
  refine o22 (getF X310 hx hZ hown (host := "") (Or.inl (o2 hw 24 rfl)) Via.refl e310 pf5 rfl rfl (hb hby o246)) ?_
  intro T311 X311 e311
  refine o4 (fun u j => o14 X311.here hx rfl (hb hby o247) rfl (o93 (by decide)) (o3 X311.here hx rfl (hb hby o248) rfl rfl j)) ?_
  refine o22 (getF X311 hx hZ hown (host := "") (Or.inl (o2 hw 22 rfl)) Via.refl e311 pf3 rfl rfl (hb hby o249)) ?_
  intro T312 X312 e312
  refine o4 (fun u j => o3 X312.here hx rfl (hb hby o250) rfl rfl j) ?_
  refine o22 (getF X312 hx hZ hown (host := "") (Or.inl (o2 hw 22 rfl)) Via.refl e312 pf6 rfl rfl (hb hby o251)) ?_
  intro T313 X313 e313
  refine o17 (o78 X313 hx hZ (y := o320) hown (o2 hw 76 rfl) (o2 hw 77 rfl) (o2 hw 7 rfl) (o2 hw 78 rfl) o414 (o922 hw hS ad2 ad3 kc4 iv5 kc6 h0 n0 O0 pa8 pa10) e313 o441 (argsL := [.ref ad2, .ref ad3]) (rest := []) rfl rfl (g := (mkF m 44 #[o1 ad0, o1 ad1, o1 ad1] [.ref ad3, .ref ad2])) rfl (by rw [hml]; rfl) rfl (hb hby o252) (W := 0) rfl) ?_
  intro T314 v314 L314 X314 hQ314
  obtain ⟨rfl, M314, e314⟩ := hQ314
  have N314 := Fr.app N0 M314
  refine o4 (fun u j => o68 X314.here hx rfl (hb hby o255) rfl (o65 (by decide)) (o16 X314.here hx rfl (hb hby o256) (o15 X314.here hx rfl (pc0 := 51) (pc' := 55) rfl (hb hby o257) (by decide) (by decide) j))) ?_
  exact o69 X314 hx hlk hret rfl (Or.inl ⟨rfl, by simp, _, rfl⟩) (hb hby o258) (by decide) (by decide) (by rw [e314]; exact ⟨rfl, N314, rfl⟩)
theorem o442 : parseMethodDescriptor "(Ljava/lang/Object;)Z" = some ⟨[(.object "java/lang/Object")], some .boolean⟩ := by decide +kernel
theorem o443 : ("com/example/forgewire/forgewire/xml/DefinitionReader$Subject" : String) ≠ "java/lang/String" := by decide +kernel
theorem o444 : ("com/example/forgewire/forgewire/xml/DefinitionReader$Subject" : String) ≠ "[B" := by decide +kernel
theorem o924 (hw : o35 a0 Z) (hS : o64 Z wcs) (ad0 ad1 ad2 : Addr) (h0 : Heap) (n0 : Nat) (O0 : Old Z n0 h0) (pe1 : Exa Z h0 ad0 o62) (pf2 : Fld Z h0 ad0 o62 "bean" o71 .null) (pf3 : Fld Z h0 ad0 o62 "name" o71 .null) (pf4 : Fld Z h0 ad0 o62 "part" o71 .null) (pg_ad0 : n0 ≤ ad0) :
    o21 l o395 prog_89_method_1_code 4 none ws ⟨2, 0, 0, 24⟩ Z h0 #[.ref ad0, .null, .ref ad1, .ref ad2] (fun v h L => v = none ∧ Fr n0 L ∧ Keep h0 h [ad0] ∧ Exa Z h ad0 o62 ∧ Fld Z h ad0 o62 "bean" o71 .null ∧ Fld Z h ad0 o62 "name" o71 (.ref ad2) ∧ Fld Z h ad0 o62 "part" o71 (.ref ad1)) := by
  refine o18 (plainFor_of_name o312) ?_
  intro p e s m below meth c s₁ hx hby hml hown hnm hret hlk hZ e0 X0
  have N0 := Fr.nil n0
  refine o4 (fun u j => castTop (show entryFrame m #[.ref ad0, .null, .ref ad1, .ref ad2] 4 = mkF m 0 #[o1 ad0, .val .null, o1 ad1, o1 ad2] [] from rfl) j) ?_
  refine o4 (fun u j => o3 X0.here hx rfl (hb hby o262) rfl rfl j) ?_
  refine o17 (o87 X0 hx hZ (y := o458) rfl hown (o2 hw 32 rfl) (o2 hw 33 rfl) (o2 hw 35 rfl) (o2 hw 36 rfl) o462 (o842 hw hS ad0 h0 n0 O0 ) e0 o311 (a := ad0) (argsL := []) (rest := []) rfl rfl (g := (mkF m 1 #[o1 ad0, .val .null, o1 ad1, o1 ad2] [.ref ad0])) rfl (by rw [hml]; rfl) rfl (hb hby o263) (W := 0) rfl) ?_
  intro T369 v369 L369 X369 hQ369
  obtain ⟨rfl, M369, e369⟩ := hQ369
  have N369 := Fr.app N0 M369
  refine o4 (fun u j => o3 X369.here hx rfl (hb hby o264) rfl rfl (o3 X369.here hx rfl (hb hby o265) rfl rfl j)) ?_
  refine o32 (putF X369 hx hZ hown (host := "") (Or.inl (o2 hw 38 rfl)) Via.refl e369 pf2 pe1 (Or.inr ⟨(o2 hw 39 rfl), rfl, hnm⟩) (o2 hw 27 rfl) (ty := (.object "java/lang/String")) o82 rfl rfl rfl rfl (hb hby o266)) ?_
  intro T370 h370 X370 e370 W370
  have N370 := Fr.snoc X370 N369 pg_ad0
  have F371 : Fld Z h370 ad0 o62 "bean" o71 .null := Fld.same W370 pf2
  refine o4 (fun u j => o3 X370.here hx rfl (hb hby o267) rfl rfl (o3 X370.here hx rfl (hb hby o215) rfl rfl j)) ?_
  have F372 := (Exa.wr W370 pe1)
  have F373 := (Fld.other W370 pf4 (Or.inr (o463 hw)))
  refine o32 (putF X370 hx hZ hown (host := "") (Or.inl (o2 hw 40 rfl)) Via.refl e370 F373 F372 (Or.inr ⟨(o2 hw 41 rfl), rfl, hnm⟩) (o2 hw 27 rfl) (ty := (.object "java/lang/String")) o82 rfl rfl rfl rfl (hb hby o216)) ?_
  intro T374 h374 X374 e374 W374
  have N374 := Fr.snoc X374 N370 pg_ad0
  have F375 : Fld Z h374 ad0 o62 "part" o71 (.ref ad1) := Fld.same W374 F373
  refine o4 (fun u j => o3 X374.here hx rfl (hb hby o217) rfl rfl (o3 X374.here hx rfl (hb hby o218) rfl rfl j)) ?_
  have F376 := (Exa.wr W374 F372)
  have F377 := (Fld.other W374 (Fld.other W370 pf3 (Or.inr (o464 hw))) (Or.inr (o465 hw)))
  refine o32 (putF X374 hx hZ hown (host := "") (Or.inl (o2 hw 42 rfl)) Via.refl e374 F377 F376 (Or.inr ⟨(o2 hw 43 rfl), rfl, hnm⟩) (o2 hw 27 rfl) (ty := (.object "java/lang/String")) o82 rfl rfl rfl rfl (hb hby o219)) ?_
  intro T378 h378 X378 e378 W378
  have N378 := Fr.snoc X378 N374 pg_ad0
  have F379 : Fld Z h378 ad0 o62 "name" o71 (.ref ad2) := Fld.same W378 F377
  have K380 := (Keep.refl h0 [ad0]).wr W370 (Or.inl (List.mem_of_getElem? (i := 0) rfl))
  have K381 := K380.wr W374 (Or.inl (List.mem_of_getElem? (i := 0) rfl))
  have K382 := K381.wr W378 (Or.inl (List.mem_of_getElem? (i := 0) rfl))
  have F383 := (Exa.wr W378 F376)
  have F384 := (Fld.other W378 (Fld.other W374 F371 (Or.inr (o466 hw))) (Or.inr (o467 hw)))
  have F385 := (Fld.other W378 F375 (Or.inr (o468 hw)))
  exact o81 X378 hx hlk hret (hb hby o220) (by decide) (by decide) (by rw [e378]; exact ⟨rfl, N378, K382, F383, F384, F379, F385⟩)
theorem o473 : decode prog_89_method_5_code 14 = .ok (.new 22, 3) := by decide +kernel
abbrev o10 : String := "java/lang/AbstractStringBuilder"
theorem o120 : parseFieldDescriptor "I" = some .int := by decide +kernel
theorem o474 : decode prog_89_method_5_code 17 = .ok (.dup, 1) := by decide +kernel
theorem o475 : decode prog_89_method_5_code 18 = .ok (.invokespecial 24, 3) := by decide +kernel
theorem o805 : decode jdk_67_method_1_code 0 = .ok (.aload_n 0, 1) := by decide +kernel
theorem o806 : decode jdk_67_method_1_code 1 = .ok (.bipush 16, 2) := by decide +kernel
theorem o807 : decode jdk_67_method_1_code 3 = .ok (.invokespecial 1, 3) := by decide +kernel
theorem o808 : decode jdk_68_method_2_code 0 = .ok (.aload_n 0, 1) := by decide +kernel
theorem o809 : decode jdk_68_method_2_code 1 = .ok (.invokespecial 3, 3) := by decide +kernel
theorem o810 : decode jdk_68_method_2_code 4 = .ok (.getstatic 18, 3) := by decide +kernel
theorem o811 : decode jdk_68_method_2_code 7 = .ok (.ifCond .eq 18, 3) := by decide +kernel
theorem o710 : decode jdk_68_method_2_code 10 = .ok (.aload_n 0, 1) := by decide +kernel
theorem o711 : decode jdk_68_method_2_code 11 = .ok (.iload_n 1, 1) := by decide +kernel
theorem o712 : decode jdk_68_method_2_code 12 = .ok (.newarray .byte, 2) := by decide +kernel
theorem o713 : decode jdk_68_method_2_code 14 = .ok (.putfield 15, 3) := by decide +kernel
theorem o714 : decode jdk_68_method_2_code 17 = .ok (.aload_n 0, 1) := by decide +kernel
theorem o715 : decode jdk_68_method_2_code 18 = .ok (.iconst 0, 1) := by decide +kernel
theorem o716 : decode jdk_68_method_2_code 19 = .ok (.putfield 22, 3) := by decide +kernel
def o844 {Z : State} {a0 : Array Value} (hw : o35 a0 Z) := slot_ne (Or.inl (o2 hw 96 rfl)) (Or.inl (o2 hw 94 rfl)) o828 (t := .byte) (t' := (.array .byte)) o92 o91
theorem o717 : decode jdk_68_method_2_code 22 = .ok (.goto 16, 3) := by decide +kernel
theorem o718 : decode jdk_68_method_2_code 38 = .ok (.return_, 1) := by decide +kernel
abbrev o70 : String := "java/lang/StringBuilder"
theorem o845 : ("count" : String) ≠ "value" := by decide +kernel
def o846 {Z : State} {a0 : Array Value} (hw : o35 a0 Z) := slot_ne (Or.inl (o2 hw 118 rfl)) (Or.inl (o2 hw 94 rfl)) o845 (t := .int) (t' := (.array .byte)) o120 o91
theorem o847 : ("count" : String) ≠ "coder" := by decide +kernel
def o848 {Z : State} {a0 : Array Value} (hw : o35 a0 Z) := slot_ne (Or.inl (o2 hw 118 rfl)) (Or.inl (o2 hw 96 rfl)) o847 (t := .int) (t' := .byte) o120 o92
def o849 {Z : State} {a0 : Array Value} (hw : o35 a0 Z) := slot_ne (Or.inl (o2 hw 94 rfl)) (Or.inl (o2 hw 96 rfl)) o829 (t := (.array .byte)) (t' := .byte) o91 o92
abbrev o830 : MethodName := ⟨"java/lang/AbstractStringBuilder", "<init>", "(I)V"⟩
theorem o100 : plainName "java/lang/AbstractStringBuilder" = true := by first | (simp [plainName, overriddenIn]; done) | decide +kernel
theorem o925 (hw : o35 a0 Z) (hS : o64 Z wcs) (ad0 : Addr) (h0 : Heap) (n0 : Nat) (O0 : Old Z n0 h0) (pe1 : Exa Z h0 ad0 o70) (pf2 : Fld Z h0 ad0 o10 "coder" "B" (.int 0)) (pf3 : Fld Z h0 ad0 o10 "count" "I" (.int 0)) (pf4 : Fld Z h0 ad0 o10 "value" "[B" .null) (pg_ad0 : n0 ≤ ad0) :
    o21 l o830 jdk_68_method_2_code 2 none ws ⟨1, 1, 16, 12⟩ Z h0 #[.ref ad0, .int 16] (fun v h L => ∃ nz0 : Addr, ∃ kz1 : ClassId, v = none ∧ Fr n0 L ∧ Keep h0 h [ad0] ∧ h0.size ≤ nz0 ∧ Exa Z h ad0 o70 ∧ Fld Z h ad0 o10 "coder" "B" (.int 0) ∧ Fld Z h ad0 o10 "count" "I" (.int 0) ∧ Fld Z h ad0 o10 "value" "[B" (.ref nz0) ∧ Exa Z h nz0 "[B" ∧ Arv Z h nz0 kz1 .byte 16 [.int 0, .int 0, .int 0, .int 0, .int 0, .int 0, .int 0, .int 0, .int 0, .int 0, .int 0, .int 0, .int 0, .int 0, .int 0, .int 0] (.int 0)) := by
  refine o18 (plainFor_of_name o100) ?_
  intro p e s m below meth c s₁ hx hby hml hown hnm hret hlk hZ e0 X0
  have N0 := Fr.nil n0
  refine o4 (fun u j => castTop (show entryFrame m #[.ref ad0, .int 16] 2 = mkF m 0 #[o1 ad0, o0 16] [] from rfl) j) ?_
  refine o4 (fun u j => o3 X0.here hx rfl (hb hby o808) rfl rfl j) ?_
  refine o22 (initO X0 hx hZ hown (o2 hw 91 rfl) (o2 hw 20 rfl) (o2 hw 21 rfl) e0 rfl (by rw [hml]; rfl) rfl (hb hby o809) (by decide) (W := 0) (by show 2 * 0 + _ ≤ _; exact Nat.le_of_eq rfl) (by decide)) ?_
  intro T408 X408 e408
  have F409 := Sta.ext O0.2 hS.1
  refine o22 (getS2 X408 hx hZ hown (host := "") (Or.inl (o2 hw 92 rfl)) Via.refl e408 F409 rfl (hb hby o810)) ?_
  intro T410 X410 e410
  refine o4 (fun u j => o68 X410.here hx rfl (hb hby o811) rfl (o65 hS.2) (o3 X410.here hx rfl (hb hby o710) rfl rfl (o6 X410.here hx rfl (hb hby o711) rfl j))) ?_
  have q_ := newPE X410 hx hZ (o2 hw 14 rfl) e410 (g := (mkF m 12 #[o1 ad0, o0 16] [.int 16, .ref ad0])) rfl (hb hby o712) rfl (by decide) (cap := 16) (by decide) (by decide) (by decide) (by decide) (ad := "[B") o214
  obtain ⟨T411, h411, k411, X411, e411, E411, A411, Y411, st411⟩ := q_
  have q_ : ∃ z, z = h0.size := ⟨_, rfl⟩
  obtain ⟨b411, g411⟩ := q_
  rw [← g411] at A411 Y411 st411
  have V411 : Arv Z h411 b411 k411 .byte 16 [.int 0, .int 0, .int 0, .int 0, .int 0, .int 0, .int 0, .int 0, .int 0, .int 0, .int 0, .int 0, .int 0, .int 0, .int 0, .int 0] (.int 0) := (Arv.new A411 (by decide)).pad (pad_rep [] (.int 0) 16)
  refine o4 (fun u j => st411 u j) ?_
  have F412 := (Exa.ext E411 pe1)
  have F413 := (Fld.ext E411 pf4)
  refine o32 (putF X411 hx hZ hown (host := "") (Or.inl (o2 hw 93 rfl)) Via.refl e411 F413 F412 (Or.inl (o2 hw 94 rfl)) (o2 hw 80 rfl) (ty := (.array .byte)) o91 rfl rfl rfl rfl (hb hby o713)) ?_
  intro T414 h414 X414 e414 W414
  have N414 := Fr.snoc X414 N0 pg_ad0
  have F415 : Fld Z h414 ad0 o10 "value" "[B" (.ref b411) := Fld.same W414 F413
  refine o4 (fun u j => o3 X414.here hx rfl (hb hby o714) rfl rfl (o16 X414.here hx rfl (hb hby o715) j)) ?_
  have F416 := (Exa.wr W414 F412)
  have F417 := (Fld.other W414 (Fld.ext E411 pf2) (Or.inr (o844 hw)))
  refine o32 (putF X414 hx hZ hown (host := "") (Or.inl (o2 hw 95 rfl)) Via.refl e414 F417 F416 (Or.inl (o2 hw 96 rfl)) (o2 hw 80 rfl) (ty := .byte) o92 rfl rfl rfl rfl (hb hby o716)) ?_
  intro T418 h418 X418 e418 W418
  have N418 := Fr.snoc X418 N414 pg_ad0
  have F419 : Fld Z h418 ad0 o10 "coder" "B" (.int 0) := Fld.same W418 F417
  refine o4 (fun u j => o15 X418.here hx rfl (pc0 := 22) (pc' := 38) rfl (hb hby o717) (by decide) (by decide) j) ?_
  have K420 := (Keep.refl h0 [ad0]).ext E411
  have K421 := K420.wr W414 (Or.inl (List.mem_of_getElem? (i := 0) rfl))
  have K422 := K421.wr W418 (Or.inl (List.mem_of_getElem? (i := 0) rfl))
  have z423 := Nat.le_trans (Nat.le_refl _) (Nat.le_of_eq g411.symm)
  have F424 := (Exa.wr W418 F416)
  have F425 := (Fld.other W418 (Fld.other W414 (Fld.ext E411 pf3) (Or.inr (o846 hw))) (Or.inr (o848 hw)))
  have F426 := (Fld.other W418 F415 (Or.inr (o849 hw)))
  have F427 := (Exa.wr W418 (Exa.wr W414 Y411))
  have ne428 := (Ne.symm (Nat.ne_of_lt (Nat.lt_of_lt_of_le pe1.lt (Nat.le_of_eq g411.symm))))
  have F429 := ((V411.other W414 ne428).other W418 ne428)
  exact o81 X418 hx hlk hret (hb hby o718) (by decide) (by decide) (by rw [e418]; exact ⟨b411, k411, rfl, N418, K422, z423, F424, F419, F425, F426, F427, F429⟩)
theorem o24 : ("java/lang/AbstractStringBuilder" : String) ≠ "java/lang/invoke/MethodHandle" ∧ ("java/lang/AbstractStringBuilder" : String) ≠ "java/lang/invoke/VarHandle" := by decide +kernel
theorem o187 : parseMethodDescriptor "(I)V" = some ⟨[.int], none⟩ := by decide +kernel
theorem o812 : decode jdk_67_method_1_code 6 = .ok (.return_, 1) := by decide +kernel
abbrev o431 : MethodName := ⟨"java/lang/StringBuilder", "<init>", "()V"⟩
theorem o173 : plainName "java/lang/StringBuilder" = true := by first | (simp [plainName, overriddenIn]; done) | decide +kernel
theorem o825 (hw : o35 a0 Z) (hS : o64 Z wcs) (ad0 : Addr) (h0 : Heap) (n0 : Nat) (O0 : Old Z n0 h0) (pe1 : Exa Z h0 ad0 o70) (pf2 : Fld Z h0 ad0 o10 "coder" "B" (.int 0)) (pf3 : Fld Z h0 ad0 o10 "count" "I" (.int 0)) (pf4 : Fld Z h0 ad0 o10 "value" "[B" .null) (pg_ad0 : n0 ≤ ad0) :
    o21 l o431 jdk_67_method_1_code 1 none ws ⟨2, 1, 16, 25⟩ Z h0 #[.ref ad0] (fun v h L => ∃ nz0 : Addr, ∃ kz1 : ClassId, v = none ∧ Fr n0 L ∧ Keep h0 h [ad0] ∧ h0.size ≤ nz0 ∧ Exa Z h ad0 o70 ∧ Fld Z h ad0 o10 "coder" "B" (.int 0) ∧ Fld Z h ad0 o10 "count" "I" (.int 0) ∧ Fld Z h ad0 o10 "value" "[B" (.ref nz0) ∧ Exa Z h nz0 "[B" ∧ Arv Z h nz0 kz1 .byte 16 [.int 0, .int 0, .int 0, .int 0, .int 0, .int 0, .int 0, .int 0, .int 0, .int 0, .int 0, .int 0, .int 0, .int 0, .int 0, .int 0] (.int 0)) := by
  refine o18 (plainFor_of_name o173) ?_
  intro p e s m below meth c s₁ hx hby hml hown hnm hret hlk hZ e0 X0
  have N0 := Fr.nil n0
  refine o4 (fun u j => castTop (show entryFrame m #[.ref ad0] 1 = mkF m 0 #[o1 ad0] [] from rfl) j) ?_
  refine o4 (fun u j => o3 X0.here hx rfl (hb hby o805) rfl rfl (o34 X0.here hx rfl (hb hby o806) j)) ?_
  refine o17 (o87 X0 hx hZ (y := o830) rfl hown (o2 hw 85 rfl) (o2 hw 86 rfl) (o2 hw 89 rfl) (o2 hw 90 rfl) o24 (o925 hw hS ad0 h0 n0 O0 pe1 pf2 pf3 pf4 pg_ad0) e0 o187 (a := ad0) (argsL := [.int 16]) (rest := []) rfl rfl (g := (mkF m 3 #[o1 ad0] [.int 16, .ref ad0])) rfl (by rw [hml]; rfl) rfl (hb hby o807) (W := 0) rfl) ?_
  intro T440 v440 L440 X440 hQ440
  obtain ⟨nz0_441, kz1_442, rfl, M440, K440, z443, F444, F445, F446, F447, F448, F449⟩ := hQ440
  have N440 := Fr.app N0 M440
  have K450 := (Keep.refl h0 [ad0]).trans K440 (allS (Or.inl (List.mem_of_getElem? (i := 0) rfl)) all0)
  have z451 := Nat.le_trans (Nat.le_refl _) z443
  exact o81 X440 hx hlk hret (hb hby o812) (by decide) (by decide) (by exact ⟨nz0_441, kz1_442, rfl, N440, K450, z451, F444, F445, F446, F447, F448, F449⟩)
theorem o90 : ("java/lang/StringBuilder" : String) ≠ "java/lang/invoke/MethodHandle" ∧ ("java/lang/StringBuilder" : String) ≠ "java/lang/invoke/VarHandle" := by decide +kernel
theorem o476 : decode prog_89_method_5_code 21 = .ok (.aload_n 0, 1) := by decide +kernel
theorem o477 : decode prog_89_method_5_code 22 = .ok (.getfield 13, 3) := by decide +kernel
theorem o478 : decode prog_89_method_5_code 25 = .ok (.invokevirtual 25, 3) := by decide +kernel
theorem o166 : decode jdk_67_method_7_code 0 = .ok (.aload_n 0, 1) := by decide +kernel
theorem o167 : decode jdk_67_method_7_code 1 = .ok (.aload_n 1, 1) := by decide +kernel
theorem o168 : decode jdk_67_method_7_code 2 = .ok (.invokespecial 29, 3) := by decide +kernel
theorem o155 : decode jdk_68_method_22_code 0 = .ok (.aload_n 1, 1) := by decide +kernel
theorem o156 : decode jdk_68_method_22_code 1 = .ok (.ifnonnull 8, 3) := by decide +kernel
theorem o157 : decode jdk_68_method_22_code 9 = .ok (.aload_n 1, 1) := by decide +kernel
theorem o122 : decode jdk_68_method_22_code 10 = .ok (.invokevirtual 32, 3) := by decide +kernel
theorem o302 : decode jdk_42_method_54_code 0 = .ok (.aload_n 0, 1) := by decide +kernel
theorem o303 : decode jdk_42_method_54_code 1 = .ok (.getfield 9, 3) := by decide +kernel
theorem o304 : decode jdk_42_method_54_code 4 = .ok (.arraylength, 1) := by decide +kernel
theorem o305 : decode jdk_42_method_54_code 5 = .ok (.aload_n 0, 1) := by decide +kernel
theorem o306 : decode jdk_42_method_54_code 6 = .ok (.invokevirtual 335, 3) := by decide +kernel
theorem o532 : decode jdk_42_method_152_code 0 = .ok (.getstatic 38, 3) := by decide +kernel
theorem o533 : decode jdk_42_method_152_code 3 = .ok (.ifCond .eq 10, 3) := by decide +kernel
theorem o534 : decode jdk_42_method_152_code 6 = .ok (.aload_n 0, 1) := by decide +kernel
theorem o535 : decode jdk_42_method_152_code 7 = .ok (.getfield 15, 3) := by decide +kernel
theorem o519 : decode jdk_42_method_152_code 10 = .ok (.goto 4, 3) := by decide +kernel
theorem o520 : decode jdk_42_method_152_code 14 = .ok (.ireturn, 1) := by decide +kernel
abbrev o89 : MethodName := ⟨"java/lang/String", "coder", "()B"⟩
theorem o396 (hw : o35 a0 Z) (hS : o64 Z wcs) (ad0 : Addr) (h0 : Heap) (n0 : Nat) (O0 : Old Z n0 h0) (pf2 : Fld Z h0 ad0 o7 "coder" "B" (.int 0)) :
    o21 l o89 jdk_42_method_152_code 1 (some .byte) ws ⟨0, 0, 0, 0⟩ Z h0 #[.ref ad0] (fun v h L => v = some (.int 0) ∧ Fr n0 L ∧ h = h0) := by
  refine o18 (plainFor_of_name o83) ?_
  intro p e s m below meth c s₁ hx hby hml hown hnm hret hlk hZ e0 X0
  have N0 := Fr.nil n0
  refine o4 (fun u j => castTop (show entryFrame m #[.ref ad0] 1 = mkF m 0 #[o1 ad0] [] from rfl) j) ?_
  have F472 := Sta.ext O0.2 hS.1
  refine o22 (getS2 X0 hx hZ hown (host := "") (Or.inl (o2 hw 4 rfl)) Via.refl e0 F472 rfl (hb hby o532)) ?_
  intro T473 X473 e473
  refine o4 (fun u j => o68 X473.here hx rfl (hb hby o533) rfl (o65 hS.2) (o3 X473.here hx rfl (hb hby o534) rfl rfl j)) ?_
  refine o22 (getF X473 hx hZ hown (host := "") (Or.inl (o2 hw 24 rfl)) Via.refl e473 pf2 rfl rfl (hb hby o535)) ?_
  intro T474 X474 e474
  refine o4 (fun u j => o15 X474.here hx rfl (pc0 := 10) (pc' := 14) rfl (hb hby o519) (by decide) (by decide) j) ?_
  exact o69 X474 hx hlk hret rfl (Or.inl ⟨rfl, by simp, _, rfl⟩) (hb hby o520) (by decide) (by decide) (by rw [e474]; exact ⟨rfl, N0, rfl⟩)
theorem o174 : parseMethodDescriptor "()B" = some ⟨[], some .byte⟩ := by decide +kernel
theorem o307 : decode jdk_42_method_54_code 9 = .ok (.ishr, 1) := by decide +kernel
theorem o259 : decode jdk_42_method_54_code 10 = .ok (.ireturn, 1) := by decide +kernel
abbrev o106 : MethodName := ⟨"java/lang/String", "length", "()I"⟩
theorem o691 (hw : o35 a0 Z) (hS : o64 Z wcs) (ad0 ad1 : Addr) (kc2 : ClassId) (iv3 : Int32) (h0 : Heap) (n0 : Nat) (O0 : Old Z n0 h0) (pe1 : Exa Z h0 ad0 o7) (pf2 : Fld Z h0 ad0 o7 "coder" "B" (.int 0)) (pf3 : Fld Z h0 ad0 o7 "value" "[B" (.ref ad1)) (pa5 : Arv Z h0 ad1 kc2 .byte 1 [.int iv3] (.int 0)) :
    o21 l o106 jdk_42_method_54_code 1 (some .int) ws ⟨1, 0, 0, 13⟩ Z h0 #[.ref ad0] (fun v h L => v = some (.int 1) ∧ Fr n0 L ∧ h = h0) := by
  refine o18 (plainFor_of_name o83) ?_
  intro p e s m below meth c s₁ hx hby hml hown hnm hret hlk hZ e0 X0
  have N0 := Fr.nil n0
  refine o4 (fun u j => castTop (show entryFrame m #[.ref ad0] 1 = mkF m 0 #[o1 ad0] [] from rfl) j) ?_
  refine o4 (fun u j => o3 X0.here hx rfl (hb hby o302) rfl rfl j) ?_
  refine o22 (getF X0 hx hZ hown (host := "") (Or.inl (o2 hw 22 rfl)) Via.refl e0 pf3 rfl rfl (hb hby o303)) ?_
  intro T476 X476 e476
  refine o4 (fun u j => o75 X476 hx hZ e476 pa5 rfl rfl (hb hby o304) (o3 X476.here hx rfl (hb hby o305) rfl rfl j)) ?_
  refine o17 (o63 X476 hx hZ (y := o89) (z := o89) hown (o2 hw 112 rfl) (o2 hw 113 rfl) (notFace_of_selects (args := #[]) (mvT hZ (o2 hw 115 rfl))) (o2 hw 115 rfl) (o2 hw 114 rfl) (o2 hw 2 rfl) (o2 hw 116 rfl) o67 (o396 hw hS ad0 h0 n0 O0 pf2) e476 pe1 o174 (argsL := []) (rest := [.int 1]) rfl rfl (g := (mkF m 6 #[o1 ad0] [.ref ad0, .int 1])) rfl (by rw [hml]; rfl) rfl (hb hby o306) (W := 1) rfl) ?_
  intro T478 v478 L478 X478 hQ478
  obtain ⟨rfl, M478, e478⟩ := hQ478
  have N478 := Fr.app N0 M478
  refine o4 (fun u j => XS.ishr X478.here hx rfl (hb hby o307) rfl j) ?_
  exact o69 X478 hx hlk hret rfl (Or.inl ⟨rfl, by simp, _, rfl⟩) (hb hby o259) (by decide) (by decide) (by rw [e478]; exact ⟨rfl, N478, rfl⟩)
theorem o179 : parseMethodDescriptor "()I" = some ⟨[], some .int⟩ := by decide +kernel
theorem o123 : decode jdk_68_method_22_code 13 = .ok (.istore_n 2, 1) := by decide +kernel
theorem o124 : decode jdk_68_method_22_code 14 = .ok (.aload_n 0, 1) := by decide +kernel
theorem o125 : decode jdk_68_method_22_code 15 = .ok (.aload_n 0, 1) := by decide +kernel
theorem o126 : decode jdk_68_method_22_code 16 = .ok (.getfield 79, 3) := by decide +kernel
theorem o127 : decode jdk_68_method_22_code 19 = .ok (.iload_n 2, 1) := by decide +kernel
theorem o128 : decode jdk_68_method_22_code 20 = .ok (.iadd, 1) := by decide +kernel
theorem o129 : decode jdk_68_method_22_code 21 = .ok (.invokevirtual 100, 3) := by decide +kernel
theorem o813 : decode jdk_68_method_9_code 0 = .ok (.aload_n 0, 1) := by decide +kernel
theorem o814 : decode jdk_68_method_9_code 1 = .ok (.getfield 15, 3) := by decide +kernel
theorem o815 : decode jdk_68_method_9_code 4 = .ok (.arraylength, 1) := by decide +kernel
theorem o816 : decode jdk_68_method_9_code 5 = .ok (.aload_n 0, 1) := by decide +kernel
theorem o817 : decode jdk_68_method_9_code 6 = .ok (.getfield 22, 3) := by decide +kernel
theorem o818 : decode jdk_68_method_9_code 9 = .ok (.ishr, 1) := by decide +kernel
theorem o719 : decode jdk_68_method_9_code 10 = .ok (.istore_n 2, 1) := by decide +kernel
theorem o720 : decode jdk_68_method_9_code 11 = .ok (.iload_n 1, 1) := by decide +kernel
theorem o721 : decode jdk_68_method_9_code 12 = .ok (.iload_n 2, 1) := by decide +kernel
theorem o722 : decode jdk_68_method_9_code 13 = .ok (.isub, 1) := by decide +kernel
theorem o723 : decode jdk_68_method_9_code 14 = .ok (.ifCond .le 24, 3) := by decide +kernel
theorem o724 : decode jdk_68_method_9_code 38 = .ok (.return_, 1) := by decide +kernel
abbrev o260 : MethodName := ⟨"java/lang/AbstractStringBuilder", "ensureCapacityInternal", "(I)V"⟩
theorem o459 (hw : o35 a0 Z) (hS : o64 Z wcs) (ad0 : Addr) (iv1 : Int32) (ad2 : Addr) (kc3 : ClassId) (iv4 : Int32) (lv5 : List Value) (h0 : Heap) (n0 : Nat) (O0 : Old Z n0 h0) (pf2 : Fld Z h0 ad0 o10 "coder" "B" (.int 0)) (pf4 : Fld Z h0 ad0 o10 "value" "[B" (.ref ad2)) (pa6 : Arv Z h0 ad2 kc3 .byte iv4 lv5 (.int 0)) (pk_0 : ¬ (0 : Int32) < (iv1 - (iv4 >>> ((0 : Int32) &&& 31)))) :
    o21 l o260 jdk_68_method_9_code 3 none ws ⟨0, 0, 0, 0⟩ Z h0 #[.ref ad0, .int iv1] (fun v h L => v = none ∧ Fr n0 L ∧ h = h0) := by
  refine o18 (plainFor_of_name o100) ?_
  intro p e s m below meth c s₁ hx hby hml hown hnm hret hlk hZ e0 X0
  have N0 := Fr.nil n0
  refine o4 (fun u j => castTop (show entryFrame m #[.ref ad0, .int iv1] 3 = mkF m 0 #[o1 ad0, o0 iv1, o5] [] from rfl) j) ?_
  refine o4 (fun u j => o3 X0.here hx rfl (hb hby o813) rfl rfl j) ?_
  refine o22 (getF X0 hx hZ hown (host := "") (Or.inl (o2 hw 93 rfl)) Via.refl e0 pf4 rfl rfl (hb hby o814)) ?_
  intro T484 X484 e484
  refine o4 (fun u j => o75 X484 hx hZ e484 pa6 rfl rfl (hb hby o815) (o3 X484.here hx rfl (hb hby o816) rfl rfl j)) ?_
  refine o22 (getF X484 hx hZ hown (host := "") (Or.inl (o2 hw 95 rfl)) Via.refl e484 pf2 rfl rfl (hb hby o817)) ?_
  intro T486 X486 e486
  refine o4 (fun u j => XS.ishr X486.here hx rfl (hb hby o818) rfl (o94 X486.here hx rfl (hb hby o719) rfl (l' := #[o1 ad0, o0 iv1, o0 (iv4 >>> ((0 : Int32) &&& 31))]) rfl (o6 X486.here hx rfl (hb hby o720) rfl (o6 X486.here hx rfl (hb hby o721) rfl (XS.isub X486.here hx rfl (hb hby o722) rfl (o88 X486.here hx rfl (pc0 := 14) (pc' := 38) rfl (hb hby o723) rfl (XT.i0_le_t pk_0) (by decide) (by decide) j)))))) ?_
  show o11 p e below _ (T486.setTop (mkF m 38 #[o1 ad0, o0 iv1, o0 (iv4 >>> ((0 : Int32) &&& 31))] []))
  exact o81 X486 hx hlk hret (hb hby o724) (by decide) (by decide) (by rw [e486]; exact ⟨rfl, N0, rfl⟩)
theorem o130 : decode jdk_68_method_22_code 24 = .ok (.aload_n 0, 1) := by decide +kernel
theorem o131 : decode jdk_68_method_22_code 25 = .ok (.aload_n 0, 1) := by decide +kernel
theorem o132 : decode jdk_68_method_22_code 26 = .ok (.getfield 79, 3) := by decide +kernel
theorem o133 : decode jdk_68_method_22_code 29 = .ok (.aload_n 1, 1) := by decide +kernel
theorem o134 : decode jdk_68_method_22_code 30 = .ok (.invokevirtual 208, 3) := by decide +kernel
theorem o158 : decode jdk_68_method_73_code 0 = .ok (.aload_n 0, 1) := by decide +kernel
theorem o159 : decode jdk_68_method_73_code 1 = .ok (.aload_n 2, 1) := by decide +kernel
theorem o160 : decode jdk_68_method_73_code 2 = .ok (.invokevirtual 397, 3) := by decide +kernel
theorem o725 : decode jdk_68_method_71_code 0 = .ok (.getstatic 18, 3) := by decide +kernel
theorem o726 : decode jdk_68_method_71_code 3 = .ok (.ifCond .eq 18, 3) := by decide +kernel
theorem o727 : decode jdk_68_method_71_code 6 = .ok (.aload_n 0, 1) := by decide +kernel
theorem o728 : decode jdk_68_method_71_code 7 = .ok (.getfield 22, 3) := by decide +kernel
theorem o536 : decode jdk_68_method_71_code 10 = .ok (.aload_n 1, 1) := by decide +kernel
theorem o537 : decode jdk_68_method_71_code 11 = .ok (.invokevirtual 40, 3) := by decide +kernel
theorem o538 : decode jdk_68_method_71_code 14 = .ok (.if_icmp .eq 7, 3) := by decide +kernel
theorem o539 : decode jdk_68_method_71_code 21 = .ok (.return_, 1) := by decide +kernel
abbrev o261 : MethodName := ⟨"java/lang/AbstractStringBuilder", "inflateIfNeededFor", "(Ljava/lang/String;)V"⟩
theorem o460 (hw : o35 a0 Z) (hS : o64 Z wcs) (ad0 ad1 : Addr) (h0 : Heap) (n0 : Nat) (O0 : Old Z n0 h0) (pf2 : Fld Z h0 ad0 o10 "coder" "B" (.int 0)) (pe5 : Exa Z h0 ad1 o7) (pf6 : Fld Z h0 ad1 o7 "coder" "B" (.int 0)) :
    o21 l o261 jdk_68_method_71_code 2 none ws ⟨1, 0, 0, 13⟩ Z h0 #[.ref ad0, .ref ad1] (fun v h L => v = none ∧ Fr n0 L ∧ h = h0) := by
  refine o18 (plainFor_of_name o100) ?_
  intro p e s m below meth c s₁ hx hby hml hown hnm hret hlk hZ e0 X0
  have N0 := Fr.nil n0
  refine o4 (fun u j => castTop (show entryFrame m #[.ref ad0, .ref ad1] 2 = mkF m 0 #[o1 ad0, o1 ad1] [] from rfl) j) ?_
  have F493 := Sta.ext O0.2 hS.1
  refine o22 (getS2 X0 hx hZ hown (host := "") (Or.inl (o2 hw 92 rfl)) Via.refl e0 F493 rfl (hb hby o725)) ?_
  intro T494 X494 e494
  refine o4 (fun u j => o68 X494.here hx rfl (hb hby o726) rfl (o65 hS.2) (o3 X494.here hx rfl (hb hby o727) rfl rfl j)) ?_
  refine o22 (getF X494 hx hZ hown (host := "") (Or.inl (o2 hw 95 rfl)) Via.refl e494 pf2 rfl rfl (hb hby o728)) ?_
  intro T495 X495 e495
  refine o4 (fun u j => o3 X495.here hx rfl (hb hby o536) rfl rfl j) ?_
  refine o17 (o63 X495 hx hZ (y := o89) (z := o89) hown (o2 hw 134 rfl) (o2 hw 113 rfl) (notFace_of_selects (args := #[]) (mvT hZ (o2 hw 115 rfl))) (o2 hw 115 rfl) (o2 hw 114 rfl) (o2 hw 2 rfl) (o2 hw 116 rfl) o67 (o396 hw hS ad1 h0 n0 O0 pf6) e495 pe5 o174 (argsL := []) (rest := [.int 0]) rfl rfl (g := (mkF m 11 #[o1 ad0, o1 ad1] [.ref ad1, .int 0])) rfl (by rw [hml]; rfl) rfl (hb hby o537) (W := 1) rfl) ?_
  intro T496 v496 L496 X496 hQ496
  obtain ⟨rfl, M496, e496⟩ := hQ496
  have N496 := Fr.app N0 M496
  refine o4 (fun u j => o13 X496.here hx rfl (pc0 := 14) (pc' := 21) rfl (hb hby o538) rfl (o66 (by decide)) (by decide) (by decide) j) ?_
  exact o81 X496 hx hlk hret (hb hby o539) (by decide) (by decide) (by rw [e496]; exact ⟨rfl, N496, rfl⟩)
theorem o208 : parseMethodDescriptor "(Ljava/lang/String;)V" = some ⟨[(.object "java/lang/String")], none⟩ := by decide +kernel
theorem o161 : decode jdk_68_method_73_code 5 = .ok (.aload_n 2, 1) := by decide +kernel
theorem o162 : decode jdk_68_method_73_code 6 = .ok (.aload_n 0, 1) := by decide +kernel
theorem o163 : decode jdk_68_method_73_code 7 = .ok (.getfield 15, 3) := by decide +kernel
theorem o135 : decode jdk_68_method_73_code 10 = .ok (.iload_n 1, 1) := by decide +kernel
theorem o136 : decode jdk_68_method_73_code 11 = .ok (.aload_n 0, 1) := by decide +kernel
theorem o137 : decode jdk_68_method_73_code 12 = .ok (.getfield 22, 3) := by decide +kernel
theorem o138 : decode jdk_68_method_73_code 15 = .ok (.invokevirtual 399, 3) := by decide +kernel
theorem o139 : decode jdk_42_method_147_code 0 = .ok (.aload_n 0, 1) := by decide +kernel
theorem o140 : decode jdk_42_method_147_code 1 = .ok (.invokevirtual 335, 3) := by decide +kernel
theorem o141 : decode jdk_42_method_147_code 4 = .ok (.iload_n 3, 1) := by decide +kernel
theorem o142 : decode jdk_42_method_147_code 5 = .ok (.if_icmp .ne 23, 3) := by decide +kernel
theorem o143 : decode jdk_42_method_147_code 8 = .ok (.aload_n 0, 1) := by decide +kernel
theorem o144 : decode jdk_42_method_147_code 9 = .ok (.getfield 9, 3) := by decide +kernel
theorem o109 : decode jdk_42_method_147_code 12 = .ok (.iconst 0, 1) := by decide +kernel
theorem o110 : decode jdk_42_method_147_code 13 = .ok (.aload_n 1, 1) := by decide +kernel
theorem o111 : decode jdk_42_method_147_code 14 = .ok (.iload_n 2, 1) := by decide +kernel
theorem o112 : decode jdk_42_method_147_code 15 = .ok (.iload_n 3, 1) := by decide +kernel
theorem o113 : decode jdk_42_method_147_code 16 = .ok (.ishl, 1) := by decide +kernel
theorem o114 : decode jdk_42_method_147_code 17 = .ok (.aload_n 0, 1) := by decide +kernel
theorem o115 : decode jdk_42_method_147_code 18 = .ok (.getfield 9, 3) := by decide +kernel
theorem o116 : decode jdk_42_method_147_code 21 = .ok (.arraylength, 1) := by decide +kernel
theorem o117 : decode jdk_42_method_147_code 22 = .ok (.invokestatic 212, 3) := by decide +kernel
theorem o118 : decode jdk_42_method_147_code 25 = .ok (.goto 18, 3) := by decide +kernel
theorem o119 : decode jdk_42_method_147_code 43 = .ok (.return_, 1) := by decide +kernel
abbrev o97 : MethodName := ⟨"java/lang/String", "getBytes", "([BIB)V"⟩
theorem o926 (hw : o35 a0 Z) (hS : o64 Z wcs) (ad0 ad1 ad2 : Addr) (kc3 : ClassId) (kc4 : ClassId) (iv5 : Int32) (h0 : Heap) (n0 : Nat) (O0 : Old Z n0 h0) (pe1 : Exa Z h0 ad0 o7) (pf2 : Fld Z h0 ad0 o7 "coder" "B" (.int 0)) (pf3 : Fld Z h0 ad0 o7 "value" "[B" (.ref ad2)) (pe4 : Exa Z h0 ad1 "[B") (pa5 : Arv Z h0 ad1 kc3 .byte 16 [.int 0, .int 0, .int 0, .int 0, .int 0, .int 0, .int 0, .int 0, .int 0, .int 0, .int 0, .int 0, .int 0, .int 0, .int 0, .int 0] (.int 0)) (pa7 : Arv Z h0 ad2 kc4 .byte 1 [.int iv5] (.int 0)) (pg_ad1 : n0 ≤ ad1) :
    o21 l o97 jdk_42_method_147_code 4 none ws ⟨1, 0, 0, 27⟩ Z h0 #[.ref ad0, .ref ad1, .int 0, .int 0] (fun v h L => v = none ∧ Fr n0 L ∧ Keep h0 h [ad1] ∧ Exa Z h ad1 "[B" ∧ Arv Z h ad1 kc3 .byte 16 [.int iv5, .int 0, .int 0, .int 0, .int 0, .int 0, .int 0, .int 0, .int 0, .int 0, .int 0, .int 0, .int 0, .int 0, .int 0, .int 0] (.int 0)) := by
  refine o18 (plainFor_of_name o83) ?_
  intro p e s m below meth c s₁ hx hby hml hown hnm hret hlk hZ e0 X0
  have N0 := Fr.nil n0
  refine o4 (fun u j => castTop (show entryFrame m #[.ref ad0, .ref ad1, .int 0, .int 0] 4 = mkF m 0 #[o1 ad0, o1 ad1, o0 0, o0 0] [] from rfl) j) ?_
  refine o4 (fun u j => o3 X0.here hx rfl (hb hby o139) rfl rfl j) ?_
  refine o17 (o63 X0 hx hZ (y := o89) (z := o89) hown (o2 hw 112 rfl) (o2 hw 113 rfl) (notFace_of_selects (args := #[]) (mvT hZ (o2 hw 115 rfl))) (o2 hw 115 rfl) (o2 hw 114 rfl) (o2 hw 2 rfl) (o2 hw 116 rfl) o67 (o396 hw hS ad0 h0 n0 O0 pf2) e0 pe1 o174 (argsL := []) (rest := []) rfl rfl (g := (mkF m 1 #[o1 ad0, o1 ad1, o0 0, o0 0] [.ref ad0])) rfl (by rw [hml]; rfl) rfl (hb hby o140) (W := 0) rfl) ?_
  intro T506 v506 L506 X506 hQ506
  obtain ⟨rfl, M506, e506⟩ := hQ506
  have N506 := Fr.app N0 M506
  refine o4 (fun u j => o6 X506.here hx rfl (hb hby o141) rfl (o14 X506.here hx rfl (hb hby o142) rfl (o93 (by decide)) (o3 X506.here hx rfl (hb hby o143) rfl rfl j))) ?_
  refine o22 (getF X506 hx hZ hown (host := "") (Or.inl (o2 hw 22 rfl)) Via.refl e506 pf3 rfl rfl (hb hby o144)) ?_
  intro T507 X507 e507
  refine o4 (fun u j => o16 X507.here hx rfl (hb hby o109) (o3 X507.here hx rfl (hb hby o110) rfl rfl (o6 X507.here hx rfl (hb hby o111) rfl (o6 X507.here hx rfl (hb hby o112) rfl (XS.ishl X507.here hx rfl (hb hby o113) rfl (o3 X507.here hx rfl (hb hby o114) rfl rfl j)))))) ?_
  show o11 p e below _ (T507.setTop (mkF m 18 #[o1 ad0, o1 ad1, o0 0, o0 0] [.ref ad0, .int 0, .ref ad1, .int 0, .ref ad2]))
  refine o22 (getF X507 hx hZ hown (host := "") (Or.inl (o2 hw 22 rfl)) Via.refl e507 pf3 rfl rfl (hb hby o115)) ?_
  intro T508 X508 e508
  refine o4 (fun u j => o75 X508 hx hZ e508 pa7 rfl rfl (hb hby o116) j) ?_
  have q_ := cpA X508 hx hZ hown (o2 hw 140 rfl) (o2 hw 143 rfl) (o2 hw 141 rfl) (o2 hw 142 rfl) e508 pa7 pa5 (us := [.int iv5]) (Or.inl ⟨rfl, rfl⟩) (by decide) (by decide) (by decide) (by decide) (by decide) rfl (Nat.le_of_ble_eq_true rfl) N506 pg_ad1 (g := (mkF m 22 #[o1 ad0, o1 ad1, o0 0, o0 0] [.int 1, .int 0, .ref ad1, .int 0, .ref ad2])) rfl (by rw [hml]; rfl) rfl (hb hby o117) (by decide) (W := 0) (by show 2 * 0 + _ ≤ _; exact Nat.le_of_eq rfl) (by decide)
  obtain ⟨T510, h510, L510, X510, e510, N510, K510, V510, st510⟩ := q_
  have V511 : Arv Z h510 ad1 kc3 .byte 16 [.int iv5, .int 0, .int 0, .int 0, .int 0, .int 0, .int 0, .int 0, .int 0, .int 0, .int 0, .int 0, .int 0, .int 0, .int 0, .int 0] (.int 0) := V510
  refine o4 (fun u j => st510 u j) ?_
  refine o4 (fun u j => o15 X510.here hx rfl (pc0 := 25) (pc' := 43) rfl (hb hby o118) (by decide) (by decide) j) ?_
  have K512 := (Keep.refl h0 [ad1]).trans K510 (allS (Or.inl (List.mem_of_getElem? (i := 0) rfl)) all0)
  have F513 := (pe4.keep K510)
  exact o81 X510 hx hlk hret (hb hby o119) (by decide) (by decide) (by rw [e510]; exact ⟨rfl, N510, K512, F513, V511⟩)
theorem o209 : parseMethodDescriptor "([BIB)V" = some ⟨[(.array .byte), .int, .byte], none⟩ := by decide +kernel
theorem o145 : decode jdk_68_method_73_code 18 = .ok (.return_, 1) := by decide +kernel
abbrev o154 : MethodName := ⟨"java/lang/AbstractStringBuilder", "putStringAt", "(ILjava/lang/String;)V"⟩
theorem o927 (hw : o35 a0 Z) (hS : o64 Z wcs) (ad0 ad1 : Addr) (ad2 ad3 : Addr) (kc4 : ClassId) (kc5 : ClassId) (iv6 : Int32) (h0 : Heap) (n0 : Nat) (O0 : Old Z n0 h0) (pe1 : Exa Z h0 ad0 o70) (pf2 : Fld Z h0 ad0 o10 "coder" "B" (.int 0)) (pf4 : Fld Z h0 ad0 o10 "value" "[B" (.ref ad2)) (pe5 : Exa Z h0 ad1 o7) (pf6 : Fld Z h0 ad1 o7 "coder" "B" (.int 0)) (pf7 : Fld Z h0 ad1 o7 "value" "[B" (.ref ad3)) (pe8 : Exa Z h0 ad2 "[B") (pa9 : Arv Z h0 ad2 kc4 .byte 16 [.int 0, .int 0, .int 0, .int 0, .int 0, .int 0, .int 0, .int 0, .int 0, .int 0, .int 0, .int 0, .int 0, .int 0, .int 0, .int 0] (.int 0)) (pa11 : Arv Z h0 ad3 kc5 .byte 1 [.int iv6] (.int 0)) (pg_ad2 : n0 ≤ ad2) :
    o21 l o154 jdk_68_method_73_code 3 none ws ⟨2, 0, 0, 42⟩ Z h0 #[.ref ad0, .int 0, .ref ad1] (fun v h L => v = none ∧ Fr n0 L ∧ Keep h0 h [ad2] ∧ Exa Z h ad2 "[B" ∧ Arv Z h ad2 kc4 .byte 16 [.int iv6, .int 0, .int 0, .int 0, .int 0, .int 0, .int 0, .int 0, .int 0, .int 0, .int 0, .int 0, .int 0, .int 0, .int 0, .int 0] (.int 0)) := by
  refine o18 (plainFor_of_name o100) ?_
  intro p e s m below meth c s₁ hx hby hml hown hnm hret hlk hZ e0 X0
  have N0 := Fr.nil n0
  refine o4 (fun u j => castTop (show entryFrame m #[.ref ad0, .int 0, .ref ad1] 3 = mkF m 0 #[o1 ad0, o0 0, o1 ad1] [] from rfl) j) ?_
  refine o4 (fun u j => o3 X0.here hx rfl (hb hby o158) rfl rfl (o3 X0.here hx rfl (hb hby o159) rfl rfl j)) ?_
  refine o17 (o95 X0 hx hZ (y := o261) hown (o2 hw 129 rfl) (o2 hw 130 rfl) (o96 hZ (o2 hw 132 rfl) (o2 hw 131 rfl) (o2 hw 130 rfl) o24) (o2 hw 131 rfl) (o2 hw 89 rfl) (o2 hw 133 rfl) o24 (o460 hw hS ad0 ad1 h0 n0 O0 pf2 pe5 pf6) e0 pe1 o208 (argsL := [.ref ad1]) (rest := []) rfl rfl (g := (mkF m 2 #[o1 ad0, o0 0, o1 ad1] [.ref ad1, .ref ad0])) rfl (by rw [hml]; rfl) rfl (hb hby o160) (W := 0) rfl) ?_
  intro T517 v517 L517 X517 hQ517
  obtain ⟨rfl, M517, e517⟩ := hQ517
  have N517 := Fr.app N0 M517
  refine o4 (fun u j => o3 X517.here hx rfl (hb hby o161) rfl rfl (o3 X517.here hx rfl (hb hby o162) rfl rfl j)) ?_
  refine o22 (getF X517 hx hZ hown (host := "") (Or.inl (o2 hw 93 rfl)) Via.refl e517 pf4 rfl rfl (hb hby o163)) ?_
  intro T518 X518 e518
  refine o4 (fun u j => o6 X518.here hx rfl (hb hby o135) rfl (o3 X518.here hx rfl (hb hby o136) rfl rfl j)) ?_
  refine o22 (getF X518 hx hZ hown (host := "") (Or.inl (o2 hw 95 rfl)) Via.refl e518 pf2 rfl rfl (hb hby o137)) ?_
  intro T519 X519 e519
  refine o17 (o63 X519 hx hZ (y := o97) (z := o97) hown (o2 hw 135 rfl) (o2 hw 136 rfl) (notFace_of_selects (args := #[]) (mvT hZ (o2 hw 138 rfl))) (o2 hw 138 rfl) (o2 hw 137 rfl) (o2 hw 2 rfl) (o2 hw 139 rfl) o67 (o926 hw hS ad1 ad2 ad3 kc4 kc5 iv6 h0 n0 O0 pe5 pf6 pf7 pe8 pa9 pa11 pg_ad2) e519 pe5 o209 (argsL := [.ref ad2, .int 0, .int 0]) (rest := []) rfl rfl (g := (mkF m 15 #[o1 ad0, o0 0, o1 ad1] [.int 0, .int 0, .ref ad2, .ref ad1])) rfl (by rw [hml]; rfl) rfl (hb hby o138) (W := 0) rfl) ?_
  intro T520 v520 L520 X520 hQ520
  obtain ⟨rfl, M520, K520, F521, F522⟩ := hQ520
  have N520 := Fr.app N517 M520
  have K523 := (Keep.refl h0 [ad2]).trans K520 (allS (Or.inl (List.mem_of_getElem? (i := 0) rfl)) all0)
  exact o81 X520 hx hlk hret (hb hby o145) (by decide) (by decide) (by exact ⟨rfl, N520, K523, F521, F522⟩)
theorem o210 : parseMethodDescriptor "(ILjava/lang/String;)V" = some ⟨[.int, (.object "java/lang/String")], none⟩ := by decide +kernel
theorem o146 : decode jdk_68_method_22_code 33 = .ok (.aload_n 0, 1) := by decide +kernel
theorem o147 : decode jdk_68_method_22_code 34 = .ok (.dup, 1) := by decide +kernel
theorem o148 : decode jdk_68_method_22_code 35 = .ok (.getfield 79, 3) := by decide +kernel
theorem o85 : ("java/lang/StringBuilder" : String) ≠ "[B" := by decide +kernel
theorem o149 : decode jdk_68_method_22_code 38 = .ok (.iload_n 2, 1) := by decide +kernel
theorem o150 : decode jdk_68_method_22_code 39 = .ok (.iadd, 1) := by decide +kernel
theorem o151 : decode jdk_68_method_22_code 40 = .ok (.putfield 79, 3) := by decide +kernel
theorem o152 : decode jdk_68_method_22_code 43 = .ok (.aload_n 0, 1) := by decide +kernel
theorem o153 : decode jdk_68_method_22_code 44 = .ok (.areturn, 1) := by decide +kernel
theorem o850 : ("coder" : String) ≠ "count" := by decide +kernel
def o211 {Z : State} {a0 : Array Value} (hw : o35 a0 Z) := slot_ne (Or.inl (o2 hw 96 rfl)) (Or.inl (o2 hw 118 rfl)) o850 (t := .byte) (t' := .int) o92 o120
theorem o851 : ("value" : String) ≠ "count" := by decide +kernel
def o212 {Z : State} {a0 : Array Value} (hw : o35 a0 Z) := slot_ne (Or.inl (o2 hw 94 rfl)) (Or.inl (o2 hw 118 rfl)) o851 (t := (.array .byte)) (t' := .int) o91 o120
abbrev o98 : MethodName := ⟨"java/lang/AbstractStringBuilder", "append", "(Ljava/lang/String;)Ljava/lang/AbstractStringBuilder;"⟩
theorem o928 (hw : o35 a0 Z) (hS : o64 Z wcs) (ad0 ad1 : Addr) (ad2 ad3 : Addr) (kc4 : ClassId) (kc5 : ClassId) (iv6 : Int32) (h0 : Heap) (n0 : Nat) (O0 : Old Z n0 h0) (pe1 : Exa Z h0 ad0 o70) (pf2 : Fld Z h0 ad0 o10 "coder" "B" (.int 0)) (pf3 : Fld Z h0 ad0 o10 "count" "I" (.int 0)) (pf4 : Fld Z h0 ad0 o10 "value" "[B" (.ref ad2)) (pe5 : Exa Z h0 ad1 o7) (pf6 : Fld Z h0 ad1 o7 "coder" "B" (.int 0)) (pf7 : Fld Z h0 ad1 o7 "value" "[B" (.ref ad3)) (pe8 : Exa Z h0 ad2 "[B") (pa9 : Arv Z h0 ad2 kc4 .byte 16 [.int 0, .int 0, .int 0, .int 0, .int 0, .int 0, .int 0, .int 0, .int 0, .int 0, .int 0, .int 0, .int 0, .int 0, .int 0, .int 0] (.int 0)) (pa11 : Arv Z h0 ad3 kc5 .byte 1 [.int iv6] (.int 0)) (pg_ad2 : n0 ≤ ad2) (pg_ad0 : n0 ≤ ad0) :
    o21 l o98 jdk_68_method_22_code 3 (some (.object "java/lang/AbstractStringBuilder")) ws ⟨3, 0, 0, 56⟩ Z h0 #[.ref ad0, .ref ad1] (fun v h L => v = some (.ref ad0) ∧ Fr n0 L ∧ Keep h0 h [ad2, ad0] ∧ Exa Z h ad2 "[B" ∧ Arv Z h ad2 kc4 .byte 16 [.int iv6, .int 0, .int 0, .int 0, .int 0, .int 0, .int 0, .int 0, .int 0, .int 0, .int 0, .int 0, .int 0, .int 0, .int 0, .int 0] (.int 0) ∧ Exa Z h ad0 o70 ∧ Fld Z h ad0 o10 "coder" "B" (.int 0) ∧ Fld Z h ad0 o10 "count" "I" (.int 1) ∧ Fld Z h ad0 o10 "value" "[B" (.ref ad2)) := by
  refine o18 (plainFor_of_name o100) ?_
  intro p e s m below meth c s₁ hx hby hml hown hnm hret hlk hZ e0 X0
  have N0 := Fr.nil n0
  refine o4 (fun u j => castTop (show entryFrame m #[.ref ad0, .ref ad1] 3 = mkF m 0 #[o1 ad0, o1 ad1, o5] [] from rfl) j) ?_
  refine o4 (fun u j => o3 X0.here hx rfl (hb hby o155) rfl rfl (o86 X0.here hx rfl (pc0 := 1) (pc' := 9) rfl (hb hby o156) rfl (by decide) (by decide) (o3 X0.here hx rfl (hb hby o157) rfl rfl j))) ?_
  refine o17 (o63 X0 hx hZ (y := o106) (z := o106) hown (o2 hw 107 rfl) (o2 hw 108 rfl) (notFace_of_selects (args := #[]) (mvT hZ (o2 hw 110 rfl))) (o2 hw 110 rfl) (o2 hw 109 rfl) (o2 hw 2 rfl) (o2 hw 111 rfl) o67 (o691 hw hS ad1 ad3 kc5 iv6 h0 n0 O0 pe5 pf6 pf7 pa11) e0 pe5 o179 (argsL := []) (rest := []) rfl rfl (g := (mkF m 10 #[o1 ad0, o1 ad1, o5] [.ref ad1])) rfl (by rw [hml]; rfl) rfl (hb hby o122) (W := 0) rfl) ?_
  intro T533 v533 L533 X533 hQ533
  obtain ⟨rfl, M533, e533⟩ := hQ533
  have N533 := Fr.app N0 M533
  refine o4 (fun u j => o94 X533.here hx rfl (hb hby o123) rfl (l' := #[o1 ad0, o1 ad1, o0 1]) rfl (o3 X533.here hx rfl (hb hby o124) rfl rfl (o3 X533.here hx rfl (hb hby o125) rfl rfl j))) ?_
  refine o22 (getF X533 hx hZ hown (host := "") (Or.inl (o2 hw 117 rfl)) Via.refl e533 pf3 rfl rfl (hb hby o126)) ?_
  intro T534 X534 e534
  refine o4 (fun u j => o6 X534.here hx rfl (hb hby o127) rfl (o107 X534.here hx rfl (hb hby o128) rfl j)) ?_
  refine o17 (o95 X534 hx hZ (y := o260) hown (o2 hw 119 rfl) (o2 hw 120 rfl) (o96 hZ (o2 hw 122 rfl) (o2 hw 121 rfl) (o2 hw 120 rfl) o24) (o2 hw 121 rfl) (o2 hw 89 rfl) (o2 hw 123 rfl) o24 (o459 hw hS ad0 (1 : Int32) ad2 kc4 (16 : Int32) [.int 0, .int 0, .int 0, .int 0, .int 0, .int 0, .int 0, .int 0, .int 0, .int 0, .int 0, .int 0, .int 0, .int 0, .int 0, .int 0] h0 n0 O0 pf2 pf4 pa9 (by decide)) e534 pe1 o187 (argsL := [.int 1]) (rest := []) rfl rfl (g := (mkF m 21 #[o1 ad0, o1 ad1, o0 1] [.int 1, .ref ad0])) rfl (by rw [hml]; rfl) rfl (hb hby o129) (W := 0) rfl) ?_
  intro T535 v535 L535 X535 hQ535
  obtain ⟨rfl, M535, e535⟩ := hQ535
  have N535 := Fr.app N533 M535
  refine o4 (fun u j => o3 X535.here hx rfl (hb hby o130) rfl rfl (o3 X535.here hx rfl (hb hby o131) rfl rfl j)) ?_
  refine o22 (getF X535 hx hZ hown (host := "") (Or.inl (o2 hw 117 rfl)) Via.refl e535 pf3 rfl rfl (hb hby o132)) ?_
  intro T536 X536 e536
  refine o4 (fun u j => o3 X536.here hx rfl (hb hby o133) rfl rfl j) ?_
  refine o17 (o95 X536 hx hZ (y := o154) hown (o2 hw 124 rfl) (o2 hw 125 rfl) (o96 hZ (o2 hw 127 rfl) (o2 hw 126 rfl) (o2 hw 125 rfl) o24) (o2 hw 126 rfl) (o2 hw 89 rfl) (o2 hw 128 rfl) o24 (o927 hw hS ad0 ad1 ad2 ad3 kc4 kc5 iv6 h0 n0 O0 pe1 pf2 pf4 pe5 pf6 pf7 pe8 pa9 pa11 pg_ad2) e536 pe1 o210 (argsL := [.int 0, .ref ad1]) (rest := []) rfl rfl (g := (mkF m 30 #[o1 ad0, o1 ad1, o0 1] [.ref ad1, .int 0, .ref ad0])) rfl (by rw [hml]; rfl) rfl (hb hby o134) (W := 0) rfl) ?_
  intro T537 v537 L537 X537 hQ537
  obtain ⟨rfl, M537, K537, F538, F539⟩ := hQ537
  have N537 := Fr.app N535 M537
  refine o4 (fun u j => o3 X537.here hx rfl (hb hby o146) rfl rfl (o61 X537.here hx rfl (hb hby o147) rfl rfl j)) ?_
  have ne540 := (ne_exa pe1 pe8 o85)
  have F541 := (pf3.keep K537 (ninS ne540 nin0))
  refine o22 (getF X537 hx hZ hown (host := "") (Or.inl (o2 hw 117 rfl)) Via.refl rfl F541 rfl rfl (hb hby o148)) ?_
  intro T542 X542 e542
  refine o4 (fun u j => o6 X542.here hx rfl (hb hby o149) rfl (o107 X542.here hx rfl (hb hby o150) rfl j)) ?_
  have F543 := (pe1.keep K537)
  refine o32 (putF X542 hx hZ hown (host := "") (Or.inl (o2 hw 117 rfl)) Via.refl e542 F541 F543 (Or.inl (o2 hw 118 rfl)) (o2 hw 80 rfl) (ty := .int) o120 rfl rfl rfl rfl (hb hby o151)) ?_
  intro T544 h544 X544 e544 W544
  have N544 := Fr.snoc X544 N537 pg_ad0
  have F545 : Fld Z h544 ad0 o10 "count" "I" (.int 1) := Fld.same W544 F541
  refine o4 (fun u j => o3 X544.here hx rfl (hb hby o152) rfl rfl j) ?_
  have K546 := (Keep.refl h0 [ad2, ad0]).trans K537 (allS (Or.inl (List.mem_of_getElem? (i := 0) rfl)) all0)
  have K547 := K546.wr W544 (Or.inl (List.mem_of_getElem? (i := 1) rfl))
  have F548 := (Exa.wr W544 F538)
  have F549 := (F539.other W544 (Ne.symm ne540))
  have F550 := (Exa.wr W544 F543)
  have F551 := (Fld.other W544 (pf2.keep K537 (ninS ne540 nin0)) (Or.inr (o211 hw)))
  have F552 := (Fld.other W544 (pf4.keep K537 (ninS ne540 nin0)) (Or.inr (o212 hw)))
  exact o69 X544 hx hlk hret rfl (Or.inr (Or.inr (Or.inr (Or.inr ⟨rfl, rfl, rfl⟩)))) (hb hby o153) (by decide) (by decide) (by rw [e544]; exact ⟨rfl, N544, K547, F548, F549, F550, F551, F545, F552⟩)
theorem o213 : parseMethodDescriptor "(Ljava/lang/String;)Ljava/lang/AbstractStringBuilder;" = some ⟨[(.object "java/lang/String")], some (.object "java/lang/AbstractStringBuilder")⟩ := by decide +kernel
theorem o169 : decode jdk_67_method_7_code 5 = .ok (.pop, 1) := by decide +kernel
theorem o170 : decode jdk_67_method_7_code 6 = .ok (.aload_n 0, 1) := by decide +kernel
theorem o171 : decode jdk_67_method_7_code 7 = .ok (.areturn, 1) := by decide +kernel
abbrev o80 : MethodName := ⟨"java/lang/StringBuilder", "append", "(Ljava/lang/String;)Ljava/lang/StringBuilder;"⟩
theorem o868 (hw : o35 a0 Z) (hS : o64 Z wcs) (ad0 ad1 : Addr) (ad2 ad3 : Addr) (kc4 : ClassId) (kc5 : ClassId) (iv6 : Int32) (h0 : Heap) (n0 : Nat) (O0 : Old Z n0 h0) (pe1 : Exa Z h0 ad0 o70) (pf2 : Fld Z h0 ad0 o10 "coder" "B" (.int 0)) (pf3 : Fld Z h0 ad0 o10 "count" "I" (.int 0)) (pf4 : Fld Z h0 ad0 o10 "value" "[B" (.ref ad2)) (pe5 : Exa Z h0 ad1 o7) (pf6 : Fld Z h0 ad1 o7 "coder" "B" (.int 0)) (pf7 : Fld Z h0 ad1 o7 "value" "[B" (.ref ad3)) (pe8 : Exa Z h0 ad2 "[B") (pa9 : Arv Z h0 ad2 kc4 .byte 16 [.int 0, .int 0, .int 0, .int 0, .int 0, .int 0, .int 0, .int 0, .int 0, .int 0, .int 0, .int 0, .int 0, .int 0, .int 0, .int 0] (.int 0)) (pa11 : Arv Z h0 ad3 kc5 .byte 1 [.int iv6] (.int 0)) (pg_ad2 : n0 ≤ ad2) (pg_ad0 : n0 ≤ ad0) :
    o21 l o80 jdk_67_method_7_code 2 (some (.object "java/lang/StringBuilder")) ws ⟨4, 0, 0, 70⟩ Z h0 #[.ref ad0, .ref ad1] (fun v h L => v = some (.ref ad0) ∧ Fr n0 L ∧ Keep h0 h [ad2, ad0] ∧ Exa Z h ad2 "[B" ∧ Arv Z h ad2 kc4 .byte 16 [.int iv6, .int 0, .int 0, .int 0, .int 0, .int 0, .int 0, .int 0, .int 0, .int 0, .int 0, .int 0, .int 0, .int 0, .int 0, .int 0] (.int 0) ∧ Exa Z h ad0 o70 ∧ Fld Z h ad0 o10 "coder" "B" (.int 0) ∧ Fld Z h ad0 o10 "count" "I" (.int 1) ∧ Fld Z h ad0 o10 "value" "[B" (.ref ad2)) := by
  refine o18 (plainFor_of_name o173) ?_
  intro p e s m below meth c s₁ hx hby hml hown hnm hret hlk hZ e0 X0
  have N0 := Fr.nil n0
  refine o4 (fun u j => castTop (show entryFrame m #[.ref ad0, .ref ad1] 2 = mkF m 0 #[o1 ad0, o1 ad1] [] from rfl) j) ?_
  refine o4 (fun u j => o3 X0.here hx rfl (hb hby o166) rfl rfl (o3 X0.here hx rfl (hb hby o167) rfl rfl j)) ?_
  refine o17 (o186 X0 hx hZ (y := o98) hown (o2 hw 102 rfl) (o321 (y := o98) (o2 hw 122 rfl) rfl (o2 hw 103 rfl) o24) (o2 hw 103 rfl) (o2 hw 104 rfl) (by decide) (o2 hw 89 rfl) (o2 hw 106 rfl) (o928 hw hS ad0 ad1 ad2 ad3 kc4 kc5 iv6 h0 n0 O0 pe1 pf2 pf3 pf4 pe5 pf6 pf7 pe8 pa9 pa11 pg_ad2 pg_ad0) e0 (Ins.self pe1) o213 (argsL := [.ref ad1]) (rest := []) rfl rfl (g := (mkF m 2 #[o1 ad0, o1 ad1] [.ref ad1, .ref ad0])) rfl (by rw [hml]; rfl) rfl (hb hby o168) (W := 0) rfl) ?_
  intro T560 v560 L560 X560 hQ560
  obtain ⟨rfl, M560, K560, F561, F562, F563, F564, F565, F566⟩ := hQ560
  have N560 := Fr.app N0 M560
  refine o4 (fun u j => XS.pop X560.here hx rfl (hb hby o169) rfl rfl (o3 X560.here hx rfl (hb hby o170) rfl rfl j)) ?_
  have K567 := (Keep.refl h0 [ad2, ad0]).trans K560 (allS (Or.inl (List.mem_of_getElem? (i := 0) rfl)) (allS (Or.inl (List.mem_of_getElem? (i := 1) rfl)) all0))
  exact o69 X560 hx hlk hret rfl (Or.inr (Or.inr (Or.inr (Or.inr ⟨rfl, rfl, rfl⟩)))) (hb hby o171) (by decide) (by decide) (by exact ⟨rfl, N560, K567, F561, F562, F563, F564, F565, F566⟩)
theorem o121 : parseMethodDescriptor "(Ljava/lang/String;)Ljava/lang/StringBuilder;" = some ⟨[(.object "java/lang/String")], some (.object "java/lang/StringBuilder")⟩ := by decide +kernel
theorem o479 : decode prog_89_method_5_code 28 = .ok (.ldc 29, 2) := by decide +kernel
theorem o102 : ("java/lang/StringBuilder" : String) ≠ "java/lang/String" := by decide +kernel
theorem o826 : (∀ c ∈ (" '" : String).toList, c.toNat < 256) ∧ (" '" : String).toList.map (fun c => Value.int (Jvm.Lit.byteI c.toNat.toUInt16)) = [.int 32, .int 39] := (by decide)
theorem o480 : decode prog_89_method_5_code 30 = .ok (.invokevirtual 25, 3) := by decide +kernel
theorem o929 (hw : o35 a0 Z) (hS : o64 Z wcs) (ad0 ad1 : Addr) (kc2 : ClassId) (h0 : Heap) (n0 : Nat) (O0 : Old Z n0 h0) (pe1 : Exa Z h0 ad0 o7) (pf2 : Fld Z h0 ad0 o7 "coder" "B" (.int 0)) (pf3 : Fld Z h0 ad0 o7 "value" "[B" (.ref ad1)) (pa4 : Arv Z h0 ad1 kc2 .byte 2 [.int 32, .int 39] (.int 0)) :
    o21 l o106 jdk_42_method_54_code 1 (some .int) ws ⟨1, 0, 0, 13⟩ Z h0 #[.ref ad0] (fun v h L => v = some (.int 2) ∧ Fr n0 L ∧ h = h0) := by
  refine o18 (plainFor_of_name o83) ?_
  intro p e s m below meth c s₁ hx hby hml hown hnm hret hlk hZ e0 X0
  have N0 := Fr.nil n0
  refine o4 (fun u j => castTop (show entryFrame m #[.ref ad0] 1 = mkF m 0 #[o1 ad0] [] from rfl) j) ?_
  refine o4 (fun u j => o3 X0.here hx rfl (hb hby o302) rfl rfl j) ?_
  refine o22 (getF X0 hx hZ hown (host := "") (Or.inl (o2 hw 22 rfl)) Via.refl e0 pf3 rfl rfl (hb hby o303)) ?_
  intro T594 X594 e594
  refine o4 (fun u j => o75 X594 hx hZ e594 pa4 rfl rfl (hb hby o304) (o3 X594.here hx rfl (hb hby o305) rfl rfl j)) ?_
  refine o17 (o63 X594 hx hZ (y := o89) (z := o89) hown (o2 hw 112 rfl) (o2 hw 113 rfl) (notFace_of_selects (args := #[]) (mvT hZ (o2 hw 115 rfl))) (o2 hw 115 rfl) (o2 hw 114 rfl) (o2 hw 2 rfl) (o2 hw 116 rfl) o67 (o396 hw hS ad0 h0 n0 O0 pf2) e594 pe1 o174 (argsL := []) (rest := [.int 2]) rfl rfl (g := (mkF m 6 #[o1 ad0] [.ref ad0, .int 2])) rfl (by rw [hml]; rfl) rfl (hb hby o306) (W := 1) rfl) ?_
  intro T596 v596 L596 X596 hQ596
  obtain ⟨rfl, M596, e596⟩ := hQ596
  have N596 := Fr.app N0 M596
  refine o4 (fun u j => XS.ishr X596.here hx rfl (hb hby o307) rfl j) ?_
  exact o69 X596 hx hlk hret rfl (Or.inl ⟨rfl, by simp, _, rfl⟩) (hb hby o259) (by decide) (by decide) (by rw [e596]; exact ⟨rfl, N596, rfl⟩)
theorem o930 (hw : o35 a0 Z) (hS : o64 Z wcs) (ad0 ad1 ad2 : Addr) (kc3 : ClassId) (iv4 : Int32) (kc5 : ClassId) (h0 : Heap) (n0 : Nat) (O0 : Old Z n0 h0) (pe1 : Exa Z h0 ad0 o7) (pf2 : Fld Z h0 ad0 o7 "coder" "B" (.int 0)) (pf3 : Fld Z h0 ad0 o7 "value" "[B" (.ref ad2)) (pe4 : Exa Z h0 ad1 "[B") (pa5 : Arv Z h0 ad1 kc3 .byte 16 [.int iv4, .int 0, .int 0, .int 0, .int 0, .int 0, .int 0, .int 0, .int 0, .int 0, .int 0, .int 0, .int 0, .int 0, .int 0, .int 0] (.int 0)) (pa6 : Arv Z h0 ad2 kc5 .byte 2 [.int 32, .int 39] (.int 0)) (pg_ad1 : n0 ≤ ad1) :
    o21 l o97 jdk_42_method_147_code 4 none ws ⟨1, 0, 0, 27⟩ Z h0 #[.ref ad0, .ref ad1, .int 1, .int 0] (fun v h L => v = none ∧ Fr n0 L ∧ Keep h0 h [ad1] ∧ Exa Z h ad1 "[B" ∧ Arv Z h ad1 kc3 .byte 16 [.int iv4, .int 32, .int 39, .int 0, .int 0, .int 0, .int 0, .int 0, .int 0, .int 0, .int 0, .int 0, .int 0, .int 0, .int 0, .int 0] (.int 0)) := by
  refine o18 (plainFor_of_name o83) ?_
  intro p e s m below meth c s₁ hx hby hml hown hnm hret hlk hZ e0 X0
  have N0 := Fr.nil n0
  refine o4 (fun u j => castTop (show entryFrame m #[.ref ad0, .ref ad1, .int 1, .int 0] 4 = mkF m 0 #[o1 ad0, o1 ad1, o0 1, o0 0] [] from rfl) j) ?_
  refine o4 (fun u j => o3 X0.here hx rfl (hb hby o139) rfl rfl j) ?_
  refine o17 (o63 X0 hx hZ (y := o89) (z := o89) hown (o2 hw 112 rfl) (o2 hw 113 rfl) (notFace_of_selects (args := #[]) (mvT hZ (o2 hw 115 rfl))) (o2 hw 115 rfl) (o2 hw 114 rfl) (o2 hw 2 rfl) (o2 hw 116 rfl) o67 (o396 hw hS ad0 h0 n0 O0 pf2) e0 pe1 o174 (argsL := []) (rest := []) rfl rfl (g := (mkF m 1 #[o1 ad0, o1 ad1, o0 1, o0 0] [.ref ad0])) rfl (by rw [hml]; rfl) rfl (hb hby o140) (W := 0) rfl) ?_
  intro T610 v610 L610 X610 hQ610
  obtain ⟨rfl, M610, e610⟩ := hQ610
  have N610 := Fr.app N0 M610
  refine o4 (fun u j => o6 X610.here hx rfl (hb hby o141) rfl (o14 X610.here hx rfl (hb hby o142) rfl (o93 (by decide)) (o3 X610.here hx rfl (hb hby o143) rfl rfl j))) ?_
  refine o22 (getF X610 hx hZ hown (host := "") (Or.inl (o2 hw 22 rfl)) Via.refl e610 pf3 rfl rfl (hb hby o144)) ?_
  intro T611 X611 e611
  refine o4 (fun u j => o16 X611.here hx rfl (hb hby o109) (o3 X611.here hx rfl (hb hby o110) rfl rfl (o6 X611.here hx rfl (hb hby o111) rfl (o6 X611.here hx rfl (hb hby o112) rfl (XS.ishl X611.here hx rfl (hb hby o113) rfl (o3 X611.here hx rfl (hb hby o114) rfl rfl j)))))) ?_
  show o11 p e below _ (T611.setTop (mkF m 18 #[o1 ad0, o1 ad1, o0 1, o0 0] [.ref ad0, .int 1, .ref ad1, .int 0, .ref ad2]))
  refine o22 (getF X611 hx hZ hown (host := "") (Or.inl (o2 hw 22 rfl)) Via.refl e611 pf3 rfl rfl (hb hby o115)) ?_
  intro T612 X612 e612
  refine o4 (fun u j => o75 X612 hx hZ e612 pa6 rfl rfl (hb hby o116) j) ?_
  have q_ := cpA X612 hx hZ hown (o2 hw 140 rfl) (o2 hw 143 rfl) (o2 hw 141 rfl) (o2 hw 142 rfl) e612 pa6 pa5 (us := [.int 32, .int 39]) (Or.inl ⟨rfl, rfl⟩) (by decide) (by decide) (by decide) (by decide) (by decide) rfl (Nat.le_of_ble_eq_true rfl) N610 pg_ad1 (g := (mkF m 22 #[o1 ad0, o1 ad1, o0 1, o0 0] [.int 2, .int 1, .ref ad1, .int 0, .ref ad2])) rfl (by rw [hml]; rfl) rfl (hb hby o117) (by decide) (W := 0) (by show 2 * 0 + _ ≤ _; exact Nat.le_of_eq rfl) (by decide)
  obtain ⟨T614, h614, L614, X614, e614, N614, K614, V614, st614⟩ := q_
  have V615 : Arv Z h614 ad1 kc3 .byte 16 [.int iv4, .int 32, .int 39, .int 0, .int 0, .int 0, .int 0, .int 0, .int 0, .int 0, .int 0, .int 0, .int 0, .int 0, .int 0, .int 0] (.int 0) := V614
  refine o4 (fun u j => st614 u j) ?_
  refine o4 (fun u j => o15 X614.here hx rfl (pc0 := 25) (pc' := 43) rfl (hb hby o118) (by decide) (by decide) j) ?_
  have K616 := (Keep.refl h0 [ad1]).trans K614 (allS (Or.inl (List.mem_of_getElem? (i := 0) rfl)) all0)
  have F617 := (pe4.keep K614)
  exact o81 X614 hx hlk hret (hb hby o119) (by decide) (by decide) (by rw [e614]; exact ⟨rfl, N614, K616, F617, V615⟩)
theorem o931 (hw : o35 a0 Z) (hS : o64 Z wcs) (ad0 ad1 : Addr) (ad2 ad3 : Addr) (kc4 : ClassId) (iv5 : Int32) (kc6 : ClassId) (h0 : Heap) (n0 : Nat) (O0 : Old Z n0 h0) (pe1 : Exa Z h0 ad0 o70) (pf2 : Fld Z h0 ad0 o10 "coder" "B" (.int 0)) (pf4 : Fld Z h0 ad0 o10 "value" "[B" (.ref ad2)) (pe5 : Exa Z h0 ad1 o7) (pf6 : Fld Z h0 ad1 o7 "coder" "B" (.int 0)) (pf7 : Fld Z h0 ad1 o7 "value" "[B" (.ref ad3)) (pe8 : Exa Z h0 ad2 "[B") (pa9 : Arv Z h0 ad2 kc4 .byte 16 [.int iv5, .int 0, .int 0, .int 0, .int 0, .int 0, .int 0, .int 0, .int 0, .int 0, .int 0, .int 0, .int 0, .int 0, .int 0, .int 0] (.int 0)) (pa10 : Arv Z h0 ad3 kc6 .byte 2 [.int 32, .int 39] (.int 0)) (pg_ad2 : n0 ≤ ad2) :
    o21 l o154 jdk_68_method_73_code 3 none ws ⟨2, 0, 0, 42⟩ Z h0 #[.ref ad0, .int 1, .ref ad1] (fun v h L => v = none ∧ Fr n0 L ∧ Keep h0 h [ad2] ∧ Exa Z h ad2 "[B" ∧ Arv Z h ad2 kc4 .byte 16 [.int iv5, .int 32, .int 39, .int 0, .int 0, .int 0, .int 0, .int 0, .int 0, .int 0, .int 0, .int 0, .int 0, .int 0, .int 0, .int 0] (.int 0)) := by
  refine o18 (plainFor_of_name o100) ?_
  intro p e s m below meth c s₁ hx hby hml hown hnm hret hlk hZ e0 X0
  have N0 := Fr.nil n0
  refine o4 (fun u j => castTop (show entryFrame m #[.ref ad0, .int 1, .ref ad1] 3 = mkF m 0 #[o1 ad0, o0 1, o1 ad1] [] from rfl) j) ?_
  refine o4 (fun u j => o3 X0.here hx rfl (hb hby o158) rfl rfl (o3 X0.here hx rfl (hb hby o159) rfl rfl j)) ?_
  refine o17 (o95 X0 hx hZ (y := o261) hown (o2 hw 129 rfl) (o2 hw 130 rfl) (o96 hZ (o2 hw 132 rfl) (o2 hw 131 rfl) (o2 hw 130 rfl) o24) (o2 hw 131 rfl) (o2 hw 89 rfl) (o2 hw 133 rfl) o24 (o460 hw hS ad0 ad1 h0 n0 O0 pf2 pe5 pf6) e0 pe1 o208 (argsL := [.ref ad1]) (rest := []) rfl rfl (g := (mkF m 2 #[o1 ad0, o0 1, o1 ad1] [.ref ad1, .ref ad0])) rfl (by rw [hml]; rfl) rfl (hb hby o160) (W := 0) rfl) ?_
  intro T621 v621 L621 X621 hQ621
  obtain ⟨rfl, M621, e621⟩ := hQ621
  have N621 := Fr.app N0 M621
  refine o4 (fun u j => o3 X621.here hx rfl (hb hby o161) rfl rfl (o3 X621.here hx rfl (hb hby o162) rfl rfl j)) ?_
  refine o22 (getF X621 hx hZ hown (host := "") (Or.inl (o2 hw 93 rfl)) Via.refl e621 pf4 rfl rfl (hb hby o163)) ?_
  intro T622 X622 e622
  refine o4 (fun u j => o6 X622.here hx rfl (hb hby o135) rfl (o3 X622.here hx rfl (hb hby o136) rfl rfl j)) ?_
  refine o22 (getF X622 hx hZ hown (host := "") (Or.inl (o2 hw 95 rfl)) Via.refl e622 pf2 rfl rfl (hb hby o137)) ?_
  intro T623 X623 e623
  refine o17 (o63 X623 hx hZ (y := o97) (z := o97) hown (o2 hw 135 rfl) (o2 hw 136 rfl) (notFace_of_selects (args := #[]) (mvT hZ (o2 hw 138 rfl))) (o2 hw 138 rfl) (o2 hw 137 rfl) (o2 hw 2 rfl) (o2 hw 139 rfl) o67 (o930 hw hS ad1 ad2 ad3 kc4 iv5 kc6 h0 n0 O0 pe5 pf6 pf7 pe8 pa9 pa10 pg_ad2) e623 pe5 o209 (argsL := [.ref ad2, .int 1, .int 0]) (rest := []) rfl rfl (g := (mkF m 15 #[o1 ad0, o0 1, o1 ad1] [.int 0, .int 1, .ref ad2, .ref ad1])) rfl (by rw [hml]; rfl) rfl (hb hby o138) (W := 0) rfl) ?_
  intro T624 v624 L624 X624 hQ624
  obtain ⟨rfl, M624, K624, F625, F626⟩ := hQ624
  have N624 := Fr.app N621 M624
  have K627 := (Keep.refl h0 [ad2]).trans K624 (allS (Or.inl (List.mem_of_getElem? (i := 0) rfl)) all0)
  exact o81 X624 hx hlk hret (hb hby o145) (by decide) (by decide) (by exact ⟨rfl, N624, K627, F625, F626⟩)
theorem o932 (hw : o35 a0 Z) (hS : o64 Z wcs) (ad0 ad1 : Addr) (ad2 ad3 : Addr) (kc4 : ClassId) (iv5 : Int32) (kc6 : ClassId) (h0 : Heap) (n0 : Nat) (O0 : Old Z n0 h0) (pe1 : Exa Z h0 ad0 o70) (pf2 : Fld Z h0 ad0 o10 "coder" "B" (.int 0)) (pf3 : Fld Z h0 ad0 o10 "count" "I" (.int 1)) (pf4 : Fld Z h0 ad0 o10 "value" "[B" (.ref ad2)) (pe5 : Exa Z h0 ad1 o7) (pf6 : Fld Z h0 ad1 o7 "coder" "B" (.int 0)) (pf7 : Fld Z h0 ad1 o7 "value" "[B" (.ref ad3)) (pe8 : Exa Z h0 ad2 "[B") (pa9 : Arv Z h0 ad2 kc4 .byte 16 [.int iv5, .int 0, .int 0, .int 0, .int 0, .int 0, .int 0, .int 0, .int 0, .int 0, .int 0, .int 0, .int 0, .int 0, .int 0, .int 0] (.int 0)) (pa10 : Arv Z h0 ad3 kc6 .byte 2 [.int 32, .int 39] (.int 0)) (pg_ad2 : n0 ≤ ad2) (pg_ad0 : n0 ≤ ad0) :
    o21 l o98 jdk_68_method_22_code 3 (some (.object "java/lang/AbstractStringBuilder")) ws ⟨3, 0, 0, 56⟩ Z h0 #[.ref ad0, .ref ad1] (fun v h L => v = some (.ref ad0) ∧ Fr n0 L ∧ Keep h0 h [ad2, ad0] ∧ Exa Z h ad2 "[B" ∧ Arv Z h ad2 kc4 .byte 16 [.int iv5, .int 32, .int 39, .int 0, .int 0, .int 0, .int 0, .int 0, .int 0, .int 0, .int 0, .int 0, .int 0, .int 0, .int 0, .int 0] (.int 0) ∧ Exa Z h ad0 o70 ∧ Fld Z h ad0 o10 "coder" "B" (.int 0) ∧ Fld Z h ad0 o10 "count" "I" (.int 3) ∧ Fld Z h ad0 o10 "value" "[B" (.ref ad2)) := by
  refine o18 (plainFor_of_name o100) ?_
  intro p e s m below meth c s₁ hx hby hml hown hnm hret hlk hZ e0 X0
  have N0 := Fr.nil n0
  refine o4 (fun u j => castTop (show entryFrame m #[.ref ad0, .ref ad1] 3 = mkF m 0 #[o1 ad0, o1 ad1, o5] [] from rfl) j) ?_
  refine o4 (fun u j => o3 X0.here hx rfl (hb hby o155) rfl rfl (o86 X0.here hx rfl (pc0 := 1) (pc' := 9) rfl (hb hby o156) rfl (by decide) (by decide) (o3 X0.here hx rfl (hb hby o157) rfl rfl j))) ?_
  refine o17 (o63 X0 hx hZ (y := o106) (z := o106) hown (o2 hw 107 rfl) (o2 hw 108 rfl) (notFace_of_selects (args := #[]) (mvT hZ (o2 hw 110 rfl))) (o2 hw 110 rfl) (o2 hw 109 rfl) (o2 hw 2 rfl) (o2 hw 111 rfl) o67 (o929 hw hS ad1 ad3 kc6 h0 n0 O0 pe5 pf6 pf7 pa10) e0 pe5 o179 (argsL := []) (rest := []) rfl rfl (g := (mkF m 10 #[o1 ad0, o1 ad1, o5] [.ref ad1])) rfl (by rw [hml]; rfl) rfl (hb hby o122) (W := 0) rfl) ?_
  intro T637 v637 L637 X637 hQ637
  obtain ⟨rfl, M637, e637⟩ := hQ637
  have N637 := Fr.app N0 M637
  refine o4 (fun u j => o94 X637.here hx rfl (hb hby o123) rfl (l' := #[o1 ad0, o1 ad1, o0 2]) rfl (o3 X637.here hx rfl (hb hby o124) rfl rfl (o3 X637.here hx rfl (hb hby o125) rfl rfl j))) ?_
  refine o22 (getF X637 hx hZ hown (host := "") (Or.inl (o2 hw 117 rfl)) Via.refl e637 pf3 rfl rfl (hb hby o126)) ?_
  intro T638 X638 e638
  refine o4 (fun u j => o6 X638.here hx rfl (hb hby o127) rfl (o107 X638.here hx rfl (hb hby o128) rfl j)) ?_
  refine o17 (o95 X638 hx hZ (y := o260) hown (o2 hw 119 rfl) (o2 hw 120 rfl) (o96 hZ (o2 hw 122 rfl) (o2 hw 121 rfl) (o2 hw 120 rfl) o24) (o2 hw 121 rfl) (o2 hw 89 rfl) (o2 hw 123 rfl) o24 (o459 hw hS ad0 (3 : Int32) ad2 kc4 (16 : Int32) [.int iv5, .int 0, .int 0, .int 0, .int 0, .int 0, .int 0, .int 0, .int 0, .int 0, .int 0, .int 0, .int 0, .int 0, .int 0, .int 0] h0 n0 O0 pf2 pf4 pa9 (by decide)) e638 pe1 o187 (argsL := [.int 3]) (rest := []) rfl rfl (g := (mkF m 21 #[o1 ad0, o1 ad1, o0 2] [.int 3, .ref ad0])) rfl (by rw [hml]; rfl) rfl (hb hby o129) (W := 0) rfl) ?_
  intro T639 v639 L639 X639 hQ639
  obtain ⟨rfl, M639, e639⟩ := hQ639
  have N639 := Fr.app N637 M639
  refine o4 (fun u j => o3 X639.here hx rfl (hb hby o130) rfl rfl (o3 X639.here hx rfl (hb hby o131) rfl rfl j)) ?_
  refine o22 (getF X639 hx hZ hown (host := "") (Or.inl (o2 hw 117 rfl)) Via.refl e639 pf3 rfl rfl (hb hby o132)) ?_
  intro T640 X640 e640
  refine o4 (fun u j => o3 X640.here hx rfl (hb hby o133) rfl rfl j) ?_
  refine o17 (o95 X640 hx hZ (y := o154) hown (o2 hw 124 rfl) (o2 hw 125 rfl) (o96 hZ (o2 hw 127 rfl) (o2 hw 126 rfl) (o2 hw 125 rfl) o24) (o2 hw 126 rfl) (o2 hw 89 rfl) (o2 hw 128 rfl) o24 (o931 hw hS ad0 ad1 ad2 ad3 kc4 iv5 kc6 h0 n0 O0 pe1 pf2 pf4 pe5 pf6 pf7 pe8 pa9 pa10 pg_ad2) e640 pe1 o210 (argsL := [.int 1, .ref ad1]) (rest := []) rfl rfl (g := (mkF m 30 #[o1 ad0, o1 ad1, o0 2] [.ref ad1, .int 1, .ref ad0])) rfl (by rw [hml]; rfl) rfl (hb hby o134) (W := 0) rfl) ?_
  intro T641 v641 L641 X641 hQ641
  obtain ⟨rfl, M641, K641, F642, F643⟩ := hQ641
  have N641 := Fr.app N639 M641
  refine o4 (fun u j => o3 X641.here hx rfl (hb hby o146) rfl rfl (o61 X641.here hx rfl (hb hby o147) rfl rfl j)) ?_
  have ne644 := (ne_exa pe1 pe8 o85)
  have F645 := (pf3.keep K641 (ninS ne644 nin0))
  refine o22 (getF X641 hx hZ hown (host := "") (Or.inl (o2 hw 117 rfl)) Via.refl rfl F645 rfl rfl (hb hby o148)) ?_
  intro T646 X646 e646
  refine o4 (fun u j => o6 X646.here hx rfl (hb hby o149) rfl (o107 X646.here hx rfl (hb hby o150) rfl j)) ?_
  have F647 := (pe1.keep K641)
  refine o32 (putF X646 hx hZ hown (host := "") (Or.inl (o2 hw 117 rfl)) Via.refl e646 F645 F647 (Or.inl (o2 hw 118 rfl)) (o2 hw 80 rfl) (ty := .int) o120 rfl rfl rfl rfl (hb hby o151)) ?_
  intro T648 h648 X648 e648 W648
  have N648 := Fr.snoc X648 N641 pg_ad0
  have F649 : Fld Z h648 ad0 o10 "count" "I" (.int 3) := Fld.same W648 F645
  refine o4 (fun u j => o3 X648.here hx rfl (hb hby o152) rfl rfl j) ?_
  have K650 := (Keep.refl h0 [ad2, ad0]).trans K641 (allS (Or.inl (List.mem_of_getElem? (i := 0) rfl)) all0)
  have K651 := K650.wr W648 (Or.inl (List.mem_of_getElem? (i := 1) rfl))
  have F652 := (Exa.wr W648 F642)
  have F653 := (F643.other W648 (Ne.symm ne644))
  have F654 := (Exa.wr W648 F647)
  have F655 := (Fld.other W648 (pf2.keep K641 (ninS ne644 nin0)) (Or.inr (o211 hw)))
  have F656 := (Fld.other W648 (pf4.keep K641 (ninS ne644 nin0)) (Or.inr (o212 hw)))
  exact o69 X648 hx hlk hret rfl (Or.inr (Or.inr (Or.inr (Or.inr ⟨rfl, rfl, rfl⟩)))) (hb hby o153) (by decide) (by decide) (by rw [e648]; exact ⟨rfl, N648, K651, F652, F653, F654, F655, F649, F656⟩)
theorem o869 (hw : o35 a0 Z) (hS : o64 Z wcs) (ad0 ad1 : Addr) (ad2 ad3 : Addr) (kc4 : ClassId) (iv5 : Int32) (kc6 : ClassId) (h0 : Heap) (n0 : Nat) (O0 : Old Z n0 h0) (pe1 : Exa Z h0 ad0 o70) (pf2 : Fld Z h0 ad0 o10 "coder" "B" (.int 0)) (pf3 : Fld Z h0 ad0 o10 "count" "I" (.int 1)) (pf4 : Fld Z h0 ad0 o10 "value" "[B" (.ref ad2)) (pe5 : Exa Z h0 ad1 o7) (pf6 : Fld Z h0 ad1 o7 "coder" "B" (.int 0)) (pf7 : Fld Z h0 ad1 o7 "value" "[B" (.ref ad3)) (pe8 : Exa Z h0 ad2 "[B") (pa9 : Arv Z h0 ad2 kc4 .byte 16 [.int iv5, .int 0, .int 0, .int 0, .int 0, .int 0, .int 0, .int 0, .int 0, .int 0, .int 0, .int 0, .int 0, .int 0, .int 0, .int 0] (.int 0)) (pa10 : Arv Z h0 ad3 kc6 .byte 2 [.int 32, .int 39] (.int 0)) (pg_ad2 : n0 ≤ ad2) (pg_ad0 : n0 ≤ ad0) :
    o21 l o80 jdk_67_method_7_code 2 (some (.object "java/lang/StringBuilder")) ws ⟨4, 0, 0, 70⟩ Z h0 #[.ref ad0, .ref ad1] (fun v h L => v = some (.ref ad0) ∧ Fr n0 L ∧ Keep h0 h [ad2, ad0] ∧ Exa Z h ad2 "[B" ∧ Arv Z h ad2 kc4 .byte 16 [.int iv5, .int 32, .int 39, .int 0, .int 0, .int 0, .int 0, .int 0, .int 0, .int 0, .int 0, .int 0, .int 0, .int 0, .int 0, .int 0] (.int 0) ∧ Exa Z h ad0 o70 ∧ Fld Z h ad0 o10 "coder" "B" (.int 0) ∧ Fld Z h ad0 o10 "count" "I" (.int 3) ∧ Fld Z h ad0 o10 "value" "[B" (.ref ad2)) := by
  refine o18 (plainFor_of_name o173) ?_
  intro p e s m below meth c s₁ hx hby hml hown hnm hret hlk hZ e0 X0
  have N0 := Fr.nil n0
  refine o4 (fun u j => castTop (show entryFrame m #[.ref ad0, .ref ad1] 2 = mkF m 0 #[o1 ad0, o1 ad1] [] from rfl) j) ?_
  refine o4 (fun u j => o3 X0.here hx rfl (hb hby o166) rfl rfl (o3 X0.here hx rfl (hb hby o167) rfl rfl j)) ?_
  refine o17 (o186 X0 hx hZ (y := o98) hown (o2 hw 102 rfl) (o321 (y := o98) (o2 hw 122 rfl) rfl (o2 hw 103 rfl) o24) (o2 hw 103 rfl) (o2 hw 104 rfl) (by decide) (o2 hw 89 rfl) (o2 hw 106 rfl) (o932 hw hS ad0 ad1 ad2 ad3 kc4 iv5 kc6 h0 n0 O0 pe1 pf2 pf3 pf4 pe5 pf6 pf7 pe8 pa9 pa10 pg_ad2 pg_ad0) e0 (Ins.self pe1) o213 (argsL := [.ref ad1]) (rest := []) rfl rfl (g := (mkF m 2 #[o1 ad0, o1 ad1] [.ref ad1, .ref ad0])) rfl (by rw [hml]; rfl) rfl (hb hby o168) (W := 0) rfl) ?_
  intro T664 v664 L664 X664 hQ664
  obtain ⟨rfl, M664, K664, F665, F666, F667, F668, F669, F670⟩ := hQ664
  have N664 := Fr.app N0 M664
  refine o4 (fun u j => XS.pop X664.here hx rfl (hb hby o169) rfl rfl (o3 X664.here hx rfl (hb hby o170) rfl rfl j)) ?_
  have K671 := (Keep.refl h0 [ad2, ad0]).trans K664 (allS (Or.inl (List.mem_of_getElem? (i := 0) rfl)) (allS (Or.inl (List.mem_of_getElem? (i := 1) rfl)) all0))
  exact o69 X664 hx hlk hret rfl (Or.inr (Or.inr (Or.inr (Or.inr ⟨rfl, rfl, rfl⟩)))) (hb hby o171) (by decide) (by decide) (by exact ⟨rfl, N664, K671, F665, F666, F667, F668, F669, F670⟩)
theorem o481 : decode prog_89_method_5_code 33 = .ok (.aload_n 0, 1) := by decide +kernel
theorem o482 : decode prog_89_method_5_code 34 = .ok (.getfield 16, 3) := by decide +kernel
theorem o483 : decode prog_89_method_5_code 37 = .ok (.invokevirtual 25, 3) := by decide +kernel
theorem o933 (hw : o35 a0 Z) (hS : o64 Z wcs) (ad0 ad1 ad2 : Addr) (kc3 : ClassId) (iv4 : Int32) (kc5 : ClassId) (iv6 : Int32) (h0 : Heap) (n0 : Nat) (O0 : Old Z n0 h0) (pe1 : Exa Z h0 ad0 o7) (pf2 : Fld Z h0 ad0 o7 "coder" "B" (.int 0)) (pf3 : Fld Z h0 ad0 o7 "value" "[B" (.ref ad2)) (pe4 : Exa Z h0 ad1 "[B") (pa5 : Arv Z h0 ad1 kc3 .byte 16 [.int iv4, .int 32, .int 39, .int 0, .int 0, .int 0, .int 0, .int 0, .int 0, .int 0, .int 0, .int 0, .int 0, .int 0, .int 0, .int 0] (.int 0)) (pa7 : Arv Z h0 ad2 kc5 .byte 1 [.int iv6] (.int 0)) (pg_ad1 : n0 ≤ ad1) :
    o21 l o97 jdk_42_method_147_code 4 none ws ⟨1, 0, 0, 27⟩ Z h0 #[.ref ad0, .ref ad1, .int 3, .int 0] (fun v h L => v = none ∧ Fr n0 L ∧ Keep h0 h [ad1] ∧ Exa Z h ad1 "[B" ∧ Arv Z h ad1 kc3 .byte 16 [.int iv4, .int 32, .int 39, .int iv6, .int 0, .int 0, .int 0, .int 0, .int 0, .int 0, .int 0, .int 0, .int 0, .int 0, .int 0, .int 0] (.int 0)) := by
  refine o18 (plainFor_of_name o83) ?_
  intro p e s m below meth c s₁ hx hby hml hown hnm hret hlk hZ e0 X0
  have N0 := Fr.nil n0
  refine o4 (fun u j => castTop (show entryFrame m #[.ref ad0, .ref ad1, .int 3, .int 0] 4 = mkF m 0 #[o1 ad0, o1 ad1, o0 3, o0 0] [] from rfl) j) ?_
  refine o4 (fun u j => o3 X0.here hx rfl (hb hby o139) rfl rfl j) ?_
  refine o17 (o63 X0 hx hZ (y := o89) (z := o89) hown (o2 hw 112 rfl) (o2 hw 113 rfl) (notFace_of_selects (args := #[]) (mvT hZ (o2 hw 115 rfl))) (o2 hw 115 rfl) (o2 hw 114 rfl) (o2 hw 2 rfl) (o2 hw 116 rfl) o67 (o396 hw hS ad0 h0 n0 O0 pf2) e0 pe1 o174 (argsL := []) (rest := []) rfl rfl (g := (mkF m 1 #[o1 ad0, o1 ad1, o0 3, o0 0] [.ref ad0])) rfl (by rw [hml]; rfl) rfl (hb hby o140) (W := 0) rfl) ?_
  intro T703 v703 L703 X703 hQ703
  obtain ⟨rfl, M703, e703⟩ := hQ703
  have N703 := Fr.app N0 M703
  refine o4 (fun u j => o6 X703.here hx rfl (hb hby o141) rfl (o14 X703.here hx rfl (hb hby o142) rfl (o93 (by decide)) (o3 X703.here hx rfl (hb hby o143) rfl rfl j))) ?_
  refine o22 (getF X703 hx hZ hown (host := "") (Or.inl (o2 hw 22 rfl)) Via.refl e703 pf3 rfl rfl (hb hby o144)) ?_
  intro T704 X704 e704
  refine o4 (fun u j => o16 X704.here hx rfl (hb hby o109) (o3 X704.here hx rfl (hb hby o110) rfl rfl (o6 X704.here hx rfl (hb hby o111) rfl (o6 X704.here hx rfl (hb hby o112) rfl (XS.ishl X704.here hx rfl (hb hby o113) rfl (o3 X704.here hx rfl (hb hby o114) rfl rfl j)))))) ?_
  show o11 p e below _ (T704.setTop (mkF m 18 #[o1 ad0, o1 ad1, o0 3, o0 0] [.ref ad0, .int 3, .ref ad1, .int 0, .ref ad2]))
  refine o22 (getF X704 hx hZ hown (host := "") (Or.inl (o2 hw 22 rfl)) Via.refl e704 pf3 rfl rfl (hb hby o115)) ?_
  intro T705 X705 e705
  refine o4 (fun u j => o75 X705 hx hZ e705 pa7 rfl rfl (hb hby o116) j) ?_
  have q_ := cpA X705 hx hZ hown (o2 hw 140 rfl) (o2 hw 143 rfl) (o2 hw 141 rfl) (o2 hw 142 rfl) e705 pa7 pa5 (us := [.int iv6]) (Or.inl ⟨rfl, rfl⟩) (by decide) (by decide) (by decide) (by decide) (by decide) rfl (Nat.le_of_ble_eq_true rfl) N703 pg_ad1 (g := (mkF m 22 #[o1 ad0, o1 ad1, o0 3, o0 0] [.int 1, .int 3, .ref ad1, .int 0, .ref ad2])) rfl (by rw [hml]; rfl) rfl (hb hby o117) (by decide) (W := 0) (by show 2 * 0 + _ ≤ _; exact Nat.le_of_eq rfl) (by decide)
  obtain ⟨T707, h707, L707, X707, e707, N707, K707, V707, st707⟩ := q_
  have V708 : Arv Z h707 ad1 kc3 .byte 16 [.int iv4, .int 32, .int 39, .int iv6, .int 0, .int 0, .int 0, .int 0, .int 0, .int 0, .int 0, .int 0, .int 0, .int 0, .int 0, .int 0] (.int 0) := V707
  refine o4 (fun u j => st707 u j) ?_
  refine o4 (fun u j => o15 X707.here hx rfl (pc0 := 25) (pc' := 43) rfl (hb hby o118) (by decide) (by decide) j) ?_
  have K709 := (Keep.refl h0 [ad1]).trans K707 (allS (Or.inl (List.mem_of_getElem? (i := 0) rfl)) all0)
  have F710 := (pe4.keep K707)
  exact o81 X707 hx hlk hret (hb hby o119) (by decide) (by decide) (by rw [e707]; exact ⟨rfl, N707, K709, F710, V708⟩)
theorem o934 (hw : o35 a0 Z) (hS : o64 Z wcs) (ad0 ad1 : Addr) (ad2 ad3 : Addr) (kc4 : ClassId) (iv5 : Int32) (kc6 : ClassId) (iv7 : Int32) (h0 : Heap) (n0 : Nat) (O0 : Old Z n0 h0) (pe1 : Exa Z h0 ad0 o70) (pf2 : Fld Z h0 ad0 o10 "coder" "B" (.int 0)) (pf4 : Fld Z h0 ad0 o10 "value" "[B" (.ref ad2)) (pe5 : Exa Z h0 ad1 o7) (pf6 : Fld Z h0 ad1 o7 "coder" "B" (.int 0)) (pf7 : Fld Z h0 ad1 o7 "value" "[B" (.ref ad3)) (pe8 : Exa Z h0 ad2 "[B") (pa9 : Arv Z h0 ad2 kc4 .byte 16 [.int iv5, .int 32, .int 39, .int 0, .int 0, .int 0, .int 0, .int 0, .int 0, .int 0, .int 0, .int 0, .int 0, .int 0, .int 0, .int 0] (.int 0)) (pa11 : Arv Z h0 ad3 kc6 .byte 1 [.int iv7] (.int 0)) (pg_ad2 : n0 ≤ ad2) :
    o21 l o154 jdk_68_method_73_code 3 none ws ⟨2, 0, 0, 42⟩ Z h0 #[.ref ad0, .int 3, .ref ad1] (fun v h L => v = none ∧ Fr n0 L ∧ Keep h0 h [ad2] ∧ Exa Z h ad2 "[B" ∧ Arv Z h ad2 kc4 .byte 16 [.int iv5, .int 32, .int 39, .int iv7, .int 0, .int 0, .int 0, .int 0, .int 0, .int 0, .int 0, .int 0, .int 0, .int 0, .int 0, .int 0] (.int 0)) := by
  refine o18 (plainFor_of_name o100) ?_
  intro p e s m below meth c s₁ hx hby hml hown hnm hret hlk hZ e0 X0
  have N0 := Fr.nil n0
  refine o4 (fun u j => castTop (show entryFrame m #[.ref ad0, .int 3, .ref ad1] 3 = mkF m 0 #[o1 ad0, o0 3, o1 ad1] [] from rfl) j) ?_
  refine o4 (fun u j => o3 X0.here hx rfl (hb hby o158) rfl rfl (o3 X0.here hx rfl (hb hby o159) rfl rfl j)) ?_
  refine o17 (o95 X0 hx hZ (y := o261) hown (o2 hw 129 rfl) (o2 hw 130 rfl) (o96 hZ (o2 hw 132 rfl) (o2 hw 131 rfl) (o2 hw 130 rfl) o24) (o2 hw 131 rfl) (o2 hw 89 rfl) (o2 hw 133 rfl) o24 (o460 hw hS ad0 ad1 h0 n0 O0 pf2 pe5 pf6) e0 pe1 o208 (argsL := [.ref ad1]) (rest := []) rfl rfl (g := (mkF m 2 #[o1 ad0, o0 3, o1 ad1] [.ref ad1, .ref ad0])) rfl (by rw [hml]; rfl) rfl (hb hby o160) (W := 0) rfl) ?_
  intro T714 v714 L714 X714 hQ714
  obtain ⟨rfl, M714, e714⟩ := hQ714
  have N714 := Fr.app N0 M714
  refine o4 (fun u j => o3 X714.here hx rfl (hb hby o161) rfl rfl (o3 X714.here hx rfl (hb hby o162) rfl rfl j)) ?_
  refine o22 (getF X714 hx hZ hown (host := "") (Or.inl (o2 hw 93 rfl)) Via.refl e714 pf4 rfl rfl (hb hby o163)) ?_
  intro T715 X715 e715
  refine o4 (fun u j => o6 X715.here hx rfl (hb hby o135) rfl (o3 X715.here hx rfl (hb hby o136) rfl rfl j)) ?_
  refine o22 (getF X715 hx hZ hown (host := "") (Or.inl (o2 hw 95 rfl)) Via.refl e715 pf2 rfl rfl (hb hby o137)) ?_
  intro T716 X716 e716
  refine o17 (o63 X716 hx hZ (y := o97) (z := o97) hown (o2 hw 135 rfl) (o2 hw 136 rfl) (notFace_of_selects (args := #[]) (mvT hZ (o2 hw 138 rfl))) (o2 hw 138 rfl) (o2 hw 137 rfl) (o2 hw 2 rfl) (o2 hw 139 rfl) o67 (o933 hw hS ad1 ad2 ad3 kc4 iv5 kc6 iv7 h0 n0 O0 pe5 pf6 pf7 pe8 pa9 pa11 pg_ad2) e716 pe5 o209 (argsL := [.ref ad2, .int 3, .int 0]) (rest := []) rfl rfl (g := (mkF m 15 #[o1 ad0, o0 3, o1 ad1] [.int 0, .int 3, .ref ad2, .ref ad1])) rfl (by rw [hml]; rfl) rfl (hb hby o138) (W := 0) rfl) ?_
  intro T717 v717 L717 X717 hQ717
  obtain ⟨rfl, M717, K717, F718, F719⟩ := hQ717
  have N717 := Fr.app N714 M717
  have K720 := (Keep.refl h0 [ad2]).trans K717 (allS (Or.inl (List.mem_of_getElem? (i := 0) rfl)) all0)
  exact o81 X717 hx hlk hret (hb hby o145) (by decide) (by decide) (by exact ⟨rfl, N717, K720, F718, F719⟩)
theorem o935 (hw : o35 a0 Z) (hS : o64 Z wcs) (ad0 ad1 : Addr) (ad2 ad3 : Addr) (kc4 : ClassId) (iv5 : Int32) (kc6 : ClassId) (iv7 : Int32) (h0 : Heap) (n0 : Nat) (O0 : Old Z n0 h0) (pe1 : Exa Z h0 ad0 o70) (pf2 : Fld Z h0 ad0 o10 "coder" "B" (.int 0)) (pf3 : Fld Z h0 ad0 o10 "count" "I" (.int 3)) (pf4 : Fld Z h0 ad0 o10 "value" "[B" (.ref ad2)) (pe5 : Exa Z h0 ad1 o7) (pf6 : Fld Z h0 ad1 o7 "coder" "B" (.int 0)) (pf7 : Fld Z h0 ad1 o7 "value" "[B" (.ref ad3)) (pe8 : Exa Z h0 ad2 "[B") (pa9 : Arv Z h0 ad2 kc4 .byte 16 [.int iv5, .int 32, .int 39, .int 0, .int 0, .int 0, .int 0, .int 0, .int 0, .int 0, .int 0, .int 0, .int 0, .int 0, .int 0, .int 0] (.int 0)) (pa11 : Arv Z h0 ad3 kc6 .byte 1 [.int iv7] (.int 0)) (pg_ad2 : n0 ≤ ad2) (pg_ad0 : n0 ≤ ad0) :
    o21 l o98 jdk_68_method_22_code 3 (some (.object "java/lang/AbstractStringBuilder")) ws ⟨3, 0, 0, 56⟩ Z h0 #[.ref ad0, .ref ad1] (fun v h L => v = some (.ref ad0) ∧ Fr n0 L ∧ Keep h0 h [ad2, ad0] ∧ Exa Z h ad2 "[B" ∧ Arv Z h ad2 kc4 .byte 16 [.int iv5, .int 32, .int 39, .int iv7, .int 0, .int 0, .int 0, .int 0, .int 0, .int 0, .int 0, .int 0, .int 0, .int 0, .int 0, .int 0] (.int 0) ∧ Exa Z h ad0 o70 ∧ Fld Z h ad0 o10 "coder" "B" (.int 0) ∧ Fld Z h ad0 o10 "count" "I" (.int 4) ∧ Fld Z h ad0 o10 "value" "[B" (.ref ad2)) := by
  refine o18 (plainFor_of_name o100) ?_
  intro p e s m below meth c s₁ hx hby hml hown hnm hret hlk hZ e0 X0
  have N0 := Fr.nil n0
  refine o4 (fun u j => castTop (show entryFrame m #[.ref ad0, .ref ad1] 3 = mkF m 0 #[o1 ad0, o1 ad1, o5] [] from rfl) j) ?_
  refine o4 (fun u j => o3 X0.here hx rfl (hb hby o155) rfl rfl (o86 X0.here hx rfl (pc0 := 1) (pc' := 9) rfl (hb hby o156) rfl (by decide) (by decide) (o3 X0.here hx rfl (hb hby o157) rfl rfl j))) ?_
  refine o17 (o63 X0 hx hZ (y := o106) (z := o106) hown (o2 hw 107 rfl) (o2 hw 108 rfl) (notFace_of_selects (args := #[]) (mvT hZ (o2 hw 110 rfl))) (o2 hw 110 rfl) (o2 hw 109 rfl) (o2 hw 2 rfl) (o2 hw 111 rfl) o67 (o691 hw hS ad1 ad3 kc6 iv7 h0 n0 O0 pe5 pf6 pf7 pa11) e0 pe5 o179 (argsL := []) (rest := []) rfl rfl (g := (mkF m 10 #[o1 ad0, o1 ad1, o5] [.ref ad1])) rfl (by rw [hml]; rfl) rfl (hb hby o122) (W := 0) rfl) ?_
  intro T730 v730 L730 X730 hQ730
  obtain ⟨rfl, M730, e730⟩ := hQ730
  have N730 := Fr.app N0 M730
  refine o4 (fun u j => o94 X730.here hx rfl (hb hby o123) rfl (l' := #[o1 ad0, o1 ad1, o0 1]) rfl (o3 X730.here hx rfl (hb hby o124) rfl rfl (o3 X730.here hx rfl (hb hby o125) rfl rfl j))) ?_
  refine o22 (getF X730 hx hZ hown (host := "") (Or.inl (o2 hw 117 rfl)) Via.refl e730 pf3 rfl rfl (hb hby o126)) ?_
  intro T731 X731 e731
  refine o4 (fun u j => o6 X731.here hx rfl (hb hby o127) rfl (o107 X731.here hx rfl (hb hby o128) rfl j)) ?_
  refine o17 (o95 X731 hx hZ (y := o260) hown (o2 hw 119 rfl) (o2 hw 120 rfl) (o96 hZ (o2 hw 122 rfl) (o2 hw 121 rfl) (o2 hw 120 rfl) o24) (o2 hw 121 rfl) (o2 hw 89 rfl) (o2 hw 123 rfl) o24 (o459 hw hS ad0 (4 : Int32) ad2 kc4 (16 : Int32) [.int iv5, .int 32, .int 39, .int 0, .int 0, .int 0, .int 0, .int 0, .int 0, .int 0, .int 0, .int 0, .int 0, .int 0, .int 0, .int 0] h0 n0 O0 pf2 pf4 pa9 (by decide)) e731 pe1 o187 (argsL := [.int 4]) (rest := []) rfl rfl (g := (mkF m 21 #[o1 ad0, o1 ad1, o0 1] [.int 4, .ref ad0])) rfl (by rw [hml]; rfl) rfl (hb hby o129) (W := 0) rfl) ?_
  intro T732 v732 L732 X732 hQ732
  obtain ⟨rfl, M732, e732⟩ := hQ732
  have N732 := Fr.app N730 M732
  refine o4 (fun u j => o3 X732.here hx rfl (hb hby o130) rfl rfl (o3 X732.here hx rfl (hb hby o131) rfl rfl j)) ?_
  refine o22 (getF X732 hx hZ hown (host := "") (Or.inl (o2 hw 117 rfl)) Via.refl e732 pf3 rfl rfl (hb hby o132)) ?_
  intro T733 X733 e733
  refine o4 (fun u j => o3 X733.here hx rfl (hb hby o133) rfl rfl j) ?_
  refine o17 (o95 X733 hx hZ (y := o154) hown (o2 hw 124 rfl) (o2 hw 125 rfl) (o96 hZ (o2 hw 127 rfl) (o2 hw 126 rfl) (o2 hw 125 rfl) o24) (o2 hw 126 rfl) (o2 hw 89 rfl) (o2 hw 128 rfl) o24 (o934 hw hS ad0 ad1 ad2 ad3 kc4 iv5 kc6 iv7 h0 n0 O0 pe1 pf2 pf4 pe5 pf6 pf7 pe8 pa9 pa11 pg_ad2) e733 pe1 o210 (argsL := [.int 3, .ref ad1]) (rest := []) rfl rfl (g := (mkF m 30 #[o1 ad0, o1 ad1, o0 1] [.ref ad1, .int 3, .ref ad0])) rfl (by rw [hml]; rfl) rfl (hb hby o134) (W := 0) rfl) ?_
  intro T734 v734 L734 X734 hQ734
  obtain ⟨rfl, M734, K734, F735, F736⟩ := hQ734
  have N734 := Fr.app N732 M734
  refine o4 (fun u j => o3 X734.here hx rfl (hb hby o146) rfl rfl (o61 X734.here hx rfl (hb hby o147) rfl rfl j)) ?_
  have ne737 := (ne_exa pe1 pe8 o85)
  have F738 := (pf3.keep K734 (ninS ne737 nin0))
  refine o22 (getF X734 hx hZ hown (host := "") (Or.inl (o2 hw 117 rfl)) Via.refl rfl F738 rfl rfl (hb hby o148)) ?_
  intro T739 X739 e739
  refine o4 (fun u j => o6 X739.here hx rfl (hb hby o149) rfl (o107 X739.here hx rfl (hb hby o150) rfl j)) ?_
  have F740 := (pe1.keep K734)
  refine o32 (putF X739 hx hZ hown (host := "") (Or.inl (o2 hw 117 rfl)) Via.refl e739 F738 F740 (Or.inl (o2 hw 118 rfl)) (o2 hw 80 rfl) (ty := .int) o120 rfl rfl rfl rfl (hb hby o151)) ?_
  intro T741 h741 X741 e741 W741
  have N741 := Fr.snoc X741 N734 pg_ad0
  have F742 : Fld Z h741 ad0 o10 "count" "I" (.int 4) := Fld.same W741 F738
  refine o4 (fun u j => o3 X741.here hx rfl (hb hby o152) rfl rfl j) ?_
  have K743 := (Keep.refl h0 [ad2, ad0]).trans K734 (allS (Or.inl (List.mem_of_getElem? (i := 0) rfl)) all0)
  have K744 := K743.wr W741 (Or.inl (List.mem_of_getElem? (i := 1) rfl))
  have F745 := (Exa.wr W741 F735)
  have F746 := (F736.other W741 (Ne.symm ne737))
  have F747 := (Exa.wr W741 F740)
  have F748 := (Fld.other W741 (pf2.keep K734 (ninS ne737 nin0)) (Or.inr (o211 hw)))
  have F749 := (Fld.other W741 (pf4.keep K734 (ninS ne737 nin0)) (Or.inr (o212 hw)))
  exact o69 X741 hx hlk hret rfl (Or.inr (Or.inr (Or.inr (Or.inr ⟨rfl, rfl, rfl⟩)))) (hb hby o153) (by decide) (by decide) (by rw [e741]; exact ⟨rfl, N741, K744, F745, F746, F747, F748, F742, F749⟩)
theorem o870 (hw : o35 a0 Z) (hS : o64 Z wcs) (ad0 ad1 : Addr) (ad2 ad3 : Addr) (kc4 : ClassId) (iv5 : Int32) (kc6 : ClassId) (iv7 : Int32) (h0 : Heap) (n0 : Nat) (O0 : Old Z n0 h0) (pe1 : Exa Z h0 ad0 o70) (pf2 : Fld Z h0 ad0 o10 "coder" "B" (.int 0)) (pf3 : Fld Z h0 ad0 o10 "count" "I" (.int 3)) (pf4 : Fld Z h0 ad0 o10 "value" "[B" (.ref ad2)) (pe5 : Exa Z h0 ad1 o7) (pf6 : Fld Z h0 ad1 o7 "coder" "B" (.int 0)) (pf7 : Fld Z h0 ad1 o7 "value" "[B" (.ref ad3)) (pe8 : Exa Z h0 ad2 "[B") (pa9 : Arv Z h0 ad2 kc4 .byte 16 [.int iv5, .int 32, .int 39, .int 0, .int 0, .int 0, .int 0, .int 0, .int 0, .int 0, .int 0, .int 0, .int 0, .int 0, .int 0, .int 0] (.int 0)) (pa11 : Arv Z h0 ad3 kc6 .byte 1 [.int iv7] (.int 0)) (pg_ad2 : n0 ≤ ad2) (pg_ad0 : n0 ≤ ad0) :
    o21 l o80 jdk_67_method_7_code 2 (some (.object "java/lang/StringBuilder")) ws ⟨4, 0, 0, 70⟩ Z h0 #[.ref ad0, .ref ad1] (fun v h L => v = some (.ref ad0) ∧ Fr n0 L ∧ Keep h0 h [ad2, ad0] ∧ Exa Z h ad2 "[B" ∧ Arv Z h ad2 kc4 .byte 16 [.int iv5, .int 32, .int 39, .int iv7, .int 0, .int 0, .int 0, .int 0, .int 0, .int 0, .int 0, .int 0, .int 0, .int 0, .int 0, .int 0] (.int 0) ∧ Exa Z h ad0 o70 ∧ Fld Z h ad0 o10 "coder" "B" (.int 0) ∧ Fld Z h ad0 o10 "count" "I" (.int 4) ∧ Fld Z h ad0 o10 "value" "[B" (.ref ad2)) := by
  refine o18 (plainFor_of_name o173) ?_
  intro p e s m below meth c s₁ hx hby hml hown hnm hret hlk hZ e0 X0
  have N0 := Fr.nil n0
  refine o4 (fun u j => castTop (show entryFrame m #[.ref ad0, .ref ad1] 2 = mkF m 0 #[o1 ad0, o1 ad1] [] from rfl) j) ?_
  refine o4 (fun u j => o3 X0.here hx rfl (hb hby o166) rfl rfl (o3 X0.here hx rfl (hb hby o167) rfl rfl j)) ?_
  refine o17 (o186 X0 hx hZ (y := o98) hown (o2 hw 102 rfl) (o321 (y := o98) (o2 hw 122 rfl) rfl (o2 hw 103 rfl) o24) (o2 hw 103 rfl) (o2 hw 104 rfl) (by decide) (o2 hw 89 rfl) (o2 hw 106 rfl) (o935 hw hS ad0 ad1 ad2 ad3 kc4 iv5 kc6 iv7 h0 n0 O0 pe1 pf2 pf3 pf4 pe5 pf6 pf7 pe8 pa9 pa11 pg_ad2 pg_ad0) e0 (Ins.self pe1) o213 (argsL := [.ref ad1]) (rest := []) rfl rfl (g := (mkF m 2 #[o1 ad0, o1 ad1] [.ref ad1, .ref ad0])) rfl (by rw [hml]; rfl) rfl (hb hby o168) (W := 0) rfl) ?_
  intro T757 v757 L757 X757 hQ757
  obtain ⟨rfl, M757, K757, F758, F759, F760, F761, F762, F763⟩ := hQ757
  have N757 := Fr.app N0 M757
  refine o4 (fun u j => XS.pop X757.here hx rfl (hb hby o169) rfl rfl (o3 X757.here hx rfl (hb hby o170) rfl rfl j)) ?_
  have K764 := (Keep.refl h0 [ad2, ad0]).trans K757 (allS (Or.inl (List.mem_of_getElem? (i := 0) rfl)) (allS (Or.inl (List.mem_of_getElem? (i := 1) rfl)) all0))
  exact o69 X757 hx hlk hret rfl (Or.inr (Or.inr (Or.inr (Or.inr ⟨rfl, rfl, rfl⟩)))) (hb hby o171) (by decide) (by decide) (by exact ⟨rfl, N757, K764, F758, F759, F760, F761, F762, F763⟩)
theorem o484 : decode prog_89_method_5_code 40 = .ok (.ldc 31, 2) := by decide +kernel
theorem o506 : (∀ c ∈ ("'" : String).toList, c.toNat < 256) ∧ ("'" : String).toList.map (fun c => Value.int (Jvm.Lit.byteI c.toNat.toUInt16)) = [.int 39] := (by decide)
theorem o485 : decode prog_89_method_5_code 42 = .ok (.invokevirtual 25, 3) := by decide +kernel
theorem o936 (hw : o35 a0 Z) (hS : o64 Z wcs) (ad0 ad1 ad2 : Addr) (kc3 : ClassId) (iv4 iv5 : Int32) (kc6 : ClassId) (h0 : Heap) (n0 : Nat) (O0 : Old Z n0 h0) (pe1 : Exa Z h0 ad0 o7) (pf2 : Fld Z h0 ad0 o7 "coder" "B" (.int 0)) (pf3 : Fld Z h0 ad0 o7 "value" "[B" (.ref ad2)) (pe4 : Exa Z h0 ad1 "[B") (pa5 : Arv Z h0 ad1 kc3 .byte 16 [.int iv4, .int 32, .int 39, .int iv5, .int 0, .int 0, .int 0, .int 0, .int 0, .int 0, .int 0, .int 0, .int 0, .int 0, .int 0, .int 0] (.int 0)) (pa6 : Arv Z h0 ad2 kc6 .byte 1 [.int 39] (.int 0)) (pg_ad1 : n0 ≤ ad1) :
    o21 l o97 jdk_42_method_147_code 4 none ws ⟨1, 0, 0, 27⟩ Z h0 #[.ref ad0, .ref ad1, .int 4, .int 0] (fun v h L => v = none ∧ Fr n0 L ∧ Keep h0 h [ad1] ∧ Exa Z h ad1 "[B" ∧ Arv Z h ad1 kc3 .byte 16 [.int iv4, .int 32, .int 39, .int iv5, .int 39, .int 0, .int 0, .int 0, .int 0, .int 0, .int 0, .int 0, .int 0, .int 0, .int 0, .int 0] (.int 0)) := by
  refine o18 (plainFor_of_name o83) ?_
  intro p e s m below meth c s₁ hx hby hml hown hnm hret hlk hZ e0 X0
  have N0 := Fr.nil n0
  refine o4 (fun u j => castTop (show entryFrame m #[.ref ad0, .ref ad1, .int 4, .int 0] 4 = mkF m 0 #[o1 ad0, o1 ad1, o0 4, o0 0] [] from rfl) j) ?_
  refine o4 (fun u j => o3 X0.here hx rfl (hb hby o139) rfl rfl j) ?_
  refine o17 (o63 X0 hx hZ (y := o89) (z := o89) hown (o2 hw 112 rfl) (o2 hw 113 rfl) (notFace_of_selects (args := #[]) (mvT hZ (o2 hw 115 rfl))) (o2 hw 115 rfl) (o2 hw 114 rfl) (o2 hw 2 rfl) (o2 hw 116 rfl) o67 (o396 hw hS ad0 h0 n0 O0 pf2) e0 pe1 o174 (argsL := []) (rest := []) rfl rfl (g := (mkF m 1 #[o1 ad0, o1 ad1, o0 4, o0 0] [.ref ad0])) rfl (by rw [hml]; rfl) rfl (hb hby o140) (W := 0) rfl) ?_
  intro T803 v803 L803 X803 hQ803
  obtain ⟨rfl, M803, e803⟩ := hQ803
  have N803 := Fr.app N0 M803
  refine o4 (fun u j => o6 X803.here hx rfl (hb hby o141) rfl (o14 X803.here hx rfl (hb hby o142) rfl (o93 (by decide)) (o3 X803.here hx rfl (hb hby o143) rfl rfl j))) ?_
  refine o22 (getF X803 hx hZ hown (host := "") (Or.inl (o2 hw 22 rfl)) Via.refl e803 pf3 rfl rfl (hb hby o144)) ?_
  intro T804 X804 e804
  refine o4 (fun u j => o16 X804.here hx rfl (hb hby o109) (o3 X804.here hx rfl (hb hby o110) rfl rfl (o6 X804.here hx rfl (hb hby o111) rfl (o6 X804.here hx rfl (hb hby o112) rfl (XS.ishl X804.here hx rfl (hb hby o113) rfl (o3 X804.here hx rfl (hb hby o114) rfl rfl j)))))) ?_
  show o11 p e below _ (T804.setTop (mkF m 18 #[o1 ad0, o1 ad1, o0 4, o0 0] [.ref ad0, .int 4, .ref ad1, .int 0, .ref ad2]))
  refine o22 (getF X804 hx hZ hown (host := "") (Or.inl (o2 hw 22 rfl)) Via.refl e804 pf3 rfl rfl (hb hby o115)) ?_
  intro T805 X805 e805
  refine o4 (fun u j => o75 X805 hx hZ e805 pa6 rfl rfl (hb hby o116) j) ?_
  have q_ := cpA X805 hx hZ hown (o2 hw 140 rfl) (o2 hw 143 rfl) (o2 hw 141 rfl) (o2 hw 142 rfl) e805 pa6 pa5 (us := [.int 39]) (Or.inl ⟨rfl, rfl⟩) (by decide) (by decide) (by decide) (by decide) (by decide) rfl (Nat.le_of_ble_eq_true rfl) N803 pg_ad1 (g := (mkF m 22 #[o1 ad0, o1 ad1, o0 4, o0 0] [.int 1, .int 4, .ref ad1, .int 0, .ref ad2])) rfl (by rw [hml]; rfl) rfl (hb hby o117) (by decide) (W := 0) (by show 2 * 0 + _ ≤ _; exact Nat.le_of_eq rfl) (by decide)
  obtain ⟨T807, h807, L807, X807, e807, N807, K807, V807, st807⟩ := q_
  have V808 : Arv Z h807 ad1 kc3 .byte 16 [.int iv4, .int 32, .int 39, .int iv5, .int 39, .int 0, .int 0, .int 0, .int 0, .int 0, .int 0, .int 0, .int 0, .int 0, .int 0, .int 0] (.int 0) := V807
  refine o4 (fun u j => st807 u j) ?_
  refine o4 (fun u j => o15 X807.here hx rfl (pc0 := 25) (pc' := 43) rfl (hb hby o118) (by decide) (by decide) j) ?_
  have K809 := (Keep.refl h0 [ad1]).trans K807 (allS (Or.inl (List.mem_of_getElem? (i := 0) rfl)) all0)
  have F810 := (pe4.keep K807)
  exact o81 X807 hx hlk hret (hb hby o119) (by decide) (by decide) (by rw [e807]; exact ⟨rfl, N807, K809, F810, V808⟩)
theorem o937 (hw : o35 a0 Z) (hS : o64 Z wcs) (ad0 ad1 : Addr) (ad2 ad3 : Addr) (kc4 : ClassId) (iv5 iv6 : Int32) (kc7 : ClassId) (h0 : Heap) (n0 : Nat) (O0 : Old Z n0 h0) (pe1 : Exa Z h0 ad0 o70) (pf2 : Fld Z h0 ad0 o10 "coder" "B" (.int 0)) (pf4 : Fld Z h0 ad0 o10 "value" "[B" (.ref ad2)) (pe5 : Exa Z h0 ad1 o7) (pf6 : Fld Z h0 ad1 o7 "coder" "B" (.int 0)) (pf7 : Fld Z h0 ad1 o7 "value" "[B" (.ref ad3)) (pe8 : Exa Z h0 ad2 "[B") (pa9 : Arv Z h0 ad2 kc4 .byte 16 [.int iv5, .int 32, .int 39, .int iv6, .int 0, .int 0, .int 0, .int 0, .int 0, .int 0, .int 0, .int 0, .int 0, .int 0, .int 0, .int 0] (.int 0)) (pa10 : Arv Z h0 ad3 kc7 .byte 1 [.int 39] (.int 0)) (pg_ad2 : n0 ≤ ad2) :
    o21 l o154 jdk_68_method_73_code 3 none ws ⟨2, 0, 0, 42⟩ Z h0 #[.ref ad0, .int 4, .ref ad1] (fun v h L => v = none ∧ Fr n0 L ∧ Keep h0 h [ad2] ∧ Exa Z h ad2 "[B" ∧ Arv Z h ad2 kc4 .byte 16 [.int iv5, .int 32, .int 39, .int iv6, .int 39, .int 0, .int 0, .int 0, .int 0, .int 0, .int 0, .int 0, .int 0, .int 0, .int 0, .int 0] (.int 0)) := by
  refine o18 (plainFor_of_name o100) ?_
  intro p e s m below meth c s₁ hx hby hml hown hnm hret hlk hZ e0 X0
  have N0 := Fr.nil n0
  refine o4 (fun u j => castTop (show entryFrame m #[.ref ad0, .int 4, .ref ad1] 3 = mkF m 0 #[o1 ad0, o0 4, o1 ad1] [] from rfl) j) ?_
  refine o4 (fun u j => o3 X0.here hx rfl (hb hby o158) rfl rfl (o3 X0.here hx rfl (hb hby o159) rfl rfl j)) ?_
  refine o17 (o95 X0 hx hZ (y := o261) hown (o2 hw 129 rfl) (o2 hw 130 rfl) (o96 hZ (o2 hw 132 rfl) (o2 hw 131 rfl) (o2 hw 130 rfl) o24) (o2 hw 131 rfl) (o2 hw 89 rfl) (o2 hw 133 rfl) o24 (o460 hw hS ad0 ad1 h0 n0 O0 pf2 pe5 pf6) e0 pe1 o208 (argsL := [.ref ad1]) (rest := []) rfl rfl (g := (mkF m 2 #[o1 ad0, o0 4, o1 ad1] [.ref ad1, .ref ad0])) rfl (by rw [hml]; rfl) rfl (hb hby o160) (W := 0) rfl) ?_
  intro T814 v814 L814 X814 hQ814
  obtain ⟨rfl, M814, e814⟩ := hQ814
  have N814 := Fr.app N0 M814
  refine o4 (fun u j => o3 X814.here hx rfl (hb hby o161) rfl rfl (o3 X814.here hx rfl (hb hby o162) rfl rfl j)) ?_
  refine o22 (getF X814 hx hZ hown (host := "") (Or.inl (o2 hw 93 rfl)) Via.refl e814 pf4 rfl rfl (hb hby o163)) ?_
  intro T815 X815 e815
  refine o4 (fun u j => o6 X815.here hx rfl (hb hby o135) rfl (o3 X815.here hx rfl (hb hby o136) rfl rfl j)) ?_
  refine o22 (getF X815 hx hZ hown (host := "") (Or.inl (o2 hw 95 rfl)) Via.refl e815 pf2 rfl rfl (hb hby o137)) ?_
  intro T816 X816 e816
  refine o17 (o63 X816 hx hZ (y := o97) (z := o97) hown (o2 hw 135 rfl) (o2 hw 136 rfl) (notFace_of_selects (args := #[]) (mvT hZ (o2 hw 138 rfl))) (o2 hw 138 rfl) (o2 hw 137 rfl) (o2 hw 2 rfl) (o2 hw 139 rfl) o67 (o936 hw hS ad1 ad2 ad3 kc4 iv5 iv6 kc7 h0 n0 O0 pe5 pf6 pf7 pe8 pa9 pa10 pg_ad2) e816 pe5 o209 (argsL := [.ref ad2, .int 4, .int 0]) (rest := []) rfl rfl (g := (mkF m 15 #[o1 ad0, o0 4, o1 ad1] [.int 0, .int 4, .ref ad2, .ref ad1])) rfl (by rw [hml]; rfl) rfl (hb hby o138) (W := 0) rfl) ?_
  intro T817 v817 L817 X817 hQ817
  obtain ⟨rfl, M817, K817, F818, F819⟩ := hQ817
  have N817 := Fr.app N814 M817
  have K820 := (Keep.refl h0 [ad2]).trans K817 (allS (Or.inl (List.mem_of_getElem? (i := 0) rfl)) all0)
  exact o81 X817 hx hlk hret (hb hby o145) (by decide) (by decide) (by exact ⟨rfl, N817, K820, F818, F819⟩)
theorem o938 (hw : o35 a0 Z) (hS : o64 Z wcs) (ad0 ad1 : Addr) (ad2 ad3 : Addr) (kc4 : ClassId) (iv5 iv6 : Int32) (kc7 : ClassId) (h0 : Heap) (n0 : Nat) (O0 : Old Z n0 h0) (pe1 : Exa Z h0 ad0 o70) (pf2 : Fld Z h0 ad0 o10 "coder" "B" (.int 0)) (pf3 : Fld Z h0 ad0 o10 "count" "I" (.int 4)) (pf4 : Fld Z h0 ad0 o10 "value" "[B" (.ref ad2)) (pe5 : Exa Z h0 ad1 o7) (pf6 : Fld Z h0 ad1 o7 "coder" "B" (.int 0)) (pf7 : Fld Z h0 ad1 o7 "value" "[B" (.ref ad3)) (pe8 : Exa Z h0 ad2 "[B") (pa9 : Arv Z h0 ad2 kc4 .byte 16 [.int iv5, .int 32, .int 39, .int iv6, .int 0, .int 0, .int 0, .int 0, .int 0, .int 0, .int 0, .int 0, .int 0, .int 0, .int 0, .int 0] (.int 0)) (pa10 : Arv Z h0 ad3 kc7 .byte 1 [.int 39] (.int 0)) (pg_ad2 : n0 ≤ ad2) (pg_ad0 : n0 ≤ ad0) :
    o21 l o98 jdk_68_method_22_code 3 (some (.object "java/lang/AbstractStringBuilder")) ws ⟨3, 0, 0, 56⟩ Z h0 #[.ref ad0, .ref ad1] (fun v h L => v = some (.ref ad0) ∧ Fr n0 L ∧ Keep h0 h [ad2, ad0] ∧ Exa Z h ad2 "[B" ∧ Arv Z h ad2 kc4 .byte 16 [.int iv5, .int 32, .int 39, .int iv6, .int 39, .int 0, .int 0, .int 0, .int 0, .int 0, .int 0, .int 0, .int 0, .int 0, .int 0, .int 0] (.int 0) ∧ Exa Z h ad0 o70 ∧ Fld Z h ad0 o10 "coder" "B" (.int 0) ∧ Fld Z h ad0 o10 "count" "I" (.int 5) ∧ Fld Z h ad0 o10 "value" "[B" (.ref ad2)) := by
  refine o18 (plainFor_of_name o100) ?_
  intro p e s m below meth c s₁ hx hby hml hown hnm hret hlk hZ e0 X0
  have N0 := Fr.nil n0
  refine o4 (fun u j => castTop (show entryFrame m #[.ref ad0, .ref ad1] 3 = mkF m 0 #[o1 ad0, o1 ad1, o5] [] from rfl) j) ?_
  refine o4 (fun u j => o3 X0.here hx rfl (hb hby o155) rfl rfl (o86 X0.here hx rfl (pc0 := 1) (pc' := 9) rfl (hb hby o156) rfl (by decide) (by decide) (o3 X0.here hx rfl (hb hby o157) rfl rfl j))) ?_
  refine o17 (o63 X0 hx hZ (y := o106) (z := o106) hown (o2 hw 107 rfl) (o2 hw 108 rfl) (notFace_of_selects (args := #[]) (mvT hZ (o2 hw 110 rfl))) (o2 hw 110 rfl) (o2 hw 109 rfl) (o2 hw 2 rfl) (o2 hw 111 rfl) o67 (o691 hw hS ad1 ad3 kc7 (39 : Int32) h0 n0 O0 pe5 pf6 pf7 pa10) e0 pe5 o179 (argsL := []) (rest := []) rfl rfl (g := (mkF m 10 #[o1 ad0, o1 ad1, o5] [.ref ad1])) rfl (by rw [hml]; rfl) rfl (hb hby o122) (W := 0) rfl) ?_
  intro T830 v830 L830 X830 hQ830
  obtain ⟨rfl, M830, e830⟩ := hQ830
  have N830 := Fr.app N0 M830
  refine o4 (fun u j => o94 X830.here hx rfl (hb hby o123) rfl (l' := #[o1 ad0, o1 ad1, o0 1]) rfl (o3 X830.here hx rfl (hb hby o124) rfl rfl (o3 X830.here hx rfl (hb hby o125) rfl rfl j))) ?_
  refine o22 (getF X830 hx hZ hown (host := "") (Or.inl (o2 hw 117 rfl)) Via.refl e830 pf3 rfl rfl (hb hby o126)) ?_
  intro T831 X831 e831
  refine o4 (fun u j => o6 X831.here hx rfl (hb hby o127) rfl (o107 X831.here hx rfl (hb hby o128) rfl j)) ?_
  refine o17 (o95 X831 hx hZ (y := o260) hown (o2 hw 119 rfl) (o2 hw 120 rfl) (o96 hZ (o2 hw 122 rfl) (o2 hw 121 rfl) (o2 hw 120 rfl) o24) (o2 hw 121 rfl) (o2 hw 89 rfl) (o2 hw 123 rfl) o24 (o459 hw hS ad0 (5 : Int32) ad2 kc4 (16 : Int32) [.int iv5, .int 32, .int 39, .int iv6, .int 0, .int 0, .int 0, .int 0, .int 0, .int 0, .int 0, .int 0, .int 0, .int 0, .int 0, .int 0] h0 n0 O0 pf2 pf4 pa9 (by decide)) e831 pe1 o187 (argsL := [.int 5]) (rest := []) rfl rfl (g := (mkF m 21 #[o1 ad0, o1 ad1, o0 1] [.int 5, .ref ad0])) rfl (by rw [hml]; rfl) rfl (hb hby o129) (W := 0) rfl) ?_
  intro T832 v832 L832 X832 hQ832
  obtain ⟨rfl, M832, e832⟩ := hQ832
  have N832 := Fr.app N830 M832
  refine o4 (fun u j => o3 X832.here hx rfl (hb hby o130) rfl rfl (o3 X832.here hx rfl (hb hby o131) rfl rfl j)) ?_
  refine o22 (getF X832 hx hZ hown (host := "") (Or.inl (o2 hw 117 rfl)) Via.refl e832 pf3 rfl rfl (hb hby o132)) ?_
  intro T833 X833 e833
  refine o4 (fun u j => o3 X833.here hx rfl (hb hby o133) rfl rfl j) ?_
  refine o17 (o95 X833 hx hZ (y := o154) hown (o2 hw 124 rfl) (o2 hw 125 rfl) (o96 hZ (o2 hw 127 rfl) (o2 hw 126 rfl) (o2 hw 125 rfl) o24) (o2 hw 126 rfl) (o2 hw 89 rfl) (o2 hw 128 rfl) o24 (o937 hw hS ad0 ad1 ad2 ad3 kc4 iv5 iv6 kc7 h0 n0 O0 pe1 pf2 pf4 pe5 pf6 pf7 pe8 pa9 pa10 pg_ad2) e833 pe1 o210 (argsL := [.int 4, .ref ad1]) (rest := []) rfl rfl (g := (mkF m 30 #[o1 ad0, o1 ad1, o0 1] [.ref ad1, .int 4, .ref ad0])) rfl (by rw [hml]; rfl) rfl (hb hby o134) (W := 0) rfl) ?_
  intro T834 v834 L834 X834 hQ834
  obtain ⟨rfl, M834, K834, F835, F836⟩ := hQ834
  have N834 := Fr.app N832 M834
  refine o4 (fun u j => o3 X834.here hx rfl (hb hby o146) rfl rfl (o61 X834.here hx rfl (hb hby o147) rfl rfl j)) ?_
  have ne837 := (ne_exa pe1 pe8 o85)
  have F838 := (pf3.keep K834 (ninS ne837 nin0))
  refine o22 (getF X834 hx hZ hown (host := "") (Or.inl (o2 hw 117 rfl)) Via.refl rfl F838 rfl rfl (hb hby o148)) ?_
  intro T839 X839 e839
  refine o4 (fun u j => o6 X839.here hx rfl (hb hby o149) rfl (o107 X839.here hx rfl (hb hby o150) rfl j)) ?_
  have F840 := (pe1.keep K834)
  refine o32 (putF X839 hx hZ hown (host := "") (Or.inl (o2 hw 117 rfl)) Via.refl e839 F838 F840 (Or.inl (o2 hw 118 rfl)) (o2 hw 80 rfl) (ty := .int) o120 rfl rfl rfl rfl (hb hby o151)) ?_
  intro T841 h841 X841 e841 W841
  have N841 := Fr.snoc X841 N834 pg_ad0
  have F842 : Fld Z h841 ad0 o10 "count" "I" (.int 5) := Fld.same W841 F838
  refine o4 (fun u j => o3 X841.here hx rfl (hb hby o152) rfl rfl j) ?_
  have K843 := (Keep.refl h0 [ad2, ad0]).trans K834 (allS (Or.inl (List.mem_of_getElem? (i := 0) rfl)) all0)
  have K844 := K843.wr W841 (Or.inl (List.mem_of_getElem? (i := 1) rfl))
  have F845 := (Exa.wr W841 F835)
  have F846 := (F836.other W841 (Ne.symm ne837))
  have F847 := (Exa.wr W841 F840)
  have F848 := (Fld.other W841 (pf2.keep K834 (ninS ne837 nin0)) (Or.inr (o211 hw)))
  have F849 := (Fld.other W841 (pf4.keep K834 (ninS ne837 nin0)) (Or.inr (o212 hw)))
  exact o69 X841 hx hlk hret rfl (Or.inr (Or.inr (Or.inr (Or.inr ⟨rfl, rfl, rfl⟩)))) (hb hby o153) (by decide) (by decide) (by rw [e841]; exact ⟨rfl, N841, K844, F845, F846, F847, F848, F842, F849⟩)
theorem o871 (hw : o35 a0 Z) (hS : o64 Z wcs) (ad0 ad1 : Addr) (ad2 ad3 : Addr) (kc4 : ClassId) (iv5 iv6 : Int32) (kc7 : ClassId) (h0 : Heap) (n0 : Nat) (O0 : Old Z n0 h0) (pe1 : Exa Z h0 ad0 o70) (pf2 : Fld Z h0 ad0 o10 "coder" "B" (.int 0)) (pf3 : Fld Z h0 ad0 o10 "count" "I" (.int 4)) (pf4 : Fld Z h0 ad0 o10 "value" "[B" (.ref ad2)) (pe5 : Exa Z h0 ad1 o7) (pf6 : Fld Z h0 ad1 o7 "coder" "B" (.int 0)) (pf7 : Fld Z h0 ad1 o7 "value" "[B" (.ref ad3)) (pe8 : Exa Z h0 ad2 "[B") (pa9 : Arv Z h0 ad2 kc4 .byte 16 [.int iv5, .int 32, .int 39, .int iv6, .int 0, .int 0, .int 0, .int 0, .int 0, .int 0, .int 0, .int 0, .int 0, .int 0, .int 0, .int 0] (.int 0)) (pa10 : Arv Z h0 ad3 kc7 .byte 1 [.int 39] (.int 0)) (pg_ad2 : n0 ≤ ad2) (pg_ad0 : n0 ≤ ad0) :
    o21 l o80 jdk_67_method_7_code 2 (some (.object "java/lang/StringBuilder")) ws ⟨4, 0, 0, 70⟩ Z h0 #[.ref ad0, .ref ad1] (fun v h L => v = some (.ref ad0) ∧ Fr n0 L ∧ Keep h0 h [ad2, ad0] ∧ Exa Z h ad2 "[B" ∧ Arv Z h ad2 kc4 .byte 16 [.int iv5, .int 32, .int 39, .int iv6, .int 39, .int 0, .int 0, .int 0, .int 0, .int 0, .int 0, .int 0, .int 0, .int 0, .int 0, .int 0] (.int 0) ∧ Exa Z h ad0 o70 ∧ Fld Z h ad0 o10 "coder" "B" (.int 0) ∧ Fld Z h ad0 o10 "count" "I" (.int 5) ∧ Fld Z h ad0 o10 "value" "[B" (.ref ad2)) := by
  refine o18 (plainFor_of_name o173) ?_
  intro p e s m below meth c s₁ hx hby hml hown hnm hret hlk hZ e0 X0
  have N0 := Fr.nil n0
  refine o4 (fun u j => castTop (show entryFrame m #[.ref ad0, .ref ad1] 2 = mkF m 0 #[o1 ad0, o1 ad1] [] from rfl) j) ?_
  refine o4 (fun u j => o3 X0.here hx rfl (hb hby o166) rfl rfl (o3 X0.here hx rfl (hb hby o167) rfl rfl j)) ?_
  refine o17 (o186 X0 hx hZ (y := o98) hown (o2 hw 102 rfl) (o321 (y := o98) (o2 hw 122 rfl) rfl (o2 hw 103 rfl) o24) (o2 hw 103 rfl) (o2 hw 104 rfl) (by decide) (o2 hw 89 rfl) (o2 hw 106 rfl) (o938 hw hS ad0 ad1 ad2 ad3 kc4 iv5 iv6 kc7 h0 n0 O0 pe1 pf2 pf3 pf4 pe5 pf6 pf7 pe8 pa9 pa10 pg_ad2 pg_ad0) e0 (Ins.self pe1) o213 (argsL := [.ref ad1]) (rest := []) rfl rfl (g := (mkF m 2 #[o1 ad0, o1 ad1] [.ref ad1, .ref ad0])) rfl (by rw [hml]; rfl) rfl (hb hby o168) (W := 0) rfl) ?_
  intro T857 v857 L857 X857 hQ857
  obtain ⟨rfl, M857, K857, F858, F859, F860, F861, F862, F863⟩ := hQ857
  have N857 := Fr.app N0 M857
  refine o4 (fun u j => XS.pop X857.here hx rfl (hb hby o169) rfl rfl (o3 X857.here hx rfl (hb hby o170) rfl rfl j)) ?_
  have K864 := (Keep.refl h0 [ad2, ad0]).trans K857 (allS (Or.inl (List.mem_of_getElem? (i := 0) rfl)) (allS (Or.inl (List.mem_of_getElem? (i := 1) rfl)) all0))
  exact o69 X857 hx hlk hret rfl (Or.inr (Or.inr (Or.inr (Or.inr ⟨rfl, rfl, rfl⟩)))) (hb hby o171) (by decide) (by decide) (by exact ⟨rfl, N857, K864, F858, F859, F860, F861, F862, F863⟩)
theorem o486 : decode prog_89_method_5_code 45 = .ok (.invokevirtual 33, 3) := by decide +kernel
theorem o397 : decode jdk_67_method_42_code 0 = .ok (.new 18, 3) := by decide +kernel
theorem o398 : decode jdk_67_method_42_code 3 = .ok (.dup, 1) := by decide +kernel
theorem o399 : decode jdk_67_method_42_code 4 = .ok (.aload_n 0, 1) := by decide +kernel
theorem o400 : decode jdk_67_method_42_code 5 = .ok (.invokespecial 137, 3) := by decide +kernel
theorem o401 : decode jdk_42_method_53_code 0 = .ok (.aload_n 0, 1) := by decide +kernel
theorem o402 : decode jdk_42_method_53_code 1 = .ok (.aload_n 1, 1) := by decide +kernel
theorem o403 : decode jdk_42_method_53_code 2 = .ok (.aconst_null, 1) := by decide +kernel
theorem o404 : decode jdk_42_method_53_code 3 = .ok (.invokespecial 489, 3) := by decide +kernel
theorem o370 : decode jdk_42_method_150_code 0 = .ok (.aload_n 0, 1) := by decide +kernel
theorem o371 : decode jdk_42_method_150_code 1 = .ok (.invokespecial 1, 3) := by decide +kernel
theorem o372 : decode jdk_42_method_150_code 4 = .ok (.aload_n 1, 1) := by decide +kernel
theorem o373 : decode jdk_42_method_150_code 5 = .ok (.invokevirtual 552, 3) := by decide +kernel
theorem o729 : decode jdk_68_method_64_code 0 = .ok (.aload_n 0, 1) := by decide +kernel
theorem o730 : decode jdk_68_method_64_code 1 = .ok (.getfield 15, 3) := by decide +kernel
theorem o731 : decode jdk_68_method_64_code 4 = .ok (.areturn, 1) := by decide +kernel
abbrev o374 : MethodName := ⟨"java/lang/AbstractStringBuilder", "getValue", "()[B"⟩
theorem o831 (hw : o35 a0 Z) (hS : o64 Z wcs) (ad0 ad1 : Addr) (h0 : Heap) (n0 : Nat) (O0 : Old Z n0 h0) (pf4 : Fld Z h0 ad0 o10 "value" "[B" (.ref ad1)) :
    o21 l o374 jdk_68_method_64_code 1 (some (.array .byte)) ws ⟨0, 0, 0, 0⟩ Z h0 #[.ref ad0] (fun v h L => v = some (.ref ad1) ∧ Fr n0 L ∧ h = h0) := by
  refine o18 (plainFor_of_name o100) ?_
  intro p e s m below meth c s₁ hx hby hml hown hnm hret hlk hZ e0 X0
  have N0 := Fr.nil n0
  refine o4 (fun u j => castTop (show entryFrame m #[.ref ad0] 1 = mkF m 0 #[o1 ad0] [] from rfl) j) ?_
  refine o4 (fun u j => o3 X0.here hx rfl (hb hby o729) rfl rfl j) ?_
  refine o22 (getF X0 hx hZ hown (host := "") (Or.inl (o2 hw 93 rfl)) Via.refl e0 pf4 rfl rfl (hb hby o730)) ?_
  intro T883 X883 e883
  exact o69 X883 hx hlk hret rfl (Or.inr (Or.inr (Or.inr (Or.inr ⟨rfl, rfl, rfl⟩)))) (hb hby o731) (by decide) (by decide) (by rw [e883]; exact ⟨rfl, N0, rfl⟩)
theorem o493 : parseMethodDescriptor "()[B" = some ⟨[], some (.array .byte)⟩ := by decide +kernel
theorem o375 : decode jdk_42_method_150_code 8 = .ok (.astore_n 3, 1) := by decide +kernel
theorem o376 : decode jdk_42_method_150_code 9 = .ok (.aload_n 1, 1) := by decide +kernel
theorem o332 : decode jdk_42_method_150_code 10 = .ok (.invokevirtual 549, 3) := by decide +kernel
theorem o732 : decode jdk_67_method_93_code 0 = .ok (.aload_n 0, 1) := by decide +kernel
theorem o733 : decode jdk_67_method_93_code 1 = .ok (.invokespecial 343, 3) := by decide +kernel
theorem o819 : decode jdk_68_method_6_code 0 = .ok (.aload_n 0, 1) := by decide +kernel
theorem o820 : decode jdk_68_method_6_code 1 = .ok (.getfield 79, 3) := by decide +kernel
theorem o821 : decode jdk_68_method_6_code 4 = .ok (.ireturn, 1) := by decide +kernel
abbrev o416 : MethodName := ⟨"java/lang/AbstractStringBuilder", "length", "()I"⟩
theorem o939 (hw : o35 a0 Z) (hS : o64 Z wcs) (ad0 : Addr) (iv1 : Int32) (h0 : Heap) (n0 : Nat) (O0 : Old Z n0 h0) (pf3 : Fld Z h0 ad0 o10 "count" "I" (.int iv1)) :
    o21 l o416 jdk_68_method_6_code 1 (some .int) ws ⟨0, 0, 0, 0⟩ Z h0 #[.ref ad0] (fun v h L => v = some (.int iv1) ∧ Fr n0 L ∧ h = h0) := by
  refine o18 (plainFor_of_name o100) ?_
  intro p e s m below meth c s₁ hx hby hml hown hnm hret hlk hZ e0 X0
  have N0 := Fr.nil n0
  refine o4 (fun u j => castTop (show entryFrame m #[.ref ad0] 1 = mkF m 0 #[o1 ad0] [] from rfl) j) ?_
  refine o4 (fun u j => o3 X0.here hx rfl (hb hby o819) rfl rfl j) ?_
  refine o22 (getF X0 hx hZ hown (host := "") (Or.inl (o2 hw 117 rfl)) Via.refl e0 pf3 rfl rfl (hb hby o820)) ?_
  intro T886 X886 e886
  exact o69 X886 hx hlk hret rfl (Or.inl ⟨rfl, by simp, _, rfl⟩) (hb hby o821) (by decide) (by decide) (by rw [e886]; exact ⟨rfl, N0, rfl⟩)
theorem o734 : decode jdk_67_method_93_code 4 = .ok (.ireturn, 1) := by decide +kernel
abbrev o487 : MethodName := ⟨"java/lang/StringBuilder", "length", "()I"⟩
theorem o832 (hw : o35 a0 Z) (hS : o64 Z wcs) (ad0 : Addr) (iv1 : Int32) (h0 : Heap) (n0 : Nat) (O0 : Old Z n0 h0) (pe1 : Exa Z h0 ad0 o70) (pf3 : Fld Z h0 ad0 o10 "count" "I" (.int iv1)) :
    o21 l o487 jdk_67_method_93_code 1 (some .int) ws ⟨1, 0, 0, 12⟩ Z h0 #[.ref ad0] (fun v h L => v = some (.int iv1) ∧ Fr n0 L ∧ h = h0) := by
  refine o18 (plainFor_of_name o173) ?_
  intro p e s m below meth c s₁ hx hby hml hown hnm hret hlk hZ e0 X0
  have N0 := Fr.nil n0
  refine o4 (fun u j => castTop (show entryFrame m #[.ref ad0] 1 = mkF m 0 #[o1 ad0] [] from rfl) j) ?_
  refine o4 (fun u j => o3 X0.here hx rfl (hb hby o732) rfl rfl j) ?_
  refine o17 (o186 X0 hx hZ (y := o416) hown (o2 hw 171 rfl) (o321 (y := o416) (o2 hw 122 rfl) rfl (o2 hw 167 rfl) o24) (o2 hw 167 rfl) (o2 hw 104 rfl) (by decide) (o2 hw 89 rfl) (o2 hw 172 rfl) (o939 hw hS ad0 iv1 h0 n0 O0 pf3) e0 (Ins.self pe1) o179 (argsL := []) (rest := []) rfl rfl (g := (mkF m 1 #[o1 ad0] [.ref ad0])) rfl (by rw [hml]; rfl) rfl (hb hby o733) (W := 0) rfl) ?_
  intro T888 v888 L888 X888 hQ888
  obtain ⟨rfl, M888, e888⟩ := hQ888
  have N888 := Fr.app N0 M888
  exact o69 X888 hx hlk hret rfl (Or.inl ⟨rfl, by simp, _, rfl⟩) (hb hby o734) (by decide) (by decide) (by rw [e888]; exact ⟨rfl, N888, rfl⟩)
theorem o333 : decode jdk_42_method_150_code 13 = .ok (.istore 4, 2) := by decide +kernel
theorem o334 : decode jdk_42_method_150_code 15 = .ok (.aload_n 1, 1) := by decide +kernel
theorem o335 : decode jdk_42_method_150_code 16 = .ok (.invokevirtual 1047, 3) := by decide +kernel
theorem o735 : decode jdk_68_method_68_code 0 = .ok (.getstatic 18, 3) := by decide +kernel
theorem o736 : decode jdk_68_method_68_code 3 = .ok (.ifCond .eq 14, 3) := by decide +kernel
theorem o737 : decode jdk_68_method_68_code 6 = .ok (.aload_n 0, 1) := by decide +kernel
theorem o738 : decode jdk_68_method_68_code 7 = .ok (.getfield 22, 3) := by decide +kernel
theorem o540 : decode jdk_68_method_68_code 10 = .ok (.ifCond .ne 7, 3) := by decide +kernel
theorem o541 : decode jdk_68_method_68_code 13 = .ok (.iconst 1, 1) := by decide +kernel
theorem o542 : decode jdk_68_method_68_code 14 = .ok (.goto 4, 3) := by decide +kernel
theorem o543 : decode jdk_68_method_68_code 18 = .ok (.ireturn, 1) := by decide +kernel
abbrev o377 : MethodName := ⟨"java/lang/AbstractStringBuilder", "isLatin1", "()Z"⟩
theorem o833 (hw : o35 a0 Z) (hS : o64 Z wcs) (ad0 : Addr) (h0 : Heap) (n0 : Nat) (O0 : Old Z n0 h0) (pf2 : Fld Z h0 ad0 o10 "coder" "B" (.int 0)) :
    o21 l o377 jdk_68_method_68_code 1 (some .boolean) ws ⟨0, 0, 0, 0⟩ Z h0 #[.ref ad0] (fun v h L => v = some (.int 1) ∧ Fr n0 L ∧ h = h0) := by
  refine o18 (plainFor_of_name o100) ?_
  intro p e s m below meth c s₁ hx hby hml hown hnm hret hlk hZ e0 X0
  have N0 := Fr.nil n0
  refine o4 (fun u j => castTop (show entryFrame m #[.ref ad0] 1 = mkF m 0 #[o1 ad0] [] from rfl) j) ?_
  have F893 := Sta.ext O0.2 hS.1
  refine o22 (getS2 X0 hx hZ hown (host := "") (Or.inl (o2 hw 92 rfl)) Via.refl e0 F893 rfl (hb hby o735)) ?_
  intro T894 X894 e894
  refine o4 (fun u j => o68 X894.here hx rfl (hb hby o736) rfl (o65 hS.2) (o3 X894.here hx rfl (hb hby o737) rfl rfl j)) ?_
  refine o22 (getF X894 hx hZ hown (host := "") (Or.inl (o2 hw 95 rfl)) Via.refl e894 pf2 rfl rfl (hb hby o738)) ?_
  intro T895 X895 e895
  refine o4 (fun u j => o68 X895.here hx rfl (hb hby o540) rfl (o180 (by decide)) (o16 X895.here hx rfl (hb hby o541) (o15 X895.here hx rfl (pc0 := 14) (pc' := 18) rfl (hb hby o542) (by decide) (by decide) j))) ?_
  exact o69 X895 hx hlk hret rfl (Or.inl ⟨rfl, by simp, _, rfl⟩) (hb hby o543) (by decide) (by decide) (by rw [e895]; exact ⟨rfl, N0, rfl⟩)
theorem o494 : parseMethodDescriptor "()Z" = some ⟨[], some .boolean⟩ := by decide +kernel
theorem o336 : decode jdk_42_method_150_code 19 = .ok (.ifCond .eq 22, 3) := by decide +kernel
theorem o337 : decode jdk_42_method_150_code 22 = .ok (.aload_n 0, 1) := by decide +kernel
theorem o338 : decode jdk_42_method_150_code 23 = .ok (.iconst 0, 1) := by decide +kernel
theorem o339 : decode jdk_42_method_150_code 24 = .ok (.putfield 15, 3) := by decide +kernel
theorem o340 : decode jdk_42_method_150_code 27 = .ok (.aload_n 0, 1) := by decide +kernel
theorem o341 : decode jdk_42_method_150_code 28 = .ok (.aload_n 3, 1) := by decide +kernel
theorem o342 : decode jdk_42_method_150_code 29 = .ok (.iconst 0, 1) := by decide +kernel
theorem o343 : decode jdk_42_method_150_code 30 = .ok (.iload 4, 2) := by decide +kernel
theorem o344 : decode jdk_42_method_150_code 32 = .ok (.invokestatic 54, 3) := by decide +kernel
theorem o378 : decode jdk_65_method_132_code 0 = .ok (.iload_n 1, 1) := by decide +kernel
theorem o379 : decode jdk_65_method_132_code 1 = .ok (.ifCond .ne 9, 3) := by decide +kernel
theorem o380 : decode jdk_65_method_132_code 4 = .ok (.iload_n 2, 1) := by decide +kernel
theorem o381 : decode jdk_65_method_132_code 5 = .ok (.aload_n 0, 1) := by decide +kernel
theorem o382 : decode jdk_65_method_132_code 6 = .ok (.arraylength, 1) := by decide +kernel
theorem o383 : decode jdk_65_method_132_code 7 = .ok (.if_icmp .eq 10, 3) := by decide +kernel
theorem o345 : decode jdk_65_method_132_code 10 = .ok (.aload_n 0, 1) := by decide +kernel
theorem o346 : decode jdk_65_method_132_code 11 = .ok (.iload_n 1, 1) := by decide +kernel
theorem o347 : decode jdk_65_method_132_code 12 = .ok (.iload_n 2, 1) := by decide +kernel
theorem o348 : decode jdk_65_method_132_code 13 = .ok (.invokestatic 339, 3) := by decide +kernel
theorem o384 : decode jdk_65_method_133_code 0 = .ok (.iload_n 1, 1) := by decide +kernel
theorem o385 : decode jdk_65_method_133_code 1 = .ok (.iload_n 2, 1) := by decide +kernel
theorem o386 : decode jdk_65_method_133_code 2 = .ok (.invokestatic 343, 3) := by decide +kernel
theorem o544 : decode jdk_65_method_131_code 0 = .ok (.iload_n 1, 1) := by decide +kernel
theorem o545 : decode jdk_65_method_131_code 1 = .ok (.iload_n 0, 1) := by decide +kernel
theorem o546 : decode jdk_65_method_131_code 2 = .ok (.if_icmp .ge 35, 3) := by decide +kernel
theorem o521 : decode jdk_65_method_131_code 37 = .ok (.return_, 1) := by decide +kernel
abbrev o488 : MethodName := ⟨"java/util/Arrays", "checkLength", "(II)V"⟩
theorem o308 : plainName "java/util/Arrays" = true := by first | (simp [plainName, overriddenIn]; done) | decide +kernel
theorem o834 (hw : o35 a0 Z) (hS : o64 Z wcs) (iv0 iv1 : Int32) (h0 : Heap) (n0 : Nat) (O0 : Old Z n0 h0) (pk_0 : ¬ iv1 < iv0) :
    o21 l o488 jdk_65_method_131_code 2 none ws ⟨0, 0, 0, 0⟩ Z h0 #[.int iv0, .int iv1] (fun v h L => v = none ∧ Fr n0 L ∧ h = h0) := by
  refine o18 (plainFor_of_name o308) ?_
  intro p e s m below meth c s₁ hx hby hml hown hnm hret hlk hZ e0 X0
  have N0 := Fr.nil n0
  refine o4 (fun u j => castTop (show entryFrame m #[.int iv0, .int iv1] 2 = mkF m 0 #[o0 iv0, o0 iv1] [] from rfl) j) ?_
  refine o4 (fun u j => o6 X0.here hx rfl (hb hby o544) rfl (o6 X0.here hx rfl (hb hby o545) rfl (o13 X0.here hx rfl (pc0 := 2) (pc' := 37) rfl (hb hby o546) rfl (o175 pk_0) (by decide) (by decide) j))) ?_
  exact o81 X0 hx hlk hret (hb hby o521) (by decide) (by decide) (by rw [e0]; exact ⟨rfl, N0, rfl⟩)
theorem o184 : ("java/util/Arrays" : String) ≠ "java/lang/invoke/MethodHandle" ∧ ("java/util/Arrays" : String) ≠ "java/lang/invoke/VarHandle" := by decide +kernel
theorem o495 : parseMethodDescriptor "(II)V" = some ⟨[.int, .int], none⟩ := by decide +kernel
theorem o387 : decode jdk_65_method_133_code 5 = .ok (.iload_n 2, 1) := by decide +kernel
theorem o388 : decode jdk_65_method_133_code 6 = .ok (.iload_n 1, 1) := by decide +kernel
theorem o389 : decode jdk_65_method_133_code 7 = .ok (.isub, 1) := by decide +kernel
theorem o390 : decode jdk_65_method_133_code 8 = .ok (.istore_n 3, 1) := by decide +kernel
theorem o391 : decode jdk_65_method_133_code 9 = .ok (.iload_n 3, 1) := by decide +kernel
theorem o349 : decode jdk_65_method_133_code 10 = .ok (.newarray .byte, 2) := by decide +kernel
theorem o350 : decode jdk_65_method_133_code 12 = .ok (.astore 4, 2) := by decide +kernel
theorem o351 : decode jdk_65_method_133_code 14 = .ok (.aload_n 0, 1) := by decide +kernel
theorem o352 : decode jdk_65_method_133_code 15 = .ok (.iload_n 1, 1) := by decide +kernel
theorem o353 : decode jdk_65_method_133_code 16 = .ok (.aload 4, 2) := by decide +kernel
theorem o354 : decode jdk_65_method_133_code 18 = .ok (.iconst 0, 1) := by decide +kernel
theorem o355 : decode jdk_65_method_133_code 19 = .ok (.aload_n 0, 1) := by decide +kernel
theorem o356 : decode jdk_65_method_133_code 20 = .ok (.arraylength, 1) := by decide +kernel
theorem o357 : decode jdk_65_method_133_code 21 = .ok (.iload_n 1, 1) := by decide +kernel
theorem o358 : decode jdk_65_method_133_code 22 = .ok (.isub, 1) := by decide +kernel
theorem o359 : decode jdk_65_method_133_code 23 = .ok (.iload_n 3, 1) := by decide +kernel
theorem o360 : decode jdk_65_method_133_code 24 = .ok (.invokestatic 304, 3) := by decide +kernel
theorem o739 : decode jdk_29_method_69_code 0 = .ok (.iload_n 0, 1) := by decide +kernel
theorem o740 : decode jdk_29_method_69_code 1 = .ok (.iload_n 1, 1) := by decide +kernel
theorem o741 : decode jdk_29_method_69_code 2 = .ok (.if_icmp .gt 7, 3) := by decide +kernel
theorem o742 : decode jdk_29_method_69_code 9 = .ok (.iload_n 1, 1) := by decide +kernel
theorem o547 : decode jdk_29_method_69_code 10 = .ok (.ireturn, 1) := by decide +kernel
abbrev o432 : MethodName := ⟨"java/lang/Math", "min", "(II)I"⟩
theorem o852 : plainFor o432 = true := by decide +kernel
theorem o835 (hw : o35 a0 Z) (hS : o64 Z wcs) (iv0 iv1 : Int32) (h0 : Heap) (n0 : Nat) (O0 : Old Z n0 h0) (pk_0 : iv1 < iv0) :
    o21 l o432 jdk_29_method_69_code 2 (some .int) ws ⟨0, 0, 0, 0⟩ Z h0 #[.int iv0, .int iv1] (fun v h L => v = some (.int iv1) ∧ Fr n0 L ∧ h = h0) := by
  refine o18 o852 ?_
  intro p e s m below meth c s₁ hx hby hml hown hnm hret hlk hZ e0 X0
  have N0 := Fr.nil n0
  refine o4 (fun u j => castTop (show entryFrame m #[.int iv0, .int iv1] 2 = mkF m 0 #[o0 iv0, o0 iv1] [] from rfl) j) ?_
  refine o4 (fun u j => o6 X0.here hx rfl (hb hby o739) rfl (o6 X0.here hx rfl (hb hby o740) rfl (o13 X0.here hx rfl (pc0 := 2) (pc' := 9) rfl (hb hby o741) rfl (XT.ii_gt_t pk_0) (by decide) (by decide) (o6 X0.here hx rfl (hb hby o742) rfl j)))) ?_
  exact o69 X0 hx hlk hret rfl (Or.inl ⟨rfl, by simp, _, rfl⟩) (hb hby o547) (by decide) (by decide) (by rw [e0]; exact ⟨rfl, N0, rfl⟩)
theorem o496 : ("java/lang/Math" : String) ≠ "java/lang/invoke/MethodHandle" ∧ ("java/lang/Math" : String) ≠ "java/lang/invoke/VarHandle" := by decide +kernel
theorem o497 : parseMethodDescriptor "(II)I" = some ⟨[.int, .int], some .int⟩ := by decide +kernel
theorem o361 : decode jdk_65_method_133_code 27 = .ok (.invokestatic 150, 3) := by decide +kernel
theorem o362 : decode jdk_65_method_133_code 30 = .ok (.aload 4, 2) := by decide +kernel
theorem o363 : decode jdk_65_method_133_code 32 = .ok (.areturn, 1) := by decide +kernel
abbrev o407 : MethodName := ⟨"java/util/Arrays", "copyOfRangeByte", "([BII)[B"⟩
theorem o940 (hw : o35 a0 Z) (hS : o64 Z wcs) (ad0 : Addr) (kc1 : ClassId) (iv2 iv3 : Int32) (h0 : Heap) (n0 : Nat) (O0 : Old Z n0 h0) (pa2 : Arv Z h0 ad0 kc1 .byte 16 [.int iv2, .int 32, .int 39, .int iv3, .int 39, .int 0, .int 0, .int 0, .int 0, .int 0, .int 0, .int 0, .int 0, .int 0, .int 0, .int 0] (.int 0)) :
    o21 l o407 jdk_65_method_133_code 5 (some (.array .byte)) ws ⟨1, 1, 5, 27⟩ Z h0 #[.ref ad0, .int 0, .int 5] (fun v h L => ∃ nz0 : Addr, ∃ kz1 : ClassId, v = some (.ref nz0) ∧ Fr n0 L ∧ Keep h0 h [] ∧ h0.size ≤ nz0 ∧ Exa Z h nz0 "[B" ∧ Arv Z h nz0 kz1 .byte 5 [.int iv2, .int 32, .int 39, .int iv3, .int 39] (.int 0)) := by
  refine o18 (plainFor_of_name o308) ?_
  intro p e s m below meth c s₁ hx hby hml hown hnm hret hlk hZ e0 X0
  have N0 := Fr.nil n0
  refine o4 (fun u j => castTop (show entryFrame m #[.ref ad0, .int 0, .int 5] 5 = mkF m 0 #[o1 ad0, o0 0, o0 5, o5, o5] [] from rfl) j) ?_
  refine o4 (fun u j => o6 X0.here hx rfl (hb hby o384) rfl (o6 X0.here hx rfl (hb hby o385) rfl j)) ?_
  refine o17 (o78 X0 hx hZ (y := o488) hown (o2 hw 185 rfl) (o2 hw 186 rfl) (o2 hw 180 rfl) (o2 hw 187 rfl) o184 (o834 hw hS (0 : Int32) (5 : Int32) h0 n0 O0 (by decide)) e0 o495 (argsL := [.int 0, .int 5]) (rest := []) rfl rfl (g := (mkF m 2 #[o1 ad0, o0 0, o0 5, o5, o5] [.int 5, .int 0])) rfl (by rw [hml]; rfl) rfl (hb hby o386) (W := 0) rfl) ?_
  intro T909 v909 L909 X909 hQ909
  obtain ⟨rfl, M909, e909⟩ := hQ909
  have N909 := Fr.app N0 M909
  refine o4 (fun u j => o6 X909.here hx rfl (hb hby o387) rfl (o6 X909.here hx rfl (hb hby o388) rfl (XS.isub X909.here hx rfl (hb hby o389) rfl (o94 X909.here hx rfl (hb hby o390) rfl (l' := #[o1 ad0, o0 0, o0 5, o0 5, o5]) rfl (o6 X909.here hx rfl (hb hby o391) rfl j))))) ?_
  have q_ := newPE X909 hx hZ (o2 hw 14 rfl) e909 (g := (mkF m 10 #[o1 ad0, o0 0, o0 5, o0 5, o5] [.int 5])) rfl (hb hby o349) rfl (by decide) (cap := 5) (by decide) (by decide) (by decide) (by decide) (ad := "[B") o214
  obtain ⟨T910, h910, k910, X910, e910, E910, A910, Y910, st910⟩ := q_
  have q_ : ∃ z, z = h0.size := ⟨_, rfl⟩
  obtain ⟨b910, g910⟩ := q_
  rw [← g910] at A910 Y910 st910
  have V910 : Arv Z h910 b910 k910 .byte 5 [.int 0, .int 0, .int 0, .int 0, .int 0] (.int 0) := (Arv.new A910 (by decide)).pad (pad_rep [] (.int 0) 5)
  refine o4 (fun u j => st910 u j) ?_
  refine o4 (fun u j => o76 X910.here hx rfl (hb hby o350) rfl rfl (l' := #[o1 ad0, o0 0, o0 5, o0 5, o1 b910]) rfl (o3 X910.here hx rfl (hb hby o351) rfl rfl (o6 X910.here hx rfl (hb hby o352) rfl (o72 X910.here hx rfl (hb hby o353) rfl rfl (o16 X910.here hx rfl (hb hby o354) (o3 X910.here hx rfl (hb hby o355) rfl rfl j)))))) ?_
  show o11 p e below _ (T910.setTop (mkF m 20 #[o1 ad0, o0 0, o0 5, o0 5, o1 b910] [.ref ad0, .int 0, .ref b910, .int 0, .ref ad0]))
  have F911 := (pa2.ext E910)
  refine o4 (fun u j => o75 X910 hx hZ e910 F911 rfl rfl (hb hby o356) (o6 X910.here hx rfl (hb hby o357) rfl (XS.isub X910.here hx rfl (hb hby o358) rfl (o6 X910.here hx rfl (hb hby o359) rfl j)))) ?_
  have O914 := O0.ext E910
  refine o17 (o78 X910 hx hZ (y := o432) hown (o2 hw 188 rfl) (o2 hw 189 rfl) (o2 hw 190 rfl) (o2 hw 191 rfl) o496 (o835 hw hS (16 : Int32) (5 : Int32) h910 n0 O914 (by decide)) e910 o497 (argsL := [.int 16, .int 5]) (rest := [.int 0, .ref b910, .int 0, .ref ad0]) rfl rfl (g := (mkF m 24 #[o1 ad0, o0 0, o0 5, o0 5, o1 b910] [.int 5, .int 16, .int 0, .ref b910, .int 0, .ref ad0])) rfl (by rw [hml]; rfl) rfl (hb hby o360) (W := 4) rfl) ?_
  intro T913 v913 L913 X913 hQ913
  obtain ⟨rfl, M913, e913⟩ := hQ913
  have N913 := Fr.app N909 M913
  have g916 := Nat.le_trans (o103 O0) (Nat.le_of_eq g910.symm)
  have q_ := cpA X913 hx hZ hown (o2 hw 192 rfl) (o2 hw 143 rfl) (o2 hw 141 rfl) (o2 hw 142 rfl) e913 F911 V910 (us := [.int iv2, .int 32, .int 39, .int iv3, .int 39]) (Or.inl ⟨rfl, rfl⟩) (by decide) (by decide) (by decide) (by decide) (by decide) rfl (Nat.le_of_ble_eq_true rfl) N913 g916 (g := (mkF m 27 #[o1 ad0, o0 0, o0 5, o0 5, o1 b910] [.int 5, .int 0, .ref b910, .int 0, .ref ad0])) rfl (by rw [hml]; rfl) rfl (hb hby o361) (by decide) (W := 0) (by show 2 * 0 + _ ≤ _; exact Nat.le_of_eq rfl) (by decide)
  obtain ⟨T915, h915, L915, X915, e915, N915, K915, V915, st915⟩ := q_
  have V917 : Arv Z h915 b910 k910 .byte 5 [.int iv2, .int 32, .int 39, .int iv3, .int 39] (.int 0) := V915
  refine o4 (fun u j => st915 u j) ?_
  refine o4 (fun u j => o72 X915.here hx rfl (hb hby o362) rfl rfl j) ?_
  have K918 := (Keep.refl h0 []).ext E910
  have z920 := Nat.le_trans (Nat.le_refl _) (Nat.le_of_eq g910.symm)
  have K919 := K918.trans K915 (allS (Or.inr z920) all0)
  have F921 := (Y910.keep K915)
  exact o69 X915 hx hlk hret rfl (Or.inr (Or.inr (Or.inr (Or.inr ⟨rfl, rfl, rfl⟩)))) (hb hby o363) (by decide) (by decide) (by rw [e915]; exact ⟨b910, k910, rfl, N915, K919, z920, F921, V917⟩)
theorem o392 : parseMethodDescriptor "([BII)[B" = some ⟨[(.array .byte), .int, .int], some (.array .byte)⟩ := by decide +kernel
theorem o364 : decode jdk_65_method_132_code 16 = .ok (.areturn, 1) := by decide +kernel
abbrev o408 : MethodName := ⟨"java/util/Arrays", "copyOfRange", "([BII)[B"⟩
theorem o941 (hw : o35 a0 Z) (hS : o64 Z wcs) (ad0 : Addr) (kc1 : ClassId) (iv2 iv3 : Int32) (h0 : Heap) (n0 : Nat) (O0 : Old Z n0 h0) (pa2 : Arv Z h0 ad0 kc1 .byte 16 [.int iv2, .int 32, .int 39, .int iv3, .int 39, .int 0, .int 0, .int 0, .int 0, .int 0, .int 0, .int 0, .int 0, .int 0, .int 0, .int 0] (.int 0)) :
    o21 l o408 jdk_65_method_132_code 3 (some (.array .byte)) ws ⟨2, 1, 5, 43⟩ Z h0 #[.ref ad0, .int 0, .int 5] (fun v h L => ∃ nz0 : Addr, ∃ kz1 : ClassId, v = some (.ref nz0) ∧ Fr n0 L ∧ Keep h0 h [] ∧ h0.size ≤ nz0 ∧ Exa Z h nz0 "[B" ∧ Arv Z h nz0 kz1 .byte 5 [.int iv2, .int 32, .int 39, .int iv3, .int 39] (.int 0)) := by
  refine o18 (plainFor_of_name o308) ?_
  intro p e s m below meth c s₁ hx hby hml hown hnm hret hlk hZ e0 X0
  have N0 := Fr.nil n0
  refine o4 (fun u j => castTop (show entryFrame m #[.ref ad0, .int 0, .int 5] 3 = mkF m 0 #[o1 ad0, o0 0, o0 5] [] from rfl) j) ?_
  refine o4 (fun u j => o6 X0.here hx rfl (hb hby o378) rfl (o68 X0.here hx rfl (hb hby o379) rfl (o180 (by decide)) (o6 X0.here hx rfl (hb hby o380) rfl (o3 X0.here hx rfl (hb hby o381) rfl rfl (o75 X0 hx hZ e0 pa2 rfl rfl (hb hby o382) (o14 X0.here hx rfl (hb hby o383) rfl (XT.ii_eq_f (by decide)) j)))))) ?_
  show o11 p e below _ (s₁.setTop (mkF m 10 #[o1 ad0, o0 0, o0 5] []))
  refine o4 (fun u j => o3 X0.here hx rfl (hb hby o345) rfl rfl (o6 X0.here hx rfl (hb hby o346) rfl (o6 X0.here hx rfl (hb hby o347) rfl j))) ?_
  refine o17 (o78 X0 hx hZ (y := o407) hown (o2 hw 182 rfl) (o2 hw 183 rfl) (o2 hw 180 rfl) (o2 hw 184 rfl) o184 (o940 hw hS ad0 kc1 iv2 iv3 h0 n0 O0 pa2) e0 o392 (argsL := [.ref ad0, .int 0, .int 5]) (rest := []) rfl rfl (g := (mkF m 13 #[o1 ad0, o0 0, o0 5] [.int 5, .int 0, .ref ad0])) rfl (by rw [hml]; rfl) rfl (hb hby o348) (W := 0) rfl) ?_
  intro T929 v929 L929 X929 hQ929
  obtain ⟨nz0_930, kz1_931, rfl, M929, K929, z932, F933, F934⟩ := hQ929
  have N929 := Fr.app N0 M929
  have K935 := (Keep.refl h0 []).trans K929 all0
  have z936 := Nat.le_trans (Nat.le_refl _) z932
  exact o69 X929 hx hlk hret rfl (Or.inr (Or.inr (Or.inr (Or.inr ⟨rfl, rfl, rfl⟩)))) (hb hby o364) (by decide) (by decide) (by exact ⟨nz0_930, kz1_931, rfl, N929, K935, z936, F933, F934⟩)
theorem o498 : ("[B" : String) ≠ "java/lang/String" := by decide +kernel
theorem o365 : decode jdk_42_method_150_code 35 = .ok (.putfield 9, 3) := by decide +kernel
theorem o366 : decode jdk_42_method_150_code 38 = .ok (.goto 59, 3) := by decide +kernel
theorem o367 : decode jdk_42_method_150_code 97 = .ok (.return_, 1) := by decide +kernel
abbrev o409 : MethodName := ⟨"java/lang/String", "<init>", "(Ljava/lang/AbstractStringBuilder;Ljava/lang/Void;)V"⟩
theorem o942 (hw : o35 a0 Z) (hS : o64 Z wcs) (ad0 ad1 ad2 : Addr) (kc3 : ClassId) (iv4 iv5 : Int32) (h0 : Heap) (n0 : Nat) (O0 : Old Z n0 h0) (pe1 : Exa Z h0 ad0 o7) (pf2 : Fld Z h0 ad0 o7 "coder" "B" (.int 0)) (pf3 : Fld Z h0 ad0 o7 "value" "[B" .null) (pe4 : Exa Z h0 ad1 o70) (pf5 : Fld Z h0 ad1 o10 "coder" "B" (.int 0)) (pf6 : Fld Z h0 ad1 o10 "count" "I" (.int 5)) (pf7 : Fld Z h0 ad1 o10 "value" "[B" (.ref ad2)) (pe8 : Exa Z h0 ad2 "[B") (pa9 : Arv Z h0 ad2 kc3 .byte 16 [.int iv4, .int 32, .int 39, .int iv5, .int 39, .int 0, .int 0, .int 0, .int 0, .int 0, .int 0, .int 0, .int 0, .int 0, .int 0, .int 0] (.int 0)) (pg_ad0 : n0 ≤ ad0) :
    o21 l o409 jdk_42_method_150_code 5 none ws ⟨3, 1, 5, 58⟩ Z h0 #[.ref ad0, .ref ad1, .null] (fun v h L => ∃ nz0 : Addr, ∃ kz1 : ClassId, v = none ∧ Fr n0 L ∧ Keep h0 h [ad0] ∧ h0.size ≤ nz0 ∧ Exa Z h ad0 o7 ∧ Fld Z h ad0 o7 "coder" "B" (.int 0) ∧ Fld Z h ad0 o7 "value" "[B" (.ref nz0) ∧ Exa Z h nz0 "[B" ∧ Arv Z h nz0 kz1 .byte 5 [.int iv4, .int 32, .int 39, .int iv5, .int 39] (.int 0)) := by
  refine o18 (plainFor_of_name o83) ?_
  intro p e s m below meth c s₁ hx hby hml hown hnm hret hlk hZ e0 X0
  have N0 := Fr.nil n0
  refine o4 (fun u j => castTop (show entryFrame m #[.ref ad0, .ref ad1, .null] 5 = mkF m 0 #[o1 ad0, o1 ad1, .val .null, o5, o5] [] from rfl) j) ?_
  refine o4 (fun u j => o3 X0.here hx rfl (hb hby o370) rfl rfl j) ?_
  refine o22 (initO X0 hx hZ hown (o2 hw 19 rfl) (o2 hw 20 rfl) (o2 hw 21 rfl) e0 rfl (by rw [hml]; rfl) rfl (hb hby o371) (by decide) (W := 0) (by show 2 * 0 + _ ≤ _; exact Nat.le_of_eq rfl) (by decide)) ?_
  intro T950 X950 e950
  refine o4 (fun u j => o3 X950.here hx rfl (hb hby o372) rfl rfl j) ?_
  refine o17 (o63 X950 hx hZ (y := o374) (z := o374) hown (o2 hw 160 rfl) (o2 hw 161 rfl) (notFace_of_selects (args := #[]) (mvT hZ (o2 hw 163 rfl))) (o2 hw 163 rfl) (o2 hw 162 rfl) (o2 hw 89 rfl) (o2 hw 164 rfl) o24 (o831 hw hS ad1 ad2 h0 n0 O0 pf7) e950 pe4 o493 (argsL := []) (rest := []) rfl rfl (g := (mkF m 5 #[o1 ad0, o1 ad1, .val .null, o5, o5] [.ref ad1])) rfl (by rw [hml]; rfl) rfl (hb hby o373) (W := 0) rfl) ?_
  intro T951 v951 L951 X951 hQ951
  obtain ⟨rfl, M951, e951⟩ := hQ951
  have N951 := Fr.app N0 M951
  refine o4 (fun u j => o84 X951.here hx rfl (hb hby o375) rfl rfl (l' := #[o1 ad0, o1 ad1, .val .null, o1 ad2, o5]) rfl (o3 X951.here hx rfl (hb hby o376) rfl rfl j)) ?_
  refine o17 (o63 X951 hx hZ (y := o416) (z := o487) hown (o2 hw 165 rfl) (o2 hw 166 rfl) (o690 (args := #[]) (mvT hZ (o2 hw 122 rfl)) rfl) (o2 hw 168 rfl) (o2 hw 169 rfl) (o2 hw 81 rfl) (o2 hw 170 rfl) o24 (o832 hw hS ad1 (5 : Int32) h0 n0 O0 pe4 pf6) e951 pe4 o179 (argsL := []) (rest := []) rfl rfl (g := (mkF m 10 #[o1 ad0, o1 ad1, .val .null, o1 ad2, o5] [.ref ad1])) rfl (by rw [hml]; rfl) rfl (hb hby o332) (W := 0) rfl) ?_
  intro T952 v952 L952 X952 hQ952
  obtain ⟨rfl, M952, e952⟩ := hQ952
  have N952 := Fr.app N951 M952
  refine o4 (fun u j => o20 X952.here hx rfl (hb hby o333) rfl (l' := #[o1 ad0, o1 ad1, .val .null, o1 ad2, o0 5]) rfl (o3 X952.here hx rfl (hb hby o334) rfl rfl j)) ?_
  refine o17 (o63 X952 hx hZ (y := o377) (z := o377) hown (o2 hw 173 rfl) (o2 hw 174 rfl) (notFace_of_selects (args := #[]) (mvT hZ (o2 hw 176 rfl))) (o2 hw 176 rfl) (o2 hw 175 rfl) (o2 hw 89 rfl) (o2 hw 177 rfl) o24 (o833 hw hS ad1 h0 n0 O0 pf5) e952 pe4 o494 (argsL := []) (rest := []) rfl rfl (g := (mkF m 16 #[o1 ad0, o1 ad1, .val .null, o1 ad2, o0 5] [.ref ad1])) rfl (by rw [hml]; rfl) rfl (hb hby o335) (W := 0) rfl) ?_
  intro T953 v953 L953 X953 hQ953
  obtain ⟨rfl, M953, e953⟩ := hQ953
  have N953 := Fr.app N952 M953
  refine o4 (fun u j => o68 X953.here hx rfl (hb hby o336) rfl (o65 (by decide)) (o3 X953.here hx rfl (hb hby o337) rfl rfl (o16 X953.here hx rfl (hb hby o338) j))) ?_
  refine o32 (putF X953 hx hZ hown (host := "") (Or.inl (o2 hw 24 rfl)) Via.refl e953 pf2 pe1 (Or.inr ⟨(o2 hw 25 rfl), rfl, hnm⟩) (o2 hw 10 rfl) (ty := .byte) o92 rfl rfl rfl rfl (hb hby o339)) ?_
  intro T954 h954 X954 e954 W954
  have N954 := Fr.snoc X954 N953 pg_ad0
  have F955 : Fld Z h954 ad0 o7 "coder" "B" (.int 0) := Fld.same W954 pf2
  refine o4 (fun u j => o3 X954.here hx rfl (hb hby o340) rfl rfl (o3 X954.here hx rfl (hb hby o341) rfl rfl (o16 X954.here hx rfl (hb hby o342) (o8 X954.here hx rfl (hb hby o343) rfl j)))) ?_
  have ne956 := (ne_exa pe8 pe1 o498)
  have F957 := (pa9.other W954 ne956)
  have O959 := O0.wr W954 pg_ad0
  refine o17 (o78 X954 hx hZ (y := o408) hown (o2 hw 178 rfl) (o2 hw 179 rfl) (o2 hw 180 rfl) (o2 hw 181 rfl) o184 (o941 hw hS ad2 kc3 iv4 iv5 h954 n0 O959 F957) e954 o392 (argsL := [.ref ad2, .int 0, .int 5]) (rest := [.ref ad0]) rfl rfl (g := (mkF m 32 #[o1 ad0, o1 ad1, .val .null, o1 ad2, o0 5] [.int 5, .int 0, .ref ad2, .ref ad0])) rfl (by rw [hml]; rfl) rfl (hb hby o344) (W := 1) rfl) ?_
  intro T958 v958 L958 X958 hQ958
  obtain ⟨nz0_960, kz1_961, rfl, M958, K958, z962, F963, F964⟩ := hQ958
  have N958 := Fr.app N954 M958
  have F965 := ((Exa.wr W954 pe1).keep K958)
  have F966 := ((Fld.other W954 pf3 (Or.inr (o310 hw))).keep K958 nin0)
  refine o32 (putF X958 hx hZ hown (host := "") (Or.inl (o2 hw 22 rfl)) Via.refl rfl F966 F965 (Or.inr ⟨(o2 hw 23 rfl), rfl, hnm⟩) (o2 hw 10 rfl) (ty := (.array .byte)) o91 rfl rfl rfl rfl (hb hby o365)) ?_
  intro T967 h967 X967 e967 W967
  have N967 := Fr.snoc X967 N958 pg_ad0
  have F968 : Fld Z h967 ad0 o7 "value" "[B" (.ref nz0_960) := Fld.same W967 F966
  refine o4 (fun u j => o15 X967.here hx rfl (pc0 := 38) (pc' := 97) rfl (hb hby o366) (by decide) (by decide) j) ?_
  have K969 := (Keep.refl h0 [ad0]).wr W954 (Or.inl (List.mem_of_getElem? (i := 0) rfl))
  have K970 := K969.trans K958 all0
  have K971 := K970.wr W967 (Or.inl (List.mem_of_getElem? (i := 0) rfl))
  have z972 := Nat.le_trans (Nat.le_of_eq W954.size.symm) z962
  have F973 := (Exa.wr W967 F965)
  have F974 := (Fld.other W967 (F955.keep K958 nin0) (Or.inr (o309 hw)))
  have F975 := (Exa.wr W967 F963)
  have ne976 := (Ne.symm (Nat.ne_of_lt (Nat.lt_of_lt_of_le F955.lt z962)))
  have F977 := (F964.other W967 ne976)
  exact o81 X967 hx hlk hret (hb hby o367) (by decide) (by decide) (by rw [e967]; exact ⟨nz0_960, kz1_961, rfl, N967, K971, z972, F973, F974, F968, F975, F977⟩)
theorem o499 : parseMethodDescriptor "(Ljava/lang/AbstractStringBuilder;Ljava/lang/Void;)V" = some ⟨[(.object "java/lang/AbstractStringBuilder"), (.object "java/lang/Void")], none⟩ := by decide +kernel
theorem o405 : decode jdk_42_method_53_code 6 = .ok (.return_, 1) := by decide +kernel
abbrev o410 : MethodName := ⟨"java/lang/String", "<init>", "(Ljava/lang/StringBuilder;)V"⟩
theorem o943 (hw : o35 a0 Z) (hS : o64 Z wcs) (ad0 ad1 ad2 : Addr) (kc3 : ClassId) (iv4 iv5 : Int32) (h0 : Heap) (n0 : Nat) (O0 : Old Z n0 h0) (pe1 : Exa Z h0 ad0 o7) (pf2 : Fld Z h0 ad0 o7 "coder" "B" (.int 0)) (pf3 : Fld Z h0 ad0 o7 "value" "[B" .null) (pe4 : Exa Z h0 ad1 o70) (pf5 : Fld Z h0 ad1 o10 "coder" "B" (.int 0)) (pf6 : Fld Z h0 ad1 o10 "count" "I" (.int 5)) (pf7 : Fld Z h0 ad1 o10 "value" "[B" (.ref ad2)) (pe8 : Exa Z h0 ad2 "[B") (pa9 : Arv Z h0 ad2 kc3 .byte 16 [.int iv4, .int 32, .int 39, .int iv5, .int 39, .int 0, .int 0, .int 0, .int 0, .int 0, .int 0, .int 0, .int 0, .int 0, .int 0, .int 0] (.int 0)) (pg_ad0 : n0 ≤ ad0) :
    o21 l o410 jdk_42_method_53_code 2 none ws ⟨4, 1, 5, 74⟩ Z h0 #[.ref ad0, .ref ad1] (fun v h L => ∃ nz0 : Addr, ∃ kz1 : ClassId, v = none ∧ Fr n0 L ∧ Keep h0 h [ad0] ∧ h0.size ≤ nz0 ∧ Exa Z h ad0 o7 ∧ Fld Z h ad0 o7 "coder" "B" (.int 0) ∧ Fld Z h ad0 o7 "value" "[B" (.ref nz0) ∧ Exa Z h nz0 "[B" ∧ Arv Z h nz0 kz1 .byte 5 [.int iv4, .int 32, .int 39, .int iv5, .int 39] (.int 0)) := by
  refine o18 (plainFor_of_name o83) ?_
  intro p e s m below meth c s₁ hx hby hml hown hnm hret hlk hZ e0 X0
  have N0 := Fr.nil n0
  refine o4 (fun u j => castTop (show entryFrame m #[.ref ad0, .ref ad1] 2 = mkF m 0 #[o1 ad0, o1 ad1] [] from rfl) j) ?_
  refine o4 (fun u j => o3 X0.here hx rfl (hb hby o401) rfl rfl (o3 X0.here hx rfl (hb hby o402) rfl rfl (o99 X0.here hx rfl (hb hby o403) j))) ?_
  refine o17 (o87 X0 hx hZ (y := o409) rfl hown (o2 hw 157 rfl) (o2 hw 158 rfl) (o2 hw 2 rfl) (o2 hw 159 rfl) o67 (o942 hw hS ad0 ad1 ad2 kc3 iv4 iv5 h0 n0 O0 pe1 pf2 pf3 pe4 pf5 pf6 pf7 pe8 pa9 pg_ad0) e0 o499 (a := ad0) (argsL := [.ref ad1, .null]) (rest := []) rfl rfl (g := (mkF m 3 #[o1 ad0, o1 ad1] [.null, .ref ad1, .ref ad0])) rfl (by rw [hml]; rfl) rfl (hb hby o404) (W := 0) rfl) ?_
  intro T987 v987 L987 X987 hQ987
  obtain ⟨nz0_988, kz1_989, rfl, M987, K987, z990, F991, F992, F993, F994, F995⟩ := hQ987
  have N987 := Fr.app N0 M987
  have K996 := (Keep.refl h0 [ad0]).trans K987 (allS (Or.inl (List.mem_of_getElem? (i := 0) rfl)) all0)
  have z997 := Nat.le_trans (Nat.le_refl _) z990
  exact o81 X987 hx hlk hret (hb hby o405) (by decide) (by decide) (by exact ⟨nz0_988, kz1_989, rfl, N987, K996, z997, F991, F992, F993, F994, F995⟩)
theorem o500 : parseMethodDescriptor "(Ljava/lang/StringBuilder;)V" = some ⟨[(.object "java/lang/StringBuilder")], none⟩ := by decide +kernel
theorem o406 : decode jdk_67_method_42_code 8 = .ok (.areturn, 1) := by decide +kernel
abbrev o183 : MethodName := ⟨"java/lang/StringBuilder", "toString", "()Ljava/lang/String;"⟩
theorem o872 (hw : o35 a0 Z) (hS : o64 Z wcs) (ad0 ad1 : Addr) (kc2 : ClassId) (iv3 iv4 : Int32) (h0 : Heap) (n0 : Nat) (O0 : Old Z n0 h0) (pe1 : Exa Z h0 ad0 o70) (pf2 : Fld Z h0 ad0 o10 "coder" "B" (.int 0)) (pf3 : Fld Z h0 ad0 o10 "count" "I" (.int 5)) (pf4 : Fld Z h0 ad0 o10 "value" "[B" (.ref ad1)) (pe5 : Exa Z h0 ad1 "[B") (pa6 : Arv Z h0 ad1 kc2 .byte 16 [.int iv3, .int 32, .int 39, .int iv4, .int 39, .int 0, .int 0, .int 0, .int 0, .int 0, .int 0, .int 0, .int 0, .int 0, .int 0, .int 0] (.int 0)) :
    o21 l o183 jdk_67_method_42_code 1 (some (.object "java/lang/String")) ws ⟨5, 2, 9, 88⟩ Z h0 #[.ref ad0] (fun v h L => ∃ nz0 : Addr, ∃ nz1 : Addr, ∃ kz2 : ClassId, v = some (.ref nz0) ∧ Fr n0 L ∧ Keep h0 h [] ∧ h0.size ≤ nz0 ∧ h0.size ≤ nz1 ∧ Exa Z h nz0 o7 ∧ Fld Z h nz0 o7 "coder" "B" (.int 0) ∧ Fld Z h nz0 o7 "value" "[B" (.ref nz1) ∧ Exa Z h nz1 "[B" ∧ Arv Z h nz1 kz2 .byte 5 [.int iv3, .int 32, .int 39, .int iv4, .int 39] (.int 0)) := by
  refine o18 (plainFor_of_name o173) ?_
  intro p e s m below meth c s₁ hx hby hml hown hnm hret hlk hZ e0 X0
  have N0 := Fr.nil n0
  refine o4 (fun u j => castTop (show entryFrame m #[.ref ad0] 1 = mkF m 0 #[o1 ad0] [] from rfl) j) ?_
  have q_ := newO X0 hx hZ hown (o2 hw 153 rfl) (o2 hw 10 rfl) (o2 hw 2 rfl) e0 (g := (mkF m 0 #[o1 ad0] [])) rfl (hb hby o397) (by decide) (by decide)
  obtain ⟨T1015, h1015, X1015, e1015, E1015, A1015, D1015, U1015, st1015⟩ := q_
  have q_ : ∃ z, z = h0.size := ⟨_, rfl⟩
  obtain ⟨b1015, g1015⟩ := q_
  rw [← g1015] at A1015 D1015 U1015 st1015
  have F1015_value : Fld Z h1015 b1015 o7 "value" "[B" .null := D1015 (Or.inr (o2 hw 23 rfl)) (ty := (.array .byte)) o91
  have F1015_coder : Fld Z h1015 b1015 o7 "coder" "B" (.int 0) := D1015 (Or.inr (o2 hw 25 rfl)) (ty := .byte) o92
  refine o4 (fun u j => st1015 u j) ?_
  refine o4 (fun u j => o61 X1015.here hx rfl (hb hby o398) rfl rfl (o3 X1015.here hx rfl (hb hby o399) rfl rfl j)) ?_
  have F1016 := (Exa.ext E1015 pe1)
  have F1017 := (Fld.ext E1015 pf2)
  have F1018 := (Fld.ext E1015 pf3)
  have F1019 := (Fld.ext E1015 pf4)
  have F1020 := (Exa.ext E1015 pe5)
  have F1021 := (pa6.ext E1015)
  have g1022 := Nat.le_trans (o103 O0) (Nat.le_of_eq g1015.symm)
  have O1024 := O0.ext E1015
  refine o17 (o87 X1015 hx hZ (y := o410) rfl hown (o2 hw 154 rfl) (o2 hw 155 rfl) (o2 hw 2 rfl) (o2 hw 156 rfl) o67 (o943 hw hS b1015 ad0 ad1 kc2 iv3 iv4 h1015 n0 O1024 A1015 F1015_coder F1015_value F1016 F1017 F1018 F1019 F1020 F1021 g1022) e1015 o500 (a := b1015) (argsL := [.ref ad0]) (rest := [.ref b1015]) rfl rfl (g := (mkF m 5 #[o1 ad0] [.ref ad0, .ref b1015, .ref b1015])) rfl (by rw [hml]; rfl) rfl (hb hby o400) (W := 1) rfl) ?_
  intro T1023 v1023 L1023 X1023 hQ1023
  obtain ⟨nz0_1025, kz1_1026, rfl, M1023, K1023, z1027, F1028, F1029, F1030, F1031, F1032⟩ := hQ1023
  have N1023 := Fr.app N0 M1023
  have K1033 := (Keep.refl h0 []).ext E1015
  have z1035 := Nat.le_trans (Nat.le_refl _) (Nat.le_of_eq g1015.symm)
  have K1034 := K1033.trans K1023 (allS (Or.inr z1035) all0)
  have z1036 := Nat.le_trans E1015.1 z1027
  exact o69 X1023 hx hlk hret rfl (Or.inr (Or.inr (Or.inr (Or.inr ⟨rfl, rfl, rfl⟩)))) (hb hby o406) (by decide) (by decide) (by exact ⟨b1015, nz0_1025, kz1_1026, rfl, N1023, K1034, z1035, z1036, F1028, F1029, F1030, F1031, F1032⟩)
theorem o944 (hw : o35 a0 Z) (hS : o64 Z wcs) (ad0 ad1 : Addr) (ad2 ad3 ad4 : Addr) (kc5 : ClassId) (iv6 : Int32) (kc7 : ClassId) (iv8 : Int32) (h0 : Heap) (n0 : Nat) (O0 : Old Z n0 h0) (pe1 : Exa Z h0 ad0 o62) (pf2 : Fld Z h0 ad0 o62 "bean" o71 .null) (pf3 : Fld Z h0 ad0 o62 "name" o71 (.ref ad1)) (pf4 : Fld Z h0 ad0 o62 "part" o71 (.ref ad2)) (pe5 : Exa Z h0 ad1 o7) (pf6 : Fld Z h0 ad1 o7 "coder" "B" (.int 0)) (pf7 : Fld Z h0 ad1 o7 "value" "[B" (.ref ad3)) (pe8 : Exa Z h0 ad2 o7) (pf9 : Fld Z h0 ad2 o7 "coder" "B" (.int 0)) (pf10 : Fld Z h0 ad2 o7 "value" "[B" (.ref ad4)) (pe11 : Exa Z h0 ad3 "[B") (pa12 : Arv Z h0 ad3 kc5 .byte 1 [.int iv6] (.int 0)) (pe13 : Exa Z h0 ad4 "[B") (pa14 : Arv Z h0 ad4 kc7 .byte 1 [.int iv8] (.int 0)) :
    o206 o23 [] l o181 prog_89_method_5_code 3 (some (.object "java/lang/String")) ws ⟨6, 8, 49, 100⟩ Z h0 #[.ref ad0] (fun v h L => ∃ nz0 : Addr, ∃ nz1 : Addr, ∃ kz2 : ClassId, v = some (.ref nz0) ∧ Fr n0 L ∧ Keep h0 h [] ∧ h0.size ≤ nz0 ∧ h0.size ≤ nz1 ∧ Exa Z h nz0 o7 ∧ Fld Z h nz0 o7 "coder" "B" (.int 0) ∧ Fld Z h nz0 o7 "value" "[B" (.ref nz1) ∧ Exa Z h nz1 "[B" ∧ Arv Z h nz1 kz2 .byte 5 [.int iv8, .int 32, .int 39, .int iv6, .int 39] (.int 0)) := by
  refine o461 (plainFor_of_name o312) ?_
  intro p e s m below meth c s₁ hx hby hml hown hnm hret hlk hZ e0 X0 hSi0 hs0 hC0 hsf0
  have hZ_0 := hZ
  have R0 : CHr Z o23 s.vm h0 s.vm h0 := CHr.refl hC0
  have N0 := Fr.nil n0
  refine o4 (fun u j => castTop (show entryFrame m #[.ref ad0] 3 = mkF m 0 #[o1 ad0, o5, o5] [] from rfl) j) ?_
  refine o4 (fun u j => o3 X0.here hx rfl (hb hby o268) rfl rfl j) ?_
  refine o22 (getF X0 hx hZ hown (host := "") (Or.inl (o2 hw 42 rfl)) Via.refl e0 pf3 rfl rfl (hb hby o269)) ?_
  intro T1051 X1051 e1051
  refine o4 (fun u j => o86 X1051.here hx rfl (pc0 := 4) (pc' := 14) rfl (hb hby o270) rfl (by decide) (by decide) j) ?_
  have q_ := newO X1051 hx hZ hown (o2 hw 79 rfl) (o2 hw 80 rfl) (o2 hw 81 rfl) e1051 (g := (mkF m 14 #[o1 ad0, o5, o5] [])) rfl (hb hby o473) (by decide) (by decide)
  obtain ⟨T1052, h1052, X1052, e1052, E1052, A1052, D1052, U1052, st1052⟩ := q_
  have q_ : ∃ z, z = h0.size := ⟨_, rfl⟩
  obtain ⟨b1052, g1052⟩ := q_
  rw [← g1052] at A1052 D1052 U1052 st1052
  have F1052_value : Fld Z h1052 b1052 o10 "value" "[B" .null := D1052 (Or.inl (o2 hw 94 rfl)) (ty := (.array .byte)) o91
  have F1052_coder : Fld Z h1052 b1052 o10 "coder" "B" (.int 0) := D1052 (Or.inl (o2 hw 96 rfl)) (ty := .byte) o92
  have F1052_count : Fld Z h1052 b1052 o10 "count" "I" (.int 0) := D1052 (Or.inl (o2 hw 118 rfl)) (ty := .int) o120
  refine o4 (fun u j => st1052 u j) ?_
  refine o4 (fun u j => o61 X1052.here hx rfl (hb hby o474) rfl rfl j) ?_
  have g1053 := Nat.le_trans (o103 O0) (Nat.le_of_eq g1052.symm)
  have O1055 := O0.ext E1052
  refine o17 (o87 X1052 hx hZ (y := o431) rfl hown (o2 hw 82 rfl) (o2 hw 83 rfl) (o2 hw 81 rfl) (o2 hw 84 rfl) o90 (o825 hw hS b1052 h1052 n0 O1055 A1052 F1052_coder F1052_count F1052_value g1053) e1052 o311 (a := b1052) (argsL := []) (rest := [.ref b1052]) rfl rfl (g := (mkF m 18 #[o1 ad0, o5, o5] [.ref b1052, .ref b1052])) rfl (by rw [hml]; rfl) rfl (hb hby o475) (W := 1) rfl) ?_
  intro T1054 v1054 L1054 X1054 hQ1054
  obtain ⟨nz0_1056, kz1_1057, rfl, M1054, K1054, z1058, F1059, F1060, F1061, F1062, F1063, F1064⟩ := hQ1054
  have N1054 := Fr.app N0 M1054
  refine o4 (fun u j => o3 X1054.here hx rfl (hb hby o476) rfl rfl j) ?_
  have ne1065 := (Nat.ne_of_lt (Nat.lt_of_lt_of_le pe1.lt (Nat.le_of_eq g1052.symm)))
  have F1066 := ((Fld.ext E1052 pf4).keep K1054 (ninS ne1065 nin0))
  refine o22 (getF X1054 hx hZ hown (host := "") (Or.inl (o2 hw 40 rfl)) Via.refl rfl F1066 rfl rfl (hb hby o477)) ?_
  intro T1067 X1067 e1067
  have F1068 := ((Exa.ext E1052 pe8).keep K1054)
  have ne1069 := (Nat.ne_of_lt (Nat.lt_of_lt_of_le pe8.lt (Nat.le_of_eq g1052.symm)))
  have F1070 := ((Fld.ext E1052 pf9).keep K1054 (ninS ne1069 nin0))
  have F1071 := ((Fld.ext E1052 pf10).keep K1054 (ninS ne1069 nin0))
  have ne1072 := (Nat.ne_of_lt (Nat.lt_of_lt_of_le pe13.lt (Nat.le_of_eq g1052.symm)))
  have F1073 := ((pa14.ext E1052).keep K1054 (ninS ne1072 nin0))
  have g1074 := Nat.le_trans (o103 O1055) z1058
  have O1076 := O1055.keep K1054 (allS g1053 all0)
  refine o17 (o63 X1067 hx hZ (y := o80) (z := o80) hown (o2 hw 97 rfl) (o2 hw 98 rfl) (notFace_of_selects (args := #[]) (mvT hZ (o2 hw 100 rfl))) (o2 hw 100 rfl) (o2 hw 99 rfl) (o2 hw 81 rfl) (o2 hw 101 rfl) o90 (o868 hw hS b1052 ad2 nz0_1056 ad4 kz1_1057 kc7 iv8 T1054.heap n0 O1076 F1059 F1060 F1061 F1062 F1068 F1070 F1071 F1063 F1064 F1073 g1074 g1053) e1067 F1059 o121 (argsL := [.ref ad2]) (rest := []) rfl rfl (g := (mkF m 25 #[o1 ad0, o5, o5] [.ref ad2, .ref b1052])) rfl (by rw [hml]; rfl) rfl (hb hby o478) (W := 0) rfl) ?_
  intro T1075 v1075 L1075 X1075 hQ1075
  obtain ⟨rfl, M1075, K1075, F1077, F1078, F1079, F1080, F1081, F1082⟩ := hQ1075
  have N1075 := Fr.app N1054 M1075
  have R1084 : CHr Z o23 s.vm h0 s.vm h1052 := R0.trans (CHr.ext E1052 R0.1)
  have sf_1086 : Safe Z o23 s.vm h1052 b1052 := Safe.exa hZ_0.alike A1052 o102 o85
  have R1085 : CHr Z o23 s.vm h0 s.vm T1054.heap := R1084.trans (CHr.keep K1054 (sfS sf_1086 sf0) R1084.1)
  have sf_1088 : Safe Z o23 s.vm T1054.heap b1052 := Safe.exa hZ_0.alike F1059 o102 o85
  have sf_1089 : Safe Z o23 s.vm h1052 nz0_1056 := Safe.new z1058
  have sf_1090 : Safe Z o23 s.vm T1054.heap nz0_1056 := Safe.keep K1054 (sfS sf_1086 sf0) R1084.1 sf_1089
  have R1087 : CHr Z o23 s.vm h0 s.vm T1075.heap := R1085.trans (CHr.keep K1075 (sfS sf_1090 (sfS sf_1088 sf0)) R1085.1)
  obtain ⟨a1083, T1083, h1083, j1083, b1083, k1083, X1083, e1083, E1083, Si1083, Sk1083, hZ1083, hown1083, Ea1083, Fc1083, Fv1083, Av1083, la1083, lb1083, hr1083, Li1083, ln1083, st1083⟩ := ldcCH X1075 hx hZ hown (o2 hw 144 rfl) (o393 hw) rfl hSi0 (Nat.le_trans (Nat.zero_le _) (Nat.le_trans (Nat.le_trans E1052.1 K1054.1) K1075.1)) (o172 hw) (List.mem_of_getElem? (i := 0) rfl) R1087.1 (vs := [.int 32, .int 39]) (z := 2) o826 (by decide) rfl (g := (mkF m 28 #[o1 ad0, o5, o5] [.ref b1052])) rfl (hb hby o479) (n := 8) (by decide) (by decide) (by decide) (by decide)
  refine o4 (fun u j => st1083 u j) ?_
  have F1091 := (Exa.ext E1083 F1079)
  have F1092 := (Fld.ext E1083 F1080)
  have F1093 := (Fld.ext E1083 F1081)
  have F1094 := (Fld.ext E1083 F1082)
  have F1095 := (Exa.ext E1083 F1077)
  have F1096 := (F1078.ext E1083)
  have O1098 := O1076.keep K1075 (allS g1074 (allS g1053 all0))
  have O1099 := O1098.ext E1083
  refine o17 (o63 X1083 hx hZ1083 (y := o80) (z := o80) hown1083 (o2 hw 97 rfl) (o2 hw 98 rfl) (notFace_of_selects (args := #[]) (mvT hZ1083 (o2 hw 100 rfl))) (o2 hw 100 rfl) (o2 hw 99 rfl) (o2 hw 81 rfl) (o2 hw 101 rfl) o90 (o869 hw hS b1052 a1083 nz0_1056 b1083 kz1_1057 iv8 k1083 h1083 n0 O1099 F1091 F1092 F1093 F1094 Ea1083 Fc1083 Fv1083 F1095 F1096 Av1083 g1074 g1053) e1083 F1091 o121 (argsL := [.ref a1083]) (rest := []) rfl rfl (g := (mkF m 30 #[o1 ad0, o5, o5] [.ref a1083, .ref b1052])) rfl (by rw [hml]; rfl) rfl (hb hby o480) (W := 0) rfl) ?_
  intro T1097 v1097 L1097 X1097 hQ1097
  obtain ⟨rfl, M1097, K1097, F1100, F1101, F1102, F1103, F1104, F1105⟩ := hQ1097
  have N1097 := Fr.app N1075 M1097
  refine o4 (fun u j => o3 X1097.here hx rfl (hb hby o481) rfl rfl j) ?_
  have ne1106 := (Nat.ne_of_lt (Nat.lt_of_lt_of_le (Nat.lt_of_lt_of_le pe1.lt E1052.1) z1058))
  have F1107 := ((Fld.ext E1083 (((Fld.ext E1052 pf3).keep K1054 (ninS ne1065 nin0)).keep K1075 (ninS ne1106 (ninS ne1065 nin0)))).keep K1097 (ninS ne1106 (ninS ne1065 nin0)))
  refine o22 (getF X1097 hx hZ1083 hown1083 (host := "") (Or.inl (o2 hw 42 rfl)) Via.refl rfl F1107 rfl rfl (hb hby o482)) ?_
  intro T1108 X1108 e1108
  have F1109 := ((Exa.ext E1083 (((Exa.ext E1052 pe5).keep K1054).keep K1075)).keep K1097)
  have ne1110 := (Nat.ne_of_lt (Nat.lt_of_lt_of_le pe5.lt (Nat.le_of_eq g1052.symm)))
  have ne1111 := (Nat.ne_of_lt (Nat.lt_of_lt_of_le (Nat.lt_of_lt_of_le pe5.lt E1052.1) z1058))
  have F1112 := ((Fld.ext E1083 (((Fld.ext E1052 pf6).keep K1054 (ninS ne1110 nin0)).keep K1075 (ninS ne1111 (ninS ne1110 nin0)))).keep K1097 (ninS ne1111 (ninS ne1110 nin0)))
  have F1113 := ((Fld.ext E1083 (((Fld.ext E1052 pf7).keep K1054 (ninS ne1110 nin0)).keep K1075 (ninS ne1111 (ninS ne1110 nin0)))).keep K1097 (ninS ne1111 (ninS ne1110 nin0)))
  have ne1114 := (Nat.ne_of_lt (Nat.lt_of_lt_of_le pe11.lt (Nat.le_of_eq g1052.symm)))
  have ne1115 := (Nat.ne_of_lt (Nat.lt_of_lt_of_le (Nat.lt_of_lt_of_le pe11.lt E1052.1) z1058))
  have F1116 := (((((pa12.ext E1052).keep K1054 (ninS ne1114 nin0)).keep K1075 (ninS ne1115 (ninS ne1114 nin0))).ext E1083).keep K1097 (ninS ne1115 (ninS ne1114 nin0)))
  have O1118 := O1099.keep K1097 (allS g1074 (allS g1053 all0))
  refine o17 (o63 X1108 hx hZ1083 (y := o80) (z := o80) hown1083 (o2 hw 97 rfl) (o2 hw 98 rfl) (notFace_of_selects (args := #[]) (mvT hZ1083 (o2 hw 100 rfl))) (o2 hw 100 rfl) (o2 hw 99 rfl) (o2 hw 81 rfl) (o2 hw 101 rfl) o90 (o870 hw hS b1052 ad1 nz0_1056 ad3 kz1_1057 iv8 kc5 iv6 T1097.heap n0 O1118 F1102 F1103 F1104 F1105 F1109 F1112 F1113 F1100 F1101 F1116 g1074 g1053) e1108 F1102 o121 (argsL := [.ref ad1]) (rest := []) rfl rfl (g := (mkF m 37 #[o1 ad0, o5, o5] [.ref ad1, .ref b1052])) rfl (by rw [hml]; rfl) rfl (hb hby o483) (W := 0) rfl) ?_
  intro T1117 v1117 L1117 X1117 hQ1117
  obtain ⟨rfl, M1117, K1117, F1119, F1120, F1121, F1122, F1123, F1124⟩ := hQ1117
  have N1117 := Fr.app N1097 M1117
  have R1126 : CHr Z o23 s.vm h0 T1083.vm h1083 := R1087.trans hr1083
  have sf_1128 : Safe Z o23 T1083.vm h1083 b1052 := Safe.exa hZ1083.alike F1091 o102 o85
  have sf_1129 : Safe Z o23 s.vm T1075.heap nz0_1056 := Safe.keep K1075 (sfS sf_1090 (sfS sf_1088 sf0)) R1085.1 sf_1090
  have sf_1130 : Safe Z o23 T1083.vm h1083 nz0_1056 := hr1083.safe F1077.lt sf_1129
  have R1127 : CHr Z o23 s.vm h0 T1083.vm T1097.heap := R1126.trans (CHr.keep K1097 (sfS sf_1130 (sfS sf_1128 sf0)) R1126.1)
  have sf_1132 : Safe Z o23 T1083.vm T1097.heap b1052 := Safe.exa hZ1083.alike F1102 o102 o85
  have sf_1133 : Safe Z o23 T1083.vm T1097.heap nz0_1056 := Safe.keep K1097 (sfS sf_1130 (sfS sf_1128 sf0)) R1126.1 sf_1130
  have R1131 : CHr Z o23 s.vm h0 T1083.vm T1117.heap := R1127.trans (CHr.keep K1117 (sfS sf_1133 (sfS sf_1132 sf0)) R1127.1)
  obtain ⟨a1125, T1125, h1125, j1125, b1125, k1125, X1125, e1125, E1125, Si1125, Sk1125, hZ1125, hown1125, Ea1125, Fc1125, Fv1125, Av1125, la1125, lb1125, hr1125, Li1125, ln1125, st1125⟩ := ldcCH X1117 hx hZ1083 hown1083 (o2 hw 147 rfl) (o393 hw) rfl Si1083 (Nat.le_trans Sk1083 (Nat.le_trans K1097.1 K1117.1)) (o172 hw) (List.mem_of_getElem? (i := 1) rfl) R1131.1 (vs := [.int 39]) (z := 1) o506 (by decide) rfl (g := (mkF m 40 #[o1 ad0, o5, o5] [.ref b1052])) rfl (hb hby o484) (n := 4) (by decide) (by decide) (by decide) (by decide)
  refine o4 (fun u j => st1125 u j) ?_
  have F1134 := (Exa.ext E1125 F1121)
  have F1135 := (Fld.ext E1125 F1122)
  have F1136 := (Fld.ext E1125 F1123)
  have F1137 := (Fld.ext E1125 F1124)
  have F1138 := (Exa.ext E1125 F1119)
  have F1139 := (F1120.ext E1125)
  have O1141 := O1118.keep K1117 (allS g1074 (allS g1053 all0))
  have O1142 := O1141.ext E1125
  refine o17 (o63 X1125 hx hZ1125 (y := o80) (z := o80) hown1125 (o2 hw 97 rfl) (o2 hw 98 rfl) (notFace_of_selects (args := #[]) (mvT hZ1125 (o2 hw 100 rfl))) (o2 hw 100 rfl) (o2 hw 99 rfl) (o2 hw 81 rfl) (o2 hw 101 rfl) o90 (o871 hw hS b1052 a1125 nz0_1056 b1125 kz1_1057 iv8 iv6 k1125 h1125 n0 O1142 F1134 F1135 F1136 F1137 Ea1125 Fc1125 Fv1125 F1138 F1139 Av1125 g1074 g1053) e1125 F1134 o121 (argsL := [.ref a1125]) (rest := []) rfl rfl (g := (mkF m 42 #[o1 ad0, o5, o5] [.ref a1125, .ref b1052])) rfl (by rw [hml]; rfl) rfl (hb hby o485) (W := 0) rfl) ?_
  intro T1140 v1140 L1140 X1140 hQ1140
  obtain ⟨rfl, M1140, K1140, F1143, F1144, F1145, F1146, F1147, F1148⟩ := hQ1140
  have N1140 := Fr.app N1117 M1140
  have O1150 := O1142.keep K1140 (allS g1074 (allS g1053 all0))
  refine o17 (o63 X1140 hx hZ1125 (y := o183) (z := o183) hown1125 (o2 hw 148 rfl) (o2 hw 149 rfl) (notFace_of_selects (args := #[]) (mvT hZ1125 (o2 hw 151 rfl))) (o2 hw 151 rfl) (o2 hw 150 rfl) (o2 hw 81 rfl) (o2 hw 152 rfl) o90 (o872 hw hS b1052 nz0_1056 kz1_1057 iv8 iv6 T1140.heap n0 O1150 F1145 F1146 F1147 F1148 F1143 F1144) rfl F1145 o207 (argsL := []) (rest := []) rfl rfl (g := (mkF m 45 #[o1 ad0, o5, o5] [.ref b1052])) rfl (by rw [hml]; rfl) rfl (hb hby o486) (W := 0) rfl) ?_
  intro T1149 v1149 L1149 X1149 hQ1149
  obtain ⟨nz0_1151, nz1_1152, kz2_1153, rfl, M1149, K1149, z1154, z1155, F1156, F1157, F1158, F1159, F1160⟩ := hQ1149
  have N1149 := Fr.app N1140 M1149
  refine o4 (fun u j => o84 X1149.here hx rfl (hb hby o221) rfl rfl (l' := #[o1 ad0, o1 nz0_1151, o5]) rfl (o3 X1149.here hx rfl (hb hby o222) rfl rfl j)) ?_
  have F1161 := (((Fld.ext E1125 (((Fld.ext E1083 (((Fld.ext E1052 pf2).keep K1054 (ninS ne1065 nin0)).keep K1075 (ninS ne1106 (ninS ne1065 nin0)))).keep K1097 (ninS ne1106 (ninS ne1065 nin0))).keep K1117 (ninS ne1106 (ninS ne1065 nin0)))).keep K1140 (ninS ne1106 (ninS ne1065 nin0))).keep K1149 nin0)
  refine o22 (getF X1149 hx hZ1125 hown1125 (host := "") (Or.inl (o2 hw 38 rfl)) Via.refl rfl F1161 rfl rfl (hb hby o223)) ?_
  intro T1162 X1162 e1162
  refine o4 (fun u j => o185 X1162.here hx rfl (hb hby o224) rfl (o3 X1162.here hx rfl (hb hby o470) rfl rfl (o84 X1162.here hx rfl (hb hby o471) rfl rfl (l' := #[o1 ad0, o1 nz0_1151, o1 nz0_1151]) rfl (o15 X1162.here hx rfl (pc0 := 58) (pc' := 131) rfl (hb hby o472) (by decide) (by decide) (o3 X1162.here hx rfl (hb hby o188) rfl rfl j))))) ?_
  have K1163 := (Keep.refl h0 []).ext E1052
  have z1165 := Nat.le_trans (Nat.le_refl _) (Nat.le_of_eq g1052.symm)
  have K1164 := K1163.trans K1054 (allS (Or.inr z1165) all0)
  have z1167 := Nat.le_trans E1052.1 z1058
  have K1166 := K1164.trans K1075 (allS (Or.inr z1167) (allS (Or.inr z1165) all0))
  have K1168 := K1166.ext E1083
  have K1169 := K1168.trans K1097 (allS (Or.inr z1167) (allS (Or.inr z1165) all0))
  have K1170 := K1169.trans K1117 (allS (Or.inr z1167) (allS (Or.inr z1165) all0))
  have K1171 := K1170.ext E1125
  have K1172 := K1171.trans K1140 (allS (Or.inr z1167) (allS (Or.inr z1165) all0))
  have K1173 := K1172.trans K1149 all0
  have z1174 := Nat.le_trans (Nat.le_trans (Nat.le_trans (Nat.le_trans (Nat.le_trans (Nat.le_trans (Nat.le_trans (Nat.le_trans E1052.1 K1054.1) K1075.1) E1083.1) K1097.1) K1117.1) E1125.1) K1140.1) z1154
  have z1175 := Nat.le_trans (Nat.le_trans (Nat.le_trans (Nat.le_trans (Nat.le_trans (Nat.le_trans (Nat.le_trans (Nat.le_trans E1052.1 K1054.1) K1075.1) E1083.1) K1097.1) K1117.1) E1125.1) K1140.1) z1155
  have R1176 : CHr Z o23 s.vm h0 T1125.vm h1125 := R1131.trans hr1125
  have sf_1178 : Safe Z o23 T1125.vm h1125 b1052 := Safe.exa hZ1125.alike F1134 o102 o85
  have sf_1179 : Safe Z o23 T1083.vm T1117.heap nz0_1056 := Safe.keep K1117 (sfS sf_1133 (sfS sf_1132 sf0)) R1127.1 sf_1133
  have sf_1180 : Safe Z o23 T1125.vm h1125 nz0_1056 := hr1125.safe F1119.lt sf_1179
  have R1177 : CHr Z o23 s.vm h0 T1125.vm T1140.heap := R1176.trans (CHr.keep K1140 (sfS sf_1180 (sfS sf_1178 sf0)) R1176.1)
  have R1181 : CHr Z o23 s.vm h0 T1125.vm T1149.heap := R1177.trans (CHr.keep K1149 sf0 R1177.1)
  exact o368 X1162 Si1125 (Nat.le_trans Sk1125 (Nat.le_trans K1140.1 K1149.1)) e1162 hZ1125 (o172 hw) hs0 R1181 hx hlk hret rfl (Or.inr (Or.inr (Or.inr (Or.inr ⟨rfl, rfl, rfl⟩)))) (hb hby o189) (by decide) (by decide) (by rw [e1162]; exact ⟨nz0_1151, nz1_1152, kz2_1153, rfl, N1149, K1173, z1174, z1175, F1156, F1157, F1158, F1159, F1160⟩)
theorem o743 : decode method_3_code 24 = .ok (.new 8, 3) := by decide +kernel
theorem o744 : decode method_3_code 27 = .ok (.dup, 1) := by decide +kernel
theorem o745 : decode method_3_code 28 = .ok (.iconst 5, 1) := by decide +kernel
theorem o746 : decode method_3_code 29 = .ok (.newarray .char, 2) := by decide +kernel
theorem o747 : decode method_3_code 31 = .ok (.dup, 1) := by decide +kernel
theorem o748 : decode method_3_code 32 = .ok (.iconst 0, 1) := by decide +kernel
theorem o749 : decode method_3_code 33 = .ok (.iload 4, 2) := by decide +kernel
theorem o750 : decode method_3_code 35 = .ok (.castore, 1) := by decide +kernel
theorem o751 : decode method_3_code 36 = .ok (.dup, 1) := by decide +kernel
theorem o752 : decode method_3_code 37 = .ok (.iconst 1, 1) := by decide +kernel
theorem o753 : decode method_3_code 38 = .ok (.bipush 32, 2) := by decide +kernel
theorem o754 : decode method_3_code 40 = .ok (.castore, 1) := by decide +kernel
theorem o755 : decode method_3_code 41 = .ok (.dup, 1) := by decide +kernel
theorem o756 : decode method_3_code 42 = .ok (.iconst 2, 1) := by decide +kernel
theorem o757 : decode method_3_code 43 = .ok (.bipush 39, 2) := by decide +kernel
theorem o758 : decode method_3_code 45 = .ok (.castore, 1) := by decide +kernel
theorem o759 : decode method_3_code 46 = .ok (.dup, 1) := by decide +kernel
theorem o760 : decode method_3_code 47 = .ok (.iconst 3, 1) := by decide +kernel
theorem o761 : decode method_3_code 48 = .ok (.iload 5, 2) := by decide +kernel
theorem o762 : decode method_3_code 50 = .ok (.castore, 1) := by decide +kernel
theorem o763 : decode method_3_code 51 = .ok (.dup, 1) := by decide +kernel
theorem o764 : decode method_3_code 52 = .ok (.iconst 4, 1) := by decide +kernel
theorem o765 : decode method_3_code 53 = .ok (.bipush 39, 2) := by decide +kernel
theorem o766 : decode method_3_code 55 = .ok (.castore, 1) := by decide +kernel
theorem o767 : decode method_3_code 56 = .ok (.invokespecial 32, 3) := by decide +kernel
theorem o501 : ("[C" : String) ≠ "[B" := by decide +kernel
theorem o945 (hw : o35 a0 Z) (hS : o64 Z wcs) (ad0 ad1 : Addr) (kc2 : ClassId) (iv3 iv4 : Int32) (kc5 : ClassId) (h0 : Heap) (n0 : Nat) (O0 : Old Z n0 h0) (pe1 : Exa Z h0 ad0 "[C") (pa2 : Arv Z h0 ad0 kc2 .char 5 [.int iv3, .int 32, .int 39, .int iv4, .int 39] (.int 0)) (pe3 : Exa Z h0 ad1 "[B") (pa4 : Arv Z h0 ad1 kc5 .byte 5 [.int 0, .int 0, .int 0, .int 0, .int 0] (.int 0)) (pk5 : ¬ (255 : Int32) < iv3) (pk6 : ¬ (255 : Int32) < iv4) (pg_ad1 : n0 ≤ ad1) :
    o21 l o314 jdk_52_method_21_code 7 (some .int) ws ⟨0, 0, 0, 0⟩ Z h0 #[.ref ad0, .int 0, .ref ad1, .int 0, .int 5] (fun v h L => v = some (.int 5) ∧ Fr n0 L ∧ Keep h0 h [ad1] ∧ Exa Z h ad1 "[B" ∧ Arv Z h ad1 kc5 .byte 5 [(.int (iv3.toInt8.toInt32)), .int 32, .int 39, (.int (iv4.toInt8.toInt32)), .int 39] (.int 0)) := by
  refine o18 (plainFor_of_name o177) ?_
  intro p e s m below meth c s₁ hx hby hml hown hnm hret hlk hZ e0 X0
  have N0 := Fr.nil n0
  refine o4 (fun u j => castTop (show entryFrame m #[.ref ad0, .int 0, .ref ad1, .int 0, .int 5] 7 = mkF m 0 #[o1 ad0, o0 0, o1 ad1, o0 0, o0 5, o5, o5] [] from rfl) j) ?_
  refine o4 (fun u j => o16 X0.here hx rfl (hb hby o280) (o20 X0.here hx rfl (hb hby o281) rfl (l' := #[o1 ad0, o0 0, o1 ad1, o0 0, o0 5, o0 0, o5]) rfl (o8 X0.here hx rfl (hb hby o28) rfl (o8 X0.here hx rfl (hb hby o29) rfl (o14 X0.here hx rfl (hb hby o30) rfl (o19 (by decide)) (o3 X0.here hx rfl (hb hby o36) rfl rfl j)))))) ?_
  show o11 p e below _ (s₁.setTop (mkF m 11 #[o1 ad0, o0 0, o1 ad1, o0 0, o0 5, o0 0, o5] [.ref ad0]))
  refine o4 (fun u j => o6 X0.here hx rfl (hb hby o37) rfl (o104 X0 hx hZ e0 pa2 (j := 0) (v := (.int iv3)) (by decide) rfl rfl rfl (hb hby o38) (o20 X0.here hx rfl (hb hby o39) rfl (l' := #[o1 ad0, o0 0, o1 ad1, o0 0, o0 5, o0 0, o0 iv3]) rfl (o8 X0.here hx rfl (hb hby o40) rfl (o33 X0.here hx rfl (hb hby o41) (o13 X0.here hx rfl (pc0 := 20) (pc' := 26) rfl (hb hby o42) rfl (o73 pk5) (by decide) (by decide) j)))))) ?_
  show o11 p e below _ (s₁.setTop (mkF m 26 #[o1 ad0, o0 0, o1 ad1, o0 0, o0 5, o0 0, o0 iv3] []))
  refine o4 (fun u j => o3 X0.here hx rfl (hb hby o43) rfl rfl (o6 X0.here hx rfl (hb hby o44) rfl (o8 X0.here hx rfl (hb hby o45) rfl (o79 X0.here hx rfl (hb hby o46) rfl j)))) ?_
  refine o32 (o101 X0 hx hZ e0 pa4 (j := 0) (by decide) rfl rfl (hb hby o47)) ?_
  intro T1237 h1237 X1237 e1237 W1237
  rw [o426] at W1237
  have N1237 := Fr.snoc X1237 N0 pg_ad1
  have V1237 : Arv Z h1237 ad1 kc5 .byte 5 [(.int (iv3.toInt8.toInt32)), .int 0, .int 0, .int 0, .int 0] (.int 0) := o74 pa4 (fits_nar_byte _) W1237 0 rfl (Nat.le_of_ble_eq_true rfl)
  refine o4 (fun u j => o12 X1237.here hx rfl (hb hby o48) rfl (l' := #[o1 ad0, o0 1, o1 ad1, o0 0, o0 5, o0 0, o0 iv3]) rfl (o12 X1237.here hx rfl (hb hby o49) rfl (l' := #[o1 ad0, o0 1, o1 ad1, o0 1, o0 5, o0 0, o0 iv3]) rfl (o12 X1237.here hx rfl (hb hby o50) rfl (l' := #[o1 ad0, o0 1, o1 ad1, o0 1, o0 5, o0 1, o0 iv3]) rfl (o15 X1237.here hx rfl (pc0 := 41) (pc' := 3) rfl (hb hby o51) (by decide) (by decide) (o8 X1237.here hx rfl (hb hby o28) rfl (o8 X1237.here hx rfl (hb hby o29) rfl j)))))) ?_
  show o11 p e below _ (T1237.setTop (mkF m 7 #[o1 ad0, o0 1, o1 ad1, o0 1, o0 5, o0 1, o0 iv3] [.int 5, .int 1]))
  refine o4 (fun u j => o14 X1237.here hx rfl (hb hby o30) rfl (o19 (by decide)) (o3 X1237.here hx rfl (hb hby o36) rfl rfl (o6 X1237.here hx rfl (hb hby o37) rfl j))) ?_
  have ne1238 := (ne_exa pe1 pe3 o501)
  have F1239 := (pa2.other W1237 ne1238)
  refine o4 (fun u j => o104 X1237 hx hZ e1237 F1239 (j := 1) (v := (.int 32)) (by decide) rfl rfl rfl (hb hby o38) (o20 X1237.here hx rfl (hb hby o39) rfl (l' := #[o1 ad0, o0 1, o1 ad1, o0 1, o0 5, o0 1, o0 32]) rfl (o8 X1237.here hx rfl (hb hby o40) rfl j))) ?_
  show o11 p e below _ (T1237.setTop (mkF m 17 #[o1 ad0, o0 1, o1 ad1, o0 1, o0 5, o0 1, o0 32] [.int 32]))
  refine o4 (fun u j => o33 X1237.here hx rfl (hb hby o41) (o13 X1237.here hx rfl (pc0 := 20) (pc' := 26) rfl (hb hby o42) rfl (o73 (by decide)) (by decide) (by decide) (o3 X1237.here hx rfl (hb hby o43) rfl rfl (o6 X1237.here hx rfl (hb hby o44) rfl (o8 X1237.here hx rfl (hb hby o45) rfl (o79 X1237.here hx rfl (hb hby o46) rfl j)))))) ?_
  show o11 p e below _ (T1237.setTop (mkF m 31 #[o1 ad0, o0 1, o1 ad1, o0 1, o0 5, o0 1, o0 32] [.int 32, .int 1, .ref ad1]))
  refine o32 (o101 X1237 hx hZ e1237 V1237 (j := 1) (by decide) rfl rfl (hb hby o47)) ?_
  intro T1240 h1240 X1240 e1240 W1240
  replace W1240 : Wr h1237 h1240 ad1 ((1 : Int32)).toNatClampNeg (.int 32) := W1240
  have N1240 := Fr.snoc X1240 N1237 pg_ad1
  have V1240 : Arv Z h1240 ad1 kc5 .byte 5 [(.int (iv3.toInt8.toInt32)), .int 32, .int 0, .int 0, .int 0] (.int 0) := o74 V1237 rfl W1240 1 rfl (Nat.le_of_ble_eq_true rfl)
  refine o4 (fun u j => o12 X1240.here hx rfl (hb hby o48) rfl (l' := #[o1 ad0, o0 2, o1 ad1, o0 1, o0 5, o0 1, o0 32]) rfl (o12 X1240.here hx rfl (hb hby o49) rfl (l' := #[o1 ad0, o0 2, o1 ad1, o0 2, o0 5, o0 1, o0 32]) rfl (o12 X1240.here hx rfl (hb hby o50) rfl (l' := #[o1 ad0, o0 2, o1 ad1, o0 2, o0 5, o0 2, o0 32]) rfl (o15 X1240.here hx rfl (pc0 := 41) (pc' := 3) rfl (hb hby o51) (by decide) (by decide) (o8 X1240.here hx rfl (hb hby o28) rfl (o8 X1240.here hx rfl (hb hby o29) rfl j)))))) ?_
  show o11 p e below _ (T1240.setTop (mkF m 7 #[o1 ad0, o0 2, o1 ad1, o0 2, o0 5, o0 2, o0 32] [.int 5, .int 2]))
  refine o4 (fun u j => o14 X1240.here hx rfl (hb hby o30) rfl (o19 (by decide)) (o3 X1240.here hx rfl (hb hby o36) rfl rfl (o6 X1240.here hx rfl (hb hby o37) rfl j))) ?_
  have F1241 := (F1239.other W1240 ne1238)
  refine o4 (fun u j => o104 X1240 hx hZ e1240 F1241 (j := 2) (v := (.int 39)) (by decide) rfl rfl rfl (hb hby o38) (o20 X1240.here hx rfl (hb hby o39) rfl (l' := #[o1 ad0, o0 2, o1 ad1, o0 2, o0 5, o0 2, o0 39]) rfl (o8 X1240.here hx rfl (hb hby o40) rfl j))) ?_
  show o11 p e below _ (T1240.setTop (mkF m 17 #[o1 ad0, o0 2, o1 ad1, o0 2, o0 5, o0 2, o0 39] [.int 39]))
  refine o4 (fun u j => o33 X1240.here hx rfl (hb hby o41) (o13 X1240.here hx rfl (pc0 := 20) (pc' := 26) rfl (hb hby o42) rfl (o73 (by decide)) (by decide) (by decide) (o3 X1240.here hx rfl (hb hby o43) rfl rfl (o6 X1240.here hx rfl (hb hby o44) rfl (o8 X1240.here hx rfl (hb hby o45) rfl (o79 X1240.here hx rfl (hb hby o46) rfl j)))))) ?_
  show o11 p e below _ (T1240.setTop (mkF m 31 #[o1 ad0, o0 2, o1 ad1, o0 2, o0 5, o0 2, o0 39] [.int 39, .int 2, .ref ad1]))
  refine o32 (o101 X1240 hx hZ e1240 V1240 (j := 2) (by decide) rfl rfl (hb hby o47)) ?_
  intro T1242 h1242 X1242 e1242 W1242
  replace W1242 : Wr h1240 h1242 ad1 ((2 : Int32)).toNatClampNeg (.int 39) := W1242
  have N1242 := Fr.snoc X1242 N1240 pg_ad1
  have V1242 : Arv Z h1242 ad1 kc5 .byte 5 [(.int (iv3.toInt8.toInt32)), .int 32, .int 39, .int 0, .int 0] (.int 0) := o74 V1240 rfl W1242 2 rfl (Nat.le_of_ble_eq_true rfl)
  refine o4 (fun u j => o12 X1242.here hx rfl (hb hby o48) rfl (l' := #[o1 ad0, o0 3, o1 ad1, o0 2, o0 5, o0 2, o0 39]) rfl (o12 X1242.here hx rfl (hb hby o49) rfl (l' := #[o1 ad0, o0 3, o1 ad1, o0 3, o0 5, o0 2, o0 39]) rfl (o12 X1242.here hx rfl (hb hby o50) rfl (l' := #[o1 ad0, o0 3, o1 ad1, o0 3, o0 5, o0 3, o0 39]) rfl (o15 X1242.here hx rfl (pc0 := 41) (pc' := 3) rfl (hb hby o51) (by decide) (by decide) (o8 X1242.here hx rfl (hb hby o28) rfl (o8 X1242.here hx rfl (hb hby o29) rfl j)))))) ?_
  show o11 p e below _ (T1242.setTop (mkF m 7 #[o1 ad0, o0 3, o1 ad1, o0 3, o0 5, o0 3, o0 39] [.int 5, .int 3]))
  refine o4 (fun u j => o14 X1242.here hx rfl (hb hby o30) rfl (o19 (by decide)) (o3 X1242.here hx rfl (hb hby o36) rfl rfl (o6 X1242.here hx rfl (hb hby o37) rfl j))) ?_
  have F1243 := (F1241.other W1242 ne1238)
  refine o4 (fun u j => o104 X1242 hx hZ e1242 F1243 (j := 3) (v := (.int iv4)) (by decide) rfl rfl rfl (hb hby o38) (o20 X1242.here hx rfl (hb hby o39) rfl (l' := #[o1 ad0, o0 3, o1 ad1, o0 3, o0 5, o0 3, o0 iv4]) rfl (o8 X1242.here hx rfl (hb hby o40) rfl j))) ?_
  show o11 p e below _ (T1242.setTop (mkF m 17 #[o1 ad0, o0 3, o1 ad1, o0 3, o0 5, o0 3, o0 iv4] [.int iv4]))
  refine o4 (fun u j => o33 X1242.here hx rfl (hb hby o41) (o13 X1242.here hx rfl (pc0 := 20) (pc' := 26) rfl (hb hby o42) rfl (o73 pk6) (by decide) (by decide) (o3 X1242.here hx rfl (hb hby o43) rfl rfl (o6 X1242.here hx rfl (hb hby o44) rfl (o8 X1242.here hx rfl (hb hby o45) rfl (o79 X1242.here hx rfl (hb hby o46) rfl j)))))) ?_
  show o11 p e below _ (T1242.setTop (mkF m 31 #[o1 ad0, o0 3, o1 ad1, o0 3, o0 5, o0 3, o0 iv4] [(.int (iv4.toInt8.toInt32)), .int 3, .ref ad1]))
  refine o32 (o101 X1242 hx hZ e1242 V1242 (j := 3) (by decide) rfl rfl (hb hby o47)) ?_
  intro T1244 h1244 X1244 e1244 W1244
  rw [o426] at W1244
  have N1244 := Fr.snoc X1244 N1242 pg_ad1
  have V1244 : Arv Z h1244 ad1 kc5 .byte 5 [(.int (iv3.toInt8.toInt32)), .int 32, .int 39, (.int (iv4.toInt8.toInt32)), .int 0] (.int 0) := o74 V1242 (fits_nar_byte _) W1244 3 rfl (Nat.le_of_ble_eq_true rfl)
  refine o4 (fun u j => o12 X1244.here hx rfl (hb hby o48) rfl (l' := #[o1 ad0, o0 4, o1 ad1, o0 3, o0 5, o0 3, o0 iv4]) rfl (o12 X1244.here hx rfl (hb hby o49) rfl (l' := #[o1 ad0, o0 4, o1 ad1, o0 4, o0 5, o0 3, o0 iv4]) rfl (o12 X1244.here hx rfl (hb hby o50) rfl (l' := #[o1 ad0, o0 4, o1 ad1, o0 4, o0 5, o0 4, o0 iv4]) rfl (o15 X1244.here hx rfl (pc0 := 41) (pc' := 3) rfl (hb hby o51) (by decide) (by decide) (o8 X1244.here hx rfl (hb hby o28) rfl (o8 X1244.here hx rfl (hb hby o29) rfl j)))))) ?_
  show o11 p e below _ (T1244.setTop (mkF m 7 #[o1 ad0, o0 4, o1 ad1, o0 4, o0 5, o0 4, o0 iv4] [.int 5, .int 4]))
  refine o4 (fun u j => o14 X1244.here hx rfl (hb hby o30) rfl (o19 (by decide)) (o3 X1244.here hx rfl (hb hby o36) rfl rfl (o6 X1244.here hx rfl (hb hby o37) rfl j))) ?_
  have F1245 := (F1243.other W1244 ne1238)
  refine o4 (fun u j => o104 X1244 hx hZ e1244 F1245 (j := 4) (v := (.int 39)) (by decide) rfl rfl rfl (hb hby o38) (o20 X1244.here hx rfl (hb hby o39) rfl (l' := #[o1 ad0, o0 4, o1 ad1, o0 4, o0 5, o0 4, o0 39]) rfl (o8 X1244.here hx rfl (hb hby o40) rfl j))) ?_
  show o11 p e below _ (T1244.setTop (mkF m 17 #[o1 ad0, o0 4, o1 ad1, o0 4, o0 5, o0 4, o0 39] [.int 39]))
  refine o4 (fun u j => o33 X1244.here hx rfl (hb hby o41) (o13 X1244.here hx rfl (pc0 := 20) (pc' := 26) rfl (hb hby o42) rfl (o73 (by decide)) (by decide) (by decide) (o3 X1244.here hx rfl (hb hby o43) rfl rfl (o6 X1244.here hx rfl (hb hby o44) rfl (o8 X1244.here hx rfl (hb hby o45) rfl (o79 X1244.here hx rfl (hb hby o46) rfl j)))))) ?_
  show o11 p e below _ (T1244.setTop (mkF m 31 #[o1 ad0, o0 4, o1 ad1, o0 4, o0 5, o0 4, o0 39] [.int 39, .int 4, .ref ad1]))
  refine o32 (o101 X1244 hx hZ e1244 V1244 (j := 4) (by decide) rfl rfl (hb hby o47)) ?_
  intro T1246 h1246 X1246 e1246 W1246
  replace W1246 : Wr h1244 h1246 ad1 ((4 : Int32)).toNatClampNeg (.int 39) := W1246
  have N1246 := Fr.snoc X1246 N1244 pg_ad1
  have V1246 : Arv Z h1246 ad1 kc5 .byte 5 [(.int (iv3.toInt8.toInt32)), .int 32, .int 39, (.int (iv4.toInt8.toInt32)), .int 39] (.int 0) := o74 V1244 rfl W1246 4 rfl (Nat.le_of_ble_eq_true rfl)
  refine o4 (fun u j => o12 X1246.here hx rfl (hb hby o48) rfl (l' := #[o1 ad0, o0 5, o1 ad1, o0 4, o0 5, o0 4, o0 39]) rfl (o12 X1246.here hx rfl (hb hby o49) rfl (l' := #[o1 ad0, o0 5, o1 ad1, o0 5, o0 5, o0 4, o0 39]) rfl (o12 X1246.here hx rfl (hb hby o50) rfl (l' := #[o1 ad0, o0 5, o1 ad1, o0 5, o0 5, o0 5, o0 39]) rfl (o15 X1246.here hx rfl (pc0 := 41) (pc' := 3) rfl (hb hby o51) (by decide) (by decide) (o8 X1246.here hx rfl (hb hby o28) rfl (o8 X1246.here hx rfl (hb hby o29) rfl j)))))) ?_
  show o11 p e below _ (T1246.setTop (mkF m 7 #[o1 ad0, o0 5, o1 ad1, o0 5, o0 5, o0 5, o0 39] [.int 5, .int 5]))
  refine o4 (fun u j => o13 X1246.here hx rfl (pc0 := 7) (pc' := 44) rfl (hb hby o30) rfl (o175 (by decide)) (by decide) (by decide) (o8 X1246.here hx rfl (hb hby o229) rfl j)) ?_
  have K1247 := (Keep.refl h0 [ad1]).wr W1237 (Or.inl (List.mem_of_getElem? (i := 0) rfl))
  have K1248 := K1247.wr W1240 (Or.inl (List.mem_of_getElem? (i := 0) rfl))
  have K1249 := K1248.wr W1242 (Or.inl (List.mem_of_getElem? (i := 0) rfl))
  have K1250 := K1249.wr W1244 (Or.inl (List.mem_of_getElem? (i := 0) rfl))
  have K1251 := K1250.wr W1246 (Or.inl (List.mem_of_getElem? (i := 0) rfl))
  have F1252 := (Exa.wr W1246 (Exa.wr W1244 (Exa.wr W1242 (Exa.wr W1240 (Exa.wr W1237 pe3)))))
  exact o69 X1246 hx hlk hret rfl (Or.inl ⟨rfl, by simp, _, rfl⟩) (hb hby o230) (by decide) (by decide) (by rw [e1246]; exact ⟨rfl, N1246, K1251, F1252, V1246⟩)
theorem o946 (hw : o35 a0 Z) (hS : o64 Z wcs) (ad0 : Addr) (kc1 : ClassId) (iv2 iv3 : Int32) (h0 : Heap) (n0 : Nat) (O0 : Old Z n0 h0) (pe1 : Exa Z h0 ad0 "[C") (pa2 : Arv Z h0 ad0 kc1 .char 5 [.int iv2, .int 32, .int 39, .int iv3, .int 39] (.int 0)) (pk3 : ¬ (255 : Int32) < iv2) (pk4 : ¬ (255 : Int32) < iv3) :
    o21 l o315 jdk_52_method_16_code 6 (some (.array .byte)) ws ⟨1, 1, 5, 18⟩ Z h0 #[.ref ad0, .int 0, .int 5] (fun v h L => ∃ nz0 : Addr, ∃ kz1 : ClassId, v = some (.ref nz0) ∧ Fr n0 L ∧ Keep h0 h [] ∧ h0.size ≤ nz0 ∧ Exa Z h nz0 "[B" ∧ Arv Z h nz0 kz1 .byte 5 [(.int (iv2.toInt8.toInt32)), .int 32, .int 39, (.int (iv3.toInt8.toInt32)), .int 39] (.int 0)) := by
  refine o18 (plainFor_of_name o177) ?_
  intro p e s m below meth c s₁ hx hby hml hown hnm hret hlk hZ e0 X0
  have N0 := Fr.nil n0
  refine o4 (fun u j => castTop (show entryFrame m #[.ref ad0, .int 0, .int 5] 6 = mkF m 0 #[o1 ad0, o0 0, o0 5, o5, o5, o5] [] from rfl) j) ?_
  refine o4 (fun u j => o6 X0.here hx rfl (hb hby o271) rfl j) ?_
  have q_ := newPE X0 hx hZ (o2 hw 14 rfl) e0 (g := (mkF m 1 #[o1 ad0, o0 0, o0 5, o5, o5, o5] [.int 5])) rfl (hb hby o272) rfl (by decide) (cap := 5) (by decide) (by decide) (by decide) (by decide) (ad := "[B") o214
  obtain ⟨T1260, h1260, k1260, X1260, e1260, E1260, A1260, Y1260, st1260⟩ := q_
  have q_ : ∃ z, z = h0.size := ⟨_, rfl⟩
  obtain ⟨b1260, g1260⟩ := q_
  rw [← g1260] at A1260 Y1260 st1260
  have V1260 : Arv Z h1260 b1260 k1260 .byte 5 [.int 0, .int 0, .int 0, .int 0, .int 0] (.int 0) := (Arv.new A1260 (by decide)).pad (pad_rep [] (.int 0) 5)
  refine o4 (fun u j => st1260 u j) ?_
  refine o4 (fun u j => o84 X1260.here hx rfl (hb hby o273) rfl rfl (l' := #[o1 ad0, o0 0, o0 5, o1 b1260, o5, o5]) rfl (o3 X1260.here hx rfl (hb hby o274) rfl rfl (o6 X1260.here hx rfl (hb hby o275) rfl (o3 X1260.here hx rfl (hb hby o276) rfl rfl (o16 X1260.here hx rfl (hb hby o277) (o6 X1260.here hx rfl (hb hby o278) rfl j)))))) ?_
  show o11 p e below _ (T1260.setTop (mkF m 9 #[o1 ad0, o0 0, o0 5, o1 b1260, o5, o5] [.int 5, .int 0, .ref b1260, .int 0, .ref ad0]))
  have F1261 := (Exa.ext E1260 pe1)
  have F1262 := (pa2.ext E1260)
  have g1263 := Nat.le_trans (o103 O0) (Nat.le_of_eq g1260.symm)
  have O1265 := O0.ext E1260
  refine o17 (o78 X1260 hx hZ (y := o314) hown (o2 hw 65 rfl) (o2 hw 66 rfl) (o2 hw 63 rfl) (o2 hw 67 rfl) o178 (o945 hw hS ad0 b1260 kc1 iv2 iv3 k1260 h1260 n0 O1265 F1261 F1262 Y1260 V1260 pk3 pk4 g1263) e1260 o434 (argsL := [.ref ad0, .int 0, .ref b1260, .int 0, .int 5]) (rest := []) rfl rfl (g := (mkF m 9 #[o1 ad0, o0 0, o0 5, o1 b1260, o5, o5] [.int 5, .int 0, .ref b1260, .int 0, .ref ad0])) rfl (by rw [hml]; rfl) rfl (hb hby o279) (W := 0) rfl) ?_
  intro T1264 v1264 L1264 X1264 hQ1264
  obtain ⟨rfl, M1264, K1264, F1266, F1267⟩ := hQ1264
  have N1264 := Fr.app N0 M1264
  refine o4 (fun u j => o20 X1264.here hx rfl (hb hby o231) rfl (l' := #[o1 ad0, o0 0, o0 5, o1 b1260, o0 5, o5]) rfl (o8 X1264.here hx rfl (hb hby o232) rfl (o6 X1264.here hx rfl (hb hby o233) rfl (o13 X1264.here hx rfl (pc0 := 17) (pc' := 57) rfl (hb hby o234) rfl (o66 (by decide)) (by decide) (by decide) (o3 X1264.here hx rfl (hb hby o235) rfl rfl j))))) ?_
  have K1268 := (Keep.refl h0 []).ext E1260
  have z1270 := Nat.le_trans (Nat.le_refl _) (Nat.le_of_eq g1260.symm)
  have K1269 := K1268.trans K1264 (allS (Or.inr z1270) all0)
  exact o69 X1264 hx hlk hret rfl (Or.inr (Or.inr (Or.inr (Or.inr ⟨rfl, rfl, rfl⟩)))) (hb hby o236) (by decide) (by decide) (by exact ⟨b1260, k1260, rfl, N1264, K1269, z1270, F1266, F1267⟩)
theorem o947 (hw : o35 a0 Z) (hS : o64 Z wcs) (ad0 : Addr) (kc1 : ClassId) (iv2 iv3 : Int32) (h0 : Heap) (n0 : Nat) (O0 : Old Z n0 h0) (pa2 : Arv Z h0 ad0 kc1 .byte 5 [.int iv2, .int 32, .int 39, .int iv3, .int 39] (.int 0)) :
    o21 l o316 jdk_52_method_15_code 2 (some .byte) ws ⟨0, 0, 0, 0⟩ Z h0 #[.ref ad0, .int 5] (fun v h L => v = some (.int 0) ∧ Fr n0 L ∧ h = h0) := by
  refine o18 (plainFor_of_name o177) ?_
  intro p e s m below meth c s₁ hx hby hml hown hnm hret hlk hZ e0 X0
  have N0 := Fr.nil n0
  refine o4 (fun u j => castTop (show entryFrame m #[.ref ad0, .int 5] 2 = mkF m 0 #[o1 ad0, o0 5] [] from rfl) j) ?_
  refine o4 (fun u j => o6 X0.here hx rfl (hb hby o282) rfl (o3 X0.here hx rfl (hb hby o283) rfl rfl (o75 X0 hx hZ e0 pa2 rfl rfl (hb hby o284) (XS.isub X0.here hx rfl (hb hby o285) rfl (o34 X0.here hx rfl (hb hby o286) (XS.iushr X0.here hx rfl (hb hby o287) rfl j)))))) ?_
  show o11 p e below _ (s₁.setTop (mkF m 7 #[o1 ad0, o0 5] [.int 0]))
  refine o4 (fun u j => o79 X0.here hx rfl (hb hby o288) rfl j) ?_
  exact o69 X0 hx hlk hret rfl (Or.inl ⟨rfl, by simp, _, rfl⟩) (hb hby o289) (by decide) (by decide) (by rw [e0]; exact ⟨rfl, N0, rfl⟩)
theorem o948 (hw : o35 a0 Z) (hS : o64 Z wcs) (ad0 ad1 : Addr) (kc2 : ClassId) (iv3 iv4 : Int32) (h0 : Heap) (n0 : Nat) (O0 : Old Z n0 h0) (pe1 : Exa Z h0 ad0 o7) (pf2 : Fld Z h0 ad0 o7 "coder" "B" (.int 0)) (pf3 : Fld Z h0 ad0 o7 "value" "[B" .null) (pe4 : Exa Z h0 ad1 "[C") (pa5 : Arv Z h0 ad1 kc2 .char 5 [.int iv3, .int 32, .int 39, .int iv4, .int 39] (.int 0)) (pk6 : ¬ (255 : Int32) < iv3) (pk7 : ¬ (255 : Int32) < iv4) (pg_ad0 : n0 ≤ ad0) :
    o21 l o317 jdk_42_method_149_code 6 none ws ⟨2, 1, 5, 35⟩ Z h0 #[.ref ad0, .ref ad1, .int 0, .int 5, .null] (fun v h L => ∃ nz0 : Addr, ∃ kz1 : ClassId, v = none ∧ Fr n0 L ∧ Keep h0 h [ad0] ∧ h0.size ≤ nz0 ∧ Exa Z h ad0 o7 ∧ Fld Z h ad0 o7 "coder" "B" (.int 0) ∧ Fld Z h ad0 o7 "value" "[B" (.ref nz0) ∧ Exa Z h nz0 "[B" ∧ Arv Z h nz0 kz1 .byte 5 [(.int (iv3.toInt8.toInt32)), .int 32, .int 39, (.int (iv4.toInt8.toInt32)), .int 39] (.int 0)) := by
  refine o18 (plainFor_of_name o83) ?_
  intro p e s m below meth c s₁ hx hby hml hown hnm hret hlk hZ e0 X0
  have N0 := Fr.nil n0
  refine o4 (fun u j => castTop (show entryFrame m #[.ref ad0, .ref ad1, .int 0, .int 5, .null] 6 = mkF m 0 #[o1 ad0, o1 ad1, o0 0, o0 5, .val .null, o5] [] from rfl) j) ?_
  refine o4 (fun u j => o3 X0.here hx rfl (hb hby o225) rfl rfl j) ?_
  refine o22 (initO X0 hx hZ hown (o2 hw 19 rfl) (o2 hw 20 rfl) (o2 hw 21 rfl) e0 rfl (by rw [hml]; rfl) rfl (hb hby o226) (by decide) (W := 0) (by show 2 * 0 + _ ≤ _; exact Nat.le_of_eq rfl) (by decide)) ?_
  intro T1289 X1289 e1289
  refine o4 (fun u j => o6 X1289.here hx rfl (hb hby o227) rfl (o88 X1289.here hx rfl (pc0 := 5) (pc' := 27) rfl (hb hby o228) rfl (o164 (by decide)) (by decide) (by decide) j)) ?_
  have F1290 := Sta.ext O0.2 hS.1
  refine o22 (getS2 X1289 hx hZ hown (host := "") (Or.inl (o2 hw 4 rfl)) Via.refl e1289 F1290 rfl (hb hby o190)) ?_
  intro T1291 X1291 e1291
  refine o4 (fun u j => o68 X1291.here hx rfl (hb hby o191) rfl (o65 hS.2) (o3 X1291.here hx rfl (hb hby o192) rfl rfl (o6 X1291.here hx rfl (hb hby o193) rfl (o6 X1291.here hx rfl (hb hby o194) rfl j)))) ?_
  refine o17 (o78 X1291 hx hZ (y := o315) hown (o2 hw 61 rfl) (o2 hw 62 rfl) (o2 hw 63 rfl) (o2 hw 64 rfl) o178 (o946 hw hS ad1 kc2 iv3 iv4 h0 n0 O0 pe4 pa5 pk6 pk7) e1291 o435 (argsL := [.ref ad1, .int 0, .int 5]) (rest := []) rfl rfl (g := (mkF m 36 #[o1 ad0, o1 ad1, o0 0, o0 5, .val .null, o5] [.int 5, .int 0, .ref ad1])) rfl (by rw [hml]; rfl) rfl (hb hby o195) (W := 0) rfl) ?_
  intro T1292 v1292 L1292 X1292 hQ1292
  obtain ⟨nz0_1293, kz1_1294, rfl, M1292, K1292, z1295, F1296, F1297⟩ := hQ1292
  have N1292 := Fr.app N0 M1292
  refine o4 (fun u j => o76 X1292.here hx rfl (hb hby o196) rfl rfl (l' := #[o1 ad0, o1 ad1, o0 0, o0 5, .val .null, o1 nz0_1293]) rfl (o3 X1292.here hx rfl (hb hby o197) rfl rfl (o72 X1292.here hx rfl (hb hby o198) rfl rfl (o6 X1292.here hx rfl (hb hby o199) rfl j)))) ?_
  have O1299 := O0.keep K1292 all0
  refine o17 (o78 X1292 hx hZ (y := o316) hown (o2 hw 68 rfl) (o2 hw 69 rfl) (o2 hw 63 rfl) (o2 hw 70 rfl) o178 (o947 hw hS nz0_1293 kz1_1294 (iv3.toInt8.toInt32) (iv4.toInt8.toInt32) T1292.heap n0 O1299 F1297) rfl o436 (argsL := [.ref nz0_1293, .int 5]) (rest := [.ref ad0]) rfl rfl (g := (mkF m 45 #[o1 ad0, o1 ad1, o0 0, o0 5, .val .null, o1 nz0_1293] [.int 5, .ref nz0_1293, .ref ad0])) rfl (by rw [hml]; rfl) rfl (hb hby o200) (W := 1) rfl) ?_
  intro T1298 v1298 L1298 X1298 hQ1298
  obtain ⟨rfl, M1298, e1298⟩ := hQ1298
  have N1298 := Fr.app N1292 M1298
  have F1300 := (pe1.keep K1292)
  have F1301 := (pf2.keep K1292 nin0)
  refine o32 (putF X1298 hx hZ hown (host := "") (Or.inl (o2 hw 24 rfl)) Via.refl e1298 F1301 F1300 (Or.inr ⟨(o2 hw 25 rfl), rfl, hnm⟩) (o2 hw 10 rfl) (ty := .byte) o92 rfl rfl rfl rfl (hb hby o201)) ?_
  intro T1302 h1302 X1302 e1302 W1302
  have N1302 := Fr.snoc X1302 N1298 pg_ad0
  have F1303 : Fld Z h1302 ad0 o7 "coder" "B" (.int 0) := Fld.same W1302 F1301
  refine o4 (fun u j => o3 X1302.here hx rfl (hb hby o202) rfl rfl (o72 X1302.here hx rfl (hb hby o203) rfl rfl j)) ?_
  have F1304 := (Exa.wr W1302 F1300)
  have F1305 := (Fld.other W1302 (pf3.keep K1292 nin0) (Or.inr (o310 hw)))
  refine o32 (putF X1302 hx hZ hown (host := "") (Or.inl (o2 hw 22 rfl)) Via.refl e1302 F1305 F1304 (Or.inr ⟨(o2 hw 23 rfl), rfl, hnm⟩) (o2 hw 10 rfl) (ty := (.array .byte)) o91 rfl rfl rfl rfl (hb hby o204)) ?_
  intro T1306 h1306 X1306 e1306 W1306
  have N1306 := Fr.snoc X1306 N1302 pg_ad0
  have F1307 : Fld Z h1306 ad0 o7 "value" "[B" (.ref nz0_1293) := Fld.same W1306 F1305
  have K1308 := (Keep.refl h0 [ad0]).trans K1292 all0
  have K1309 := K1308.wr W1302 (Or.inl (List.mem_of_getElem? (i := 0) rfl))
  have K1310 := K1309.wr W1306 (Or.inl (List.mem_of_getElem? (i := 0) rfl))
  have z1311 := Nat.le_trans (Nat.le_refl _) z1295
  have F1312 := (Exa.wr W1306 F1304)
  have F1313 := (Fld.other W1306 F1303 (Or.inr (o309 hw)))
  have F1314 := (Exa.wr W1306 (Exa.wr W1302 F1296))
  have ne1315 := (Ne.symm (Nat.ne_of_lt (Nat.lt_of_lt_of_le pe1.lt z1295)))
  have F1316 := ((F1297.other W1302 ne1315).other W1306 ne1315)
  exact o81 X1306 hx hlk hret (hb hby o205) (by decide) (by decide) (by rw [e1306]; exact ⟨nz0_1293, kz1_1294, rfl, N1306, K1310, z1311, F1312, F1313, F1307, F1314, F1316⟩)
theorem o949 (hw : o35 a0 Z) (hS : o64 Z wcs) (ad0 ad1 : Addr) (kc2 : ClassId) (iv3 iv4 : Int32) (h0 : Heap) (n0 : Nat) (O0 : Old Z n0 h0) (pe1 : Exa Z h0 ad0 o7) (pf2 : Fld Z h0 ad0 o7 "coder" "B" (.int 0)) (pf3 : Fld Z h0 ad0 o7 "value" "[B" .null) (pe4 : Exa Z h0 ad1 "[C") (pa5 : Arv Z h0 ad1 kc2 .char 5 [.int iv3, .int 32, .int 39, .int iv4, .int 39] (.int 0)) (pk6 : ¬ (255 : Int32) < iv3) (pk7 : ¬ (255 : Int32) < iv4) (pg_ad0 : n0 ≤ ad0) :
    o21 l o318 jdk_42_method_3_code 2 none ws ⟨3, 1, 5, 52⟩ Z h0 #[.ref ad0, .ref ad1] (fun v h L => ∃ nz0 : Addr, ∃ kz1 : ClassId, v = none ∧ Fr n0 L ∧ Keep h0 h [ad0] ∧ h0.size ≤ nz0 ∧ Exa Z h ad0 o7 ∧ Fld Z h ad0 o7 "coder" "B" (.int 0) ∧ Fld Z h ad0 o7 "value" "[B" (.ref nz0) ∧ Exa Z h nz0 "[B" ∧ Arv Z h nz0 kz1 .byte 5 [(.int (iv3.toInt8.toInt32)), .int 32, .int 39, (.int (iv4.toInt8.toInt32)), .int 39] (.int 0)) := by
  refine o18 (plainFor_of_name o83) ?_
  intro p e s m below meth c s₁ hx hby hml hown hnm hret hlk hZ e0 X0
  have N0 := Fr.nil n0
  refine o4 (fun u j => castTop (show entryFrame m #[.ref ad0, .ref ad1] 2 = mkF m 0 #[o1 ad0, o1 ad1] [] from rfl) j) ?_
  refine o4 (fun u j => o3 X0.here hx rfl (hb hby o324) rfl rfl (o3 X0.here hx rfl (hb hby o325) rfl rfl (o16 X0.here hx rfl (hb hby o326) (o3 X0.here hx rfl (hb hby o327) rfl rfl (o75 X0 hx hZ e0 pa5 rfl rfl (hb hby o328) (o99 X0.here hx rfl (hb hby o329) j)))))) ?_
  show o11 p e below _ (s₁.setTop (mkF m 6 #[o1 ad0, o1 ad1] [.null, .int 5, .int 0, .ref ad1, .ref ad0]))
  refine o17 (o87 X0 hx hZ (y := o317) rfl hown (o2 hw 58 rfl) (o2 hw 59 rfl) (o2 hw 2 rfl) (o2 hw 60 rfl) o67 (o948 hw hS ad0 ad1 kc2 iv3 iv4 h0 n0 O0 pe1 pf2 pf3 pe4 pa5 pk6 pk7 pg_ad0) e0 o437 (a := ad0) (argsL := [.ref ad1, .int 0, .int 5, .null]) (rest := []) rfl rfl (g := (mkF m 6 #[o1 ad0, o1 ad1] [.null, .int 5, .int 0, .ref ad1, .ref ad0])) rfl (by rw [hml]; rfl) rfl (hb hby o330) (W := 0) rfl) ?_
  intro T1327 v1327 L1327 X1327 hQ1327
  obtain ⟨nz0_1328, kz1_1329, rfl, M1327, K1327, z1330, F1331, F1332, F1333, F1334, F1335⟩ := hQ1327
  have N1327 := Fr.app N0 M1327
  have K1336 := (Keep.refl h0 [ad0]).trans K1327 (allS (Or.inl (List.mem_of_getElem? (i := 0) rfl)) all0)
  have z1337 := Nat.le_trans (Nat.le_refl _) z1330
  exact o81 X1327 hx hlk hret (hb hby o331) (by decide) (by decide) (by exact ⟨nz0_1328, kz1_1329, rfl, N1327, K1336, z1337, F1331, F1332, F1333, F1334, F1335⟩)
theorem o768 : decode method_3_code 59 = .ok (.areturn, 1) := by decide +kernel
theorem o950 (hw : o35 a0 Z) (hS : o64 Z wcs) (iv0 iv1 iv2 : Int32) (h0 : Heap) (n0 : Nat) (O0 : Old Z n0 h0) (pc2 : nar .char iv1 = iv1) (pc3 : nar .char iv2 = iv2) (pk5 : ¬ (255 : Int32) < iv1) (pk6 : ¬ (255 : Int32) < iv2) :
    o21 l o319 method_3_code 6 (some (.object "java/lang/String")) ws ⟨4, 3, 14, 66⟩ Z h0 #[.int 0, .int 1, .int 1, .int iv0, .int iv1, .int iv2] (fun v h L => ∃ nz0 : Addr, ∃ nz1 : Addr, ∃ kz2 : ClassId, v = some (.ref nz0) ∧ Fr n0 L ∧ Keep h0 h [] ∧ h0.size ≤ nz0 ∧ h0.size ≤ nz1 ∧ Exa Z h nz0 o7 ∧ Fld Z h nz0 o7 "coder" "B" (.int 0) ∧ Fld Z h nz0 o7 "value" "[B" (.ref nz1) ∧ Exa Z h nz1 "[B" ∧ Arv Z h nz1 kz2 .byte 5 [(.int (iv1.toInt8.toInt32)), .int 32, .int 39, (.int (iv2.toInt8.toInt32)), .int 39] (.int 0)) := by
  refine o18 (plainFor_of_name o421) ?_
  intro p e s m below meth c s₁ hx hby hml hown hnm hret hlk hZ e0 X0
  have N0 := Fr.nil n0
  refine o4 (fun u j => castTop (show entryFrame m #[.int 0, .int 1, .int 1, .int iv0, .int iv1, .int iv2] 6 = mkF m 0 #[o0 0, o0 1, o0 1, o0 iv0, o0 iv1, o0 iv2] [] from rfl) j) ?_
  refine o4 (fun u j => o6 X0.here hx rfl (hb hby o322) rfl (o68 X0.here hx rfl (hb hby o323) rfl (o180 (by decide)) (o6 X0.here hx rfl (hb hby o502) rfl (o88 X0.here hx rfl (pc0 := 5) (pc' := 24) rfl (hb hby o503) rfl (o164 (by decide)) (by decide) (by decide) j)))) ?_
  have q_ := newO X0 hx hZ hown (o2 hw 53 rfl) (o2 hw 10 rfl) (o2 hw 2 rfl) e0 (g := (mkF m 24 #[o0 0, o0 1, o0 1, o0 iv0, o0 iv1, o0 iv2] [])) rfl (hb hby o743) (by decide) (by decide)
  obtain ⟨T1359, h1359, X1359, e1359, E1359, A1359, D1359, U1359, st1359⟩ := q_
  have q_ : ∃ z, z = h0.size := ⟨_, rfl⟩
  obtain ⟨b1359, g1359⟩ := q_
  rw [← g1359] at A1359 D1359 U1359 st1359
  have F1359_value : Fld Z h1359 b1359 o7 "value" "[B" .null := D1359 (Or.inr (o2 hw 23 rfl)) (ty := (.array .byte)) o91
  have F1359_coder : Fld Z h1359 b1359 o7 "coder" "B" (.int 0) := D1359 (Or.inr (o2 hw 25 rfl)) (ty := .byte) o92
  refine o4 (fun u j => st1359 u j) ?_
  refine o4 (fun u j => o61 X1359.here hx rfl (hb hby o744) rfl rfl (o16 X1359.here hx rfl (hb hby o745) j)) ?_
  have q_ := newPE X1359 hx hZ (o2 hw 54 rfl) e1359 (g := (mkF m 29 #[o0 0, o0 1, o0 1, o0 iv0, o0 iv1, o0 iv2] [.int 5, .ref b1359, .ref b1359])) rfl (hb hby o746) rfl (by decide) (cap := 5) (by decide) (by decide) (by decide) (by decide) (ad := "[C") o433
  obtain ⟨T1360, h1360, k1360, X1360, e1360, E1360, A1360, Y1360, st1360⟩ := q_
  have q_ : ∃ z, z = h1359.size := ⟨_, rfl⟩
  obtain ⟨b1360, g1360⟩ := q_
  rw [← g1360] at A1360 Y1360 st1360
  have V1360 : Arv Z h1360 b1360 k1360 .char 5 [.int 0, .int 0, .int 0, .int 0, .int 0] (.int 0) := (Arv.new A1360 (by decide)).pad (pad_rep [] (.int 0) 5)
  refine o4 (fun u j => st1360 u j) ?_
  refine o4 (fun u j => o61 X1360.here hx rfl (hb hby o747) rfl rfl (o16 X1360.here hx rfl (hb hby o748) (o8 X1360.here hx rfl (hb hby o749) rfl j))) ?_
  refine o32 (o105 X1360 hx hZ e1360 V1360 (j := 0) (by decide) rfl rfl (hb hby o750)) ?_
  intro T1361 h1361 X1361 e1361 W1361
  rw [pc2] at W1361
  have O1363 := O0.ext E1359
  have g1362 := Nat.le_trans (o103 O1363) (Nat.le_of_eq g1360.symm)
  have N1361 := Fr.snoc X1361 N0 g1362
  have V1361 : Arv Z h1361 b1360 k1360 .char 5 [.int iv1, .int 0, .int 0, .int 0, .int 0] (.int 0) := o74 V1360 (o411 pc2) W1361 0 rfl (Nat.le_of_ble_eq_true rfl)
  refine o4 (fun u j => o61 X1361.here hx rfl (hb hby o751) rfl rfl (o16 X1361.here hx rfl (hb hby o752) (o34 X1361.here hx rfl (hb hby o753) j))) ?_
  refine o32 (o105 X1361 hx hZ e1361 V1361 (j := 1) (by decide) rfl rfl (hb hby o754)) ?_
  intro T1364 h1364 X1364 e1364 W1364
  replace W1364 : Wr h1361 h1364 b1360 ((1 : Int32)).toNatClampNeg (.int 32) := W1364
  have N1364 := Fr.snoc X1364 N1361 g1362
  have V1364 : Arv Z h1364 b1360 k1360 .char 5 [.int iv1, .int 32, .int 0, .int 0, .int 0] (.int 0) := o74 V1361 rfl W1364 1 rfl (Nat.le_of_ble_eq_true rfl)
  refine o4 (fun u j => o61 X1364.here hx rfl (hb hby o755) rfl rfl (o16 X1364.here hx rfl (hb hby o756) (o34 X1364.here hx rfl (hb hby o757) j))) ?_
  refine o32 (o105 X1364 hx hZ e1364 V1364 (j := 2) (by decide) rfl rfl (hb hby o758)) ?_
  intro T1365 h1365 X1365 e1365 W1365
  replace W1365 : Wr h1364 h1365 b1360 ((2 : Int32)).toNatClampNeg (.int 39) := W1365
  have N1365 := Fr.snoc X1365 N1364 g1362
  have V1365 : Arv Z h1365 b1360 k1360 .char 5 [.int iv1, .int 32, .int 39, .int 0, .int 0] (.int 0) := o74 V1364 rfl W1365 2 rfl (Nat.le_of_ble_eq_true rfl)
  refine o4 (fun u j => o61 X1365.here hx rfl (hb hby o759) rfl rfl (o16 X1365.here hx rfl (hb hby o760) (o8 X1365.here hx rfl (hb hby o761) rfl j))) ?_
  refine o32 (o105 X1365 hx hZ e1365 V1365 (j := 3) (by decide) rfl rfl (hb hby o762)) ?_
  intro T1366 h1366 X1366 e1366 W1366
  rw [pc3] at W1366
  have N1366 := Fr.snoc X1366 N1365 g1362
  have V1366 : Arv Z h1366 b1360 k1360 .char 5 [.int iv1, .int 32, .int 39, .int iv2, .int 0] (.int 0) := o74 V1365 (o411 pc3) W1366 3 rfl (Nat.le_of_ble_eq_true rfl)
  refine o4 (fun u j => o61 X1366.here hx rfl (hb hby o763) rfl rfl (o16 X1366.here hx rfl (hb hby o764) (o34 X1366.here hx rfl (hb hby o765) j))) ?_
  refine o32 (o105 X1366 hx hZ e1366 V1366 (j := 4) (by decide) rfl rfl (hb hby o766)) ?_
  intro T1367 h1367 X1367 e1367 W1367
  replace W1367 : Wr h1366 h1367 b1360 ((4 : Int32)).toNatClampNeg (.int 39) := W1367
  have N1367 := Fr.snoc X1367 N1366 g1362
  have V1367 : Arv Z h1367 b1360 k1360 .char 5 [.int iv1, .int 32, .int 39, .int iv2, .int 39] (.int 0) := o74 V1366 rfl W1367 4 rfl (Nat.le_of_ble_eq_true rfl)
  have F1368 := (Exa.wr W1367 (Exa.wr W1366 (Exa.wr W1365 (Exa.wr W1364 (Exa.wr W1361 (Exa.ext E1360 A1359))))))
  have ne1369 := (Nat.ne_of_lt (Nat.lt_of_lt_of_le A1359.lt (Nat.le_of_eq g1360.symm)))
  have F1370 := (Fld.other W1367 (Fld.other W1366 (Fld.other W1365 (Fld.other W1364 (Fld.other W1361 (Fld.ext E1360 F1359_coder) (Or.inl ne1369)) (Or.inl ne1369)) (Or.inl ne1369)) (Or.inl ne1369)) (Or.inl ne1369))
  have F1371 := (Fld.other W1367 (Fld.other W1366 (Fld.other W1365 (Fld.other W1364 (Fld.other W1361 (Fld.ext E1360 F1359_value) (Or.inl ne1369)) (Or.inl ne1369)) (Or.inl ne1369)) (Or.inl ne1369)) (Or.inl ne1369))
  have F1372 := (Exa.wr W1367 (Exa.wr W1366 (Exa.wr W1365 (Exa.wr W1364 (Exa.wr W1361 Y1360)))))
  have g1373 := Nat.le_trans (o103 O0) (Nat.le_of_eq g1359.symm)
  have O1375 := O1363.ext E1360
  have O1376 := O1375.wr W1361 g1362
  have O1377 := O1376.wr W1364 g1362
  have O1378 := O1377.wr W1365 g1362
  have O1379 := O1378.wr W1366 g1362
  have O1380 := O1379.wr W1367 g1362
  refine o17 (o87 X1367 hx hZ (y := o318) rfl hown (o2 hw 55 rfl) (o2 hw 56 rfl) (o2 hw 2 rfl) (o2 hw 57 rfl) o67 (o949 hw hS b1359 b1360 k1360 iv1 iv2 h1367 n0 O1380 F1368 F1370 F1371 F1372 V1367 pk5 pk6 g1373) e1367 o438 (a := b1359) (argsL := [.ref b1360]) (rest := [.ref b1359]) rfl rfl (g := (mkF m 56 #[o0 0, o0 1, o0 1, o0 iv0, o0 iv1, o0 iv2] [.ref b1360, .ref b1359, .ref b1359])) rfl (by rw [hml]; rfl) rfl (hb hby o767) (W := 1) rfl) ?_
  intro T1374 v1374 L1374 X1374 hQ1374
  obtain ⟨nz0_1381, kz1_1382, rfl, M1374, K1374, z1383, F1384, F1385, F1386, F1387, F1388⟩ := hQ1374
  have N1374 := Fr.app N1367 M1374
  have K1389 := (Keep.refl h0 []).ext E1359
  have K1390 := K1389.ext E1360
  have z1392 := Nat.le_trans E1359.1 (Nat.le_of_eq g1360.symm)
  have K1391 := K1390.wr W1361 (Or.inr z1392)
  have K1393 := K1391.wr W1364 (Or.inr z1392)
  have K1394 := K1393.wr W1365 (Or.inr z1392)
  have K1395 := K1394.wr W1366 (Or.inr z1392)
  have K1396 := K1395.wr W1367 (Or.inr z1392)
  have z1398 := Nat.le_trans (Nat.le_refl _) (Nat.le_of_eq g1359.symm)
  have K1397 := K1396.trans K1374 (allS (Or.inr z1398) all0)
  have z1399 := Nat.le_trans (Nat.le_trans (Nat.le_trans (Nat.le_trans (Nat.le_trans (Nat.le_trans (Nat.le_trans E1359.1 E1360.1) (Nat.le_of_eq W1361.size.symm)) (Nat.le_of_eq W1364.size.symm)) (Nat.le_of_eq W1365.size.symm)) (Nat.le_of_eq W1366.size.symm)) (Nat.le_of_eq W1367.size.symm)) z1383
  exact o69 X1374 hx hlk hret rfl (Or.inr (Or.inr (Or.inr (Or.inr ⟨rfl, rfl, rfl⟩)))) (hb hby o768) (by decide) (by decide) (by exact ⟨b1359, nz0_1381, kz1_1382, rfl, N1374, K1397, z1398, z1399, F1384, F1385, F1386, F1387, F1388⟩)
theorem o951 (hw : o35 a0 Z) (hS : o64 Z wcs) (ad0 ad1 : Addr) (kc2 : ClassId) (iv3 iv4 : Int32) (kc5 : ClassId) (h0 : Heap) (n0 : Nat) (O0 : Old Z n0 h0) (pa2 : Arv Z h0 ad0 kc2 .byte 5 [.int iv3, .int 32, .int 39, .int iv4, .int 39] (.int 0)) (pa4 : Arv Z h0 ad1 kc5 .byte 5 [.int iv3, .int 32, .int 39, .int iv4, .int 39] (.int 0)) :
    o21 l o320 jdk_43_method_13_code 3 (some .boolean) ws ⟨0, 0, 0, 0⟩ Z h0 #[.ref ad0, .ref ad1] (fun v h L => v = some (.int 1) ∧ Fr n0 L ∧ h = h0) := by
  refine o18 (plainFor_of_name o413) ?_
  intro p e s m below meth c s₁ hx hby hml hown hnm hret hlk hZ e0 X0
  have N0 := Fr.nil n0
  refine o4 (fun u j => castTop (show entryFrame m #[.ref ad0, .ref ad1] 3 = mkF m 0 #[o1 ad0, o1 ad1, o5] [] from rfl) j) ?_
  refine o4 (fun u j => o3 X0.here hx rfl (hb hby o295) rfl rfl (o75 X0 hx hZ e0 pa2 rfl rfl (hb hby o296) (o3 X0.here hx rfl (hb hby o297) rfl rfl (o75 X0 hx hZ e0 pa4 rfl rfl (hb hby o298) (o14 X0.here hx rfl (hb hby o299) rfl (o93 (by decide)) (o16 X0.here hx rfl (hb hby o300) j)))))) ?_
  show o11 p e below _ (s₁.setTop (mkF m 8 #[o1 ad0, o1 ad1, o5] [.int 0]))
  refine o4 (fun u j => o94 X0.here hx rfl (hb hby o301) rfl (l' := #[o1 ad0, o1 ad1, o0 0]) rfl (o6 X0.here hx rfl (hb hby o31) rfl (o3 X0.here hx rfl (hb hby o25) rfl rfl (o75 X0 hx hZ e0 pa2 rfl rfl (hb hby o26) (o14 X0.here hx rfl (hb hby o27) rfl (o19 (by decide)) (o3 X0.here hx rfl (hb hby o52) rfl rfl j)))))) ?_
  show o11 p e below _ (s₁.setTop (mkF m 16 #[o1 ad0, o1 ad1, o0 0] [.ref ad0]))
  refine o4 (fun u j => o6 X0.here hx rfl (hb hby o53) rfl (o77 X0 hx hZ e0 pa2 (j := 0) (v := (.int iv3)) (by decide) rfl rfl rfl (hb hby o54) (o3 X0.here hx rfl (hb hby o55) rfl rfl (o6 X0.here hx rfl (hb hby o56) rfl (o77 X0 hx hZ e0 pa4 (j := 0) (v := (.int iv3)) (by decide) rfl rfl rfl (hb hby o57) (o13 X0.here hx rfl (pc0 := 21) (pc' := 26) rfl (hb hby o58) rfl (o66 rfl) (by decide) (by decide) j)))))) ?_
  show o11 p e below _ (s₁.setTop (mkF m 26 #[o1 ad0, o1 ad1, o0 0] []))
  refine o4 (fun u j => o12 X0.here hx rfl (hb hby o59) rfl (l' := #[o1 ad0, o1 ad1, o0 1]) rfl (o15 X0.here hx rfl (pc0 := 29) (pc' := 9) rfl (hb hby o60) (by decide) (by decide) (o6 X0.here hx rfl (hb hby o31) rfl (o3 X0.here hx rfl (hb hby o25) rfl rfl (o75 X0 hx hZ e0 pa2 rfl rfl (hb hby o26) (o14 X0.here hx rfl (hb hby o27) rfl (o19 (by decide)) j)))))) ?_
  show o11 p e below _ (s₁.setTop (mkF m 15 #[o1 ad0, o1 ad1, o0 1] []))
  refine o4 (fun u j => o3 X0.here hx rfl (hb hby o52) rfl rfl (o6 X0.here hx rfl (hb hby o53) rfl (o77 X0 hx hZ e0 pa2 (j := 1) (v := (.int 32)) (by decide) rfl rfl rfl (hb hby o54) (o3 X0.here hx rfl (hb hby o55) rfl rfl (o6 X0.here hx rfl (hb hby o56) rfl (o77 X0 hx hZ e0 pa4 (j := 1) (v := (.int 32)) (by decide) rfl rfl rfl (hb hby o57) j)))))) ?_
  show o11 p e below _ (s₁.setTop (mkF m 21 #[o1 ad0, o1 ad1, o0 1] [.int 32, .int 32]))
  refine o4 (fun u j => o13 X0.here hx rfl (pc0 := 21) (pc' := 26) rfl (hb hby o58) rfl (o66 (by decide)) (by decide) (by decide) (o12 X0.here hx rfl (hb hby o59) rfl (l' := #[o1 ad0, o1 ad1, o0 2]) rfl (o15 X0.here hx rfl (pc0 := 29) (pc' := 9) rfl (hb hby o60) (by decide) (by decide) (o6 X0.here hx rfl (hb hby o31) rfl (o3 X0.here hx rfl (hb hby o25) rfl rfl (o75 X0 hx hZ e0 pa2 rfl rfl (hb hby o26) j)))))) ?_
  show o11 p e below _ (s₁.setTop (mkF m 12 #[o1 ad0, o1 ad1, o0 2] [.int 5, .int 2]))
  refine o4 (fun u j => o14 X0.here hx rfl (hb hby o27) rfl (o19 (by decide)) (o3 X0.here hx rfl (hb hby o52) rfl rfl (o6 X0.here hx rfl (hb hby o53) rfl (o77 X0 hx hZ e0 pa2 (j := 2) (v := (.int 39)) (by decide) rfl rfl rfl (hb hby o54) (o3 X0.here hx rfl (hb hby o55) rfl rfl (o6 X0.here hx rfl (hb hby o56) rfl j)))))) ?_
  show o11 p e below _ (s₁.setTop (mkF m 20 #[o1 ad0, o1 ad1, o0 2] [.int 2, .ref ad1, .int 39]))
  refine o4 (fun u j => o77 X0 hx hZ e0 pa4 (j := 2) (v := (.int 39)) (by decide) rfl rfl rfl (hb hby o57) (o13 X0.here hx rfl (pc0 := 21) (pc' := 26) rfl (hb hby o58) rfl (o66 (by decide)) (by decide) (by decide) (o12 X0.here hx rfl (hb hby o59) rfl (l' := #[o1 ad0, o1 ad1, o0 3]) rfl (o15 X0.here hx rfl (pc0 := 29) (pc' := 9) rfl (hb hby o60) (by decide) (by decide) (o6 X0.here hx rfl (hb hby o31) rfl (o3 X0.here hx rfl (hb hby o25) rfl rfl j)))))) ?_
  show o11 p e below _ (s₁.setTop (mkF m 11 #[o1 ad0, o1 ad1, o0 3] [.ref ad0, .int 3]))
  refine o4 (fun u j => o75 X0 hx hZ e0 pa2 rfl rfl (hb hby o26) (o14 X0.here hx rfl (hb hby o27) rfl (o19 (by decide)) (o3 X0.here hx rfl (hb hby o52) rfl rfl (o6 X0.here hx rfl (hb hby o53) rfl (o77 X0 hx hZ e0 pa2 (j := 3) (v := (.int iv4)) (by decide) rfl rfl rfl (hb hby o54) (o3 X0.here hx rfl (hb hby o55) rfl rfl j)))))) ?_
  show o11 p e below _ (s₁.setTop (mkF m 19 #[o1 ad0, o1 ad1, o0 3] [.ref ad1, .int iv4]))
  refine o4 (fun u j => o6 X0.here hx rfl (hb hby o56) rfl (o77 X0 hx hZ e0 pa4 (j := 3) (v := (.int iv4)) (by decide) rfl rfl rfl (hb hby o57) (o13 X0.here hx rfl (pc0 := 21) (pc' := 26) rfl (hb hby o58) rfl (o66 rfl) (by decide) (by decide) (o12 X0.here hx rfl (hb hby o59) rfl (l' := #[o1 ad0, o1 ad1, o0 4]) rfl (o15 X0.here hx rfl (pc0 := 29) (pc' := 9) rfl (hb hby o60) (by decide) (by decide) (o6 X0.here hx rfl (hb hby o31) rfl j)))))) ?_
  show o11 p e below _ (s₁.setTop (mkF m 10 #[o1 ad0, o1 ad1, o0 4] [.int 4]))
  refine o4 (fun u j => o3 X0.here hx rfl (hb hby o25) rfl rfl (o75 X0 hx hZ e0 pa2 rfl rfl (hb hby o26) (o14 X0.here hx rfl (hb hby o27) rfl (o19 (by decide)) (o3 X0.here hx rfl (hb hby o52) rfl rfl (o6 X0.here hx rfl (hb hby o53) rfl (o77 X0 hx hZ e0 pa2 (j := 4) (v := (.int 39)) (by decide) rfl rfl rfl (hb hby o54) j)))))) ?_
  show o11 p e below _ (s₁.setTop (mkF m 18 #[o1 ad0, o1 ad1, o0 4] [.int 39]))
  refine o4 (fun u j => o3 X0.here hx rfl (hb hby o55) rfl rfl (o6 X0.here hx rfl (hb hby o56) rfl (o77 X0 hx hZ e0 pa4 (j := 4) (v := (.int 39)) (by decide) rfl rfl rfl (hb hby o57) (o13 X0.here hx rfl (pc0 := 21) (pc' := 26) rfl (hb hby o58) rfl (o66 (by decide)) (by decide) (by decide) (o12 X0.here hx rfl (hb hby o59) rfl (l' := #[o1 ad0, o1 ad1, o0 5]) rfl (o15 X0.here hx rfl (pc0 := 29) (pc' := 9) rfl (hb hby o60) (by decide) (by decide) j)))))) ?_
  show o11 p e below _ (s₁.setTop (mkF m 9 #[o1 ad0, o1 ad1, o0 5] []))
  refine o4 (fun u j => o6 X0.here hx rfl (hb hby o31) rfl (o3 X0.here hx rfl (hb hby o25) rfl rfl (o75 X0 hx hZ e0 pa2 rfl rfl (hb hby o26) (o13 X0.here hx rfl (pc0 := 12) (pc' := 32) rfl (hb hby o27) rfl (o175 (by decide)) (by decide) (by decide) (o16 X0.here hx rfl (hb hby o253) j))))) ?_
  exact o69 X0 hx hlk hret rfl (Or.inl ⟨rfl, by simp, _, rfl⟩) (hb hby o254) (by decide) (by decide) (by rw [e0]; exact ⟨rfl, N0, rfl⟩)
theorem o952 (hw : o35 a0 Z) (hS : o64 Z wcs) (ad0 ad1 : Addr) (ad2 ad3 : Addr) (kc4 : ClassId) (iv5 iv6 : Int32) (kc7 : ClassId) (h0 : Heap) (n0 : Nat) (O0 : Old Z n0 h0) (pf2 : Fld Z h0 ad0 o7 "coder" "B" (.int 0)) (pf3 : Fld Z h0 ad0 o7 "value" "[B" (.ref ad2)) (pe4 : Exa Z h0 ad1 o7) (pf5 : Fld Z h0 ad1 o7 "coder" "B" (.int 0)) (pf6 : Fld Z h0 ad1 o7 "value" "[B" (.ref ad3)) (pa8 : Arv Z h0 ad2 kc4 .byte 5 [.int iv5, .int 32, .int 39, .int iv6, .int 39] (.int 0)) (pa10 : Arv Z h0 ad3 kc7 .byte 5 [.int iv5, .int 32, .int 39, .int iv6, .int 39] (.int 0)) (pn_ad0_ad1 : ad0 ≠ ad1) :
    o21 l o182 jdk_42_method_66_code 3 (some .boolean) ws ⟨1, 0, 0, 14⟩ Z h0 #[.ref ad0, .ref ad1] (fun v h L => v = some (.int 1) ∧ Fr n0 L ∧ h = h0) := by
  refine o18 (plainFor_of_name o83) ?_
  intro p e s m below meth c s₁ hx hby hml hown hnm hret hlk hZ e0 X0
  have N0 := Fr.nil n0
  refine o4 (fun u j => castTop (show entryFrame m #[.ref ad0, .ref ad1] 3 = mkF m 0 #[o1 ad0, o1 ad1, o5] [] from rfl) j) ?_
  refine o4 (fun u j => o3 X0.here hx rfl (hb hby o290) rfl rfl (o3 X0.here hx rfl (hb hby o291) rfl rfl (XT.acmpYes X0.here hx rfl (pc0 := 2) (pc' := 7) rfl (hb hby o292) rfl rfl rfl (XT.aa_ne_t (o504 pn_ad0_ad1)) (by decide) (by decide) (o3 X0.here hx rfl (hb hby o293) rfl rfl j)))) ?_
  have q_ := instY X0 hx hZ hown (o2 hw 9 rfl) e0 (Ins.self pe4) (g := (mkF m 8 #[o1 ad0, o1 ad1, o5] [.ref ad1])) rfl rfl (hb hby o294)
  obtain ⟨T1437, X1437, e1437, st1437⟩ := q_
  refine o4 (fun u j => st1437 u j) ?_
  refine o4 (fun u j => o68 X1437.here hx rfl (hb hby o237) rfl (o65 (by decide)) (o3 X1437.here hx rfl (hb hby o238) rfl rfl j)) ?_
  have q_ := castY X1437 hx hZ hown (o2 hw 9 rfl) e1437 (Ins.self pe4) (g := (mkF m 15 #[o1 ad0, o1 ad1, o5] [.ref ad1])) rfl rfl (hb hby o239)
  obtain ⟨T1438, X1438, e1438, st1438⟩ := q_
  refine o4 (fun u j => st1438 u j) ?_
  refine o4 (fun u j => o84 X1438.here hx rfl (hb hby o240) rfl rfl (l' := #[o1 ad0, o1 ad1, o1 ad1]) rfl j) ?_
  have F1439 := Sta.ext O0.2 hS.1
  refine o22 (getS2 X1438 hx hZ hown (host := "") (Or.inl (o2 hw 4 rfl)) Via.refl e1438 F1439 rfl (hb hby o241)) ?_
  intro T1440 X1440 e1440
  refine o4 (fun u j => o68 X1440.here hx rfl (hb hby o242) rfl (o65 hS.2) (o3 X1440.here hx rfl (hb hby o243) rfl rfl j)) ?_
  refine o22 (getF X1440 hx hZ hown (host := "") (Or.inl (o2 hw 24 rfl)) Via.refl e1440 pf2 rfl rfl (hb hby o244)) ?_
  intro T1441 X1441 e1441
  refine o4 (fun u j => o3 X1441.here hx rfl (hb hby o245) rfl rfl j) ?_
  refine o22 (getF X1441 hx hZ hown (host := "") (Or.inl (o2 hw 24 rfl)) Via.refl e1441 pf5 rfl rfl (hb hby o246)) ?_
  intro T1442 X1442 e1442
  refine o4 (fun u j => o14 X1442.here hx rfl (hb hby o247) rfl (o93 (by decide)) (o3 X1442.here hx rfl (hb hby o248) rfl rfl j)) ?_
  refine o22 (getF X1442 hx hZ hown (host := "") (Or.inl (o2 hw 22 rfl)) Via.refl e1442 pf3 rfl rfl (hb hby o249)) ?_
  intro T1443 X1443 e1443
  refine o4 (fun u j => o3 X1443.here hx rfl (hb hby o250) rfl rfl j) ?_
  refine o22 (getF X1443 hx hZ hown (host := "") (Or.inl (o2 hw 22 rfl)) Via.refl e1443 pf6 rfl rfl (hb hby o251)) ?_
  intro T1444 X1444 e1444
  refine o17 (o78 X1444 hx hZ (y := o320) hown (o2 hw 76 rfl) (o2 hw 77 rfl) (o2 hw 7 rfl) (o2 hw 78 rfl) o414 (o951 hw hS ad2 ad3 kc4 iv5 iv6 kc7 h0 n0 O0 pa8 pa10) e1444 o441 (argsL := [.ref ad2, .ref ad3]) (rest := []) rfl rfl (g := (mkF m 44 #[o1 ad0, o1 ad1, o1 ad1] [.ref ad3, .ref ad2])) rfl (by rw [hml]; rfl) rfl (hb hby o252) (W := 0) rfl) ?_
  intro T1445 v1445 L1445 X1445 hQ1445
  obtain ⟨rfl, M1445, e1445⟩ := hQ1445
  have N1445 := Fr.app N0 M1445
  refine o4 (fun u j => o68 X1445.here hx rfl (hb hby o255) rfl (o65 (by decide)) (o16 X1445.here hx rfl (hb hby o256) (o15 X1445.here hx rfl (pc0 := 51) (pc' := 55) rfl (hb hby o257) (by decide) (by decide) j))) ?_
  exact o69 X1445 hx hlk hret rfl (Or.inl ⟨rfl, by simp, _, rfl⟩) (hb hby o258) (by decide) (by decide) (by rw [e1445]; exact ⟨rfl, N1445, rfl⟩)
theorem o953 (hw : o35 a0 Z) (hS : o64 Z wcs) (ad0 ad1 : Addr) (h0 : Heap) (n0 : Nat) (O0 : Old Z n0 h0) (pe1 : Exa Z h0 ad0 o62) (pf2 : Fld Z h0 ad0 o62 "bean" o71 .null) (pf3 : Fld Z h0 ad0 o62 "name" o71 .null) (pf4 : Fld Z h0 ad0 o62 "part" o71 .null) (pg_ad0 : n0 ≤ ad0) :
    o21 l o395 prog_89_method_1_code 4 none ws ⟨2, 0, 0, 24⟩ Z h0 #[.ref ad0, .ref ad1, .null, .null] (fun v h L => v = none ∧ Fr n0 L ∧ Keep h0 h [ad0] ∧ Exa Z h ad0 o62 ∧ Fld Z h ad0 o62 "bean" o71 (.ref ad1) ∧ Fld Z h ad0 o62 "name" o71 .null ∧ Fld Z h ad0 o62 "part" o71 .null) := by
  refine o18 (plainFor_of_name o312) ?_
  intro p e s m below meth c s₁ hx hby hml hown hnm hret hlk hZ e0 X0
  have N0 := Fr.nil n0
  refine o4 (fun u j => castTop (show entryFrame m #[.ref ad0, .ref ad1, .null, .null] 4 = mkF m 0 #[o1 ad0, o1 ad1, .val .null, .val .null] [] from rfl) j) ?_
  refine o4 (fun u j => o3 X0.here hx rfl (hb hby o262) rfl rfl j) ?_
  refine o17 (o87 X0 hx hZ (y := o458) rfl hown (o2 hw 32 rfl) (o2 hw 33 rfl) (o2 hw 35 rfl) (o2 hw 36 rfl) o462 (o842 hw hS ad0 h0 n0 O0 ) e0 o311 (a := ad0) (argsL := []) (rest := []) rfl rfl (g := (mkF m 1 #[o1 ad0, o1 ad1, .val .null, .val .null] [.ref ad0])) rfl (by rw [hml]; rfl) rfl (hb hby o263) (W := 0) rfl) ?_
  intro T1486 v1486 L1486 X1486 hQ1486
  obtain ⟨rfl, M1486, e1486⟩ := hQ1486
  have N1486 := Fr.app N0 M1486
  refine o4 (fun u j => o3 X1486.here hx rfl (hb hby o264) rfl rfl (o3 X1486.here hx rfl (hb hby o265) rfl rfl j)) ?_
  refine o32 (putF X1486 hx hZ hown (host := "") (Or.inl (o2 hw 38 rfl)) Via.refl e1486 pf2 pe1 (Or.inr ⟨(o2 hw 39 rfl), rfl, hnm⟩) (o2 hw 27 rfl) (ty := (.object "java/lang/String")) o82 rfl rfl rfl rfl (hb hby o266)) ?_
  intro T1487 h1487 X1487 e1487 W1487
  have N1487 := Fr.snoc X1487 N1486 pg_ad0
  have F1488 : Fld Z h1487 ad0 o62 "bean" o71 (.ref ad1) := Fld.same W1487 pf2
  refine o4 (fun u j => o3 X1487.here hx rfl (hb hby o267) rfl rfl (o3 X1487.here hx rfl (hb hby o215) rfl rfl j)) ?_
  have F1489 := (Exa.wr W1487 pe1)
  have F1490 := (Fld.other W1487 pf4 (Or.inr (o463 hw)))
  refine o32 (putF X1487 hx hZ hown (host := "") (Or.inl (o2 hw 40 rfl)) Via.refl e1487 F1490 F1489 (Or.inr ⟨(o2 hw 41 rfl), rfl, hnm⟩) (o2 hw 27 rfl) (ty := (.object "java/lang/String")) o82 rfl rfl rfl rfl (hb hby o216)) ?_
  intro T1491 h1491 X1491 e1491 W1491
  have N1491 := Fr.snoc X1491 N1487 pg_ad0
  have F1492 : Fld Z h1491 ad0 o62 "part" o71 .null := Fld.same W1491 F1490
  refine o4 (fun u j => o3 X1491.here hx rfl (hb hby o217) rfl rfl (o3 X1491.here hx rfl (hb hby o218) rfl rfl j)) ?_
  have F1493 := (Exa.wr W1491 F1489)
  have F1494 := (Fld.other W1491 (Fld.other W1487 pf3 (Or.inr (o464 hw))) (Or.inr (o465 hw)))
  refine o32 (putF X1491 hx hZ hown (host := "") (Or.inl (o2 hw 42 rfl)) Via.refl e1491 F1494 F1493 (Or.inr ⟨(o2 hw 43 rfl), rfl, hnm⟩) (o2 hw 27 rfl) (ty := (.object "java/lang/String")) o82 rfl rfl rfl rfl (hb hby o219)) ?_
  intro T1495 h1495 X1495 e1495 W1495
  have N1495 := Fr.snoc X1495 N1491 pg_ad0
  have F1496 : Fld Z h1495 ad0 o62 "name" o71 .null := Fld.same W1495 F1494
  have K1497 := (Keep.refl h0 [ad0]).wr W1487 (Or.inl (List.mem_of_getElem? (i := 0) rfl))
  have K1498 := K1497.wr W1491 (Or.inl (List.mem_of_getElem? (i := 0) rfl))
  have K1499 := K1498.wr W1495 (Or.inl (List.mem_of_getElem? (i := 0) rfl))
  have F1500 := (Exa.wr W1495 F1493)
  have F1501 := (Fld.other W1495 (Fld.other W1491 F1488 (Or.inr (o466 hw))) (Or.inr (o467 hw)))
  have F1502 := (Fld.other W1495 F1492 (Or.inr (o468 hw)))
  exact o81 X1495 hx hlk hret (hb hby o220) (by decide) (by decide) (by rw [e1495]; exact ⟨rfl, N1495, K1499, F1500, F1501, F1496, F1502⟩)
theorem o417 : decode prog_89_method_5_code 61 = .ok (.aload_n 0, 1) := by decide +kernel
theorem o418 : decode prog_89_method_5_code 62 = .ok (.getfield 13, 3) := by decide +kernel
theorem o419 : decode prog_89_method_5_code 65 = .ok (.ifnonnull 34, 3) := by decide +kernel
theorem o548 : decode prog_89_method_5_code 68 = .ok (.new 22, 3) := by decide +kernel
theorem o549 : decode prog_89_method_5_code 71 = .ok (.dup, 1) := by decide +kernel
theorem o550 : decode prog_89_method_5_code 72 = .ok (.invokespecial 24, 3) := by decide +kernel
theorem o551 : decode prog_89_method_5_code 75 = .ok (.ldc 37, 2) := by decide +kernel
theorem o507 : (∀ c ∈ ("bean '" : String).toList, c.toNat < 256) ∧ ("bean '" : String).toList.map (fun c => Value.int (Jvm.Lit.byteI c.toNat.toUInt16)) = [.int 98, .int 101, .int 97, .int 110, .int 32, .int 39] := (by decide)
theorem o552 : decode prog_89_method_5_code 77 = .ok (.invokevirtual 25, 3) := by decide +kernel
theorem o954 (hw : o35 a0 Z) (hS : o64 Z wcs) (ad0 ad1 : Addr) (kc2 : ClassId) (h0 : Heap) (n0 : Nat) (O0 : Old Z n0 h0) (pe1 : Exa Z h0 ad0 o7) (pf2 : Fld Z h0 ad0 o7 "coder" "B" (.int 0)) (pf3 : Fld Z h0 ad0 o7 "value" "[B" (.ref ad1)) (pa4 : Arv Z h0 ad1 kc2 .byte 6 [.int 98, .int 101, .int 97, .int 110, .int 32, .int 39] (.int 0)) :
    o21 l o106 jdk_42_method_54_code 1 (some .int) ws ⟨1, 0, 0, 13⟩ Z h0 #[.ref ad0] (fun v h L => v = some (.int 6) ∧ Fr n0 L ∧ h = h0) := by
  refine o18 (plainFor_of_name o83) ?_
  intro p e s m below meth c s₁ hx hby hml hown hnm hret hlk hZ e0 X0
  have N0 := Fr.nil n0
  refine o4 (fun u j => castTop (show entryFrame m #[.ref ad0] 1 = mkF m 0 #[o1 ad0] [] from rfl) j) ?_
  refine o4 (fun u j => o3 X0.here hx rfl (hb hby o302) rfl rfl j) ?_
  refine o22 (getF X0 hx hZ hown (host := "") (Or.inl (o2 hw 22 rfl)) Via.refl e0 pf3 rfl rfl (hb hby o303)) ?_
  intro T1535 X1535 e1535
  refine o4 (fun u j => o75 X1535 hx hZ e1535 pa4 rfl rfl (hb hby o304) (o3 X1535.here hx rfl (hb hby o305) rfl rfl j)) ?_
  refine o17 (o63 X1535 hx hZ (y := o89) (z := o89) hown (o2 hw 112 rfl) (o2 hw 113 rfl) (notFace_of_selects (args := #[]) (mvT hZ (o2 hw 115 rfl))) (o2 hw 115 rfl) (o2 hw 114 rfl) (o2 hw 2 rfl) (o2 hw 116 rfl) o67 (o396 hw hS ad0 h0 n0 O0 pf2) e1535 pe1 o174 (argsL := []) (rest := [.int 6]) rfl rfl (g := (mkF m 6 #[o1 ad0] [.ref ad0, .int 6])) rfl (by rw [hml]; rfl) rfl (hb hby o306) (W := 1) rfl) ?_
  intro T1537 v1537 L1537 X1537 hQ1537
  obtain ⟨rfl, M1537, e1537⟩ := hQ1537
  have N1537 := Fr.app N0 M1537
  refine o4 (fun u j => XS.ishr X1537.here hx rfl (hb hby o307) rfl j) ?_
  exact o69 X1537 hx hlk hret rfl (Or.inl ⟨rfl, by simp, _, rfl⟩) (hb hby o259) (by decide) (by decide) (by rw [e1537]; exact ⟨rfl, N1537, rfl⟩)
theorem o955 (hw : o35 a0 Z) (hS : o64 Z wcs) (ad0 ad1 ad2 : Addr) (kc3 : ClassId) (kc4 : ClassId) (h0 : Heap) (n0 : Nat) (O0 : Old Z n0 h0) (pe1 : Exa Z h0 ad0 o7) (pf2 : Fld Z h0 ad0 o7 "coder" "B" (.int 0)) (pf3 : Fld Z h0 ad0 o7 "value" "[B" (.ref ad2)) (pe4 : Exa Z h0 ad1 "[B") (pa5 : Arv Z h0 ad1 kc3 .byte 16 [.int 0, .int 0, .int 0, .int 0, .int 0, .int 0, .int 0, .int 0, .int 0, .int 0, .int 0, .int 0, .int 0, .int 0, .int 0, .int 0] (.int 0)) (pa6 : Arv Z h0 ad2 kc4 .byte 6 [.int 98, .int 101, .int 97, .int 110, .int 32, .int 39] (.int 0)) (pg_ad1 : n0 ≤ ad1) :
    o21 l o97 jdk_42_method_147_code 4 none ws ⟨1, 0, 0, 27⟩ Z h0 #[.ref ad0, .ref ad1, .int 0, .int 0] (fun v h L => v = none ∧ Fr n0 L ∧ Keep h0 h [ad1] ∧ Exa Z h ad1 "[B" ∧ Arv Z h ad1 kc3 .byte 16 [.int 98, .int 101, .int 97, .int 110, .int 32, .int 39, .int 0, .int 0, .int 0, .int 0, .int 0, .int 0, .int 0, .int 0, .int 0, .int 0] (.int 0)) := by
  refine o18 (plainFor_of_name o83) ?_
  intro p e s m below meth c s₁ hx hby hml hown hnm hret hlk hZ e0 X0
  have N0 := Fr.nil n0
  refine o4 (fun u j => castTop (show entryFrame m #[.ref ad0, .ref ad1, .int 0, .int 0] 4 = mkF m 0 #[o1 ad0, o1 ad1, o0 0, o0 0] [] from rfl) j) ?_
  refine o4 (fun u j => o3 X0.here hx rfl (hb hby o139) rfl rfl j) ?_
  refine o17 (o63 X0 hx hZ (y := o89) (z := o89) hown (o2 hw 112 rfl) (o2 hw 113 rfl) (notFace_of_selects (args := #[]) (mvT hZ (o2 hw 115 rfl))) (o2 hw 115 rfl) (o2 hw 114 rfl) (o2 hw 2 rfl) (o2 hw 116 rfl) o67 (o396 hw hS ad0 h0 n0 O0 pf2) e0 pe1 o174 (argsL := []) (rest := []) rfl rfl (g := (mkF m 1 #[o1 ad0, o1 ad1, o0 0, o0 0] [.ref ad0])) rfl (by rw [hml]; rfl) rfl (hb hby o140) (W := 0) rfl) ?_
  intro T1551 v1551 L1551 X1551 hQ1551
  obtain ⟨rfl, M1551, e1551⟩ := hQ1551
  have N1551 := Fr.app N0 M1551
  refine o4 (fun u j => o6 X1551.here hx rfl (hb hby o141) rfl (o14 X1551.here hx rfl (hb hby o142) rfl (o93 (by decide)) (o3 X1551.here hx rfl (hb hby o143) rfl rfl j))) ?_
  refine o22 (getF X1551 hx hZ hown (host := "") (Or.inl (o2 hw 22 rfl)) Via.refl e1551 pf3 rfl rfl (hb hby o144)) ?_
  intro T1552 X1552 e1552
  refine o4 (fun u j => o16 X1552.here hx rfl (hb hby o109) (o3 X1552.here hx rfl (hb hby o110) rfl rfl (o6 X1552.here hx rfl (hb hby o111) rfl (o6 X1552.here hx rfl (hb hby o112) rfl (XS.ishl X1552.here hx rfl (hb hby o113) rfl (o3 X1552.here hx rfl (hb hby o114) rfl rfl j)))))) ?_
  show o11 p e below _ (T1552.setTop (mkF m 18 #[o1 ad0, o1 ad1, o0 0, o0 0] [.ref ad0, .int 0, .ref ad1, .int 0, .ref ad2]))
  refine o22 (getF X1552 hx hZ hown (host := "") (Or.inl (o2 hw 22 rfl)) Via.refl e1552 pf3 rfl rfl (hb hby o115)) ?_
  intro T1553 X1553 e1553
  refine o4 (fun u j => o75 X1553 hx hZ e1553 pa6 rfl rfl (hb hby o116) j) ?_
  have q_ := cpA X1553 hx hZ hown (o2 hw 140 rfl) (o2 hw 143 rfl) (o2 hw 141 rfl) (o2 hw 142 rfl) e1553 pa6 pa5 (us := [.int 98, .int 101, .int 97, .int 110, .int 32, .int 39]) (Or.inl ⟨rfl, rfl⟩) (by decide) (by decide) (by decide) (by decide) (by decide) rfl (Nat.le_of_ble_eq_true rfl) N1551 pg_ad1 (g := (mkF m 22 #[o1 ad0, o1 ad1, o0 0, o0 0] [.int 6, .int 0, .ref ad1, .int 0, .ref ad2])) rfl (by rw [hml]; rfl) rfl (hb hby o117) (by decide) (W := 0) (by show 2 * 0 + _ ≤ _; exact Nat.le_of_eq rfl) (by decide)
  obtain ⟨T1555, h1555, L1555, X1555, e1555, N1555, K1555, V1555, st1555⟩ := q_
  have V1556 : Arv Z h1555 ad1 kc3 .byte 16 [.int 98, .int 101, .int 97, .int 110, .int 32, .int 39, .int 0, .int 0, .int 0, .int 0, .int 0, .int 0, .int 0, .int 0, .int 0, .int 0] (.int 0) := V1555
  refine o4 (fun u j => st1555 u j) ?_
  refine o4 (fun u j => o15 X1555.here hx rfl (pc0 := 25) (pc' := 43) rfl (hb hby o118) (by decide) (by decide) j) ?_
  have K1557 := (Keep.refl h0 [ad1]).trans K1555 (allS (Or.inl (List.mem_of_getElem? (i := 0) rfl)) all0)
  have F1558 := (pe4.keep K1555)
  exact o81 X1555 hx hlk hret (hb hby o119) (by decide) (by decide) (by rw [e1555]; exact ⟨rfl, N1555, K1557, F1558, V1556⟩)
theorem o956 (hw : o35 a0 Z) (hS : o64 Z wcs) (ad0 ad1 : Addr) (ad2 ad3 : Addr) (kc4 : ClassId) (kc5 : ClassId) (h0 : Heap) (n0 : Nat) (O0 : Old Z n0 h0) (pe1 : Exa Z h0 ad0 o70) (pf2 : Fld Z h0 ad0 o10 "coder" "B" (.int 0)) (pf4 : Fld Z h0 ad0 o10 "value" "[B" (.ref ad2)) (pe5 : Exa Z h0 ad1 o7) (pf6 : Fld Z h0 ad1 o7 "coder" "B" (.int 0)) (pf7 : Fld Z h0 ad1 o7 "value" "[B" (.ref ad3)) (pe8 : Exa Z h0 ad2 "[B") (pa9 : Arv Z h0 ad2 kc4 .byte 16 [.int 0, .int 0, .int 0, .int 0, .int 0, .int 0, .int 0, .int 0, .int 0, .int 0, .int 0, .int 0, .int 0, .int 0, .int 0, .int 0] (.int 0)) (pa10 : Arv Z h0 ad3 kc5 .byte 6 [.int 98, .int 101, .int 97, .int 110, .int 32, .int 39] (.int 0)) (pg_ad2 : n0 ≤ ad2) :
    o21 l o154 jdk_68_method_73_code 3 none ws ⟨2, 0, 0, 42⟩ Z h0 #[.ref ad0, .int 0, .ref ad1] (fun v h L => v = none ∧ Fr n0 L ∧ Keep h0 h [ad2] ∧ Exa Z h ad2 "[B" ∧ Arv Z h ad2 kc4 .byte 16 [.int 98, .int 101, .int 97, .int 110, .int 32, .int 39, .int 0, .int 0, .int 0, .int 0, .int 0, .int 0, .int 0, .int 0, .int 0, .int 0] (.int 0)) := by
  refine o18 (plainFor_of_name o100) ?_
  intro p e s m below meth c s₁ hx hby hml hown hnm hret hlk hZ e0 X0
  have N0 := Fr.nil n0
  refine o4 (fun u j => castTop (show entryFrame m #[.ref ad0, .int 0, .ref ad1] 3 = mkF m 0 #[o1 ad0, o0 0, o1 ad1] [] from rfl) j) ?_
  refine o4 (fun u j => o3 X0.here hx rfl (hb hby o158) rfl rfl (o3 X0.here hx rfl (hb hby o159) rfl rfl j)) ?_
  refine o17 (o95 X0 hx hZ (y := o261) hown (o2 hw 129 rfl) (o2 hw 130 rfl) (o96 hZ (o2 hw 132 rfl) (o2 hw 131 rfl) (o2 hw 130 rfl) o24) (o2 hw 131 rfl) (o2 hw 89 rfl) (o2 hw 133 rfl) o24 (o460 hw hS ad0 ad1 h0 n0 O0 pf2 pe5 pf6) e0 pe1 o208 (argsL := [.ref ad1]) (rest := []) rfl rfl (g := (mkF m 2 #[o1 ad0, o0 0, o1 ad1] [.ref ad1, .ref ad0])) rfl (by rw [hml]; rfl) rfl (hb hby o160) (W := 0) rfl) ?_
  intro T1562 v1562 L1562 X1562 hQ1562
  obtain ⟨rfl, M1562, e1562⟩ := hQ1562
  have N1562 := Fr.app N0 M1562
  refine o4 (fun u j => o3 X1562.here hx rfl (hb hby o161) rfl rfl (o3 X1562.here hx rfl (hb hby o162) rfl rfl j)) ?_
  refine o22 (getF X1562 hx hZ hown (host := "") (Or.inl (o2 hw 93 rfl)) Via.refl e1562 pf4 rfl rfl (hb hby o163)) ?_
  intro T1563 X1563 e1563
  refine o4 (fun u j => o6 X1563.here hx rfl (hb hby o135) rfl (o3 X1563.here hx rfl (hb hby o136) rfl rfl j)) ?_
  refine o22 (getF X1563 hx hZ hown (host := "") (Or.inl (o2 hw 95 rfl)) Via.refl e1563 pf2 rfl rfl (hb hby o137)) ?_
  intro T1564 X1564 e1564
  refine o17 (o63 X1564 hx hZ (y := o97) (z := o97) hown (o2 hw 135 rfl) (o2 hw 136 rfl) (notFace_of_selects (args := #[]) (mvT hZ (o2 hw 138 rfl))) (o2 hw 138 rfl) (o2 hw 137 rfl) (o2 hw 2 rfl) (o2 hw 139 rfl) o67 (o955 hw hS ad1 ad2 ad3 kc4 kc5 h0 n0 O0 pe5 pf6 pf7 pe8 pa9 pa10 pg_ad2) e1564 pe5 o209 (argsL := [.ref ad2, .int 0, .int 0]) (rest := []) rfl rfl (g := (mkF m 15 #[o1 ad0, o0 0, o1 ad1] [.int 0, .int 0, .ref ad2, .ref ad1])) rfl (by rw [hml]; rfl) rfl (hb hby o138) (W := 0) rfl) ?_
  intro T1565 v1565 L1565 X1565 hQ1565
  obtain ⟨rfl, M1565, K1565, F1566, F1567⟩ := hQ1565
  have N1565 := Fr.app N1562 M1565
  have K1568 := (Keep.refl h0 [ad2]).trans K1565 (allS (Or.inl (List.mem_of_getElem? (i := 0) rfl)) all0)
  exact o81 X1565 hx hlk hret (hb hby o145) (by decide) (by decide) (by exact ⟨rfl, N1565, K1568, F1566, F1567⟩)
theorem o957 (hw : o35 a0 Z) (hS : o64 Z wcs) (ad0 ad1 : Addr) (ad2 ad3 : Addr) (kc4 : ClassId) (kc5 : ClassId) (h0 : Heap) (n0 : Nat) (O0 : Old Z n0 h0) (pe1 : Exa Z h0 ad0 o70) (pf2 : Fld Z h0 ad0 o10 "coder" "B" (.int 0)) (pf3 : Fld Z h0 ad0 o10 "count" "I" (.int 0)) (pf4 : Fld Z h0 ad0 o10 "value" "[B" (.ref ad2)) (pe5 : Exa Z h0 ad1 o7) (pf6 : Fld Z h0 ad1 o7 "coder" "B" (.int 0)) (pf7 : Fld Z h0 ad1 o7 "value" "[B" (.ref ad3)) (pe8 : Exa Z h0 ad2 "[B") (pa9 : Arv Z h0 ad2 kc4 .byte 16 [.int 0, .int 0, .int 0, .int 0, .int 0, .int 0, .int 0, .int 0, .int 0, .int 0, .int 0, .int 0, .int 0, .int 0, .int 0, .int 0] (.int 0)) (pa10 : Arv Z h0 ad3 kc5 .byte 6 [.int 98, .int 101, .int 97, .int 110, .int 32, .int 39] (.int 0)) (pg_ad2 : n0 ≤ ad2) (pg_ad0 : n0 ≤ ad0) :
    o21 l o98 jdk_68_method_22_code 3 (some (.object "java/lang/AbstractStringBuilder")) ws ⟨3, 0, 0, 56⟩ Z h0 #[.ref ad0, .ref ad1] (fun v h L => v = some (.ref ad0) ∧ Fr n0 L ∧ Keep h0 h [ad2, ad0] ∧ Exa Z h ad2 "[B" ∧ Arv Z h ad2 kc4 .byte 16 [.int 98, .int 101, .int 97, .int 110, .int 32, .int 39, .int 0, .int 0, .int 0, .int 0, .int 0, .int 0, .int 0, .int 0, .int 0, .int 0] (.int 0) ∧ Exa Z h ad0 o70 ∧ Fld Z h ad0 o10 "coder" "B" (.int 0) ∧ Fld Z h ad0 o10 "count" "I" (.int 6) ∧ Fld Z h ad0 o10 "value" "[B" (.ref ad2)) := by
  refine o18 (plainFor_of_name o100) ?_
  intro p e s m below meth c s₁ hx hby hml hown hnm hret hlk hZ e0 X0
  have N0 := Fr.nil n0
  refine o4 (fun u j => castTop (show entryFrame m #[.ref ad0, .ref ad1] 3 = mkF m 0 #[o1 ad0, o1 ad1, o5] [] from rfl) j) ?_
  refine o4 (fun u j => o3 X0.here hx rfl (hb hby o155) rfl rfl (o86 X0.here hx rfl (pc0 := 1) (pc' := 9) rfl (hb hby o156) rfl (by decide) (by decide) (o3 X0.here hx rfl (hb hby o157) rfl rfl j))) ?_
  refine o17 (o63 X0 hx hZ (y := o106) (z := o106) hown (o2 hw 107 rfl) (o2 hw 108 rfl) (notFace_of_selects (args := #[]) (mvT hZ (o2 hw 110 rfl))) (o2 hw 110 rfl) (o2 hw 109 rfl) (o2 hw 2 rfl) (o2 hw 111 rfl) o67 (o954 hw hS ad1 ad3 kc5 h0 n0 O0 pe5 pf6 pf7 pa10) e0 pe5 o179 (argsL := []) (rest := []) rfl rfl (g := (mkF m 10 #[o1 ad0, o1 ad1, o5] [.ref ad1])) rfl (by rw [hml]; rfl) rfl (hb hby o122) (W := 0) rfl) ?_
  intro T1578 v1578 L1578 X1578 hQ1578
  obtain ⟨rfl, M1578, e1578⟩ := hQ1578
  have N1578 := Fr.app N0 M1578
  refine o4 (fun u j => o94 X1578.here hx rfl (hb hby o123) rfl (l' := #[o1 ad0, o1 ad1, o0 6]) rfl (o3 X1578.here hx rfl (hb hby o124) rfl rfl (o3 X1578.here hx rfl (hb hby o125) rfl rfl j))) ?_
  refine o22 (getF X1578 hx hZ hown (host := "") (Or.inl (o2 hw 117 rfl)) Via.refl e1578 pf3 rfl rfl (hb hby o126)) ?_
  intro T1579 X1579 e1579
  refine o4 (fun u j => o6 X1579.here hx rfl (hb hby o127) rfl (o107 X1579.here hx rfl (hb hby o128) rfl j)) ?_
  refine o17 (o95 X1579 hx hZ (y := o260) hown (o2 hw 119 rfl) (o2 hw 120 rfl) (o96 hZ (o2 hw 122 rfl) (o2 hw 121 rfl) (o2 hw 120 rfl) o24) (o2 hw 121 rfl) (o2 hw 89 rfl) (o2 hw 123 rfl) o24 (o459 hw hS ad0 (6 : Int32) ad2 kc4 (16 : Int32) [.int 0, .int 0, .int 0, .int 0, .int 0, .int 0, .int 0, .int 0, .int 0, .int 0, .int 0, .int 0, .int 0, .int 0, .int 0, .int 0] h0 n0 O0 pf2 pf4 pa9 (by decide)) e1579 pe1 o187 (argsL := [.int 6]) (rest := []) rfl rfl (g := (mkF m 21 #[o1 ad0, o1 ad1, o0 6] [.int 6, .ref ad0])) rfl (by rw [hml]; rfl) rfl (hb hby o129) (W := 0) rfl) ?_
  intro T1580 v1580 L1580 X1580 hQ1580
  obtain ⟨rfl, M1580, e1580⟩ := hQ1580
  have N1580 := Fr.app N1578 M1580
  refine o4 (fun u j => o3 X1580.here hx rfl (hb hby o130) rfl rfl (o3 X1580.here hx rfl (hb hby o131) rfl rfl j)) ?_
  refine o22 (getF X1580 hx hZ hown (host := "") (Or.inl (o2 hw 117 rfl)) Via.refl e1580 pf3 rfl rfl (hb hby o132)) ?_
  intro T1581 X1581 e1581
  refine o4 (fun u j => o3 X1581.here hx rfl (hb hby o133) rfl rfl j) ?_
  refine o17 (o95 X1581 hx hZ (y := o154) hown (o2 hw 124 rfl) (o2 hw 125 rfl) (o96 hZ (o2 hw 127 rfl) (o2 hw 126 rfl) (o2 hw 125 rfl) o24) (o2 hw 126 rfl) (o2 hw 89 rfl) (o2 hw 128 rfl) o24 (o956 hw hS ad0 ad1 ad2 ad3 kc4 kc5 h0 n0 O0 pe1 pf2 pf4 pe5 pf6 pf7 pe8 pa9 pa10 pg_ad2) e1581 pe1 o210 (argsL := [.int 0, .ref ad1]) (rest := []) rfl rfl (g := (mkF m 30 #[o1 ad0, o1 ad1, o0 6] [.ref ad1, .int 0, .ref ad0])) rfl (by rw [hml]; rfl) rfl (hb hby o134) (W := 0) rfl) ?_
  intro T1582 v1582 L1582 X1582 hQ1582
  obtain ⟨rfl, M1582, K1582, F1583, F1584⟩ := hQ1582
  have N1582 := Fr.app N1580 M1582
  refine o4 (fun u j => o3 X1582.here hx rfl (hb hby o146) rfl rfl (o61 X1582.here hx rfl (hb hby o147) rfl rfl j)) ?_
  have ne1585 := (ne_exa pe1 pe8 o85)
  have F1586 := (pf3.keep K1582 (ninS ne1585 nin0))
  refine o22 (getF X1582 hx hZ hown (host := "") (Or.inl (o2 hw 117 rfl)) Via.refl rfl F1586 rfl rfl (hb hby o148)) ?_
  intro T1587 X1587 e1587
  refine o4 (fun u j => o6 X1587.here hx rfl (hb hby o149) rfl (o107 X1587.here hx rfl (hb hby o150) rfl j)) ?_
  have F1588 := (pe1.keep K1582)
  refine o32 (putF X1587 hx hZ hown (host := "") (Or.inl (o2 hw 117 rfl)) Via.refl e1587 F1586 F1588 (Or.inl (o2 hw 118 rfl)) (o2 hw 80 rfl) (ty := .int) o120 rfl rfl rfl rfl (hb hby o151)) ?_
  intro T1589 h1589 X1589 e1589 W1589
  have N1589 := Fr.snoc X1589 N1582 pg_ad0
  have F1590 : Fld Z h1589 ad0 o10 "count" "I" (.int 6) := Fld.same W1589 F1586
  refine o4 (fun u j => o3 X1589.here hx rfl (hb hby o152) rfl rfl j) ?_
  have K1591 := (Keep.refl h0 [ad2, ad0]).trans K1582 (allS (Or.inl (List.mem_of_getElem? (i := 0) rfl)) all0)
  have K1592 := K1591.wr W1589 (Or.inl (List.mem_of_getElem? (i := 1) rfl))
  have F1593 := (Exa.wr W1589 F1583)
  have F1594 := (F1584.other W1589 (Ne.symm ne1585))
  have F1595 := (Exa.wr W1589 F1588)
  have F1596 := (Fld.other W1589 (pf2.keep K1582 (ninS ne1585 nin0)) (Or.inr (o211 hw)))
  have F1597 := (Fld.other W1589 (pf4.keep K1582 (ninS ne1585 nin0)) (Or.inr (o212 hw)))
  exact o69 X1589 hx hlk hret rfl (Or.inr (Or.inr (Or.inr (Or.inr ⟨rfl, rfl, rfl⟩)))) (hb hby o153) (by decide) (by decide) (by rw [e1589]; exact ⟨rfl, N1589, K1592, F1593, F1594, F1595, F1596, F1590, F1597⟩)
theorem o853 (hw : o35 a0 Z) (hS : o64 Z wcs) (ad0 ad1 : Addr) (ad2 ad3 : Addr) (kc4 : ClassId) (kc5 : ClassId) (h0 : Heap) (n0 : Nat) (O0 : Old Z n0 h0) (pe1 : Exa Z h0 ad0 o70) (pf2 : Fld Z h0 ad0 o10 "coder" "B" (.int 0)) (pf3 : Fld Z h0 ad0 o10 "count" "I" (.int 0)) (pf4 : Fld Z h0 ad0 o10 "value" "[B" (.ref ad2)) (pe5 : Exa Z h0 ad1 o7) (pf6 : Fld Z h0 ad1 o7 "coder" "B" (.int 0)) (pf7 : Fld Z h0 ad1 o7 "value" "[B" (.ref ad3)) (pe8 : Exa Z h0 ad2 "[B") (pa9 : Arv Z h0 ad2 kc4 .byte 16 [.int 0, .int 0, .int 0, .int 0, .int 0, .int 0, .int 0, .int 0, .int 0, .int 0, .int 0, .int 0, .int 0, .int 0, .int 0, .int 0] (.int 0)) (pa10 : Arv Z h0 ad3 kc5 .byte 6 [.int 98, .int 101, .int 97, .int 110, .int 32, .int 39] (.int 0)) (pg_ad2 : n0 ≤ ad2) (pg_ad0 : n0 ≤ ad0) :
    o21 l o80 jdk_67_method_7_code 2 (some (.object "java/lang/StringBuilder")) ws ⟨4, 0, 0, 70⟩ Z h0 #[.ref ad0, .ref ad1] (fun v h L => v = some (.ref ad0) ∧ Fr n0 L ∧ Keep h0 h [ad2, ad0] ∧ Exa Z h ad2 "[B" ∧ Arv Z h ad2 kc4 .byte 16 [.int 98, .int 101, .int 97, .int 110, .int 32, .int 39, .int 0, .int 0, .int 0, .int 0, .int 0, .int 0, .int 0, .int 0, .int 0, .int 0] (.int 0) ∧ Exa Z h ad0 o70 ∧ Fld Z h ad0 o10 "coder" "B" (.int 0) ∧ Fld Z h ad0 o10 "count" "I" (.int 6) ∧ Fld Z h ad0 o10 "value" "[B" (.ref ad2)) := by
  refine o18 (plainFor_of_name o173) ?_
  intro p e s m below meth c s₁ hx hby hml hown hnm hret hlk hZ e0 X0
  have N0 := Fr.nil n0
  refine o4 (fun u j => castTop (show entryFrame m #[.ref ad0, .ref ad1] 2 = mkF m 0 #[o1 ad0, o1 ad1] [] from rfl) j) ?_
  refine o4 (fun u j => o3 X0.here hx rfl (hb hby o166) rfl rfl (o3 X0.here hx rfl (hb hby o167) rfl rfl j)) ?_
  refine o17 (o186 X0 hx hZ (y := o98) hown (o2 hw 102 rfl) (o321 (y := o98) (o2 hw 122 rfl) rfl (o2 hw 103 rfl) o24) (o2 hw 103 rfl) (o2 hw 104 rfl) (by decide) (o2 hw 89 rfl) (o2 hw 106 rfl) (o957 hw hS ad0 ad1 ad2 ad3 kc4 kc5 h0 n0 O0 pe1 pf2 pf3 pf4 pe5 pf6 pf7 pe8 pa9 pa10 pg_ad2 pg_ad0) e0 (Ins.self pe1) o213 (argsL := [.ref ad1]) (rest := []) rfl rfl (g := (mkF m 2 #[o1 ad0, o1 ad1] [.ref ad1, .ref ad0])) rfl (by rw [hml]; rfl) rfl (hb hby o168) (W := 0) rfl) ?_
  intro T1605 v1605 L1605 X1605 hQ1605
  obtain ⟨rfl, M1605, K1605, F1606, F1607, F1608, F1609, F1610, F1611⟩ := hQ1605
  have N1605 := Fr.app N0 M1605
  refine o4 (fun u j => XS.pop X1605.here hx rfl (hb hby o169) rfl rfl (o3 X1605.here hx rfl (hb hby o170) rfl rfl j)) ?_
  have K1612 := (Keep.refl h0 [ad2, ad0]).trans K1605 (allS (Or.inl (List.mem_of_getElem? (i := 0) rfl)) (allS (Or.inl (List.mem_of_getElem? (i := 1) rfl)) all0))
  exact o69 X1605 hx hlk hret rfl (Or.inr (Or.inr (Or.inr (Or.inr ⟨rfl, rfl, rfl⟩)))) (hb hby o171) (by decide) (by decide) (by exact ⟨rfl, N1605, K1612, F1606, F1607, F1608, F1609, F1610, F1611⟩)
theorem o553 : decode prog_89_method_5_code 80 = .ok (.aload_n 0, 1) := by decide +kernel
theorem o554 : decode prog_89_method_5_code 81 = .ok (.getfield 7, 3) := by decide +kernel
theorem o555 : decode prog_89_method_5_code 84 = .ok (.invokevirtual 25, 3) := by decide +kernel
theorem o958 (hw : o35 a0 Z) (hS : o64 Z wcs) (ad0 ad1 ad2 : Addr) (kc3 : ClassId) (kc4 : ClassId) (iv5 : Int32) (h0 : Heap) (n0 : Nat) (O0 : Old Z n0 h0) (pe1 : Exa Z h0 ad0 o7) (pf2 : Fld Z h0 ad0 o7 "coder" "B" (.int 0)) (pf3 : Fld Z h0 ad0 o7 "value" "[B" (.ref ad2)) (pe4 : Exa Z h0 ad1 "[B") (pa5 : Arv Z h0 ad1 kc3 .byte 16 [.int 98, .int 101, .int 97, .int 110, .int 32, .int 39, .int 0, .int 0, .int 0, .int 0, .int 0, .int 0, .int 0, .int 0, .int 0, .int 0] (.int 0)) (pa7 : Arv Z h0 ad2 kc4 .byte 1 [.int iv5] (.int 0)) (pg_ad1 : n0 ≤ ad1) :
    o21 l o97 jdk_42_method_147_code 4 none ws ⟨1, 0, 0, 27⟩ Z h0 #[.ref ad0, .ref ad1, .int 6, .int 0] (fun v h L => v = none ∧ Fr n0 L ∧ Keep h0 h [ad1] ∧ Exa Z h ad1 "[B" ∧ Arv Z h ad1 kc3 .byte 16 [.int 98, .int 101, .int 97, .int 110, .int 32, .int 39, .int iv5, .int 0, .int 0, .int 0, .int 0, .int 0, .int 0, .int 0, .int 0, .int 0] (.int 0)) := by
  refine o18 (plainFor_of_name o83) ?_
  intro p e s m below meth c s₁ hx hby hml hown hnm hret hlk hZ e0 X0
  have N0 := Fr.nil n0
  refine o4 (fun u j => castTop (show entryFrame m #[.ref ad0, .ref ad1, .int 6, .int 0] 4 = mkF m 0 #[o1 ad0, o1 ad1, o0 6, o0 0] [] from rfl) j) ?_
  refine o4 (fun u j => o3 X0.here hx rfl (hb hby o139) rfl rfl j) ?_
  refine o17 (o63 X0 hx hZ (y := o89) (z := o89) hown (o2 hw 112 rfl) (o2 hw 113 rfl) (notFace_of_selects (args := #[]) (mvT hZ (o2 hw 115 rfl))) (o2 hw 115 rfl) (o2 hw 114 rfl) (o2 hw 2 rfl) (o2 hw 116 rfl) o67 (o396 hw hS ad0 h0 n0 O0 pf2) e0 pe1 o174 (argsL := []) (rest := []) rfl rfl (g := (mkF m 1 #[o1 ad0, o1 ad1, o0 6, o0 0] [.ref ad0])) rfl (by rw [hml]; rfl) rfl (hb hby o140) (W := 0) rfl) ?_
  intro T1646 v1646 L1646 X1646 hQ1646
  obtain ⟨rfl, M1646, e1646⟩ := hQ1646
  have N1646 := Fr.app N0 M1646
  refine o4 (fun u j => o6 X1646.here hx rfl (hb hby o141) rfl (o14 X1646.here hx rfl (hb hby o142) rfl (o93 (by decide)) (o3 X1646.here hx rfl (hb hby o143) rfl rfl j))) ?_
  refine o22 (getF X1646 hx hZ hown (host := "") (Or.inl (o2 hw 22 rfl)) Via.refl e1646 pf3 rfl rfl (hb hby o144)) ?_
  intro T1647 X1647 e1647
  refine o4 (fun u j => o16 X1647.here hx rfl (hb hby o109) (o3 X1647.here hx rfl (hb hby o110) rfl rfl (o6 X1647.here hx rfl (hb hby o111) rfl (o6 X1647.here hx rfl (hb hby o112) rfl (XS.ishl X1647.here hx rfl (hb hby o113) rfl (o3 X1647.here hx rfl (hb hby o114) rfl rfl j)))))) ?_
  show o11 p e below _ (T1647.setTop (mkF m 18 #[o1 ad0, o1 ad1, o0 6, o0 0] [.ref ad0, .int 6, .ref ad1, .int 0, .ref ad2]))
  refine o22 (getF X1647 hx hZ hown (host := "") (Or.inl (o2 hw 22 rfl)) Via.refl e1647 pf3 rfl rfl (hb hby o115)) ?_
  intro T1648 X1648 e1648
  refine o4 (fun u j => o75 X1648 hx hZ e1648 pa7 rfl rfl (hb hby o116) j) ?_
  have q_ := cpA X1648 hx hZ hown (o2 hw 140 rfl) (o2 hw 143 rfl) (o2 hw 141 rfl) (o2 hw 142 rfl) e1648 pa7 pa5 (us := [.int iv5]) (Or.inl ⟨rfl, rfl⟩) (by decide) (by decide) (by decide) (by decide) (by decide) rfl (Nat.le_of_ble_eq_true rfl) N1646 pg_ad1 (g := (mkF m 22 #[o1 ad0, o1 ad1, o0 6, o0 0] [.int 1, .int 6, .ref ad1, .int 0, .ref ad2])) rfl (by rw [hml]; rfl) rfl (hb hby o117) (by decide) (W := 0) (by show 2 * 0 + _ ≤ _; exact Nat.le_of_eq rfl) (by decide)
  obtain ⟨T1650, h1650, L1650, X1650, e1650, N1650, K1650, V1650, st1650⟩ := q_
  have V1651 : Arv Z h1650 ad1 kc3 .byte 16 [.int 98, .int 101, .int 97, .int 110, .int 32, .int 39, .int iv5, .int 0, .int 0, .int 0, .int 0, .int 0, .int 0, .int 0, .int 0, .int 0] (.int 0) := V1650
  refine o4 (fun u j => st1650 u j) ?_
  refine o4 (fun u j => o15 X1650.here hx rfl (pc0 := 25) (pc' := 43) rfl (hb hby o118) (by decide) (by decide) j) ?_
  have K1652 := (Keep.refl h0 [ad1]).trans K1650 (allS (Or.inl (List.mem_of_getElem? (i := 0) rfl)) all0)
  have F1653 := (pe4.keep K1650)
  exact o81 X1650 hx hlk hret (hb hby o119) (by decide) (by decide) (by rw [e1650]; exact ⟨rfl, N1650, K1652, F1653, V1651⟩)
theorem o959 (hw : o35 a0 Z) (hS : o64 Z wcs) (ad0 ad1 : Addr) (ad2 ad3 : Addr) (kc4 : ClassId) (kc5 : ClassId) (iv6 : Int32) (h0 : Heap) (n0 : Nat) (O0 : Old Z n0 h0) (pe1 : Exa Z h0 ad0 o70) (pf2 : Fld Z h0 ad0 o10 "coder" "B" (.int 0)) (pf4 : Fld Z h0 ad0 o10 "value" "[B" (.ref ad2)) (pe5 : Exa Z h0 ad1 o7) (pf6 : Fld Z h0 ad1 o7 "coder" "B" (.int 0)) (pf7 : Fld Z h0 ad1 o7 "value" "[B" (.ref ad3)) (pe8 : Exa Z h0 ad2 "[B") (pa9 : Arv Z h0 ad2 kc4 .byte 16 [.int 98, .int 101, .int 97, .int 110, .int 32, .int 39, .int 0, .int 0, .int 0, .int 0, .int 0, .int 0, .int 0, .int 0, .int 0, .int 0] (.int 0)) (pa11 : Arv Z h0 ad3 kc5 .byte 1 [.int iv6] (.int 0)) (pg_ad2 : n0 ≤ ad2) :
    o21 l o154 jdk_68_method_73_code 3 none ws ⟨2, 0, 0, 42⟩ Z h0 #[.ref ad0, .int 6, .ref ad1] (fun v h L => v = none ∧ Fr n0 L ∧ Keep h0 h [ad2] ∧ Exa Z h ad2 "[B" ∧ Arv Z h ad2 kc4 .byte 16 [.int 98, .int 101, .int 97, .int 110, .int 32, .int 39, .int iv6, .int 0, .int 0, .int 0, .int 0, .int 0, .int 0, .int 0, .int 0, .int 0] (.int 0)) := by
  refine o18 (plainFor_of_name o100) ?_
  intro p e s m below meth c s₁ hx hby hml hown hnm hret hlk hZ e0 X0
  have N0 := Fr.nil n0
  refine o4 (fun u j => castTop (show entryFrame m #[.ref ad0, .int 6, .ref ad1] 3 = mkF m 0 #[o1 ad0, o0 6, o1 ad1] [] from rfl) j) ?_
  refine o4 (fun u j => o3 X0.here hx rfl (hb hby o158) rfl rfl (o3 X0.here hx rfl (hb hby o159) rfl rfl j)) ?_
  refine o17 (o95 X0 hx hZ (y := o261) hown (o2 hw 129 rfl) (o2 hw 130 rfl) (o96 hZ (o2 hw 132 rfl) (o2 hw 131 rfl) (o2 hw 130 rfl) o24) (o2 hw 131 rfl) (o2 hw 89 rfl) (o2 hw 133 rfl) o24 (o460 hw hS ad0 ad1 h0 n0 O0 pf2 pe5 pf6) e0 pe1 o208 (argsL := [.ref ad1]) (rest := []) rfl rfl (g := (mkF m 2 #[o1 ad0, o0 6, o1 ad1] [.ref ad1, .ref ad0])) rfl (by rw [hml]; rfl) rfl (hb hby o160) (W := 0) rfl) ?_
  intro T1657 v1657 L1657 X1657 hQ1657
  obtain ⟨rfl, M1657, e1657⟩ := hQ1657
  have N1657 := Fr.app N0 M1657
  refine o4 (fun u j => o3 X1657.here hx rfl (hb hby o161) rfl rfl (o3 X1657.here hx rfl (hb hby o162) rfl rfl j)) ?_
  refine o22 (getF X1657 hx hZ hown (host := "") (Or.inl (o2 hw 93 rfl)) Via.refl e1657 pf4 rfl rfl (hb hby o163)) ?_
  intro T1658 X1658 e1658
  refine o4 (fun u j => o6 X1658.here hx rfl (hb hby o135) rfl (o3 X1658.here hx rfl (hb hby o136) rfl rfl j)) ?_
  refine o22 (getF X1658 hx hZ hown (host := "") (Or.inl (o2 hw 95 rfl)) Via.refl e1658 pf2 rfl rfl (hb hby o137)) ?_
  intro T1659 X1659 e1659
  refine o17 (o63 X1659 hx hZ (y := o97) (z := o97) hown (o2 hw 135 rfl) (o2 hw 136 rfl) (notFace_of_selects (args := #[]) (mvT hZ (o2 hw 138 rfl))) (o2 hw 138 rfl) (o2 hw 137 rfl) (o2 hw 2 rfl) (o2 hw 139 rfl) o67 (o958 hw hS ad1 ad2 ad3 kc4 kc5 iv6 h0 n0 O0 pe5 pf6 pf7 pe8 pa9 pa11 pg_ad2) e1659 pe5 o209 (argsL := [.ref ad2, .int 6, .int 0]) (rest := []) rfl rfl (g := (mkF m 15 #[o1 ad0, o0 6, o1 ad1] [.int 0, .int 6, .ref ad2, .ref ad1])) rfl (by rw [hml]; rfl) rfl (hb hby o138) (W := 0) rfl) ?_
  intro T1660 v1660 L1660 X1660 hQ1660
  obtain ⟨rfl, M1660, K1660, F1661, F1662⟩ := hQ1660
  have N1660 := Fr.app N1657 M1660
  have K1663 := (Keep.refl h0 [ad2]).trans K1660 (allS (Or.inl (List.mem_of_getElem? (i := 0) rfl)) all0)
  exact o81 X1660 hx hlk hret (hb hby o145) (by decide) (by decide) (by exact ⟨rfl, N1660, K1663, F1661, F1662⟩)
theorem o960 (hw : o35 a0 Z) (hS : o64 Z wcs) (ad0 ad1 : Addr) (ad2 ad3 : Addr) (kc4 : ClassId) (kc5 : ClassId) (iv6 : Int32) (h0 : Heap) (n0 : Nat) (O0 : Old Z n0 h0) (pe1 : Exa Z h0 ad0 o70) (pf2 : Fld Z h0 ad0 o10 "coder" "B" (.int 0)) (pf3 : Fld Z h0 ad0 o10 "count" "I" (.int 6)) (pf4 : Fld Z h0 ad0 o10 "value" "[B" (.ref ad2)) (pe5 : Exa Z h0 ad1 o7) (pf6 : Fld Z h0 ad1 o7 "coder" "B" (.int 0)) (pf7 : Fld Z h0 ad1 o7 "value" "[B" (.ref ad3)) (pe8 : Exa Z h0 ad2 "[B") (pa9 : Arv Z h0 ad2 kc4 .byte 16 [.int 98, .int 101, .int 97, .int 110, .int 32, .int 39, .int 0, .int 0, .int 0, .int 0, .int 0, .int 0, .int 0, .int 0, .int 0, .int 0] (.int 0)) (pa11 : Arv Z h0 ad3 kc5 .byte 1 [.int iv6] (.int 0)) (pg_ad2 : n0 ≤ ad2) (pg_ad0 : n0 ≤ ad0) :
    o21 l o98 jdk_68_method_22_code 3 (some (.object "java/lang/AbstractStringBuilder")) ws ⟨3, 0, 0, 56⟩ Z h0 #[.ref ad0, .ref ad1] (fun v h L => v = some (.ref ad0) ∧ Fr n0 L ∧ Keep h0 h [ad2, ad0] ∧ Exa Z h ad2 "[B" ∧ Arv Z h ad2 kc4 .byte 16 [.int 98, .int 101, .int 97, .int 110, .int 32, .int 39, .int iv6, .int 0, .int 0, .int 0, .int 0, .int 0, .int 0, .int 0, .int 0, .int 0] (.int 0) ∧ Exa Z h ad0 o70 ∧ Fld Z h ad0 o10 "coder" "B" (.int 0) ∧ Fld Z h ad0 o10 "count" "I" (.int 7) ∧ Fld Z h ad0 o10 "value" "[B" (.ref ad2)) := by
  refine o18 (plainFor_of_name o100) ?_
  intro p e s m below meth c s₁ hx hby hml hown hnm hret hlk hZ e0 X0
  have N0 := Fr.nil n0
  refine o4 (fun u j => castTop (show entryFrame m #[.ref ad0, .ref ad1] 3 = mkF m 0 #[o1 ad0, o1 ad1, o5] [] from rfl) j) ?_
  refine o4 (fun u j => o3 X0.here hx rfl (hb hby o155) rfl rfl (o86 X0.here hx rfl (pc0 := 1) (pc' := 9) rfl (hb hby o156) rfl (by decide) (by decide) (o3 X0.here hx rfl (hb hby o157) rfl rfl j))) ?_
  refine o17 (o63 X0 hx hZ (y := o106) (z := o106) hown (o2 hw 107 rfl) (o2 hw 108 rfl) (notFace_of_selects (args := #[]) (mvT hZ (o2 hw 110 rfl))) (o2 hw 110 rfl) (o2 hw 109 rfl) (o2 hw 2 rfl) (o2 hw 111 rfl) o67 (o691 hw hS ad1 ad3 kc5 iv6 h0 n0 O0 pe5 pf6 pf7 pa11) e0 pe5 o179 (argsL := []) (rest := []) rfl rfl (g := (mkF m 10 #[o1 ad0, o1 ad1, o5] [.ref ad1])) rfl (by rw [hml]; rfl) rfl (hb hby o122) (W := 0) rfl) ?_
  intro T1673 v1673 L1673 X1673 hQ1673
  obtain ⟨rfl, M1673, e1673⟩ := hQ1673
  have N1673 := Fr.app N0 M1673
  refine o4 (fun u j => o94 X1673.here hx rfl (hb hby o123) rfl (l' := #[o1 ad0, o1 ad1, o0 1]) rfl (o3 X1673.here hx rfl (hb hby o124) rfl rfl (o3 X1673.here hx rfl (hb hby o125) rfl rfl j))) ?_
  refine o22 (getF X1673 hx hZ hown (host := "") (Or.inl (o2 hw 117 rfl)) Via.refl e1673 pf3 rfl rfl (hb hby o126)) ?_
  intro T1674 X1674 e1674
  refine o4 (fun u j => o6 X1674.here hx rfl (hb hby o127) rfl (o107 X1674.here hx rfl (hb hby o128) rfl j)) ?_
  refine o17 (o95 X1674 hx hZ (y := o260) hown (o2 hw 119 rfl) (o2 hw 120 rfl) (o96 hZ (o2 hw 122 rfl) (o2 hw 121 rfl) (o2 hw 120 rfl) o24) (o2 hw 121 rfl) (o2 hw 89 rfl) (o2 hw 123 rfl) o24 (o459 hw hS ad0 (7 : Int32) ad2 kc4 (16 : Int32) [.int 98, .int 101, .int 97, .int 110, .int 32, .int 39, .int 0, .int 0, .int 0, .int 0, .int 0, .int 0, .int 0, .int 0, .int 0, .int 0] h0 n0 O0 pf2 pf4 pa9 (by decide)) e1674 pe1 o187 (argsL := [.int 7]) (rest := []) rfl rfl (g := (mkF m 21 #[o1 ad0, o1 ad1, o0 1] [.int 7, .ref ad0])) rfl (by rw [hml]; rfl) rfl (hb hby o129) (W := 0) rfl) ?_
  intro T1675 v1675 L1675 X1675 hQ1675
  obtain ⟨rfl, M1675, e1675⟩ := hQ1675
  have N1675 := Fr.app N1673 M1675
  refine o4 (fun u j => o3 X1675.here hx rfl (hb hby o130) rfl rfl (o3 X1675.here hx rfl (hb hby o131) rfl rfl j)) ?_
  refine o22 (getF X1675 hx hZ hown (host := "") (Or.inl (o2 hw 117 rfl)) Via.refl e1675 pf3 rfl rfl (hb hby o132)) ?_
  intro T1676 X1676 e1676
  refine o4 (fun u j => o3 X1676.here hx rfl (hb hby o133) rfl rfl j) ?_
  refine o17 (o95 X1676 hx hZ (y := o154) hown (o2 hw 124 rfl) (o2 hw 125 rfl) (o96 hZ (o2 hw 127 rfl) (o2 hw 126 rfl) (o2 hw 125 rfl) o24) (o2 hw 126 rfl) (o2 hw 89 rfl) (o2 hw 128 rfl) o24 (o959 hw hS ad0 ad1 ad2 ad3 kc4 kc5 iv6 h0 n0 O0 pe1 pf2 pf4 pe5 pf6 pf7 pe8 pa9 pa11 pg_ad2) e1676 pe1 o210 (argsL := [.int 6, .ref ad1]) (rest := []) rfl rfl (g := (mkF m 30 #[o1 ad0, o1 ad1, o0 1] [.ref ad1, .int 6, .ref ad0])) rfl (by rw [hml]; rfl) rfl (hb hby o134) (W := 0) rfl) ?_
  intro T1677 v1677 L1677 X1677 hQ1677
  obtain ⟨rfl, M1677, K1677, F1678, F1679⟩ := hQ1677
  have N1677 := Fr.app N1675 M1677
  refine o4 (fun u j => o3 X1677.here hx rfl (hb hby o146) rfl rfl (o61 X1677.here hx rfl (hb hby o147) rfl rfl j)) ?_
  have ne1680 := (ne_exa pe1 pe8 o85)
  have F1681 := (pf3.keep K1677 (ninS ne1680 nin0))
  refine o22 (getF X1677 hx hZ hown (host := "") (Or.inl (o2 hw 117 rfl)) Via.refl rfl F1681 rfl rfl (hb hby o148)) ?_
  intro T1682 X1682 e1682
  refine o4 (fun u j => o6 X1682.here hx rfl (hb hby o149) rfl (o107 X1682.here hx rfl (hb hby o150) rfl j)) ?_
  have F1683 := (pe1.keep K1677)
  refine o32 (putF X1682 hx hZ hown (host := "") (Or.inl (o2 hw 117 rfl)) Via.refl e1682 F1681 F1683 (Or.inl (o2 hw 118 rfl)) (o2 hw 80 rfl) (ty := .int) o120 rfl rfl rfl rfl (hb hby o151)) ?_
  intro T1684 h1684 X1684 e1684 W1684
  have N1684 := Fr.snoc X1684 N1677 pg_ad0
  have F1685 : Fld Z h1684 ad0 o10 "count" "I" (.int 7) := Fld.same W1684 F1681
  refine o4 (fun u j => o3 X1684.here hx rfl (hb hby o152) rfl rfl j) ?_
  have K1686 := (Keep.refl h0 [ad2, ad0]).trans K1677 (allS (Or.inl (List.mem_of_getElem? (i := 0) rfl)) all0)
  have K1687 := K1686.wr W1684 (Or.inl (List.mem_of_getElem? (i := 1) rfl))
  have F1688 := (Exa.wr W1684 F1678)
  have F1689 := (F1679.other W1684 (Ne.symm ne1680))
  have F1690 := (Exa.wr W1684 F1683)
  have F1691 := (Fld.other W1684 (pf2.keep K1677 (ninS ne1680 nin0)) (Or.inr (o211 hw)))
  have F1692 := (Fld.other W1684 (pf4.keep K1677 (ninS ne1680 nin0)) (Or.inr (o212 hw)))
  exact o69 X1684 hx hlk hret rfl (Or.inr (Or.inr (Or.inr (Or.inr ⟨rfl, rfl, rfl⟩)))) (hb hby o153) (by decide) (by decide) (by rw [e1684]; exact ⟨rfl, N1684, K1687, F1688, F1689, F1690, F1691, F1685, F1692⟩)
theorem o854 (hw : o35 a0 Z) (hS : o64 Z wcs) (ad0 ad1 : Addr) (ad2 ad3 : Addr) (kc4 : ClassId) (kc5 : ClassId) (iv6 : Int32) (h0 : Heap) (n0 : Nat) (O0 : Old Z n0 h0) (pe1 : Exa Z h0 ad0 o70) (pf2 : Fld Z h0 ad0 o10 "coder" "B" (.int 0)) (pf3 : Fld Z h0 ad0 o10 "count" "I" (.int 6)) (pf4 : Fld Z h0 ad0 o10 "value" "[B" (.ref ad2)) (pe5 : Exa Z h0 ad1 o7) (pf6 : Fld Z h0 ad1 o7 "coder" "B" (.int 0)) (pf7 : Fld Z h0 ad1 o7 "value" "[B" (.ref ad3)) (pe8 : Exa Z h0 ad2 "[B") (pa9 : Arv Z h0 ad2 kc4 .byte 16 [.int 98, .int 101, .int 97, .int 110, .int 32, .int 39, .int 0, .int 0, .int 0, .int 0, .int 0, .int 0, .int 0, .int 0, .int 0, .int 0] (.int 0)) (pa11 : Arv Z h0 ad3 kc5 .byte 1 [.int iv6] (.int 0)) (pg_ad2 : n0 ≤ ad2) (pg_ad0 : n0 ≤ ad0) :
    o21 l o80 jdk_67_method_7_code 2 (some (.object "java/lang/StringBuilder")) ws ⟨4, 0, 0, 70⟩ Z h0 #[.ref ad0, .ref ad1] (fun v h L => v = some (.ref ad0) ∧ Fr n0 L ∧ Keep h0 h [ad2, ad0] ∧ Exa Z h ad2 "[B" ∧ Arv Z h ad2 kc4 .byte 16 [.int 98, .int 101, .int 97, .int 110, .int 32, .int 39, .int iv6, .int 0, .int 0, .int 0, .int 0, .int 0, .int 0, .int 0, .int 0, .int 0] (.int 0) ∧ Exa Z h ad0 o70 ∧ Fld Z h ad0 o10 "coder" "B" (.int 0) ∧ Fld Z h ad0 o10 "count" "I" (.int 7) ∧ Fld Z h ad0 o10 "value" "[B" (.ref ad2)) := by
  refine o18 (plainFor_of_name o173) ?_
  intro p e s m below meth c s₁ hx hby hml hown hnm hret hlk hZ e0 X0
  have N0 := Fr.nil n0
  refine o4 (fun u j => castTop (show entryFrame m #[.ref ad0, .ref ad1] 2 = mkF m 0 #[o1 ad0, o1 ad1] [] from rfl) j) ?_
  refine o4 (fun u j => o3 X0.here hx rfl (hb hby o166) rfl rfl (o3 X0.here hx rfl (hb hby o167) rfl rfl j)) ?_
  refine o17 (o186 X0 hx hZ (y := o98) hown (o2 hw 102 rfl) (o321 (y := o98) (o2 hw 122 rfl) rfl (o2 hw 103 rfl) o24) (o2 hw 103 rfl) (o2 hw 104 rfl) (by decide) (o2 hw 89 rfl) (o2 hw 106 rfl) (o960 hw hS ad0 ad1 ad2 ad3 kc4 kc5 iv6 h0 n0 O0 pe1 pf2 pf3 pf4 pe5 pf6 pf7 pe8 pa9 pa11 pg_ad2 pg_ad0) e0 (Ins.self pe1) o213 (argsL := [.ref ad1]) (rest := []) rfl rfl (g := (mkF m 2 #[o1 ad0, o1 ad1] [.ref ad1, .ref ad0])) rfl (by rw [hml]; rfl) rfl (hb hby o168) (W := 0) rfl) ?_
  intro T1700 v1700 L1700 X1700 hQ1700
  obtain ⟨rfl, M1700, K1700, F1701, F1702, F1703, F1704, F1705, F1706⟩ := hQ1700
  have N1700 := Fr.app N0 M1700
  refine o4 (fun u j => XS.pop X1700.here hx rfl (hb hby o169) rfl rfl (o3 X1700.here hx rfl (hb hby o170) rfl rfl j)) ?_
  have K1707 := (Keep.refl h0 [ad2, ad0]).trans K1700 (allS (Or.inl (List.mem_of_getElem? (i := 0) rfl)) (allS (Or.inl (List.mem_of_getElem? (i := 1) rfl)) all0))
  exact o69 X1700 hx hlk hret rfl (Or.inr (Or.inr (Or.inr (Or.inr ⟨rfl, rfl, rfl⟩)))) (hb hby o171) (by decide) (by decide) (by exact ⟨rfl, N1700, K1707, F1701, F1702, F1703, F1704, F1705, F1706⟩)
theorem o556 : decode prog_89_method_5_code 87 = .ok (.ldc 31, 2) := by decide +kernel
theorem o557 : decode prog_89_method_5_code 89 = .ok (.invokevirtual 25, 3) := by decide +kernel
theorem o961 (hw : o35 a0 Z) (hS : o64 Z wcs) (ad0 ad1 ad2 : Addr) (kc3 : ClassId) (iv4 : Int32) (kc5 : ClassId) (h0 : Heap) (n0 : Nat) (O0 : Old Z n0 h0) (pe1 : Exa Z h0 ad0 o7) (pf2 : Fld Z h0 ad0 o7 "coder" "B" (.int 0)) (pf3 : Fld Z h0 ad0 o7 "value" "[B" (.ref ad2)) (pe4 : Exa Z h0 ad1 "[B") (pa5 : Arv Z h0 ad1 kc3 .byte 16 [.int 98, .int 101, .int 97, .int 110, .int 32, .int 39, .int iv4, .int 0, .int 0, .int 0, .int 0, .int 0, .int 0, .int 0, .int 0, .int 0] (.int 0)) (pa6 : Arv Z h0 ad2 kc5 .byte 1 [.int 39] (.int 0)) (pg_ad1 : n0 ≤ ad1) :
    o21 l o97 jdk_42_method_147_code 4 none ws ⟨1, 0, 0, 27⟩ Z h0 #[.ref ad0, .ref ad1, .int 7, .int 0] (fun v h L => v = none ∧ Fr n0 L ∧ Keep h0 h [ad1] ∧ Exa Z h ad1 "[B" ∧ Arv Z h ad1 kc3 .byte 16 [.int 98, .int 101, .int 97, .int 110, .int 32, .int 39, .int iv4, .int 39, .int 0, .int 0, .int 0, .int 0, .int 0, .int 0, .int 0, .int 0] (.int 0)) := by
  refine o18 (plainFor_of_name o83) ?_
  intro p e s m below meth c s₁ hx hby hml hown hnm hret hlk hZ e0 X0
  have N0 := Fr.nil n0
  refine o4 (fun u j => castTop (show entryFrame m #[.ref ad0, .ref ad1, .int 7, .int 0] 4 = mkF m 0 #[o1 ad0, o1 ad1, o0 7, o0 0] [] from rfl) j) ?_
  refine o4 (fun u j => o3 X0.here hx rfl (hb hby o139) rfl rfl j) ?_
  refine o17 (o63 X0 hx hZ (y := o89) (z := o89) hown (o2 hw 112 rfl) (o2 hw 113 rfl) (notFace_of_selects (args := #[]) (mvT hZ (o2 hw 115 rfl))) (o2 hw 115 rfl) (o2 hw 114 rfl) (o2 hw 2 rfl) (o2 hw 116 rfl) o67 (o396 hw hS ad0 h0 n0 O0 pf2) e0 pe1 o174 (argsL := []) (rest := []) rfl rfl (g := (mkF m 1 #[o1 ad0, o1 ad1, o0 7, o0 0] [.ref ad0])) rfl (by rw [hml]; rfl) rfl (hb hby o140) (W := 0) rfl) ?_
  intro T1747 v1747 L1747 X1747 hQ1747
  obtain ⟨rfl, M1747, e1747⟩ := hQ1747
  have N1747 := Fr.app N0 M1747
  refine o4 (fun u j => o6 X1747.here hx rfl (hb hby o141) rfl (o14 X1747.here hx rfl (hb hby o142) rfl (o93 (by decide)) (o3 X1747.here hx rfl (hb hby o143) rfl rfl j))) ?_
  refine o22 (getF X1747 hx hZ hown (host := "") (Or.inl (o2 hw 22 rfl)) Via.refl e1747 pf3 rfl rfl (hb hby o144)) ?_
  intro T1748 X1748 e1748
  refine o4 (fun u j => o16 X1748.here hx rfl (hb hby o109) (o3 X1748.here hx rfl (hb hby o110) rfl rfl (o6 X1748.here hx rfl (hb hby o111) rfl (o6 X1748.here hx rfl (hb hby o112) rfl (XS.ishl X1748.here hx rfl (hb hby o113) rfl (o3 X1748.here hx rfl (hb hby o114) rfl rfl j)))))) ?_
  show o11 p e below _ (T1748.setTop (mkF m 18 #[o1 ad0, o1 ad1, o0 7, o0 0] [.ref ad0, .int 7, .ref ad1, .int 0, .ref ad2]))
  refine o22 (getF X1748 hx hZ hown (host := "") (Or.inl (o2 hw 22 rfl)) Via.refl e1748 pf3 rfl rfl (hb hby o115)) ?_
  intro T1749 X1749 e1749
  refine o4 (fun u j => o75 X1749 hx hZ e1749 pa6 rfl rfl (hb hby o116) j) ?_
  have q_ := cpA X1749 hx hZ hown (o2 hw 140 rfl) (o2 hw 143 rfl) (o2 hw 141 rfl) (o2 hw 142 rfl) e1749 pa6 pa5 (us := [.int 39]) (Or.inl ⟨rfl, rfl⟩) (by decide) (by decide) (by decide) (by decide) (by decide) rfl (Nat.le_of_ble_eq_true rfl) N1747 pg_ad1 (g := (mkF m 22 #[o1 ad0, o1 ad1, o0 7, o0 0] [.int 1, .int 7, .ref ad1, .int 0, .ref ad2])) rfl (by rw [hml]; rfl) rfl (hb hby o117) (by decide) (W := 0) (by show 2 * 0 + _ ≤ _; exact Nat.le_of_eq rfl) (by decide)
  obtain ⟨T1751, h1751, L1751, X1751, e1751, N1751, K1751, V1751, st1751⟩ := q_
  have V1752 : Arv Z h1751 ad1 kc3 .byte 16 [.int 98, .int 101, .int 97, .int 110, .int 32, .int 39, .int iv4, .int 39, .int 0, .int 0, .int 0, .int 0, .int 0, .int 0, .int 0, .int 0] (.int 0) := V1751
  refine o4 (fun u j => st1751 u j) ?_
  refine o4 (fun u j => o15 X1751.here hx rfl (pc0 := 25) (pc' := 43) rfl (hb hby o118) (by decide) (by decide) j) ?_
  have K1753 := (Keep.refl h0 [ad1]).trans K1751 (allS (Or.inl (List.mem_of_getElem? (i := 0) rfl)) all0)
  have F1754 := (pe4.keep K1751)
  exact o81 X1751 hx hlk hret (hb hby o119) (by decide) (by decide) (by rw [e1751]; exact ⟨rfl, N1751, K1753, F1754, V1752⟩)
theorem o962 (hw : o35 a0 Z) (hS : o64 Z wcs) (ad0 ad1 : Addr) (ad2 ad3 : Addr) (kc4 : ClassId) (iv5 : Int32) (kc6 : ClassId) (h0 : Heap) (n0 : Nat) (O0 : Old Z n0 h0) (pe1 : Exa Z h0 ad0 o70) (pf2 : Fld Z h0 ad0 o10 "coder" "B" (.int 0)) (pf4 : Fld Z h0 ad0 o10 "value" "[B" (.ref ad2)) (pe5 : Exa Z h0 ad1 o7) (pf6 : Fld Z h0 ad1 o7 "coder" "B" (.int 0)) (pf7 : Fld Z h0 ad1 o7 "value" "[B" (.ref ad3)) (pe8 : Exa Z h0 ad2 "[B") (pa9 : Arv Z h0 ad2 kc4 .byte 16 [.int 98, .int 101, .int 97, .int 110, .int 32, .int 39, .int iv5, .int 0, .int 0, .int 0, .int 0, .int 0, .int 0, .int 0, .int 0, .int 0] (.int 0)) (pa10 : Arv Z h0 ad3 kc6 .byte 1 [.int 39] (.int 0)) (pg_ad2 : n0 ≤ ad2) :
    o21 l o154 jdk_68_method_73_code 3 none ws ⟨2, 0, 0, 42⟩ Z h0 #[.ref ad0, .int 7, .ref ad1] (fun v h L => v = none ∧ Fr n0 L ∧ Keep h0 h [ad2] ∧ Exa Z h ad2 "[B" ∧ Arv Z h ad2 kc4 .byte 16 [.int 98, .int 101, .int 97, .int 110, .int 32, .int 39, .int iv5, .int 39, .int 0, .int 0, .int 0, .int 0, .int 0, .int 0, .int 0, .int 0] (.int 0)) := by
  refine o18 (plainFor_of_name o100) ?_
  intro p e s m below meth c s₁ hx hby hml hown hnm hret hlk hZ e0 X0
  have N0 := Fr.nil n0
  refine o4 (fun u j => castTop (show entryFrame m #[.ref ad0, .int 7, .ref ad1] 3 = mkF m 0 #[o1 ad0, o0 7, o1 ad1] [] from rfl) j) ?_
  refine o4 (fun u j => o3 X0.here hx rfl (hb hby o158) rfl rfl (o3 X0.here hx rfl (hb hby o159) rfl rfl j)) ?_
  refine o17 (o95 X0 hx hZ (y := o261) hown (o2 hw 129 rfl) (o2 hw 130 rfl) (o96 hZ (o2 hw 132 rfl) (o2 hw 131 rfl) (o2 hw 130 rfl) o24) (o2 hw 131 rfl) (o2 hw 89 rfl) (o2 hw 133 rfl) o24 (o460 hw hS ad0 ad1 h0 n0 O0 pf2 pe5 pf6) e0 pe1 o208 (argsL := [.ref ad1]) (rest := []) rfl rfl (g := (mkF m 2 #[o1 ad0, o0 7, o1 ad1] [.ref ad1, .ref ad0])) rfl (by rw [hml]; rfl) rfl (hb hby o160) (W := 0) rfl) ?_
  intro T1758 v1758 L1758 X1758 hQ1758
  obtain ⟨rfl, M1758, e1758⟩ := hQ1758
  have N1758 := Fr.app N0 M1758
  refine o4 (fun u j => o3 X1758.here hx rfl (hb hby o161) rfl rfl (o3 X1758.here hx rfl (hb hby o162) rfl rfl j)) ?_
  refine o22 (getF X1758 hx hZ hown (host := "") (Or.inl (o2 hw 93 rfl)) Via.refl e1758 pf4 rfl rfl (hb hby o163)) ?_
  intro T1759 X1759 e1759
  refine o4 (fun u j => o6 X1759.here hx rfl (hb hby o135) rfl (o3 X1759.here hx rfl (hb hby o136) rfl rfl j)) ?_
  refine o22 (getF X1759 hx hZ hown (host := "") (Or.inl (o2 hw 95 rfl)) Via.refl e1759 pf2 rfl rfl (hb hby o137)) ?_
  intro T1760 X1760 e1760
  refine o17 (o63 X1760 hx hZ (y := o97) (z := o97) hown (o2 hw 135 rfl) (o2 hw 136 rfl) (notFace_of_selects (args := #[]) (mvT hZ (o2 hw 138 rfl))) (o2 hw 138 rfl) (o2 hw 137 rfl) (o2 hw 2 rfl) (o2 hw 139 rfl) o67 (o961 hw hS ad1 ad2 ad3 kc4 iv5 kc6 h0 n0 O0 pe5 pf6 pf7 pe8 pa9 pa10 pg_ad2) e1760 pe5 o209 (argsL := [.ref ad2, .int 7, .int 0]) (rest := []) rfl rfl (g := (mkF m 15 #[o1 ad0, o0 7, o1 ad1] [.int 0, .int 7, .ref ad2, .ref ad1])) rfl (by rw [hml]; rfl) rfl (hb hby o138) (W := 0) rfl) ?_
  intro T1761 v1761 L1761 X1761 hQ1761
  obtain ⟨rfl, M1761, K1761, F1762, F1763⟩ := hQ1761
  have N1761 := Fr.app N1758 M1761
  have K1764 := (Keep.refl h0 [ad2]).trans K1761 (allS (Or.inl (List.mem_of_getElem? (i := 0) rfl)) all0)
  exact o81 X1761 hx hlk hret (hb hby o145) (by decide) (by decide) (by exact ⟨rfl, N1761, K1764, F1762, F1763⟩)
theorem o963 (hw : o35 a0 Z) (hS : o64 Z wcs) (ad0 ad1 : Addr) (ad2 ad3 : Addr) (kc4 : ClassId) (iv5 : Int32) (kc6 : ClassId) (h0 : Heap) (n0 : Nat) (O0 : Old Z n0 h0) (pe1 : Exa Z h0 ad0 o70) (pf2 : Fld Z h0 ad0 o10 "coder" "B" (.int 0)) (pf3 : Fld Z h0 ad0 o10 "count" "I" (.int 7)) (pf4 : Fld Z h0 ad0 o10 "value" "[B" (.ref ad2)) (pe5 : Exa Z h0 ad1 o7) (pf6 : Fld Z h0 ad1 o7 "coder" "B" (.int 0)) (pf7 : Fld Z h0 ad1 o7 "value" "[B" (.ref ad3)) (pe8 : Exa Z h0 ad2 "[B") (pa9 : Arv Z h0 ad2 kc4 .byte 16 [.int 98, .int 101, .int 97, .int 110, .int 32, .int 39, .int iv5, .int 0, .int 0, .int 0, .int 0, .int 0, .int 0, .int 0, .int 0, .int 0] (.int 0)) (pa10 : Arv Z h0 ad3 kc6 .byte 1 [.int 39] (.int 0)) (pg_ad2 : n0 ≤ ad2) (pg_ad0 : n0 ≤ ad0) :
    o21 l o98 jdk_68_method_22_code 3 (some (.object "java/lang/AbstractStringBuilder")) ws ⟨3, 0, 0, 56⟩ Z h0 #[.ref ad0, .ref ad1] (fun v h L => v = some (.ref ad0) ∧ Fr n0 L ∧ Keep h0 h [ad2, ad0] ∧ Exa Z h ad2 "[B" ∧ Arv Z h ad2 kc4 .byte 16 [.int 98, .int 101, .int 97, .int 110, .int 32, .int 39, .int iv5, .int 39, .int 0, .int 0, .int 0, .int 0, .int 0, .int 0, .int 0, .int 0] (.int 0) ∧ Exa Z h ad0 o70 ∧ Fld Z h ad0 o10 "coder" "B" (.int 0) ∧ Fld Z h ad0 o10 "count" "I" (.int 8) ∧ Fld Z h ad0 o10 "value" "[B" (.ref ad2)) := by
  refine o18 (plainFor_of_name o100) ?_
  intro p e s m below meth c s₁ hx hby hml hown hnm hret hlk hZ e0 X0
  have N0 := Fr.nil n0
  refine o4 (fun u j => castTop (show entryFrame m #[.ref ad0, .ref ad1] 3 = mkF m 0 #[o1 ad0, o1 ad1, o5] [] from rfl) j) ?_
  refine o4 (fun u j => o3 X0.here hx rfl (hb hby o155) rfl rfl (o86 X0.here hx rfl (pc0 := 1) (pc' := 9) rfl (hb hby o156) rfl (by decide) (by decide) (o3 X0.here hx rfl (hb hby o157) rfl rfl j))) ?_
  refine o17 (o63 X0 hx hZ (y := o106) (z := o106) hown (o2 hw 107 rfl) (o2 hw 108 rfl) (notFace_of_selects (args := #[]) (mvT hZ (o2 hw 110 rfl))) (o2 hw 110 rfl) (o2 hw 109 rfl) (o2 hw 2 rfl) (o2 hw 111 rfl) o67 (o691 hw hS ad1 ad3 kc6 (39 : Int32) h0 n0 O0 pe5 pf6 pf7 pa10) e0 pe5 o179 (argsL := []) (rest := []) rfl rfl (g := (mkF m 10 #[o1 ad0, o1 ad1, o5] [.ref ad1])) rfl (by rw [hml]; rfl) rfl (hb hby o122) (W := 0) rfl) ?_
  intro T1774 v1774 L1774 X1774 hQ1774
  obtain ⟨rfl, M1774, e1774⟩ := hQ1774
  have N1774 := Fr.app N0 M1774
  refine o4 (fun u j => o94 X1774.here hx rfl (hb hby o123) rfl (l' := #[o1 ad0, o1 ad1, o0 1]) rfl (o3 X1774.here hx rfl (hb hby o124) rfl rfl (o3 X1774.here hx rfl (hb hby o125) rfl rfl j))) ?_
  refine o22 (getF X1774 hx hZ hown (host := "") (Or.inl (o2 hw 117 rfl)) Via.refl e1774 pf3 rfl rfl (hb hby o126)) ?_
  intro T1775 X1775 e1775
  refine o4 (fun u j => o6 X1775.here hx rfl (hb hby o127) rfl (o107 X1775.here hx rfl (hb hby o128) rfl j)) ?_
  refine o17 (o95 X1775 hx hZ (y := o260) hown (o2 hw 119 rfl) (o2 hw 120 rfl) (o96 hZ (o2 hw 122 rfl) (o2 hw 121 rfl) (o2 hw 120 rfl) o24) (o2 hw 121 rfl) (o2 hw 89 rfl) (o2 hw 123 rfl) o24 (o459 hw hS ad0 (8 : Int32) ad2 kc4 (16 : Int32) [.int 98, .int 101, .int 97, .int 110, .int 32, .int 39, .int iv5, .int 0, .int 0, .int 0, .int 0, .int 0, .int 0, .int 0, .int 0, .int 0] h0 n0 O0 pf2 pf4 pa9 (by decide)) e1775 pe1 o187 (argsL := [.int 8]) (rest := []) rfl rfl (g := (mkF m 21 #[o1 ad0, o1 ad1, o0 1] [.int 8, .ref ad0])) rfl (by rw [hml]; rfl) rfl (hb hby o129) (W := 0) rfl) ?_
  intro T1776 v1776 L1776 X1776 hQ1776
  obtain ⟨rfl, M1776, e1776⟩ := hQ1776
  have N1776 := Fr.app N1774 M1776
  refine o4 (fun u j => o3 X1776.here hx rfl (hb hby o130) rfl rfl (o3 X1776.here hx rfl (hb hby o131) rfl rfl j)) ?_
  refine o22 (getF X1776 hx hZ hown (host := "") (Or.inl (o2 hw 117 rfl)) Via.refl e1776 pf3 rfl rfl (hb hby o132)) ?_
  intro T1777 X1777 e1777
  refine o4 (fun u j => o3 X1777.here hx rfl (hb hby o133) rfl rfl j) ?_
  refine o17 (o95 X1777 hx hZ (y := o154) hown (o2 hw 124 rfl) (o2 hw 125 rfl) (o96 hZ (o2 hw 127 rfl) (o2 hw 126 rfl) (o2 hw 125 rfl) o24) (o2 hw 126 rfl) (o2 hw 89 rfl) (o2 hw 128 rfl) o24 (o962 hw hS ad0 ad1 ad2 ad3 kc4 iv5 kc6 h0 n0 O0 pe1 pf2 pf4 pe5 pf6 pf7 pe8 pa9 pa10 pg_ad2) e1777 pe1 o210 (argsL := [.int 7, .ref ad1]) (rest := []) rfl rfl (g := (mkF m 30 #[o1 ad0, o1 ad1, o0 1] [.ref ad1, .int 7, .ref ad0])) rfl (by rw [hml]; rfl) rfl (hb hby o134) (W := 0) rfl) ?_
  intro T1778 v1778 L1778 X1778 hQ1778
  obtain ⟨rfl, M1778, K1778, F1779, F1780⟩ := hQ1778
  have N1778 := Fr.app N1776 M1778
  refine o4 (fun u j => o3 X1778.here hx rfl (hb hby o146) rfl rfl (o61 X1778.here hx rfl (hb hby o147) rfl rfl j)) ?_
  have ne1781 := (ne_exa pe1 pe8 o85)
  have F1782 := (pf3.keep K1778 (ninS ne1781 nin0))
  refine o22 (getF X1778 hx hZ hown (host := "") (Or.inl (o2 hw 117 rfl)) Via.refl rfl F1782 rfl rfl (hb hby o148)) ?_
  intro T1783 X1783 e1783
  refine o4 (fun u j => o6 X1783.here hx rfl (hb hby o149) rfl (o107 X1783.here hx rfl (hb hby o150) rfl j)) ?_
  have F1784 := (pe1.keep K1778)
  refine o32 (putF X1783 hx hZ hown (host := "") (Or.inl (o2 hw 117 rfl)) Via.refl e1783 F1782 F1784 (Or.inl (o2 hw 118 rfl)) (o2 hw 80 rfl) (ty := .int) o120 rfl rfl rfl rfl (hb hby o151)) ?_
  intro T1785 h1785 X1785 e1785 W1785
  have N1785 := Fr.snoc X1785 N1778 pg_ad0
  have F1786 : Fld Z h1785 ad0 o10 "count" "I" (.int 8) := Fld.same W1785 F1782
  refine o4 (fun u j => o3 X1785.here hx rfl (hb hby o152) rfl rfl j) ?_
  have K1787 := (Keep.refl h0 [ad2, ad0]).trans K1778 (allS (Or.inl (List.mem_of_getElem? (i := 0) rfl)) all0)
  have K1788 := K1787.wr W1785 (Or.inl (List.mem_of_getElem? (i := 1) rfl))
  have F1789 := (Exa.wr W1785 F1779)
  have F1790 := (F1780.other W1785 (Ne.symm ne1781))
  have F1791 := (Exa.wr W1785 F1784)
  have F1792 := (Fld.other W1785 (pf2.keep K1778 (ninS ne1781 nin0)) (Or.inr (o211 hw)))
  have F1793 := (Fld.other W1785 (pf4.keep K1778 (ninS ne1781 nin0)) (Or.inr (o212 hw)))
  exact o69 X1785 hx hlk hret rfl (Or.inr (Or.inr (Or.inr (Or.inr ⟨rfl, rfl, rfl⟩)))) (hb hby o153) (by decide) (by decide) (by rw [e1785]; exact ⟨rfl, N1785, K1788, F1789, F1790, F1791, F1792, F1786, F1793⟩)
theorem o964 (hw : o35 a0 Z) (hS : o64 Z wcs) (ad0 ad1 : Addr) (ad2 ad3 : Addr) (kc4 : ClassId) (iv5 : Int32) (kc6 : ClassId) (h0 : Heap) (n0 : Nat) (O0 : Old Z n0 h0) (pe1 : Exa Z h0 ad0 o70) (pf2 : Fld Z h0 ad0 o10 "coder" "B" (.int 0)) (pf3 : Fld Z h0 ad0 o10 "count" "I" (.int 7)) (pf4 : Fld Z h0 ad0 o10 "value" "[B" (.ref ad2)) (pe5 : Exa Z h0 ad1 o7) (pf6 : Fld Z h0 ad1 o7 "coder" "B" (.int 0)) (pf7 : Fld Z h0 ad1 o7 "value" "[B" (.ref ad3)) (pe8 : Exa Z h0 ad2 "[B") (pa9 : Arv Z h0 ad2 kc4 .byte 16 [.int 98, .int 101, .int 97, .int 110, .int 32, .int 39, .int iv5, .int 0, .int 0, .int 0, .int 0, .int 0, .int 0, .int 0, .int 0, .int 0] (.int 0)) (pa10 : Arv Z h0 ad3 kc6 .byte 1 [.int 39] (.int 0)) (pg_ad2 : n0 ≤ ad2) (pg_ad0 : n0 ≤ ad0) :
    o21 l o80 jdk_67_method_7_code 2 (some (.object "java/lang/StringBuilder")) ws ⟨4, 0, 0, 70⟩ Z h0 #[.ref ad0, .ref ad1] (fun v h L => v = some (.ref ad0) ∧ Fr n0 L ∧ Keep h0 h [ad2, ad0] ∧ Exa Z h ad2 "[B" ∧ Arv Z h ad2 kc4 .byte 16 [.int 98, .int 101, .int 97, .int 110, .int 32, .int 39, .int iv5, .int 39, .int 0, .int 0, .int 0, .int 0, .int 0, .int 0, .int 0, .int 0] (.int 0) ∧ Exa Z h ad0 o70 ∧ Fld Z h ad0 o10 "coder" "B" (.int 0) ∧ Fld Z h ad0 o10 "count" "I" (.int 8) ∧ Fld Z h ad0 o10 "value" "[B" (.ref ad2)) := by
  refine o18 (plainFor_of_name o173) ?_
  intro p e s m below meth c s₁ hx hby hml hown hnm hret hlk hZ e0 X0
  have N0 := Fr.nil n0
  refine o4 (fun u j => castTop (show entryFrame m #[.ref ad0, .ref ad1] 2 = mkF m 0 #[o1 ad0, o1 ad1] [] from rfl) j) ?_
  refine o4 (fun u j => o3 X0.here hx rfl (hb hby o166) rfl rfl (o3 X0.here hx rfl (hb hby o167) rfl rfl j)) ?_
  refine o17 (o186 X0 hx hZ (y := o98) hown (o2 hw 102 rfl) (o321 (y := o98) (o2 hw 122 rfl) rfl (o2 hw 103 rfl) o24) (o2 hw 103 rfl) (o2 hw 104 rfl) (by decide) (o2 hw 89 rfl) (o2 hw 106 rfl) (o963 hw hS ad0 ad1 ad2 ad3 kc4 iv5 kc6 h0 n0 O0 pe1 pf2 pf3 pf4 pe5 pf6 pf7 pe8 pa9 pa10 pg_ad2 pg_ad0) e0 (Ins.self pe1) o213 (argsL := [.ref ad1]) (rest := []) rfl rfl (g := (mkF m 2 #[o1 ad0, o1 ad1] [.ref ad1, .ref ad0])) rfl (by rw [hml]; rfl) rfl (hb hby o168) (W := 0) rfl) ?_
  intro T1801 v1801 L1801 X1801 hQ1801
  obtain ⟨rfl, M1801, K1801, F1802, F1803, F1804, F1805, F1806, F1807⟩ := hQ1801
  have N1801 := Fr.app N0 M1801
  refine o4 (fun u j => XS.pop X1801.here hx rfl (hb hby o169) rfl rfl (o3 X1801.here hx rfl (hb hby o170) rfl rfl j)) ?_
  have K1808 := (Keep.refl h0 [ad2, ad0]).trans K1801 (allS (Or.inl (List.mem_of_getElem? (i := 0) rfl)) (allS (Or.inl (List.mem_of_getElem? (i := 1) rfl)) all0))
  exact o69 X1801 hx hlk hret rfl (Or.inr (Or.inr (Or.inr (Or.inr ⟨rfl, rfl, rfl⟩)))) (hb hby o171) (by decide) (by decide) (by exact ⟨rfl, N1801, K1808, F1802, F1803, F1804, F1805, F1806, F1807⟩)
theorem o558 : decode prog_89_method_5_code 92 = .ok (.invokevirtual 33, 3) := by decide +kernel
theorem o965 (hw : o35 a0 Z) (hS : o64 Z wcs) (ad0 : Addr) (kc1 : ClassId) (iv2 : Int32) (h0 : Heap) (n0 : Nat) (O0 : Old Z n0 h0) (pa2 : Arv Z h0 ad0 kc1 .byte 16 [.int 98, .int 101, .int 97, .int 110, .int 32, .int 39, .int iv2, .int 39, .int 0, .int 0, .int 0, .int 0, .int 0, .int 0, .int 0, .int 0] (.int 0)) :
    o21 l o407 jdk_65_method_133_code 5 (some (.array .byte)) ws ⟨1, 1, 8, 27⟩ Z h0 #[.ref ad0, .int 0, .int 8] (fun v h L => ∃ nz0 : Addr, ∃ kz1 : ClassId, v = some (.ref nz0) ∧ Fr n0 L ∧ Keep h0 h [] ∧ h0.size ≤ nz0 ∧ Exa Z h nz0 "[B" ∧ Arv Z h nz0 kz1 .byte 8 [.int 98, .int 101, .int 97, .int 110, .int 32, .int 39, .int iv2, .int 39] (.int 0)) := by
  refine o18 (plainFor_of_name o308) ?_
  intro p e s m below meth c s₁ hx hby hml hown hnm hret hlk hZ e0 X0
  have N0 := Fr.nil n0
  refine o4 (fun u j => castTop (show entryFrame m #[.ref ad0, .int 0, .int 8] 5 = mkF m 0 #[o1 ad0, o0 0, o0 8, o5, o5] [] from rfl) j) ?_
  refine o4 (fun u j => o6 X0.here hx rfl (hb hby o384) rfl (o6 X0.here hx rfl (hb hby o385) rfl j)) ?_
  refine o17 (o78 X0 hx hZ (y := o488) hown (o2 hw 185 rfl) (o2 hw 186 rfl) (o2 hw 180 rfl) (o2 hw 187 rfl) o184 (o834 hw hS (0 : Int32) (8 : Int32) h0 n0 O0 (by decide)) e0 o495 (argsL := [.int 0, .int 8]) (rest := []) rfl rfl (g := (mkF m 2 #[o1 ad0, o0 0, o0 8, o5, o5] [.int 8, .int 0])) rfl (by rw [hml]; rfl) rfl (hb hby o386) (W := 0) rfl) ?_
  intro T1841 v1841 L1841 X1841 hQ1841
  obtain ⟨rfl, M1841, e1841⟩ := hQ1841
  have N1841 := Fr.app N0 M1841
  refine o4 (fun u j => o6 X1841.here hx rfl (hb hby o387) rfl (o6 X1841.here hx rfl (hb hby o388) rfl (XS.isub X1841.here hx rfl (hb hby o389) rfl (o94 X1841.here hx rfl (hb hby o390) rfl (l' := #[o1 ad0, o0 0, o0 8, o0 8, o5]) rfl (o6 X1841.here hx rfl (hb hby o391) rfl j))))) ?_
  have q_ := newPE X1841 hx hZ (o2 hw 14 rfl) e1841 (g := (mkF m 10 #[o1 ad0, o0 0, o0 8, o0 8, o5] [.int 8])) rfl (hb hby o349) rfl (by decide) (cap := 8) (by decide) (by decide) (by decide) (by decide) (ad := "[B") o214
  obtain ⟨T1842, h1842, k1842, X1842, e1842, E1842, A1842, Y1842, st1842⟩ := q_
  have q_ : ∃ z, z = h0.size := ⟨_, rfl⟩
  obtain ⟨b1842, g1842⟩ := q_
  rw [← g1842] at A1842 Y1842 st1842
  have V1842 : Arv Z h1842 b1842 k1842 .byte 8 [.int 0, .int 0, .int 0, .int 0, .int 0, .int 0, .int 0, .int 0] (.int 0) := (Arv.new A1842 (by decide)).pad (pad_rep [] (.int 0) 8)
  refine o4 (fun u j => st1842 u j) ?_
  refine o4 (fun u j => o76 X1842.here hx rfl (hb hby o350) rfl rfl (l' := #[o1 ad0, o0 0, o0 8, o0 8, o1 b1842]) rfl (o3 X1842.here hx rfl (hb hby o351) rfl rfl (o6 X1842.here hx rfl (hb hby o352) rfl (o72 X1842.here hx rfl (hb hby o353) rfl rfl (o16 X1842.here hx rfl (hb hby o354) (o3 X1842.here hx rfl (hb hby o355) rfl rfl j)))))) ?_
  show o11 p e below _ (T1842.setTop (mkF m 20 #[o1 ad0, o0 0, o0 8, o0 8, o1 b1842] [.ref ad0, .int 0, .ref b1842, .int 0, .ref ad0]))
  have F1843 := (pa2.ext E1842)
  refine o4 (fun u j => o75 X1842 hx hZ e1842 F1843 rfl rfl (hb hby o356) (o6 X1842.here hx rfl (hb hby o357) rfl (XS.isub X1842.here hx rfl (hb hby o358) rfl (o6 X1842.here hx rfl (hb hby o359) rfl j)))) ?_
  have O1846 := O0.ext E1842
  refine o17 (o78 X1842 hx hZ (y := o432) hown (o2 hw 188 rfl) (o2 hw 189 rfl) (o2 hw 190 rfl) (o2 hw 191 rfl) o496 (o835 hw hS (16 : Int32) (8 : Int32) h1842 n0 O1846 (by decide)) e1842 o497 (argsL := [.int 16, .int 8]) (rest := [.int 0, .ref b1842, .int 0, .ref ad0]) rfl rfl (g := (mkF m 24 #[o1 ad0, o0 0, o0 8, o0 8, o1 b1842] [.int 8, .int 16, .int 0, .ref b1842, .int 0, .ref ad0])) rfl (by rw [hml]; rfl) rfl (hb hby o360) (W := 4) rfl) ?_
  intro T1845 v1845 L1845 X1845 hQ1845
  obtain ⟨rfl, M1845, e1845⟩ := hQ1845
  have N1845 := Fr.app N1841 M1845
  have g1848 := Nat.le_trans (o103 O0) (Nat.le_of_eq g1842.symm)
  have q_ := cpA X1845 hx hZ hown (o2 hw 192 rfl) (o2 hw 143 rfl) (o2 hw 141 rfl) (o2 hw 142 rfl) e1845 F1843 V1842 (us := [.int 98, .int 101, .int 97, .int 110, .int 32, .int 39, .int iv2, .int 39]) (Or.inl ⟨rfl, rfl⟩) (by decide) (by decide) (by decide) (by decide) (by decide) rfl (Nat.le_of_ble_eq_true rfl) N1845 g1848 (g := (mkF m 27 #[o1 ad0, o0 0, o0 8, o0 8, o1 b1842] [.int 8, .int 0, .ref b1842, .int 0, .ref ad0])) rfl (by rw [hml]; rfl) rfl (hb hby o361) (by decide) (W := 0) (by show 2 * 0 + _ ≤ _; exact Nat.le_of_eq rfl) (by decide)
  obtain ⟨T1847, h1847, L1847, X1847, e1847, N1847, K1847, V1847, st1847⟩ := q_
  have V1849 : Arv Z h1847 b1842 k1842 .byte 8 [.int 98, .int 101, .int 97, .int 110, .int 32, .int 39, .int iv2, .int 39] (.int 0) := V1847
  refine o4 (fun u j => st1847 u j) ?_
  refine o4 (fun u j => o72 X1847.here hx rfl (hb hby o362) rfl rfl j) ?_
  have K1850 := (Keep.refl h0 []).ext E1842
  have z1852 := Nat.le_trans (Nat.le_refl _) (Nat.le_of_eq g1842.symm)
  have K1851 := K1850.trans K1847 (allS (Or.inr z1852) all0)
  have F1853 := (Y1842.keep K1847)
  exact o69 X1847 hx hlk hret rfl (Or.inr (Or.inr (Or.inr (Or.inr ⟨rfl, rfl, rfl⟩)))) (hb hby o363) (by decide) (by decide) (by rw [e1847]; exact ⟨b1842, k1842, rfl, N1847, K1851, z1852, F1853, V1849⟩)
theorem o966 (hw : o35 a0 Z) (hS : o64 Z wcs) (ad0 : Addr) (kc1 : ClassId) (iv2 : Int32) (h0 : Heap) (n0 : Nat) (O0 : Old Z n0 h0) (pa2 : Arv Z h0 ad0 kc1 .byte 16 [.int 98, .int 101, .int 97, .int 110, .int 32, .int 39, .int iv2, .int 39, .int 0, .int 0, .int 0, .int 0, .int 0, .int 0, .int 0, .int 0] (.int 0)) :
    o21 l o408 jdk_65_method_132_code 3 (some (.array .byte)) ws ⟨2, 1, 8, 43⟩ Z h0 #[.ref ad0, .int 0, .int 8] (fun v h L => ∃ nz0 : Addr, ∃ kz1 : ClassId, v = some (.ref nz0) ∧ Fr n0 L ∧ Keep h0 h [] ∧ h0.size ≤ nz0 ∧ Exa Z h nz0 "[B" ∧ Arv Z h nz0 kz1 .byte 8 [.int 98, .int 101, .int 97, .int 110, .int 32, .int 39, .int iv2, .int 39] (.int 0)) := by
  refine o18 (plainFor_of_name o308) ?_
  intro p e s m below meth c s₁ hx hby hml hown hnm hret hlk hZ e0 X0
  have N0 := Fr.nil n0
  refine o4 (fun u j => castTop (show entryFrame m #[.ref ad0, .int 0, .int 8] 3 = mkF m 0 #[o1 ad0, o0 0, o0 8] [] from rfl) j) ?_
  refine o4 (fun u j => o6 X0.here hx rfl (hb hby o378) rfl (o68 X0.here hx rfl (hb hby o379) rfl (o180 (by decide)) (o6 X0.here hx rfl (hb hby o380) rfl (o3 X0.here hx rfl (hb hby o381) rfl rfl (o75 X0 hx hZ e0 pa2 rfl rfl (hb hby o382) (o14 X0.here hx rfl (hb hby o383) rfl (XT.ii_eq_f (by decide)) j)))))) ?_
  show o11 p e below _ (s₁.setTop (mkF m 10 #[o1 ad0, o0 0, o0 8] []))
  refine o4 (fun u j => o3 X0.here hx rfl (hb hby o345) rfl rfl (o6 X0.here hx rfl (hb hby o346) rfl (o6 X0.here hx rfl (hb hby o347) rfl j))) ?_
  refine o17 (o78 X0 hx hZ (y := o407) hown (o2 hw 182 rfl) (o2 hw 183 rfl) (o2 hw 180 rfl) (o2 hw 184 rfl) o184 (o965 hw hS ad0 kc1 iv2 h0 n0 O0 pa2) e0 o392 (argsL := [.ref ad0, .int 0, .int 8]) (rest := []) rfl rfl (g := (mkF m 13 #[o1 ad0, o0 0, o0 8] [.int 8, .int 0, .ref ad0])) rfl (by rw [hml]; rfl) rfl (hb hby o348) (W := 0) rfl) ?_
  intro T1861 v1861 L1861 X1861 hQ1861
  obtain ⟨nz0_1862, kz1_1863, rfl, M1861, K1861, z1864, F1865, F1866⟩ := hQ1861
  have N1861 := Fr.app N0 M1861
  have K1867 := (Keep.refl h0 []).trans K1861 all0
  have z1868 := Nat.le_trans (Nat.le_refl _) z1864
  exact o69 X1861 hx hlk hret rfl (Or.inr (Or.inr (Or.inr (Or.inr ⟨rfl, rfl, rfl⟩)))) (hb hby o364) (by decide) (by decide) (by exact ⟨nz0_1862, kz1_1863, rfl, N1861, K1867, z1868, F1865, F1866⟩)
theorem o967 (hw : o35 a0 Z) (hS : o64 Z wcs) (ad0 ad1 ad2 : Addr) (kc3 : ClassId) (iv4 : Int32) (h0 : Heap) (n0 : Nat) (O0 : Old Z n0 h0) (pe1 : Exa Z h0 ad0 o7) (pf2 : Fld Z h0 ad0 o7 "coder" "B" (.int 0)) (pf3 : Fld Z h0 ad0 o7 "value" "[B" .null) (pe4 : Exa Z h0 ad1 o70) (pf5 : Fld Z h0 ad1 o10 "coder" "B" (.int 0)) (pf6 : Fld Z h0 ad1 o10 "count" "I" (.int 8)) (pf7 : Fld Z h0 ad1 o10 "value" "[B" (.ref ad2)) (pe8 : Exa Z h0 ad2 "[B") (pa9 : Arv Z h0 ad2 kc3 .byte 16 [.int 98, .int 101, .int 97, .int 110, .int 32, .int 39, .int iv4, .int 39, .int 0, .int 0, .int 0, .int 0, .int 0, .int 0, .int 0, .int 0] (.int 0)) (pg_ad0 : n0 ≤ ad0) :
    o21 l o409 jdk_42_method_150_code 5 none ws ⟨3, 1, 8, 58⟩ Z h0 #[.ref ad0, .ref ad1, .null] (fun v h L => ∃ nz0 : Addr, ∃ kz1 : ClassId, v = none ∧ Fr n0 L ∧ Keep h0 h [ad0] ∧ h0.size ≤ nz0 ∧ Exa Z h ad0 o7 ∧ Fld Z h ad0 o7 "coder" "B" (.int 0) ∧ Fld Z h ad0 o7 "value" "[B" (.ref nz0) ∧ Exa Z h nz0 "[B" ∧ Arv Z h nz0 kz1 .byte 8 [.int 98, .int 101, .int 97, .int 110, .int 32, .int 39, .int iv4, .int 39] (.int 0)) := by
  refine o18 (plainFor_of_name o83) ?_
  intro p e s m below meth c s₁ hx hby hml hown hnm hret hlk hZ e0 X0
  have N0 := Fr.nil n0
  refine o4 (fun u j => castTop (show entryFrame m #[.ref ad0, .ref ad1, .null] 5 = mkF m 0 #[o1 ad0, o1 ad1, .val .null, o5, o5] [] from rfl) j) ?_
  refine o4 (fun u j => o3 X0.here hx rfl (hb hby o370) rfl rfl j) ?_
  refine o22 (initO X0 hx hZ hown (o2 hw 19 rfl) (o2 hw 20 rfl) (o2 hw 21 rfl) e0 rfl (by rw [hml]; rfl) rfl (hb hby o371) (by decide) (W := 0) (by show 2 * 0 + _ ≤ _; exact Nat.le_of_eq rfl) (by decide)) ?_
  intro T1882 X1882 e1882
  refine o4 (fun u j => o3 X1882.here hx rfl (hb hby o372) rfl rfl j) ?_
  refine o17 (o63 X1882 hx hZ (y := o374) (z := o374) hown (o2 hw 160 rfl) (o2 hw 161 rfl) (notFace_of_selects (args := #[]) (mvT hZ (o2 hw 163 rfl))) (o2 hw 163 rfl) (o2 hw 162 rfl) (o2 hw 89 rfl) (o2 hw 164 rfl) o24 (o831 hw hS ad1 ad2 h0 n0 O0 pf7) e1882 pe4 o493 (argsL := []) (rest := []) rfl rfl (g := (mkF m 5 #[o1 ad0, o1 ad1, .val .null, o5, o5] [.ref ad1])) rfl (by rw [hml]; rfl) rfl (hb hby o373) (W := 0) rfl) ?_
  intro T1883 v1883 L1883 X1883 hQ1883
  obtain ⟨rfl, M1883, e1883⟩ := hQ1883
  have N1883 := Fr.app N0 M1883
  refine o4 (fun u j => o84 X1883.here hx rfl (hb hby o375) rfl rfl (l' := #[o1 ad0, o1 ad1, .val .null, o1 ad2, o5]) rfl (o3 X1883.here hx rfl (hb hby o376) rfl rfl j)) ?_
  refine o17 (o63 X1883 hx hZ (y := o416) (z := o487) hown (o2 hw 165 rfl) (o2 hw 166 rfl) (o690 (args := #[]) (mvT hZ (o2 hw 122 rfl)) rfl) (o2 hw 168 rfl) (o2 hw 169 rfl) (o2 hw 81 rfl) (o2 hw 170 rfl) o24 (o832 hw hS ad1 (8 : Int32) h0 n0 O0 pe4 pf6) e1883 pe4 o179 (argsL := []) (rest := []) rfl rfl (g := (mkF m 10 #[o1 ad0, o1 ad1, .val .null, o1 ad2, o5] [.ref ad1])) rfl (by rw [hml]; rfl) rfl (hb hby o332) (W := 0) rfl) ?_
  intro T1884 v1884 L1884 X1884 hQ1884
  obtain ⟨rfl, M1884, e1884⟩ := hQ1884
  have N1884 := Fr.app N1883 M1884
  refine o4 (fun u j => o20 X1884.here hx rfl (hb hby o333) rfl (l' := #[o1 ad0, o1 ad1, .val .null, o1 ad2, o0 8]) rfl (o3 X1884.here hx rfl (hb hby o334) rfl rfl j)) ?_
  refine o17 (o63 X1884 hx hZ (y := o377) (z := o377) hown (o2 hw 173 rfl) (o2 hw 174 rfl) (notFace_of_selects (args := #[]) (mvT hZ (o2 hw 176 rfl))) (o2 hw 176 rfl) (o2 hw 175 rfl) (o2 hw 89 rfl) (o2 hw 177 rfl) o24 (o833 hw hS ad1 h0 n0 O0 pf5) e1884 pe4 o494 (argsL := []) (rest := []) rfl rfl (g := (mkF m 16 #[o1 ad0, o1 ad1, .val .null, o1 ad2, o0 8] [.ref ad1])) rfl (by rw [hml]; rfl) rfl (hb hby o335) (W := 0) rfl) ?_
  intro T1885 v1885 L1885 X1885 hQ1885
  obtain ⟨rfl, M1885, e1885⟩ := hQ1885
  have N1885 := Fr.app N1884 M1885
  refine o4 (fun u j => o68 X1885.here hx rfl (hb hby o336) rfl (o65 (by decide)) (o3 X1885.here hx rfl (hb hby o337) rfl rfl (o16 X1885.here hx rfl (hb hby o338) j))) ?_
  refine o32 (putF X1885 hx hZ hown (host := "") (Or.inl (o2 hw 24 rfl)) Via.refl e1885 pf2 pe1 (Or.inr ⟨(o2 hw 25 rfl), rfl, hnm⟩) (o2 hw 10 rfl) (ty := .byte) o92 rfl rfl rfl rfl (hb hby o339)) ?_
  intro T1886 h1886 X1886 e1886 W1886
  have N1886 := Fr.snoc X1886 N1885 pg_ad0
  have F1887 : Fld Z h1886 ad0 o7 "coder" "B" (.int 0) := Fld.same W1886 pf2
  refine o4 (fun u j => o3 X1886.here hx rfl (hb hby o340) rfl rfl (o3 X1886.here hx rfl (hb hby o341) rfl rfl (o16 X1886.here hx rfl (hb hby o342) (o8 X1886.here hx rfl (hb hby o343) rfl j)))) ?_
  have ne1888 := (ne_exa pe8 pe1 o498)
  have F1889 := (pa9.other W1886 ne1888)
  have O1891 := O0.wr W1886 pg_ad0
  refine o17 (o78 X1886 hx hZ (y := o408) hown (o2 hw 178 rfl) (o2 hw 179 rfl) (o2 hw 180 rfl) (o2 hw 181 rfl) o184 (o966 hw hS ad2 kc3 iv4 h1886 n0 O1891 F1889) e1886 o392 (argsL := [.ref ad2, .int 0, .int 8]) (rest := [.ref ad0]) rfl rfl (g := (mkF m 32 #[o1 ad0, o1 ad1, .val .null, o1 ad2, o0 8] [.int 8, .int 0, .ref ad2, .ref ad0])) rfl (by rw [hml]; rfl) rfl (hb hby o344) (W := 1) rfl) ?_
  intro T1890 v1890 L1890 X1890 hQ1890
  obtain ⟨nz0_1892, kz1_1893, rfl, M1890, K1890, z1894, F1895, F1896⟩ := hQ1890
  have N1890 := Fr.app N1886 M1890
  have F1897 := ((Exa.wr W1886 pe1).keep K1890)
  have F1898 := ((Fld.other W1886 pf3 (Or.inr (o310 hw))).keep K1890 nin0)
  refine o32 (putF X1890 hx hZ hown (host := "") (Or.inl (o2 hw 22 rfl)) Via.refl rfl F1898 F1897 (Or.inr ⟨(o2 hw 23 rfl), rfl, hnm⟩) (o2 hw 10 rfl) (ty := (.array .byte)) o91 rfl rfl rfl rfl (hb hby o365)) ?_
  intro T1899 h1899 X1899 e1899 W1899
  have N1899 := Fr.snoc X1899 N1890 pg_ad0
  have F1900 : Fld Z h1899 ad0 o7 "value" "[B" (.ref nz0_1892) := Fld.same W1899 F1898
  refine o4 (fun u j => o15 X1899.here hx rfl (pc0 := 38) (pc' := 97) rfl (hb hby o366) (by decide) (by decide) j) ?_
  have K1901 := (Keep.refl h0 [ad0]).wr W1886 (Or.inl (List.mem_of_getElem? (i := 0) rfl))
  have K1902 := K1901.trans K1890 all0
  have K1903 := K1902.wr W1899 (Or.inl (List.mem_of_getElem? (i := 0) rfl))
  have z1904 := Nat.le_trans (Nat.le_of_eq W1886.size.symm) z1894
  have F1905 := (Exa.wr W1899 F1897)
  have F1906 := (Fld.other W1899 (F1887.keep K1890 nin0) (Or.inr (o309 hw)))
  have F1907 := (Exa.wr W1899 F1895)
  have ne1908 := (Ne.symm (Nat.ne_of_lt (Nat.lt_of_lt_of_le F1887.lt z1894)))
  have F1909 := (F1896.other W1899 ne1908)
  exact o81 X1899 hx hlk hret (hb hby o367) (by decide) (by decide) (by rw [e1899]; exact ⟨nz0_1892, kz1_1893, rfl, N1899, K1903, z1904, F1905, F1906, F1900, F1907, F1909⟩)
theorem o968 (hw : o35 a0 Z) (hS : o64 Z wcs) (ad0 ad1 ad2 : Addr) (kc3 : ClassId) (iv4 : Int32) (h0 : Heap) (n0 : Nat) (O0 : Old Z n0 h0) (pe1 : Exa Z h0 ad0 o7) (pf2 : Fld Z h0 ad0 o7 "coder" "B" (.int 0)) (pf3 : Fld Z h0 ad0 o7 "value" "[B" .null) (pe4 : Exa Z h0 ad1 o70) (pf5 : Fld Z h0 ad1 o10 "coder" "B" (.int 0)) (pf6 : Fld Z h0 ad1 o10 "count" "I" (.int 8)) (pf7 : Fld Z h0 ad1 o10 "value" "[B" (.ref ad2)) (pe8 : Exa Z h0 ad2 "[B") (pa9 : Arv Z h0 ad2 kc3 .byte 16 [.int 98, .int 101, .int 97, .int 110, .int 32, .int 39, .int iv4, .int 39, .int 0, .int 0, .int 0, .int 0, .int 0, .int 0, .int 0, .int 0] (.int 0)) (pg_ad0 : n0 ≤ ad0) :
    o21 l o410 jdk_42_method_53_code 2 none ws ⟨4, 1, 8, 74⟩ Z h0 #[.ref ad0, .ref ad1] (fun v h L => ∃ nz0 : Addr, ∃ kz1 : ClassId, v = none ∧ Fr n0 L ∧ Keep h0 h [ad0] ∧ h0.size ≤ nz0 ∧ Exa Z h ad0 o7 ∧ Fld Z h ad0 o7 "coder" "B" (.int 0) ∧ Fld Z h ad0 o7 "value" "[B" (.ref nz0) ∧ Exa Z h nz0 "[B" ∧ Arv Z h nz0 kz1 .byte 8 [.int 98, .int 101, .int 97, .int 110, .int 32, .int 39, .int iv4, .int 39] (.int 0)) := by
  refine o18 (plainFor_of_name o83) ?_
  intro p e s m below meth c s₁ hx hby hml hown hnm hret hlk hZ e0 X0
  have N0 := Fr.nil n0
  refine o4 (fun u j => castTop (show entryFrame m #[.ref ad0, .ref ad1] 2 = mkF m 0 #[o1 ad0, o1 ad1] [] from rfl) j) ?_
  refine o4 (fun u j => o3 X0.here hx rfl (hb hby o401) rfl rfl (o3 X0.here hx rfl (hb hby o402) rfl rfl (o99 X0.here hx rfl (hb hby o403) j))) ?_
  refine o17 (o87 X0 hx hZ (y := o409) rfl hown (o2 hw 157 rfl) (o2 hw 158 rfl) (o2 hw 2 rfl) (o2 hw 159 rfl) o67 (o967 hw hS ad0 ad1 ad2 kc3 iv4 h0 n0 O0 pe1 pf2 pf3 pe4 pf5 pf6 pf7 pe8 pa9 pg_ad0) e0 o499 (a := ad0) (argsL := [.ref ad1, .null]) (rest := []) rfl rfl (g := (mkF m 3 #[o1 ad0, o1 ad1] [.null, .ref ad1, .ref ad0])) rfl (by rw [hml]; rfl) rfl (hb hby o404) (W := 0) rfl) ?_
  intro T1919 v1919 L1919 X1919 hQ1919
  obtain ⟨nz0_1920, kz1_1921, rfl, M1919, K1919, z1922, F1923, F1924, F1925, F1926, F1927⟩ := hQ1919
  have N1919 := Fr.app N0 M1919
  have K1928 := (Keep.refl h0 [ad0]).trans K1919 (allS (Or.inl (List.mem_of_getElem? (i := 0) rfl)) all0)
  have z1929 := Nat.le_trans (Nat.le_refl _) z1922
  exact o81 X1919 hx hlk hret (hb hby o405) (by decide) (by decide) (by exact ⟨nz0_1920, kz1_1921, rfl, N1919, K1928, z1929, F1923, F1924, F1925, F1926, F1927⟩)
theorem o969 (hw : o35 a0 Z) (hS : o64 Z wcs) (ad0 ad1 : Addr) (kc2 : ClassId) (iv3 : Int32) (h0 : Heap) (n0 : Nat) (O0 : Old Z n0 h0) (pe1 : Exa Z h0 ad0 o70) (pf2 : Fld Z h0 ad0 o10 "coder" "B" (.int 0)) (pf3 : Fld Z h0 ad0 o10 "count" "I" (.int 8)) (pf4 : Fld Z h0 ad0 o10 "value" "[B" (.ref ad1)) (pe5 : Exa Z h0 ad1 "[B") (pa6 : Arv Z h0 ad1 kc2 .byte 16 [.int 98, .int 101, .int 97, .int 110, .int 32, .int 39, .int iv3, .int 39, .int 0, .int 0, .int 0, .int 0, .int 0, .int 0, .int 0, .int 0] (.int 0)) :
    o21 l o183 jdk_67_method_42_code 1 (some (.object "java/lang/String")) ws ⟨5, 2, 12, 88⟩ Z h0 #[.ref ad0] (fun v h L => ∃ nz0 : Addr, ∃ nz1 : Addr, ∃ kz2 : ClassId, v = some (.ref nz0) ∧ Fr n0 L ∧ Keep h0 h [] ∧ h0.size ≤ nz0 ∧ h0.size ≤ nz1 ∧ Exa Z h nz0 o7 ∧ Fld Z h nz0 o7 "coder" "B" (.int 0) ∧ Fld Z h nz0 o7 "value" "[B" (.ref nz1) ∧ Exa Z h nz1 "[B" ∧ Arv Z h nz1 kz2 .byte 8 [.int 98, .int 101, .int 97, .int 110, .int 32, .int 39, .int iv3, .int 39] (.int 0)) := by
  refine o18 (plainFor_of_name o173) ?_
  intro p e s m below meth c s₁ hx hby hml hown hnm hret hlk hZ e0 X0
  have N0 := Fr.nil n0
  refine o4 (fun u j => castTop (show entryFrame m #[.ref ad0] 1 = mkF m 0 #[o1 ad0] [] from rfl) j) ?_
  have q_ := newO X0 hx hZ hown (o2 hw 153 rfl) (o2 hw 10 rfl) (o2 hw 2 rfl) e0 (g := (mkF m 0 #[o1 ad0] [])) rfl (hb hby o397) (by decide) (by decide)
  obtain ⟨T1947, h1947, X1947, e1947, E1947, A1947, D1947, U1947, st1947⟩ := q_
  have q_ : ∃ z, z = h0.size := ⟨_, rfl⟩
  obtain ⟨b1947, g1947⟩ := q_
  rw [← g1947] at A1947 D1947 U1947 st1947
  have F1947_value : Fld Z h1947 b1947 o7 "value" "[B" .null := D1947 (Or.inr (o2 hw 23 rfl)) (ty := (.array .byte)) o91
  have F1947_coder : Fld Z h1947 b1947 o7 "coder" "B" (.int 0) := D1947 (Or.inr (o2 hw 25 rfl)) (ty := .byte) o92
  refine o4 (fun u j => st1947 u j) ?_
  refine o4 (fun u j => o61 X1947.here hx rfl (hb hby o398) rfl rfl (o3 X1947.here hx rfl (hb hby o399) rfl rfl j)) ?_
  have F1948 := (Exa.ext E1947 pe1)
  have F1949 := (Fld.ext E1947 pf2)
  have F1950 := (Fld.ext E1947 pf3)
  have F1951 := (Fld.ext E1947 pf4)
  have F1952 := (Exa.ext E1947 pe5)
  have F1953 := (pa6.ext E1947)
  have g1954 := Nat.le_trans (o103 O0) (Nat.le_of_eq g1947.symm)
  have O1956 := O0.ext E1947
  refine o17 (o87 X1947 hx hZ (y := o410) rfl hown (o2 hw 154 rfl) (o2 hw 155 rfl) (o2 hw 2 rfl) (o2 hw 156 rfl) o67 (o968 hw hS b1947 ad0 ad1 kc2 iv3 h1947 n0 O1956 A1947 F1947_coder F1947_value F1948 F1949 F1950 F1951 F1952 F1953 g1954) e1947 o500 (a := b1947) (argsL := [.ref ad0]) (rest := [.ref b1947]) rfl rfl (g := (mkF m 5 #[o1 ad0] [.ref ad0, .ref b1947, .ref b1947])) rfl (by rw [hml]; rfl) rfl (hb hby o400) (W := 1) rfl) ?_
  intro T1955 v1955 L1955 X1955 hQ1955
  obtain ⟨nz0_1957, kz1_1958, rfl, M1955, K1955, z1959, F1960, F1961, F1962, F1963, F1964⟩ := hQ1955
  have N1955 := Fr.app N0 M1955
  have K1965 := (Keep.refl h0 []).ext E1947
  have z1967 := Nat.le_trans (Nat.le_refl _) (Nat.le_of_eq g1947.symm)
  have K1966 := K1965.trans K1955 (allS (Or.inr z1967) all0)
  have z1968 := Nat.le_trans E1947.1 z1959
  exact o69 X1955 hx hlk hret rfl (Or.inr (Or.inr (Or.inr (Or.inr ⟨rfl, rfl, rfl⟩)))) (hb hby o406) (by decide) (by decide) (by exact ⟨b1947, nz0_1957, kz1_1958, rfl, N1955, K1966, z1967, z1968, F1960, F1961, F1962, F1963, F1964⟩)
theorem o559 : decode prog_89_method_5_code 95 = .ok (.astore_n 2, 1) := by decide +kernel
theorem o560 : decode prog_89_method_5_code 96 = .ok (.goto 35, 3) := by decide +kernel
theorem o970 (hw : o35 a0 Z) (hS : o64 Z wcs) (ad0 ad1 ad2 : Addr) (kc3 : ClassId) (iv4 : Int32) (h0 : Heap) (n0 : Nat) (O0 : Old Z n0 h0) (pe1 : Exa Z h0 ad0 o62) (pf2 : Fld Z h0 ad0 o62 "bean" o71 (.ref ad1)) (pf3 : Fld Z h0 ad0 o62 "name" o71 .null) (pf4 : Fld Z h0 ad0 o62 "part" o71 .null) (pe5 : Exa Z h0 ad1 o7) (pf6 : Fld Z h0 ad1 o7 "coder" "B" (.int 0)) (pf7 : Fld Z h0 ad1 o7 "value" "[B" (.ref ad2)) (pe8 : Exa Z h0 ad2 "[B") (pa9 : Arv Z h0 ad2 kc3 .byte 1 [.int iv4] (.int 0)) :
    o206 o23 [] l o181 prog_89_method_5_code 3 (some (.object "java/lang/String")) ws ⟨6, 8, 68, 100⟩ Z h0 #[.ref ad0] (fun v h L => ∃ nz0 : Addr, ∃ nz1 : Addr, ∃ kz2 : ClassId, v = some (.ref nz0) ∧ Fr n0 L ∧ Keep h0 h [] ∧ h0.size ≤ nz0 ∧ h0.size ≤ nz1 ∧ Exa Z h nz0 o7 ∧ Fld Z h nz0 o7 "coder" "B" (.int 0) ∧ Fld Z h nz0 o7 "value" "[B" (.ref nz1) ∧ Exa Z h nz1 "[B" ∧ Arv Z h nz1 kz2 .byte 8 [.int 98, .int 101, .int 97, .int 110, .int 32, .int 39, .int iv4, .int 39] (.int 0)) := by
  refine o461 (plainFor_of_name o312) ?_
  intro p e s m below meth c s₁ hx hby hml hown hnm hret hlk hZ e0 X0 hSi0 hs0 hC0 hsf0
  have hZ_0 := hZ
  have R0 : CHr Z o23 s.vm h0 s.vm h0 := CHr.refl hC0
  have N0 := Fr.nil n0
  refine o4 (fun u j => castTop (show entryFrame m #[.ref ad0] 3 = mkF m 0 #[o1 ad0, o5, o5] [] from rfl) j) ?_
  refine o4 (fun u j => o3 X0.here hx rfl (hb hby o268) rfl rfl j) ?_
  refine o22 (getF X0 hx hZ hown (host := "") (Or.inl (o2 hw 42 rfl)) Via.refl e0 pf3 rfl rfl (hb hby o269)) ?_
  intro T1981 X1981 e1981
  refine o4 (fun u j => o185 X1981.here hx rfl (hb hby o270) rfl (o3 X1981.here hx rfl (hb hby o422) rfl rfl j)) ?_
  refine o22 (getF X1981 hx hZ hown (host := "") (Or.inl (o2 hw 40 rfl)) Via.refl e1981 pf4 rfl rfl (hb hby o423)) ?_
  intro T1982 X1982 e1982
  refine o4 (fun u j => o15 X1982.here hx rfl (pc0 := 11) (pc' := 48) rfl (hb hby o415) (by decide) (by decide) (o84 X1982.here hx rfl (hb hby o221) rfl rfl (l' := #[o1 ad0, .val .null, o5]) rfl (o3 X1982.here hx rfl (hb hby o222) rfl rfl j))) ?_
  refine o22 (getF X1982 hx hZ hown (host := "") (Or.inl (o2 hw 38 rfl)) Via.refl e1982 pf2 rfl rfl (hb hby o223)) ?_
  intro T1983 X1983 e1983
  refine o4 (fun u j => o86 X1983.here hx rfl (pc0 := 53) (pc' := 61) rfl (hb hby o224) rfl (by decide) (by decide) (o3 X1983.here hx rfl (hb hby o417) rfl rfl j)) ?_
  refine o22 (getF X1983 hx hZ hown (host := "") (Or.inl (o2 hw 40 rfl)) Via.refl e1983 pf4 rfl rfl (hb hby o418)) ?_
  intro T1984 X1984 e1984
  refine o4 (fun u j => o185 X1984.here hx rfl (hb hby o419) rfl j) ?_
  have q_ := newO X1984 hx hZ hown (o2 hw 79 rfl) (o2 hw 80 rfl) (o2 hw 81 rfl) e1984 (g := (mkF m 68 #[o1 ad0, .val .null, o5] [])) rfl (hb hby o548) (by decide) (by decide)
  obtain ⟨T1985, h1985, X1985, e1985, E1985, A1985, D1985, U1985, st1985⟩ := q_
  have q_ : ∃ z, z = h0.size := ⟨_, rfl⟩
  obtain ⟨b1985, g1985⟩ := q_
  rw [← g1985] at A1985 D1985 U1985 st1985
  have F1985_value : Fld Z h1985 b1985 o10 "value" "[B" .null := D1985 (Or.inl (o2 hw 94 rfl)) (ty := (.array .byte)) o91
  have F1985_coder : Fld Z h1985 b1985 o10 "coder" "B" (.int 0) := D1985 (Or.inl (o2 hw 96 rfl)) (ty := .byte) o92
  have F1985_count : Fld Z h1985 b1985 o10 "count" "I" (.int 0) := D1985 (Or.inl (o2 hw 118 rfl)) (ty := .int) o120
  refine o4 (fun u j => st1985 u j) ?_
  refine o4 (fun u j => o61 X1985.here hx rfl (hb hby o549) rfl rfl j) ?_
  have g1986 := Nat.le_trans (o103 O0) (Nat.le_of_eq g1985.symm)
  have O1988 := O0.ext E1985
  refine o17 (o87 X1985 hx hZ (y := o431) rfl hown (o2 hw 82 rfl) (o2 hw 83 rfl) (o2 hw 81 rfl) (o2 hw 84 rfl) o90 (o825 hw hS b1985 h1985 n0 O1988 A1985 F1985_coder F1985_count F1985_value g1986) e1985 o311 (a := b1985) (argsL := []) (rest := [.ref b1985]) rfl rfl (g := (mkF m 72 #[o1 ad0, .val .null, o5] [.ref b1985, .ref b1985])) rfl (by rw [hml]; rfl) rfl (hb hby o550) (W := 1) rfl) ?_
  intro T1987 v1987 L1987 X1987 hQ1987
  obtain ⟨nz0_1989, kz1_1990, rfl, M1987, K1987, z1991, F1992, F1993, F1994, F1995, F1996, F1997⟩ := hQ1987
  have N1987 := Fr.app N0 M1987
  have R1999 : CHr Z o23 s.vm h0 s.vm h1985 := R0.trans (CHr.ext E1985 R0.1)
  have sf_2001 : Safe Z o23 s.vm h1985 b1985 := Safe.exa hZ_0.alike A1985 o102 o85
  have R2000 : CHr Z o23 s.vm h0 s.vm T1987.heap := R1999.trans (CHr.keep K1987 (sfS sf_2001 sf0) R1999.1)
  obtain ⟨a1998, T1998, h1998, j1998, b1998, k1998, X1998, e1998, E1998, Si1998, Sk1998, hZ1998, hown1998, Ea1998, Fc1998, Fv1998, Av1998, la1998, lb1998, hr1998, Li1998, ln1998, st1998⟩ := ldcCH X1987 hx hZ hown (o2 hw 193 rfl) (o393 hw) rfl hSi0 (Nat.le_trans (Nat.zero_le _) (Nat.le_trans E1985.1 K1987.1)) (o172 hw) (List.mem_of_getElem? (i := 2) rfl) R2000.1 (vs := [.int 98, .int 101, .int 97, .int 110, .int 32, .int 39]) (z := 6) o507 (by decide) rfl (g := (mkF m 75 #[o1 ad0, .val .null, o5] [.ref b1985])) rfl (hb hby o551) (n := 24) (by decide) (by decide) (by decide) (by decide)
  refine o4 (fun u j => st1998 u j) ?_
  have F2002 := (Exa.ext E1998 F1992)
  have F2003 := (Fld.ext E1998 F1993)
  have F2004 := (Fld.ext E1998 F1994)
  have F2005 := (Fld.ext E1998 F1995)
  have F2006 := (Exa.ext E1998 F1996)
  have F2007 := (F1997.ext E1998)
  have g2008 := Nat.le_trans (o103 O1988) z1991
  have O2010 := O1988.keep K1987 (allS g1986 all0)
  have O2011 := O2010.ext E1998
  refine o17 (o63 X1998 hx hZ1998 (y := o80) (z := o80) hown1998 (o2 hw 97 rfl) (o2 hw 98 rfl) (notFace_of_selects (args := #[]) (mvT hZ1998 (o2 hw 100 rfl))) (o2 hw 100 rfl) (o2 hw 99 rfl) (o2 hw 81 rfl) (o2 hw 101 rfl) o90 (o853 hw hS b1985 a1998 nz0_1989 b1998 kz1_1990 k1998 h1998 n0 O2011 F2002 F2003 F2004 F2005 Ea1998 Fc1998 Fv1998 F2006 F2007 Av1998 g2008 g1986) e1998 F2002 o121 (argsL := [.ref a1998]) (rest := []) rfl rfl (g := (mkF m 77 #[o1 ad0, .val .null, o5] [.ref a1998, .ref b1985])) rfl (by rw [hml]; rfl) rfl (hb hby o552) (W := 0) rfl) ?_
  intro T2009 v2009 L2009 X2009 hQ2009
  obtain ⟨rfl, M2009, K2009, F2012, F2013, F2014, F2015, F2016, F2017⟩ := hQ2009
  have N2009 := Fr.app N1987 M2009
  refine o4 (fun u j => o3 X2009.here hx rfl (hb hby o553) rfl rfl j) ?_
  have ne2018 := (Nat.ne_of_lt (Nat.lt_of_lt_of_le pe1.lt (Nat.le_of_eq g1985.symm)))
  have ne2019 := (Nat.ne_of_lt (Nat.lt_of_lt_of_le (Nat.lt_of_lt_of_le pe1.lt E1985.1) z1991))
  have F2020 := ((Fld.ext E1998 ((Fld.ext E1985 pf2).keep K1987 (ninS ne2018 nin0))).keep K2009 (ninS ne2019 (ninS ne2018 nin0)))
  refine o22 (getF X2009 hx hZ1998 hown1998 (host := "") (Or.inl (o2 hw 38 rfl)) Via.refl rfl F2020 rfl rfl (hb hby o554)) ?_
  intro T2021 X2021 e2021
  have F2022 := ((Exa.ext E1998 ((Exa.ext E1985 pe5).keep K1987)).keep K2009)
  have ne2023 := (Nat.ne_of_lt (Nat.lt_of_lt_of_le pe5.lt (Nat.le_of_eq g1985.symm)))
  have ne2024 := (Nat.ne_of_lt (Nat.lt_of_lt_of_le (Nat.lt_of_lt_of_le pe5.lt E1985.1) z1991))
  have F2025 := ((Fld.ext E1998 ((Fld.ext E1985 pf6).keep K1987 (ninS ne2023 nin0))).keep K2009 (ninS ne2024 (ninS ne2023 nin0)))
  have F2026 := ((Fld.ext E1998 ((Fld.ext E1985 pf7).keep K1987 (ninS ne2023 nin0))).keep K2009 (ninS ne2024 (ninS ne2023 nin0)))
  have ne2027 := (Nat.ne_of_lt (Nat.lt_of_lt_of_le pe8.lt (Nat.le_of_eq g1985.symm)))
  have ne2028 := (Nat.ne_of_lt (Nat.lt_of_lt_of_le (Nat.lt_of_lt_of_le pe8.lt E1985.1) z1991))
  have F2029 := ((((pa9.ext E1985).keep K1987 (ninS ne2027 nin0)).ext E1998).keep K2009 (ninS ne2028 (ninS ne2027 nin0)))
  have O2031 := O2011.keep K2009 (allS g2008 (allS g1986 all0))
  refine o17 (o63 X2021 hx hZ1998 (y := o80) (z := o80) hown1998 (o2 hw 97 rfl) (o2 hw 98 rfl) (notFace_of_selects (args := #[]) (mvT hZ1998 (o2 hw 100 rfl))) (o2 hw 100 rfl) (o2 hw 99 rfl) (o2 hw 81 rfl) (o2 hw 101 rfl) o90 (o854 hw hS b1985 ad1 nz0_1989 ad2 kz1_1990 kc3 iv4 T2009.heap n0 O2031 F2014 F2015 F2016 F2017 F2022 F2025 F2026 F2012 F2013 F2029 g2008 g1986) e2021 F2014 o121 (argsL := [.ref ad1]) (rest := []) rfl rfl (g := (mkF m 84 #[o1 ad0, .val .null, o5] [.ref ad1, .ref b1985])) rfl (by rw [hml]; rfl) rfl (hb hby o555) (W := 0) rfl) ?_
  intro T2030 v2030 L2030 X2030 hQ2030
  obtain ⟨rfl, M2030, K2030, F2032, F2033, F2034, F2035, F2036, F2037⟩ := hQ2030
  have N2030 := Fr.app N2009 M2030
  have R2039 : CHr Z o23 s.vm h0 T1998.vm h1998 := R2000.trans hr1998
  have sf_2041 : Safe Z o23 T1998.vm h1998 b1985 := Safe.exa hZ1998.alike F2002 o102 o85
  have sf_2042 : Safe Z o23 s.vm h1985 nz0_1989 := Safe.new z1991
  have sf_2043 : Safe Z o23 s.vm T1987.heap nz0_1989 := Safe.keep K1987 (sfS sf_2001 sf0) R1999.1 sf_2042
  have sf_2044 : Safe Z o23 T1998.vm h1998 nz0_1989 := hr1998.safe F1996.lt sf_2043
  have R2040 : CHr Z o23 s.vm h0 T1998.vm T2009.heap := R2039.trans (CHr.keep K2009 (sfS sf_2044 (sfS sf_2041 sf0)) R2039.1)
  have sf_2046 : Safe Z o23 T1998.vm T2009.heap b1985 := Safe.exa hZ1998.alike F2014 o102 o85
  have sf_2047 : Safe Z o23 T1998.vm T2009.heap nz0_1989 := Safe.keep K2009 (sfS sf_2044 (sfS sf_2041 sf0)) R2039.1 sf_2044
  have R2045 : CHr Z o23 s.vm h0 T1998.vm T2030.heap := R2040.trans (CHr.keep K2030 (sfS sf_2047 (sfS sf_2046 sf0)) R2040.1)
  obtain ⟨a2038, T2038, h2038, j2038, b2038, k2038, X2038, e2038, E2038, Si2038, Sk2038, hZ2038, hown2038, Ea2038, Fc2038, Fv2038, Av2038, la2038, lb2038, hr2038, Li2038, ln2038, st2038⟩ := ldcCH X2030 hx hZ1998 hown1998 (o2 hw 147 rfl) (o393 hw) rfl Si1998 (Nat.le_trans Sk1998 (Nat.le_trans K2009.1 K2030.1)) (o172 hw) (List.mem_of_getElem? (i := 1) rfl) R2045.1 (vs := [.int 39]) (z := 1) o506 (by decide) rfl (g := (mkF m 87 #[o1 ad0, .val .null, o5] [.ref b1985])) rfl (hb hby o556) (n := 4) (by decide) (by decide) (by decide) (by decide)
  refine o4 (fun u j => st2038 u j) ?_
  have F2048 := (Exa.ext E2038 F2034)
  have F2049 := (Fld.ext E2038 F2035)
  have F2050 := (Fld.ext E2038 F2036)
  have F2051 := (Fld.ext E2038 F2037)
  have F2052 := (Exa.ext E2038 F2032)
  have F2053 := (F2033.ext E2038)
  have O2055 := O2031.keep K2030 (allS g2008 (allS g1986 all0))
  have O2056 := O2055.ext E2038
  refine o17 (o63 X2038 hx hZ2038 (y := o80) (z := o80) hown2038 (o2 hw 97 rfl) (o2 hw 98 rfl) (notFace_of_selects (args := #[]) (mvT hZ2038 (o2 hw 100 rfl))) (o2 hw 100 rfl) (o2 hw 99 rfl) (o2 hw 81 rfl) (o2 hw 101 rfl) o90 (o964 hw hS b1985 a2038 nz0_1989 b2038 kz1_1990 iv4 k2038 h2038 n0 O2056 F2048 F2049 F2050 F2051 Ea2038 Fc2038 Fv2038 F2052 F2053 Av2038 g2008 g1986) e2038 F2048 o121 (argsL := [.ref a2038]) (rest := []) rfl rfl (g := (mkF m 89 #[o1 ad0, .val .null, o5] [.ref a2038, .ref b1985])) rfl (by rw [hml]; rfl) rfl (hb hby o557) (W := 0) rfl) ?_
  intro T2054 v2054 L2054 X2054 hQ2054
  obtain ⟨rfl, M2054, K2054, F2057, F2058, F2059, F2060, F2061, F2062⟩ := hQ2054
  have N2054 := Fr.app N2030 M2054
  have O2064 := O2056.keep K2054 (allS g2008 (allS g1986 all0))
  refine o17 (o63 X2054 hx hZ2038 (y := o183) (z := o183) hown2038 (o2 hw 148 rfl) (o2 hw 149 rfl) (notFace_of_selects (args := #[]) (mvT hZ2038 (o2 hw 151 rfl))) (o2 hw 151 rfl) (o2 hw 150 rfl) (o2 hw 81 rfl) (o2 hw 152 rfl) o90 (o969 hw hS b1985 nz0_1989 kz1_1990 iv4 T2054.heap n0 O2064 F2059 F2060 F2061 F2062 F2057 F2058) rfl F2059 o207 (argsL := []) (rest := []) rfl rfl (g := (mkF m 92 #[o1 ad0, .val .null, o5] [.ref b1985])) rfl (by rw [hml]; rfl) rfl (hb hby o558) (W := 0) rfl) ?_
  intro T2063 v2063 L2063 X2063 hQ2063
  obtain ⟨nz0_2065, nz1_2066, kz2_2067, rfl, M2063, K2063, z2068, z2069, F2070, F2071, F2072, F2073, F2074⟩ := hQ2063
  have N2063 := Fr.app N2054 M2063
  refine o4 (fun u j => o84 X2063.here hx rfl (hb hby o559) rfl rfl (l' := #[o1 ad0, .val .null, o1 nz0_2065]) rfl (o15 X2063.here hx rfl (pc0 := 96) (pc' := 131) rfl (hb hby o560) (by decide) (by decide) (o3 X2063.here hx rfl (hb hby o188) rfl rfl j))) ?_
  have K2075 := (Keep.refl h0 []).ext E1985
  have z2077 := Nat.le_trans (Nat.le_refl _) (Nat.le_of_eq g1985.symm)
  have K2076 := K2075.trans K1987 (allS (Or.inr z2077) all0)
  have K2078 := K2076.ext E1998
  have z2080 := Nat.le_trans E1985.1 z1991
  have K2079 := K2078.trans K2009 (allS (Or.inr z2080) (allS (Or.inr z2077) all0))
  have K2081 := K2079.trans K2030 (allS (Or.inr z2080) (allS (Or.inr z2077) all0))
  have K2082 := K2081.ext E2038
  have K2083 := K2082.trans K2054 (allS (Or.inr z2080) (allS (Or.inr z2077) all0))
  have K2084 := K2083.trans K2063 all0
  have z2085 := Nat.le_trans (Nat.le_trans (Nat.le_trans (Nat.le_trans (Nat.le_trans (Nat.le_trans (Nat.le_trans E1985.1 K1987.1) E1998.1) K2009.1) K2030.1) E2038.1) K2054.1) z2068
  have z2086 := Nat.le_trans (Nat.le_trans (Nat.le_trans (Nat.le_trans (Nat.le_trans (Nat.le_trans (Nat.le_trans E1985.1 K1987.1) E1998.1) K2009.1) K2030.1) E2038.1) K2054.1) z2069
  have R2087 : CHr Z o23 s.vm h0 T2038.vm h2038 := R2045.trans hr2038
  have sf_2089 : Safe Z o23 T2038.vm h2038 b1985 := Safe.exa hZ2038.alike F2048 o102 o85
  have sf_2090 : Safe Z o23 T1998.vm T2030.heap nz0_1989 := Safe.keep K2030 (sfS sf_2047 (sfS sf_2046 sf0)) R2040.1 sf_2047
  have sf_2091 : Safe Z o23 T2038.vm h2038 nz0_1989 := hr2038.safe F2032.lt sf_2090
  have R2088 : CHr Z o23 s.vm h0 T2038.vm T2054.heap := R2087.trans (CHr.keep K2054 (sfS sf_2091 (sfS sf_2089 sf0)) R2087.1)
  have R2092 : CHr Z o23 s.vm h0 T2038.vm T2063.heap := R2088.trans (CHr.keep K2063 sf0 R2088.1)
  exact o368 X2063 Si2038 (Nat.le_trans Sk2038 (Nat.le_trans K2054.1 K2063.1)) rfl hZ2038 (o172 hw) hs0 R2092 hx hlk hret rfl (Or.inr (Or.inr (Or.inr (Or.inr ⟨rfl, rfl, rfl⟩)))) (hb hby o189) (by decide) (by decide) (by exact ⟨nz0_2065, nz1_2066, kz2_2067, rfl, N2063, K2084, z2085, z2086, F2070, F2071, F2072, F2073, F2074⟩)
theorem o424 : decode method_3_code 60 = .ok (.iload_n 1, 1) := by decide +kernel
theorem o425 : decode method_3_code 61 = .ok (.ifCond .ne 56, 3) := by decide +kernel
theorem o769 : decode method_3_code 64 = .ok (.new 8, 3) := by decide +kernel
theorem o770 : decode method_3_code 67 = .ok (.dup, 1) := by decide +kernel
theorem o771 : decode method_3_code 68 = .ok (.bipush 8, 2) := by decide +kernel
theorem o772 : decode method_3_code 70 = .ok (.newarray .char, 2) := by decide +kernel
theorem o773 : decode method_3_code 72 = .ok (.dup, 1) := by decide +kernel
theorem o774 : decode method_3_code 73 = .ok (.iconst 0, 1) := by decide +kernel
theorem o775 : decode method_3_code 74 = .ok (.bipush 98, 2) := by decide +kernel
theorem o776 : decode method_3_code 76 = .ok (.castore, 1) := by decide +kernel
theorem o777 : decode method_3_code 77 = .ok (.dup, 1) := by decide +kernel
theorem o778 : decode method_3_code 78 = .ok (.iconst 1, 1) := by decide +kernel
theorem o779 : decode method_3_code 79 = .ok (.bipush 101, 2) := by decide +kernel
theorem o780 : decode method_3_code 81 = .ok (.castore, 1) := by decide +kernel
theorem o781 : decode method_3_code 82 = .ok (.dup, 1) := by decide +kernel
theorem o782 : decode method_3_code 83 = .ok (.iconst 2, 1) := by decide +kernel
theorem o783 : decode method_3_code 84 = .ok (.bipush 97, 2) := by decide +kernel
theorem o784 : decode method_3_code 86 = .ok (.castore, 1) := by decide +kernel
theorem o785 : decode method_3_code 87 = .ok (.dup, 1) := by decide +kernel
theorem o786 : decode method_3_code 88 = .ok (.iconst 3, 1) := by decide +kernel
theorem o787 : decode method_3_code 89 = .ok (.bipush 110, 2) := by decide +kernel
theorem o788 : decode method_3_code 91 = .ok (.castore, 1) := by decide +kernel
theorem o789 : decode method_3_code 92 = .ok (.dup, 1) := by decide +kernel
theorem o790 : decode method_3_code 93 = .ok (.iconst 4, 1) := by decide +kernel
theorem o791 : decode method_3_code 94 = .ok (.bipush 32, 2) := by decide +kernel
theorem o792 : decode method_3_code 96 = .ok (.castore, 1) := by decide +kernel
theorem o793 : decode method_3_code 97 = .ok (.dup, 1) := by decide +kernel
theorem o794 : decode method_3_code 98 = .ok (.iconst 5, 1) := by decide +kernel
theorem o795 : decode method_3_code 99 = .ok (.bipush 39, 2) := by decide +kernel
theorem o561 : decode method_3_code 101 = .ok (.castore, 1) := by decide +kernel
theorem o562 : decode method_3_code 102 = .ok (.dup, 1) := by decide +kernel
theorem o563 : decode method_3_code 103 = .ok (.bipush 6, 2) := by decide +kernel
theorem o564 : decode method_3_code 105 = .ok (.iload_n 3, 1) := by decide +kernel
theorem o565 : decode method_3_code 106 = .ok (.castore, 1) := by decide +kernel
theorem o566 : decode method_3_code 107 = .ok (.dup, 1) := by decide +kernel
theorem o567 : decode method_3_code 108 = .ok (.bipush 7, 2) := by decide +kernel
theorem o568 : decode method_3_code 110 = .ok (.bipush 39, 2) := by decide +kernel
theorem o569 : decode method_3_code 112 = .ok (.castore, 1) := by decide +kernel
theorem o570 : decode method_3_code 113 = .ok (.invokespecial 32, 3) := by decide +kernel
theorem o971 (hw : o35 a0 Z) (hS : o64 Z wcs) (ad0 ad1 : Addr) (kc2 : ClassId) (iv3 : Int32) (kc4 : ClassId) (h0 : Heap) (n0 : Nat) (O0 : Old Z n0 h0) (pe1 : Exa Z h0 ad0 "[C") (pa2 : Arv Z h0 ad0 kc2 .char 8 [.int 98, .int 101, .int 97, .int 110, .int 32, .int 39, .int iv3, .int 39] (.int 0)) (pe3 : Exa Z h0 ad1 "[B") (pa4 : Arv Z h0 ad1 kc4 .byte 8 [.int 0, .int 0, .int 0, .int 0, .int 0, .int 0, .int 0, .int 0] (.int 0)) (pk5 : ¬ (255 : Int32) < iv3) (pg_ad1 : n0 ≤ ad1) :
    o21 l o314 jdk_52_method_21_code 7 (some .int) ws ⟨0, 0, 0, 0⟩ Z h0 #[.ref ad0, .int 0, .ref ad1, .int 0, .int 8] (fun v h L => v = some (.int 8) ∧ Fr n0 L ∧ Keep h0 h [ad1] ∧ Exa Z h ad1 "[B" ∧ Arv Z h ad1 kc4 .byte 8 [.int 98, .int 101, .int 97, .int 110, .int 32, .int 39, (.int (iv3.toInt8.toInt32)), .int 39] (.int 0)) := by
  refine o18 (plainFor_of_name o177) ?_
  intro p e s m below meth c s₁ hx hby hml hown hnm hret hlk hZ e0 X0
  have N0 := Fr.nil n0
  refine o4 (fun u j => castTop (show entryFrame m #[.ref ad0, .int 0, .ref ad1, .int 0, .int 8] 7 = mkF m 0 #[o1 ad0, o0 0, o1 ad1, o0 0, o0 8, o5, o5] [] from rfl) j) ?_
  refine o4 (fun u j => o16 X0.here hx rfl (hb hby o280) (o20 X0.here hx rfl (hb hby o281) rfl (l' := #[o1 ad0, o0 0, o1 ad1, o0 0, o0 8, o0 0, o5]) rfl (o8 X0.here hx rfl (hb hby o28) rfl (o8 X0.here hx rfl (hb hby o29) rfl (o14 X0.here hx rfl (hb hby o30) rfl (o19 (by decide)) (o3 X0.here hx rfl (hb hby o36) rfl rfl j)))))) ?_
  show o11 p e below _ (s₁.setTop (mkF m 11 #[o1 ad0, o0 0, o1 ad1, o0 0, o0 8, o0 0, o5] [.ref ad0]))
  refine o4 (fun u j => o6 X0.here hx rfl (hb hby o37) rfl (o104 X0 hx hZ e0 pa2 (j := 0) (v := (.int 98)) (by decide) rfl rfl rfl (hb hby o38) (o20 X0.here hx rfl (hb hby o39) rfl (l' := #[o1 ad0, o0 0, o1 ad1, o0 0, o0 8, o0 0, o0 98]) rfl (o8 X0.here hx rfl (hb hby o40) rfl (o33 X0.here hx rfl (hb hby o41) (o13 X0.here hx rfl (pc0 := 20) (pc' := 26) rfl (hb hby o42) rfl (o73 (by decide)) (by decide) (by decide) j)))))) ?_
  show o11 p e below _ (s₁.setTop (mkF m 26 #[o1 ad0, o0 0, o1 ad1, o0 0, o0 8, o0 0, o0 98] []))
  refine o4 (fun u j => o3 X0.here hx rfl (hb hby o43) rfl rfl (o6 X0.here hx rfl (hb hby o44) rfl (o8 X0.here hx rfl (hb hby o45) rfl (o79 X0.here hx rfl (hb hby o46) rfl j)))) ?_
  refine o32 (o101 X0 hx hZ e0 pa4 (j := 0) (by decide) rfl rfl (hb hby o47)) ?_
  intro T2149 h2149 X2149 e2149 W2149
  replace W2149 : Wr h0 h2149 ad1 ((0 : Int32)).toNatClampNeg (.int 98) := W2149
  have N2149 := Fr.snoc X2149 N0 pg_ad1
  have V2149 : Arv Z h2149 ad1 kc4 .byte 8 [.int 98, .int 0, .int 0, .int 0, .int 0, .int 0, .int 0, .int 0] (.int 0) := o74 pa4 rfl W2149 0 rfl (Nat.le_of_ble_eq_true rfl)
  refine o4 (fun u j => o12 X2149.here hx rfl (hb hby o48) rfl (l' := #[o1 ad0, o0 1, o1 ad1, o0 0, o0 8, o0 0, o0 98]) rfl (o12 X2149.here hx rfl (hb hby o49) rfl (l' := #[o1 ad0, o0 1, o1 ad1, o0 1, o0 8, o0 0, o0 98]) rfl (o12 X2149.here hx rfl (hb hby o50) rfl (l' := #[o1 ad0, o0 1, o1 ad1, o0 1, o0 8, o0 1, o0 98]) rfl (o15 X2149.here hx rfl (pc0 := 41) (pc' := 3) rfl (hb hby o51) (by decide) (by decide) (o8 X2149.here hx rfl (hb hby o28) rfl (o8 X2149.here hx rfl (hb hby o29) rfl j)))))) ?_
  show o11 p e below _ (T2149.setTop (mkF m 7 #[o1 ad0, o0 1, o1 ad1, o0 1, o0 8, o0 1, o0 98] [.int 8, .int 1]))
  refine o4 (fun u j => o14 X2149.here hx rfl (hb hby o30) rfl (o19 (by decide)) (o3 X2149.here hx rfl (hb hby o36) rfl rfl (o6 X2149.here hx rfl (hb hby o37) rfl j))) ?_
  have ne2150 := (ne_exa pe1 pe3 o501)
  have F2151 := (pa2.other W2149 ne2150)
  refine o4 (fun u j => o104 X2149 hx hZ e2149 F2151 (j := 1) (v := (.int 101)) (by decide) rfl rfl rfl (hb hby o38) (o20 X2149.here hx rfl (hb hby o39) rfl (l' := #[o1 ad0, o0 1, o1 ad1, o0 1, o0 8, o0 1, o0 101]) rfl (o8 X2149.here hx rfl (hb hby o40) rfl j))) ?_
  show o11 p e below _ (T2149.setTop (mkF m 17 #[o1 ad0, o0 1, o1 ad1, o0 1, o0 8, o0 1, o0 101] [.int 101]))
  refine o4 (fun u j => o33 X2149.here hx rfl (hb hby o41) (o13 X2149.here hx rfl (pc0 := 20) (pc' := 26) rfl (hb hby o42) rfl (o73 (by decide)) (by decide) (by decide) (o3 X2149.here hx rfl (hb hby o43) rfl rfl (o6 X2149.here hx rfl (hb hby o44) rfl (o8 X2149.here hx rfl (hb hby o45) rfl (o79 X2149.here hx rfl (hb hby o46) rfl j)))))) ?_
  show o11 p e below _ (T2149.setTop (mkF m 31 #[o1 ad0, o0 1, o1 ad1, o0 1, o0 8, o0 1, o0 101] [.int 101, .int 1, .ref ad1]))
  refine o32 (o101 X2149 hx hZ e2149 V2149 (j := 1) (by decide) rfl rfl (hb hby o47)) ?_
  intro T2152 h2152 X2152 e2152 W2152
  replace W2152 : Wr h2149 h2152 ad1 ((1 : Int32)).toNatClampNeg (.int 101) := W2152
  have N2152 := Fr.snoc X2152 N2149 pg_ad1
  have V2152 : Arv Z h2152 ad1 kc4 .byte 8 [.int 98, .int 101, .int 0, .int 0, .int 0, .int 0, .int 0, .int 0] (.int 0) := o74 V2149 rfl W2152 1 rfl (Nat.le_of_ble_eq_true rfl)
  refine o4 (fun u j => o12 X2152.here hx rfl (hb hby o48) rfl (l' := #[o1 ad0, o0 2, o1 ad1, o0 1, o0 8, o0 1, o0 101]) rfl (o12 X2152.here hx rfl (hb hby o49) rfl (l' := #[o1 ad0, o0 2, o1 ad1, o0 2, o0 8, o0 1, o0 101]) rfl (o12 X2152.here hx rfl (hb hby o50) rfl (l' := #[o1 ad0, o0 2, o1 ad1, o0 2, o0 8, o0 2, o0 101]) rfl (o15 X2152.here hx rfl (pc0 := 41) (pc' := 3) rfl (hb hby o51) (by decide) (by decide) (o8 X2152.here hx rfl (hb hby o28) rfl (o8 X2152.here hx rfl (hb hby o29) rfl j)))))) ?_
  show o11 p e below _ (T2152.setTop (mkF m 7 #[o1 ad0, o0 2, o1 ad1, o0 2, o0 8, o0 2, o0 101] [.int 8, .int 2]))
  refine o4 (fun u j => o14 X2152.here hx rfl (hb hby o30) rfl (o19 (by decide)) (o3 X2152.here hx rfl (hb hby o36) rfl rfl (o6 X2152.here hx rfl (hb hby o37) rfl j))) ?_
  have F2153 := (F2151.other W2152 ne2150)
  refine o4 (fun u j => o104 X2152 hx hZ e2152 F2153 (j := 2) (v := (.int 97)) (by decide) rfl rfl rfl (hb hby o38) (o20 X2152.here hx rfl (hb hby o39) rfl (l' := #[o1 ad0, o0 2, o1 ad1, o0 2, o0 8, o0 2, o0 97]) rfl (o8 X2152.here hx rfl (hb hby o40) rfl j))) ?_
  show o11 p e below _ (T2152.setTop (mkF m 17 #[o1 ad0, o0 2, o1 ad1, o0 2, o0 8, o0 2, o0 97] [.int 97]))
  refine o4 (fun u j => o33 X2152.here hx rfl (hb hby o41) (o13 X2152.here hx rfl (pc0 := 20) (pc' := 26) rfl (hb hby o42) rfl (o73 (by decide)) (by decide) (by decide) (o3 X2152.here hx rfl (hb hby o43) rfl rfl (o6 X2152.here hx rfl (hb hby o44) rfl (o8 X2152.here hx rfl (hb hby o45) rfl (o79 X2152.here hx rfl (hb hby o46) rfl j)))))) ?_
  show o11 p e below _ (T2152.setTop (mkF m 31 #[o1 ad0, o0 2, o1 ad1, o0 2, o0 8, o0 2, o0 97] [.int 97, .int 2, .ref ad1]))
  refine o32 (o101 X2152 hx hZ e2152 V2152 (j := 2) (by decide) rfl rfl (hb hby o47)) ?_
  intro T2154 h2154 X2154 e2154 W2154
  replace W2154 : Wr h2152 h2154 ad1 ((2 : Int32)).toNatClampNeg (.int 97) := W2154
  have N2154 := Fr.snoc X2154 N2152 pg_ad1
  have V2154 : Arv Z h2154 ad1 kc4 .byte 8 [.int 98, .int 101, .int 97, .int 0, .int 0, .int 0, .int 0, .int 0] (.int 0) := o74 V2152 rfl W2154 2 rfl (Nat.le_of_ble_eq_true rfl)
  refine o4 (fun u j => o12 X2154.here hx rfl (hb hby o48) rfl (l' := #[o1 ad0, o0 3, o1 ad1, o0 2, o0 8, o0 2, o0 97]) rfl (o12 X2154.here hx rfl (hb hby o49) rfl (l' := #[o1 ad0, o0 3, o1 ad1, o0 3, o0 8, o0 2, o0 97]) rfl (o12 X2154.here hx rfl (hb hby o50) rfl (l' := #[o1 ad0, o0 3, o1 ad1, o0 3, o0 8, o0 3, o0 97]) rfl (o15 X2154.here hx rfl (pc0 := 41) (pc' := 3) rfl (hb hby o51) (by decide) (by decide) (o8 X2154.here hx rfl (hb hby o28) rfl (o8 X2154.here hx rfl (hb hby o29) rfl j)))))) ?_
  show o11 p e below _ (T2154.setTop (mkF m 7 #[o1 ad0, o0 3, o1 ad1, o0 3, o0 8, o0 3, o0 97] [.int 8, .int 3]))
  refine o4 (fun u j => o14 X2154.here hx rfl (hb hby o30) rfl (o19 (by decide)) (o3 X2154.here hx rfl (hb hby o36) rfl rfl (o6 X2154.here hx rfl (hb hby o37) rfl j))) ?_
  have F2155 := (F2153.other W2154 ne2150)
  refine o4 (fun u j => o104 X2154 hx hZ e2154 F2155 (j := 3) (v := (.int 110)) (by decide) rfl rfl rfl (hb hby o38) (o20 X2154.here hx rfl (hb hby o39) rfl (l' := #[o1 ad0, o0 3, o1 ad1, o0 3, o0 8, o0 3, o0 110]) rfl (o8 X2154.here hx rfl (hb hby o40) rfl j))) ?_
  show o11 p e below _ (T2154.setTop (mkF m 17 #[o1 ad0, o0 3, o1 ad1, o0 3, o0 8, o0 3, o0 110] [.int 110]))
  refine o4 (fun u j => o33 X2154.here hx rfl (hb hby o41) (o13 X2154.here hx rfl (pc0 := 20) (pc' := 26) rfl (hb hby o42) rfl (o73 (by decide)) (by decide) (by decide) (o3 X2154.here hx rfl (hb hby o43) rfl rfl (o6 X2154.here hx rfl (hb hby o44) rfl (o8 X2154.here hx rfl (hb hby o45) rfl (o79 X2154.here hx rfl (hb hby o46) rfl j)))))) ?_
  show o11 p e below _ (T2154.setTop (mkF m 31 #[o1 ad0, o0 3, o1 ad1, o0 3, o0 8, o0 3, o0 110] [.int 110, .int 3, .ref ad1]))
  refine o32 (o101 X2154 hx hZ e2154 V2154 (j := 3) (by decide) rfl rfl (hb hby o47)) ?_
  intro T2156 h2156 X2156 e2156 W2156
  replace W2156 : Wr h2154 h2156 ad1 ((3 : Int32)).toNatClampNeg (.int 110) := W2156
  have N2156 := Fr.snoc X2156 N2154 pg_ad1
  have V2156 : Arv Z h2156 ad1 kc4 .byte 8 [.int 98, .int 101, .int 97, .int 110, .int 0, .int 0, .int 0, .int 0] (.int 0) := o74 V2154 rfl W2156 3 rfl (Nat.le_of_ble_eq_true rfl)
  refine o4 (fun u j => o12 X2156.here hx rfl (hb hby o48) rfl (l' := #[o1 ad0, o0 4, o1 ad1, o0 3, o0 8, o0 3, o0 110]) rfl (o12 X2156.here hx rfl (hb hby o49) rfl (l' := #[o1 ad0, o0 4, o1 ad1, o0 4, o0 8, o0 3, o0 110]) rfl (o12 X2156.here hx rfl (hb hby o50) rfl (l' := #[o1 ad0, o0 4, o1 ad1, o0 4, o0 8, o0 4, o0 110]) rfl (o15 X2156.here hx rfl (pc0 := 41) (pc' := 3) rfl (hb hby o51) (by decide) (by decide) (o8 X2156.here hx rfl (hb hby o28) rfl (o8 X2156.here hx rfl (hb hby o29) rfl j)))))) ?_
  show o11 p e below _ (T2156.setTop (mkF m 7 #[o1 ad0, o0 4, o1 ad1, o0 4, o0 8, o0 4, o0 110] [.int 8, .int 4]))
  refine o4 (fun u j => o14 X2156.here hx rfl (hb hby o30) rfl (o19 (by decide)) (o3 X2156.here hx rfl (hb hby o36) rfl rfl (o6 X2156.here hx rfl (hb hby o37) rfl j))) ?_
  have F2157 := (F2155.other W2156 ne2150)
  refine o4 (fun u j => o104 X2156 hx hZ e2156 F2157 (j := 4) (v := (.int 32)) (by decide) rfl rfl rfl (hb hby o38) (o20 X2156.here hx rfl (hb hby o39) rfl (l' := #[o1 ad0, o0 4, o1 ad1, o0 4, o0 8, o0 4, o0 32]) rfl (o8 X2156.here hx rfl (hb hby o40) rfl j))) ?_
  show o11 p e below _ (T2156.setTop (mkF m 17 #[o1 ad0, o0 4, o1 ad1, o0 4, o0 8, o0 4, o0 32] [.int 32]))
  refine o4 (fun u j => o33 X2156.here hx rfl (hb hby o41) (o13 X2156.here hx rfl (pc0 := 20) (pc' := 26) rfl (hb hby o42) rfl (o73 (by decide)) (by decide) (by decide) (o3 X2156.here hx rfl (hb hby o43) rfl rfl (o6 X2156.here hx rfl (hb hby o44) rfl (o8 X2156.here hx rfl (hb hby o45) rfl (o79 X2156.here hx rfl (hb hby o46) rfl j)))))) ?_
  show o11 p e below _ (T2156.setTop (mkF m 31 #[o1 ad0, o0 4, o1 ad1, o0 4, o0 8, o0 4, o0 32] [.int 32, .int 4, .ref ad1]))
  refine o32 (o101 X2156 hx hZ e2156 V2156 (j := 4) (by decide) rfl rfl (hb hby o47)) ?_
  intro T2158 h2158 X2158 e2158 W2158
  replace W2158 : Wr h2156 h2158 ad1 ((4 : Int32)).toNatClampNeg (.int 32) := W2158
  have N2158 := Fr.snoc X2158 N2156 pg_ad1
  have V2158 : Arv Z h2158 ad1 kc4 .byte 8 [.int 98, .int 101, .int 97, .int 110, .int 32, .int 0, .int 0, .int 0] (.int 0) := o74 V2156 rfl W2158 4 rfl (Nat.le_of_ble_eq_true rfl)
  refine o4 (fun u j => o12 X2158.here hx rfl (hb hby o48) rfl (l' := #[o1 ad0, o0 5, o1 ad1, o0 4, o0 8, o0 4, o0 32]) rfl (o12 X2158.here hx rfl (hb hby o49) rfl (l' := #[o1 ad0, o0 5, o1 ad1, o0 5, o0 8, o0 4, o0 32]) rfl (o12 X2158.here hx rfl (hb hby o50) rfl (l' := #[o1 ad0, o0 5, o1 ad1, o0 5, o0 8, o0 5, o0 32]) rfl (o15 X2158.here hx rfl (pc0 := 41) (pc' := 3) rfl (hb hby o51) (by decide) (by decide) (o8 X2158.here hx rfl (hb hby o28) rfl (o8 X2158.here hx rfl (hb hby o29) rfl j)))))) ?_
  show o11 p e below _ (T2158.setTop (mkF m 7 #[o1 ad0, o0 5, o1 ad1, o0 5, o0 8, o0 5, o0 32] [.int 8, .int 5]))
  refine o4 (fun u j => o14 X2158.here hx rfl (hb hby o30) rfl (o19 (by decide)) (o3 X2158.here hx rfl (hb hby o36) rfl rfl (o6 X2158.here hx rfl (hb hby o37) rfl j))) ?_
  have F2159 := (F2157.other W2158 ne2150)
  refine o4 (fun u j => o104 X2158 hx hZ e2158 F2159 (j := 5) (v := (.int 39)) (by decide) rfl rfl rfl (hb hby o38) (o20 X2158.here hx rfl (hb hby o39) rfl (l' := #[o1 ad0, o0 5, o1 ad1, o0 5, o0 8, o0 5, o0 39]) rfl (o8 X2158.here hx rfl (hb hby o40) rfl j))) ?_
  show o11 p e below _ (T2158.setTop (mkF m 17 #[o1 ad0, o0 5, o1 ad1, o0 5, o0 8, o0 5, o0 39] [.int 39]))
  refine o4 (fun u j => o33 X2158.here hx rfl (hb hby o41) (o13 X2158.here hx rfl (pc0 := 20) (pc' := 26) rfl (hb hby o42) rfl (o73 (by decide)) (by decide) (by decide) (o3 X2158.here hx rfl (hb hby o43) rfl rfl (o6 X2158.here hx rfl (hb hby o44) rfl (o8 X2158.here hx rfl (hb hby o45) rfl (o79 X2158.here hx rfl (hb hby o46) rfl j)))))) ?_
  show o11 p e below _ (T2158.setTop (mkF m 31 #[o1 ad0, o0 5, o1 ad1, o0 5, o0 8, o0 5, o0 39] [.int 39, .int 5, .ref ad1]))
  refine o32 (o101 X2158 hx hZ e2158 V2158 (j := 5) (by decide) rfl rfl (hb hby o47)) ?_
  intro T2160 h2160 X2160 e2160 W2160
  replace W2160 : Wr h2158 h2160 ad1 ((5 : Int32)).toNatClampNeg (.int 39) := W2160
  have N2160 := Fr.snoc X2160 N2158 pg_ad1
  have V2160 : Arv Z h2160 ad1 kc4 .byte 8 [.int 98, .int 101, .int 97, .int 110, .int 32, .int 39, .int 0, .int 0] (.int 0) := o74 V2158 rfl W2160 5 rfl (Nat.le_of_ble_eq_true rfl)
  refine o4 (fun u j => o12 X2160.here hx rfl (hb hby o48) rfl (l' := #[o1 ad0, o0 6, o1 ad1, o0 5, o0 8, o0 5, o0 39]) rfl (o12 X2160.here hx rfl (hb hby o49) rfl (l' := #[o1 ad0, o0 6, o1 ad1, o0 6, o0 8, o0 5, o0 39]) rfl (o12 X2160.here hx rfl (hb hby o50) rfl (l' := #[o1 ad0, o0 6, o1 ad1, o0 6, o0 8, o0 6, o0 39]) rfl (o15 X2160.here hx rfl (pc0 := 41) (pc' := 3) rfl (hb hby o51) (by decide) (by decide) (o8 X2160.here hx rfl (hb hby o28) rfl (o8 X2160.here hx rfl (hb hby o29) rfl j)))))) ?_
  show o11 p e below _ (T2160.setTop (mkF m 7 #[o1 ad0, o0 6, o1 ad1, o0 6, o0 8, o0 6, o0 39] [.int 8, .int 6]))
  refine o4 (fun u j => o14 X2160.here hx rfl (hb hby o30) rfl (o19 (by decide)) (o3 X2160.here hx rfl (hb hby o36) rfl rfl (o6 X2160.here hx rfl (hb hby o37) rfl j))) ?_
  have F2161 := (F2159.other W2160 ne2150)
  refine o4 (fun u j => o104 X2160 hx hZ e2160 F2161 (j := 6) (v := (.int iv3)) (by decide) rfl rfl rfl (hb hby o38) (o20 X2160.here hx rfl (hb hby o39) rfl (l' := #[o1 ad0, o0 6, o1 ad1, o0 6, o0 8, o0 6, o0 iv3]) rfl (o8 X2160.here hx rfl (hb hby o40) rfl j))) ?_
  show o11 p e below _ (T2160.setTop (mkF m 17 #[o1 ad0, o0 6, o1 ad1, o0 6, o0 8, o0 6, o0 iv3] [.int iv3]))
  refine o4 (fun u j => o33 X2160.here hx rfl (hb hby o41) (o13 X2160.here hx rfl (pc0 := 20) (pc' := 26) rfl (hb hby o42) rfl (o73 pk5) (by decide) (by decide) (o3 X2160.here hx rfl (hb hby o43) rfl rfl (o6 X2160.here hx rfl (hb hby o44) rfl (o8 X2160.here hx rfl (hb hby o45) rfl (o79 X2160.here hx rfl (hb hby o46) rfl j)))))) ?_
  show o11 p e below _ (T2160.setTop (mkF m 31 #[o1 ad0, o0 6, o1 ad1, o0 6, o0 8, o0 6, o0 iv3] [(.int (iv3.toInt8.toInt32)), .int 6, .ref ad1]))
  refine o32 (o101 X2160 hx hZ e2160 V2160 (j := 6) (by decide) rfl rfl (hb hby o47)) ?_
  intro T2162 h2162 X2162 e2162 W2162
  rw [o426] at W2162
  have N2162 := Fr.snoc X2162 N2160 pg_ad1
  have V2162 : Arv Z h2162 ad1 kc4 .byte 8 [.int 98, .int 101, .int 97, .int 110, .int 32, .int 39, (.int (iv3.toInt8.toInt32)), .int 0] (.int 0) := o74 V2160 (fits_nar_byte _) W2162 6 rfl (Nat.le_of_ble_eq_true rfl)
  refine o4 (fun u j => o12 X2162.here hx rfl (hb hby o48) rfl (l' := #[o1 ad0, o0 7, o1 ad1, o0 6, o0 8, o0 6, o0 iv3]) rfl (o12 X2162.here hx rfl (hb hby o49) rfl (l' := #[o1 ad0, o0 7, o1 ad1, o0 7, o0 8, o0 6, o0 iv3]) rfl (o12 X2162.here hx rfl (hb hby o50) rfl (l' := #[o1 ad0, o0 7, o1 ad1, o0 7, o0 8, o0 7, o0 iv3]) rfl (o15 X2162.here hx rfl (pc0 := 41) (pc' := 3) rfl (hb hby o51) (by decide) (by decide) (o8 X2162.here hx rfl (hb hby o28) rfl (o8 X2162.here hx rfl (hb hby o29) rfl j)))))) ?_
  show o11 p e below _ (T2162.setTop (mkF m 7 #[o1 ad0, o0 7, o1 ad1, o0 7, o0 8, o0 7, o0 iv3] [.int 8, .int 7]))
  refine o4 (fun u j => o14 X2162.here hx rfl (hb hby o30) rfl (o19 (by decide)) (o3 X2162.here hx rfl (hb hby o36) rfl rfl (o6 X2162.here hx rfl (hb hby o37) rfl j))) ?_
  have F2163 := (F2161.other W2162 ne2150)
  refine o4 (fun u j => o104 X2162 hx hZ e2162 F2163 (j := 7) (v := (.int 39)) (by decide) rfl rfl rfl (hb hby o38) (o20 X2162.here hx rfl (hb hby o39) rfl (l' := #[o1 ad0, o0 7, o1 ad1, o0 7, o0 8, o0 7, o0 39]) rfl (o8 X2162.here hx rfl (hb hby o40) rfl j))) ?_
  show o11 p e below _ (T2162.setTop (mkF m 17 #[o1 ad0, o0 7, o1 ad1, o0 7, o0 8, o0 7, o0 39] [.int 39]))
  refine o4 (fun u j => o33 X2162.here hx rfl (hb hby o41) (o13 X2162.here hx rfl (pc0 := 20) (pc' := 26) rfl (hb hby o42) rfl (o73 (by decide)) (by decide) (by decide) (o3 X2162.here hx rfl (hb hby o43) rfl rfl (o6 X2162.here hx rfl (hb hby o44) rfl (o8 X2162.here hx rfl (hb hby o45) rfl (o79 X2162.here hx rfl (hb hby o46) rfl j)))))) ?_
  show o11 p e below _ (T2162.setTop (mkF m 31 #[o1 ad0, o0 7, o1 ad1, o0 7, o0 8, o0 7, o0 39] [.int 39, .int 7, .ref ad1]))
  refine o32 (o101 X2162 hx hZ e2162 V2162 (j := 7) (by decide) rfl rfl (hb hby o47)) ?_
  intro T2164 h2164 X2164 e2164 W2164
  replace W2164 : Wr h2162 h2164 ad1 ((7 : Int32)).toNatClampNeg (.int 39) := W2164
  have N2164 := Fr.snoc X2164 N2162 pg_ad1
  have V2164 : Arv Z h2164 ad1 kc4 .byte 8 [.int 98, .int 101, .int 97, .int 110, .int 32, .int 39, (.int (iv3.toInt8.toInt32)), .int 39] (.int 0) := o74 V2162 rfl W2164 7 rfl (Nat.le_of_ble_eq_true rfl)
  refine o4 (fun u j => o12 X2164.here hx rfl (hb hby o48) rfl (l' := #[o1 ad0, o0 8, o1 ad1, o0 7, o0 8, o0 7, o0 39]) rfl (o12 X2164.here hx rfl (hb hby o49) rfl (l' := #[o1 ad0, o0 8, o1 ad1, o0 8, o0 8, o0 7, o0 39]) rfl (o12 X2164.here hx rfl (hb hby o50) rfl (l' := #[o1 ad0, o0 8, o1 ad1, o0 8, o0 8, o0 8, o0 39]) rfl (o15 X2164.here hx rfl (pc0 := 41) (pc' := 3) rfl (hb hby o51) (by decide) (by decide) (o8 X2164.here hx rfl (hb hby o28) rfl (o8 X2164.here hx rfl (hb hby o29) rfl j)))))) ?_
  show o11 p e below _ (T2164.setTop (mkF m 7 #[o1 ad0, o0 8, o1 ad1, o0 8, o0 8, o0 8, o0 39] [.int 8, .int 8]))
  refine o4 (fun u j => o13 X2164.here hx rfl (pc0 := 7) (pc' := 44) rfl (hb hby o30) rfl (o175 (by decide)) (by decide) (by decide) (o8 X2164.here hx rfl (hb hby o229) rfl j)) ?_
  have K2165 := (Keep.refl h0 [ad1]).wr W2149 (Or.inl (List.mem_of_getElem? (i := 0) rfl))
  have K2166 := K2165.wr W2152 (Or.inl (List.mem_of_getElem? (i := 0) rfl))
  have K2167 := K2166.wr W2154 (Or.inl (List.mem_of_getElem? (i := 0) rfl))
  have K2168 := K2167.wr W2156 (Or.inl (List.mem_of_getElem? (i := 0) rfl))
  have K2169 := K2168.wr W2158 (Or.inl (List.mem_of_getElem? (i := 0) rfl))
  have K2170 := K2169.wr W2160 (Or.inl (List.mem_of_getElem? (i := 0) rfl))
  have K2171 := K2170.wr W2162 (Or.inl (List.mem_of_getElem? (i := 0) rfl))
  have K2172 := K2171.wr W2164 (Or.inl (List.mem_of_getElem? (i := 0) rfl))
  have F2173 := (Exa.wr W2164 (Exa.wr W2162 (Exa.wr W2160 (Exa.wr W2158 (Exa.wr W2156 (Exa.wr W2154 (Exa.wr W2152 (Exa.wr W2149 pe3))))))))
  exact o69 X2164 hx hlk hret rfl (Or.inl ⟨rfl, by simp, _, rfl⟩) (hb hby o230) (by decide) (by decide) (by rw [e2164]; exact ⟨rfl, N2164, K2172, F2173, V2164⟩)
theorem o972 (hw : o35 a0 Z) (hS : o64 Z wcs) (ad0 : Addr) (kc1 : ClassId) (iv2 : Int32) (h0 : Heap) (n0 : Nat) (O0 : Old Z n0 h0) (pe1 : Exa Z h0 ad0 "[C") (pa2 : Arv Z h0 ad0 kc1 .char 8 [.int 98, .int 101, .int 97, .int 110, .int 32, .int 39, .int iv2, .int 39] (.int 0)) (pk3 : ¬ (255 : Int32) < iv2) :
    o21 l o315 jdk_52_method_16_code 6 (some (.array .byte)) ws ⟨1, 1, 8, 18⟩ Z h0 #[.ref ad0, .int 0, .int 8] (fun v h L => ∃ nz0 : Addr, ∃ kz1 : ClassId, v = some (.ref nz0) ∧ Fr n0 L ∧ Keep h0 h [] ∧ h0.size ≤ nz0 ∧ Exa Z h nz0 "[B" ∧ Arv Z h nz0 kz1 .byte 8 [.int 98, .int 101, .int 97, .int 110, .int 32, .int 39, (.int (iv2.toInt8.toInt32)), .int 39] (.int 0)) := by
  refine o18 (plainFor_of_name o177) ?_
  intro p e s m below meth c s₁ hx hby hml hown hnm hret hlk hZ e0 X0
  have N0 := Fr.nil n0
  refine o4 (fun u j => castTop (show entryFrame m #[.ref ad0, .int 0, .int 8] 6 = mkF m 0 #[o1 ad0, o0 0, o0 8, o5, o5, o5] [] from rfl) j) ?_
  refine o4 (fun u j => o6 X0.here hx rfl (hb hby o271) rfl j) ?_
  have q_ := newPE X0 hx hZ (o2 hw 14 rfl) e0 (g := (mkF m 1 #[o1 ad0, o0 0, o0 8, o5, o5, o5] [.int 8])) rfl (hb hby o272) rfl (by decide) (cap := 8) (by decide) (by decide) (by decide) (by decide) (ad := "[B") o214
  obtain ⟨T2181, h2181, k2181, X2181, e2181, E2181, A2181, Y2181, st2181⟩ := q_
  have q_ : ∃ z, z = h0.size := ⟨_, rfl⟩
  obtain ⟨b2181, g2181⟩ := q_
  rw [← g2181] at A2181 Y2181 st2181
  have V2181 : Arv Z h2181 b2181 k2181 .byte 8 [.int 0, .int 0, .int 0, .int 0, .int 0, .int 0, .int 0, .int 0] (.int 0) := (Arv.new A2181 (by decide)).pad (pad_rep [] (.int 0) 8)
  refine o4 (fun u j => st2181 u j) ?_
  refine o4 (fun u j => o84 X2181.here hx rfl (hb hby o273) rfl rfl (l' := #[o1 ad0, o0 0, o0 8, o1 b2181, o5, o5]) rfl (o3 X2181.here hx rfl (hb hby o274) rfl rfl (o6 X2181.here hx rfl (hb hby o275) rfl (o3 X2181.here hx rfl (hb hby o276) rfl rfl (o16 X2181.here hx rfl (hb hby o277) (o6 X2181.here hx rfl (hb hby o278) rfl j)))))) ?_
  show o11 p e below _ (T2181.setTop (mkF m 9 #[o1 ad0, o0 0, o0 8, o1 b2181, o5, o5] [.int 8, .int 0, .ref b2181, .int 0, .ref ad0]))
  have F2182 := (Exa.ext E2181 pe1)
  have F2183 := (pa2.ext E2181)
  have g2184 := Nat.le_trans (o103 O0) (Nat.le_of_eq g2181.symm)
  have O2186 := O0.ext E2181
  refine o17 (o78 X2181 hx hZ (y := o314) hown (o2 hw 65 rfl) (o2 hw 66 rfl) (o2 hw 63 rfl) (o2 hw 67 rfl) o178 (o971 hw hS ad0 b2181 kc1 iv2 k2181 h2181 n0 O2186 F2182 F2183 Y2181 V2181 pk3 g2184) e2181 o434 (argsL := [.ref ad0, .int 0, .ref b2181, .int 0, .int 8]) (rest := []) rfl rfl (g := (mkF m 9 #[o1 ad0, o0 0, o0 8, o1 b2181, o5, o5] [.int 8, .int 0, .ref b2181, .int 0, .ref ad0])) rfl (by rw [hml]; rfl) rfl (hb hby o279) (W := 0) rfl) ?_
  intro T2185 v2185 L2185 X2185 hQ2185
  obtain ⟨rfl, M2185, K2185, F2187, F2188⟩ := hQ2185
  have N2185 := Fr.app N0 M2185
  refine o4 (fun u j => o20 X2185.here hx rfl (hb hby o231) rfl (l' := #[o1 ad0, o0 0, o0 8, o1 b2181, o0 8, o5]) rfl (o8 X2185.here hx rfl (hb hby o232) rfl (o6 X2185.here hx rfl (hb hby o233) rfl (o13 X2185.here hx rfl (pc0 := 17) (pc' := 57) rfl (hb hby o234) rfl (o66 (by decide)) (by decide) (by decide) (o3 X2185.here hx rfl (hb hby o235) rfl rfl j))))) ?_
  have K2189 := (Keep.refl h0 []).ext E2181
  have z2191 := Nat.le_trans (Nat.le_refl _) (Nat.le_of_eq g2181.symm)
  have K2190 := K2189.trans K2185 (allS (Or.inr z2191) all0)
  exact o69 X2185 hx hlk hret rfl (Or.inr (Or.inr (Or.inr (Or.inr ⟨rfl, rfl, rfl⟩)))) (hb hby o236) (by decide) (by decide) (by exact ⟨b2181, k2181, rfl, N2185, K2190, z2191, F2187, F2188⟩)
theorem o973 (hw : o35 a0 Z) (hS : o64 Z wcs) (ad0 : Addr) (kc1 : ClassId) (iv2 : Int32) (h0 : Heap) (n0 : Nat) (O0 : Old Z n0 h0) (pa2 : Arv Z h0 ad0 kc1 .byte 8 [.int 98, .int 101, .int 97, .int 110, .int 32, .int 39, .int iv2, .int 39] (.int 0)) :
    o21 l o316 jdk_52_method_15_code 2 (some .byte) ws ⟨0, 0, 0, 0⟩ Z h0 #[.ref ad0, .int 8] (fun v h L => v = some (.int 0) ∧ Fr n0 L ∧ h = h0) := by
  refine o18 (plainFor_of_name o177) ?_
  intro p e s m below meth c s₁ hx hby hml hown hnm hret hlk hZ e0 X0
  have N0 := Fr.nil n0
  refine o4 (fun u j => castTop (show entryFrame m #[.ref ad0, .int 8] 2 = mkF m 0 #[o1 ad0, o0 8] [] from rfl) j) ?_
  refine o4 (fun u j => o6 X0.here hx rfl (hb hby o282) rfl (o3 X0.here hx rfl (hb hby o283) rfl rfl (o75 X0 hx hZ e0 pa2 rfl rfl (hb hby o284) (XS.isub X0.here hx rfl (hb hby o285) rfl (o34 X0.here hx rfl (hb hby o286) (XS.iushr X0.here hx rfl (hb hby o287) rfl j)))))) ?_
  show o11 p e below _ (s₁.setTop (mkF m 7 #[o1 ad0, o0 8] [.int 0]))
  refine o4 (fun u j => o79 X0.here hx rfl (hb hby o288) rfl j) ?_
  exact o69 X0 hx hlk hret rfl (Or.inl ⟨rfl, by simp, _, rfl⟩) (hb hby o289) (by decide) (by decide) (by rw [e0]; exact ⟨rfl, N0, rfl⟩)
theorem o974 (hw : o35 a0 Z) (hS : o64 Z wcs) (ad0 ad1 : Addr) (kc2 : ClassId) (iv3 : Int32) (h0 : Heap) (n0 : Nat) (O0 : Old Z n0 h0) (pe1 : Exa Z h0 ad0 o7) (pf2 : Fld Z h0 ad0 o7 "coder" "B" (.int 0)) (pf3 : Fld Z h0 ad0 o7 "value" "[B" .null) (pe4 : Exa Z h0 ad1 "[C") (pa5 : Arv Z h0 ad1 kc2 .char 8 [.int 98, .int 101, .int 97, .int 110, .int 32, .int 39, .int iv3, .int 39] (.int 0)) (pk6 : ¬ (255 : Int32) < iv3) (pg_ad0 : n0 ≤ ad0) :
    o21 l o317 jdk_42_method_149_code 6 none ws ⟨2, 1, 8, 35⟩ Z h0 #[.ref ad0, .ref ad1, .int 0, .int 8, .null] (fun v h L => ∃ nz0 : Addr, ∃ kz1 : ClassId, v = none ∧ Fr n0 L ∧ Keep h0 h [ad0] ∧ h0.size ≤ nz0 ∧ Exa Z h ad0 o7 ∧ Fld Z h ad0 o7 "coder" "B" (.int 0) ∧ Fld Z h ad0 o7 "value" "[B" (.ref nz0) ∧ Exa Z h nz0 "[B" ∧ Arv Z h nz0 kz1 .byte 8 [.int 98, .int 101, .int 97, .int 110, .int 32, .int 39, (.int (iv3.toInt8.toInt32)), .int 39] (.int 0)) := by
  refine o18 (plainFor_of_name o83) ?_
  intro p e s m below meth c s₁ hx hby hml hown hnm hret hlk hZ e0 X0
  have N0 := Fr.nil n0
  refine o4 (fun u j => castTop (show entryFrame m #[.ref ad0, .ref ad1, .int 0, .int 8, .null] 6 = mkF m 0 #[o1 ad0, o1 ad1, o0 0, o0 8, .val .null, o5] [] from rfl) j) ?_
  refine o4 (fun u j => o3 X0.here hx rfl (hb hby o225) rfl rfl j) ?_
  refine o22 (initO X0 hx hZ hown (o2 hw 19 rfl) (o2 hw 20 rfl) (o2 hw 21 rfl) e0 rfl (by rw [hml]; rfl) rfl (hb hby o226) (by decide) (W := 0) (by show 2 * 0 + _ ≤ _; exact Nat.le_of_eq rfl) (by decide)) ?_
  intro T2210 X2210 e2210
  refine o4 (fun u j => o6 X2210.here hx rfl (hb hby o227) rfl (o88 X2210.here hx rfl (pc0 := 5) (pc' := 27) rfl (hb hby o228) rfl (o164 (by decide)) (by decide) (by decide) j)) ?_
  have F2211 := Sta.ext O0.2 hS.1
  refine o22 (getS2 X2210 hx hZ hown (host := "") (Or.inl (o2 hw 4 rfl)) Via.refl e2210 F2211 rfl (hb hby o190)) ?_
  intro T2212 X2212 e2212
  refine o4 (fun u j => o68 X2212.here hx rfl (hb hby o191) rfl (o65 hS.2) (o3 X2212.here hx rfl (hb hby o192) rfl rfl (o6 X2212.here hx rfl (hb hby o193) rfl (o6 X2212.here hx rfl (hb hby o194) rfl j)))) ?_
  refine o17 (o78 X2212 hx hZ (y := o315) hown (o2 hw 61 rfl) (o2 hw 62 rfl) (o2 hw 63 rfl) (o2 hw 64 rfl) o178 (o972 hw hS ad1 kc2 iv3 h0 n0 O0 pe4 pa5 pk6) e2212 o435 (argsL := [.ref ad1, .int 0, .int 8]) (rest := []) rfl rfl (g := (mkF m 36 #[o1 ad0, o1 ad1, o0 0, o0 8, .val .null, o5] [.int 8, .int 0, .ref ad1])) rfl (by rw [hml]; rfl) rfl (hb hby o195) (W := 0) rfl) ?_
  intro T2213 v2213 L2213 X2213 hQ2213
  obtain ⟨nz0_2214, kz1_2215, rfl, M2213, K2213, z2216, F2217, F2218⟩ := hQ2213
  have N2213 := Fr.app N0 M2213
  refine o4 (fun u j => o76 X2213.here hx rfl (hb hby o196) rfl rfl (l' := #[o1 ad0, o1 ad1, o0 0, o0 8, .val .null, o1 nz0_2214]) rfl (o3 X2213.here hx rfl (hb hby o197) rfl rfl (o72 X2213.here hx rfl (hb hby o198) rfl rfl (o6 X2213.here hx rfl (hb hby o199) rfl j)))) ?_
  have O2220 := O0.keep K2213 all0
  refine o17 (o78 X2213 hx hZ (y := o316) hown (o2 hw 68 rfl) (o2 hw 69 rfl) (o2 hw 63 rfl) (o2 hw 70 rfl) o178 (o973 hw hS nz0_2214 kz1_2215 (iv3.toInt8.toInt32) T2213.heap n0 O2220 F2218) rfl o436 (argsL := [.ref nz0_2214, .int 8]) (rest := [.ref ad0]) rfl rfl (g := (mkF m 45 #[o1 ad0, o1 ad1, o0 0, o0 8, .val .null, o1 nz0_2214] [.int 8, .ref nz0_2214, .ref ad0])) rfl (by rw [hml]; rfl) rfl (hb hby o200) (W := 1) rfl) ?_
  intro T2219 v2219 L2219 X2219 hQ2219
  obtain ⟨rfl, M2219, e2219⟩ := hQ2219
  have N2219 := Fr.app N2213 M2219
  have F2221 := (pe1.keep K2213)
  have F2222 := (pf2.keep K2213 nin0)
  refine o32 (putF X2219 hx hZ hown (host := "") (Or.inl (o2 hw 24 rfl)) Via.refl e2219 F2222 F2221 (Or.inr ⟨(o2 hw 25 rfl), rfl, hnm⟩) (o2 hw 10 rfl) (ty := .byte) o92 rfl rfl rfl rfl (hb hby o201)) ?_
  intro T2223 h2223 X2223 e2223 W2223
  have N2223 := Fr.snoc X2223 N2219 pg_ad0
  have F2224 : Fld Z h2223 ad0 o7 "coder" "B" (.int 0) := Fld.same W2223 F2222
  refine o4 (fun u j => o3 X2223.here hx rfl (hb hby o202) rfl rfl (o72 X2223.here hx rfl (hb hby o203) rfl rfl j)) ?_
  have F2225 := (Exa.wr W2223 F2221)
  have F2226 := (Fld.other W2223 (pf3.keep K2213 nin0) (Or.inr (o310 hw)))
  refine o32 (putF X2223 hx hZ hown (host := "") (Or.inl (o2 hw 22 rfl)) Via.refl e2223 F2226 F2225 (Or.inr ⟨(o2 hw 23 rfl), rfl, hnm⟩) (o2 hw 10 rfl) (ty := (.array .byte)) o91 rfl rfl rfl rfl (hb hby o204)) ?_
  intro T2227 h2227 X2227 e2227 W2227
  have N2227 := Fr.snoc X2227 N2223 pg_ad0
  have F2228 : Fld Z h2227 ad0 o7 "value" "[B" (.ref nz0_2214) := Fld.same W2227 F2226
  have K2229 := (Keep.refl h0 [ad0]).trans K2213 all0
  have K2230 := K2229.wr W2223 (Or.inl (List.mem_of_getElem? (i := 0) rfl))
  have K2231 := K2230.wr W2227 (Or.inl (List.mem_of_getElem? (i := 0) rfl))
  have z2232 := Nat.le_trans (Nat.le_refl _) z2216
  have F2233 := (Exa.wr W2227 F2225)
  have F2234 := (Fld.other W2227 F2224 (Or.inr (o309 hw)))
  have F2235 := (Exa.wr W2227 (Exa.wr W2223 F2217))
  have ne2236 := (Ne.symm (Nat.ne_of_lt (Nat.lt_of_lt_of_le pe1.lt z2216)))
  have F2237 := ((F2218.other W2223 ne2236).other W2227 ne2236)
  exact o81 X2227 hx hlk hret (hb hby o205) (by decide) (by decide) (by rw [e2227]; exact ⟨nz0_2214, kz1_2215, rfl, N2227, K2231, z2232, F2233, F2234, F2228, F2235, F2237⟩)
theorem o975 (hw : o35 a0 Z) (hS : o64 Z wcs) (ad0 ad1 : Addr) (kc2 : ClassId) (iv3 : Int32) (h0 : Heap) (n0 : Nat) (O0 : Old Z n0 h0) (pe1 : Exa Z h0 ad0 o7) (pf2 : Fld Z h0 ad0 o7 "coder" "B" (.int 0)) (pf3 : Fld Z h0 ad0 o7 "value" "[B" .null) (pe4 : Exa Z h0 ad1 "[C") (pa5 : Arv Z h0 ad1 kc2 .char 8 [.int 98, .int 101, .int 97, .int 110, .int 32, .int 39, .int iv3, .int 39] (.int 0)) (pk6 : ¬ (255 : Int32) < iv3) (pg_ad0 : n0 ≤ ad0) :
    o21 l o318 jdk_42_method_3_code 2 none ws ⟨3, 1, 8, 52⟩ Z h0 #[.ref ad0, .ref ad1] (fun v h L => ∃ nz0 : Addr, ∃ kz1 : ClassId, v = none ∧ Fr n0 L ∧ Keep h0 h [ad0] ∧ h0.size ≤ nz0 ∧ Exa Z h ad0 o7 ∧ Fld Z h ad0 o7 "coder" "B" (.int 0) ∧ Fld Z h ad0 o7 "value" "[B" (.ref nz0) ∧ Exa Z h nz0 "[B" ∧ Arv Z h nz0 kz1 .byte 8 [.int 98, .int 101, .int 97, .int 110, .int 32, .int 39, (.int (iv3.toInt8.toInt32)), .int 39] (.int 0)) := by
  refine o18 (plainFor_of_name o83) ?_
  intro p e s m below meth c s₁ hx hby hml hown hnm hret hlk hZ e0 X0
  have N0 := Fr.nil n0
  refine o4 (fun u j => castTop (show entryFrame m #[.ref ad0, .ref ad1] 2 = mkF m 0 #[o1 ad0, o1 ad1] [] from rfl) j) ?_
  refine o4 (fun u j => o3 X0.here hx rfl (hb hby o324) rfl rfl (o3 X0.here hx rfl (hb hby o325) rfl rfl (o16 X0.here hx rfl (hb hby o326) (o3 X0.here hx rfl (hb hby o327) rfl rfl (o75 X0 hx hZ e0 pa5 rfl rfl (hb hby o328) (o99 X0.here hx rfl (hb hby o329) j)))))) ?_
  show o11 p e below _ (s₁.setTop (mkF m 6 #[o1 ad0, o1 ad1] [.null, .int 8, .int 0, .ref ad1, .ref ad0]))
  refine o17 (o87 X0 hx hZ (y := o317) rfl hown (o2 hw 58 rfl) (o2 hw 59 rfl) (o2 hw 2 rfl) (o2 hw 60 rfl) o67 (o974 hw hS ad0 ad1 kc2 iv3 h0 n0 O0 pe1 pf2 pf3 pe4 pa5 pk6 pg_ad0) e0 o437 (a := ad0) (argsL := [.ref ad1, .int 0, .int 8, .null]) (rest := []) rfl rfl (g := (mkF m 6 #[o1 ad0, o1 ad1] [.null, .int 8, .int 0, .ref ad1, .ref ad0])) rfl (by rw [hml]; rfl) rfl (hb hby o330) (W := 0) rfl) ?_
  intro T2248 v2248 L2248 X2248 hQ2248
  obtain ⟨nz0_2249, kz1_2250, rfl, M2248, K2248, z2251, F2252, F2253, F2254, F2255, F2256⟩ := hQ2248
  have N2248 := Fr.app N0 M2248
  have K2257 := (Keep.refl h0 [ad0]).trans K2248 (allS (Or.inl (List.mem_of_getElem? (i := 0) rfl)) all0)
  have z2258 := Nat.le_trans (Nat.le_refl _) z2251
  exact o81 X2248 hx hlk hret (hb hby o331) (by decide) (by decide) (by exact ⟨nz0_2249, kz1_2250, rfl, N2248, K2257, z2258, F2252, F2253, F2254, F2255, F2256⟩)
theorem o571 : decode method_3_code 116 = .ok (.areturn, 1) := by decide +kernel
theorem o976 (hw : o35 a0 Z) (hS : o64 Z wcs) (iv0 iv1 iv2 : Int32) (h0 : Heap) (n0 : Nat) (O0 : Old Z n0 h0) (pc1 : nar .char iv0 = iv0) (pk4 : ¬ (255 : Int32) < iv0) :
    o21 l o319 method_3_code 6 (some (.object "java/lang/String")) ws ⟨4, 3, 20, 66⟩ Z h0 #[.int 1, .int 0, .int 0, .int iv0, .int iv1, .int iv2] (fun v h L => ∃ nz0 : Addr, ∃ nz1 : Addr, ∃ kz2 : ClassId, v = some (.ref nz0) ∧ Fr n0 L ∧ Keep h0 h [] ∧ h0.size ≤ nz0 ∧ h0.size ≤ nz1 ∧ Exa Z h nz0 o7 ∧ Fld Z h nz0 o7 "coder" "B" (.int 0) ∧ Fld Z h nz0 o7 "value" "[B" (.ref nz1) ∧ Exa Z h nz1 "[B" ∧ Arv Z h nz1 kz2 .byte 8 [.int 98, .int 101, .int 97, .int 110, .int 32, .int 39, (.int (iv0.toInt8.toInt32)), .int 39] (.int 0)) := by
  refine o18 (plainFor_of_name o421) ?_
  intro p e s m below meth c s₁ hx hby hml hown hnm hret hlk hZ e0 X0
  have N0 := Fr.nil n0
  refine o4 (fun u j => castTop (show entryFrame m #[.int 1, .int 0, .int 0, .int iv0, .int iv1, .int iv2] 6 = mkF m 0 #[o0 1, o0 0, o0 0, o0 iv0, o0 iv1, o0 iv2] [] from rfl) j) ?_
  refine o4 (fun u j => o6 X0.here hx rfl (hb hby o322) rfl (o88 X0.here hx rfl (pc0 := 1) (pc' := 60) rfl (hb hby o323) rfl (o164 (by decide)) (by decide) (by decide) (o6 X0.here hx rfl (hb hby o424) rfl (o68 X0.here hx rfl (hb hby o425) rfl (o180 (by decide)) j)))) ?_
  have q_ := newO X0 hx hZ hown (o2 hw 53 rfl) (o2 hw 10 rfl) (o2 hw 2 rfl) e0 (g := (mkF m 64 #[o0 1, o0 0, o0 0, o0 iv0, o0 iv1, o0 iv2] [])) rfl (hb hby o769) (by decide) (by decide)
  obtain ⟨T2283, h2283, X2283, e2283, E2283, A2283, D2283, U2283, st2283⟩ := q_
  have q_ : ∃ z, z = h0.size := ⟨_, rfl⟩
  obtain ⟨b2283, g2283⟩ := q_
  rw [← g2283] at A2283 D2283 U2283 st2283
  have F2283_value : Fld Z h2283 b2283 o7 "value" "[B" .null := D2283 (Or.inr (o2 hw 23 rfl)) (ty := (.array .byte)) o91
  have F2283_coder : Fld Z h2283 b2283 o7 "coder" "B" (.int 0) := D2283 (Or.inr (o2 hw 25 rfl)) (ty := .byte) o92
  refine o4 (fun u j => st2283 u j) ?_
  refine o4 (fun u j => o61 X2283.here hx rfl (hb hby o770) rfl rfl (o34 X2283.here hx rfl (hb hby o771) j)) ?_
  have q_ := newPE X2283 hx hZ (o2 hw 54 rfl) e2283 (g := (mkF m 70 #[o0 1, o0 0, o0 0, o0 iv0, o0 iv1, o0 iv2] [.int 8, .ref b2283, .ref b2283])) rfl (hb hby o772) rfl (by decide) (cap := 8) (by decide) (by decide) (by decide) (by decide) (ad := "[C") o433
  obtain ⟨T2284, h2284, k2284, X2284, e2284, E2284, A2284, Y2284, st2284⟩ := q_
  have q_ : ∃ z, z = h2283.size := ⟨_, rfl⟩
  obtain ⟨b2284, g2284⟩ := q_
  rw [← g2284] at A2284 Y2284 st2284
  have V2284 : Arv Z h2284 b2284 k2284 .char 8 [.int 0, .int 0, .int 0, .int 0, .int 0, .int 0, .int 0, .int 0] (.int 0) := (Arv.new A2284 (by decide)).pad (pad_rep [] (.int 0) 8)
  refine o4 (fun u j => st2284 u j) ?_
  refine o4 (fun u j => o61 X2284.here hx rfl (hb hby o773) rfl rfl (o16 X2284.here hx rfl (hb hby o774) (o34 X2284.here hx rfl (hb hby o775) j))) ?_
  refine o32 (o105 X2284 hx hZ e2284 V2284 (j := 0) (by decide) rfl rfl (hb hby o776)) ?_
  intro T2285 h2285 X2285 e2285 W2285
  replace W2285 : Wr h2284 h2285 b2284 ((0 : Int32)).toNatClampNeg (.int 98) := W2285
  have O2287 := O0.ext E2283
  have g2286 := Nat.le_trans (o103 O2287) (Nat.le_of_eq g2284.symm)
  have N2285 := Fr.snoc X2285 N0 g2286
  have V2285 : Arv Z h2285 b2284 k2284 .char 8 [.int 98, .int 0, .int 0, .int 0, .int 0, .int 0, .int 0, .int 0] (.int 0) := o74 V2284 rfl W2285 0 rfl (Nat.le_of_ble_eq_true rfl)
  refine o4 (fun u j => o61 X2285.here hx rfl (hb hby o777) rfl rfl (o16 X2285.here hx rfl (hb hby o778) (o34 X2285.here hx rfl (hb hby o779) j))) ?_
  refine o32 (o105 X2285 hx hZ e2285 V2285 (j := 1) (by decide) rfl rfl (hb hby o780)) ?_
  intro T2288 h2288 X2288 e2288 W2288
  replace W2288 : Wr h2285 h2288 b2284 ((1 : Int32)).toNatClampNeg (.int 101) := W2288
  have N2288 := Fr.snoc X2288 N2285 g2286
  have V2288 : Arv Z h2288 b2284 k2284 .char 8 [.int 98, .int 101, .int 0, .int 0, .int 0, .int 0, .int 0, .int 0] (.int 0) := o74 V2285 rfl W2288 1 rfl (Nat.le_of_ble_eq_true rfl)
  refine o4 (fun u j => o61 X2288.here hx rfl (hb hby o781) rfl rfl (o16 X2288.here hx rfl (hb hby o782) (o34 X2288.here hx rfl (hb hby o783) j))) ?_
  refine o32 (o105 X2288 hx hZ e2288 V2288 (j := 2) (by decide) rfl rfl (hb hby o784)) ?_
  intro T2289 h2289 X2289 e2289 W2289
  replace W2289 : Wr h2288 h2289 b2284 ((2 : Int32)).toNatClampNeg (.int 97) := W2289
  have N2289 := Fr.snoc X2289 N2288 g2286
  have V2289 : Arv Z h2289 b2284 k2284 .char 8 [.int 98, .int 101, .int 97, .int 0, .int 0, .int 0, .int 0, .int 0] (.int 0) := o74 V2288 rfl W2289 2 rfl (Nat.le_of_ble_eq_true rfl)
  refine o4 (fun u j => o61 X2289.here hx rfl (hb hby o785) rfl rfl (o16 X2289.here hx rfl (hb hby o786) (o34 X2289.here hx rfl (hb hby o787) j))) ?_
  refine o32 (o105 X2289 hx hZ e2289 V2289 (j := 3) (by decide) rfl rfl (hb hby o788)) ?_
  intro T2290 h2290 X2290 e2290 W2290
  replace W2290 : Wr h2289 h2290 b2284 ((3 : Int32)).toNatClampNeg (.int 110) := W2290
  have N2290 := Fr.snoc X2290 N2289 g2286
  have V2290 : Arv Z h2290 b2284 k2284 .char 8 [.int 98, .int 101, .int 97, .int 110, .int 0, .int 0, .int 0, .int 0] (.int 0) := o74 V2289 rfl W2290 3 rfl (Nat.le_of_ble_eq_true rfl)
  refine o4 (fun u j => o61 X2290.here hx rfl (hb hby o789) rfl rfl (o16 X2290.here hx rfl (hb hby o790) (o34 X2290.here hx rfl (hb hby o791) j))) ?_
  refine o32 (o105 X2290 hx hZ e2290 V2290 (j := 4) (by decide) rfl rfl (hb hby o792)) ?_
  intro T2291 h2291 X2291 e2291 W2291
  replace W2291 : Wr h2290 h2291 b2284 ((4 : Int32)).toNatClampNeg (.int 32) := W2291
  have N2291 := Fr.snoc X2291 N2290 g2286
  have V2291 : Arv Z h2291 b2284 k2284 .char 8 [.int 98, .int 101, .int 97, .int 110, .int 32, .int 0, .int 0, .int 0] (.int 0) := o74 V2290 rfl W2291 4 rfl (Nat.le_of_ble_eq_true rfl)
  refine o4 (fun u j => o61 X2291.here hx rfl (hb hby o793) rfl rfl (o16 X2291.here hx rfl (hb hby o794) (o34 X2291.here hx rfl (hb hby o795) j))) ?_
  refine o32 (o105 X2291 hx hZ e2291 V2291 (j := 5) (by decide) rfl rfl (hb hby o561)) ?_
  intro T2292 h2292 X2292 e2292 W2292
  replace W2292 : Wr h2291 h2292 b2284 ((5 : Int32)).toNatClampNeg (.int 39) := W2292
  have N2292 := Fr.snoc X2292 N2291 g2286
  have V2292 : Arv Z h2292 b2284 k2284 .char 8 [.int 98, .int 101, .int 97, .int 110, .int 32, .int 39, .int 0, .int 0] (.int 0) := o74 V2291 rfl W2292 5 rfl (Nat.le_of_ble_eq_true rfl)
  refine o4 (fun u j => o61 X2292.here hx rfl (hb hby o562) rfl rfl (o34 X2292.here hx rfl (hb hby o563) (o6 X2292.here hx rfl (hb hby o564) rfl j))) ?_
  refine o32 (o105 X2292 hx hZ e2292 V2292 (j := 6) (by decide) rfl rfl (hb hby o565)) ?_
  intro T2293 h2293 X2293 e2293 W2293
  rw [pc1] at W2293
  have N2293 := Fr.snoc X2293 N2292 g2286
  have V2293 : Arv Z h2293 b2284 k2284 .char 8 [.int 98, .int 101, .int 97, .int 110, .int 32, .int 39, .int iv0, .int 0] (.int 0) := o74 V2292 (o411 pc1) W2293 6 rfl (Nat.le_of_ble_eq_true rfl)
  refine o4 (fun u j => o61 X2293.here hx rfl (hb hby o566) rfl rfl (o34 X2293.here hx rfl (hb hby o567) (o34 X2293.here hx rfl (hb hby o568) j))) ?_
  refine o32 (o105 X2293 hx hZ e2293 V2293 (j := 7) (by decide) rfl rfl (hb hby o569)) ?_
  intro T2294 h2294 X2294 e2294 W2294
  replace W2294 : Wr h2293 h2294 b2284 ((7 : Int32)).toNatClampNeg (.int 39) := W2294
  have N2294 := Fr.snoc X2294 N2293 g2286
  have V2294 : Arv Z h2294 b2284 k2284 .char 8 [.int 98, .int 101, .int 97, .int 110, .int 32, .int 39, .int iv0, .int 39] (.int 0) := o74 V2293 rfl W2294 7 rfl (Nat.le_of_ble_eq_true rfl)
  have F2295 := (Exa.wr W2294 (Exa.wr W2293 (Exa.wr W2292 (Exa.wr W2291 (Exa.wr W2290 (Exa.wr W2289 (Exa.wr W2288 (Exa.wr W2285 (Exa.ext E2284 A2283)))))))))
  have ne2296 := (Nat.ne_of_lt (Nat.lt_of_lt_of_le A2283.lt (Nat.le_of_eq g2284.symm)))
  have F2297 := (Fld.other W2294 (Fld.other W2293 (Fld.other W2292 (Fld.other W2291 (Fld.other W2290 (Fld.other W2289 (Fld.other W2288 (Fld.other W2285 (Fld.ext E2284 F2283_coder) (Or.inl ne2296)) (Or.inl ne2296)) (Or.inl ne2296)) (Or.inl ne2296)) (Or.inl ne2296)) (Or.inl ne2296)) (Or.inl ne2296)) (Or.inl ne2296))
  have F2298 := (Fld.other W2294 (Fld.other W2293 (Fld.other W2292 (Fld.other W2291 (Fld.other W2290 (Fld.other W2289 (Fld.other W2288 (Fld.other W2285 (Fld.ext E2284 F2283_value) (Or.inl ne2296)) (Or.inl ne2296)) (Or.inl ne2296)) (Or.inl ne2296)) (Or.inl ne2296)) (Or.inl ne2296)) (Or.inl ne2296)) (Or.inl ne2296))
  have F2299 := (Exa.wr W2294 (Exa.wr W2293 (Exa.wr W2292 (Exa.wr W2291 (Exa.wr W2290 (Exa.wr W2289 (Exa.wr W2288 (Exa.wr W2285 Y2284))))))))
  have g2300 := Nat.le_trans (o103 O0) (Nat.le_of_eq g2283.symm)
  have O2302 := O2287.ext E2284
  have O2303 := O2302.wr W2285 g2286
  have O2304 := O2303.wr W2288 g2286
  have O2305 := O2304.wr W2289 g2286
  have O2306 := O2305.wr W2290 g2286
  have O2307 := O2306.wr W2291 g2286
  have O2308 := O2307.wr W2292 g2286
  have O2309 := O2308.wr W2293 g2286
  have O2310 := O2309.wr W2294 g2286
  refine o17 (o87 X2294 hx hZ (y := o318) rfl hown (o2 hw 55 rfl) (o2 hw 56 rfl) (o2 hw 2 rfl) (o2 hw 57 rfl) o67 (o975 hw hS b2283 b2284 k2284 iv0 h2294 n0 O2310 F2295 F2297 F2298 F2299 V2294 pk4 g2300) e2294 o438 (a := b2283) (argsL := [.ref b2284]) (rest := [.ref b2283]) rfl rfl (g := (mkF m 113 #[o0 1, o0 0, o0 0, o0 iv0, o0 iv1, o0 iv2] [.ref b2284, .ref b2283, .ref b2283])) rfl (by rw [hml]; rfl) rfl (hb hby o570) (W := 1) rfl) ?_
  intro T2301 v2301 L2301 X2301 hQ2301
  obtain ⟨nz0_2311, kz1_2312, rfl, M2301, K2301, z2313, F2314, F2315, F2316, F2317, F2318⟩ := hQ2301
  have N2301 := Fr.app N2294 M2301
  have K2319 := (Keep.refl h0 []).ext E2283
  have K2320 := K2319.ext E2284
  have z2322 := Nat.le_trans E2283.1 (Nat.le_of_eq g2284.symm)
  have K2321 := K2320.wr W2285 (Or.inr z2322)
  have K2323 := K2321.wr W2288 (Or.inr z2322)
  have K2324 := K2323.wr W2289 (Or.inr z2322)
  have K2325 := K2324.wr W2290 (Or.inr z2322)
  have K2326 := K2325.wr W2291 (Or.inr z2322)
  have K2327 := K2326.wr W2292 (Or.inr z2322)
  have K2328 := K2327.wr W2293 (Or.inr z2322)
  have K2329 := K2328.wr W2294 (Or.inr z2322)
  have z2331 := Nat.le_trans (Nat.le_refl _) (Nat.le_of_eq g2283.symm)
  have K2330 := K2329.trans K2301 (allS (Or.inr z2331) all0)
  have z2332 := Nat.le_trans (Nat.le_trans (Nat.le_trans (Nat.le_trans (Nat.le_trans (Nat.le_trans (Nat.le_trans (Nat.le_trans (Nat.le_trans (Nat.le_trans E2283.1 E2284.1) (Nat.le_of_eq W2285.size.symm)) (Nat.le_of_eq W2288.size.symm)) (Nat.le_of_eq W2289.size.symm)) (Nat.le_of_eq W2290.size.symm)) (Nat.le_of_eq W2291.size.symm)) (Nat.le_of_eq W2292.size.symm)) (Nat.le_of_eq W2293.size.symm)) (Nat.le_of_eq W2294.size.symm)) z2313
  exact o69 X2301 hx hlk hret rfl (Or.inr (Or.inr (Or.inr (Or.inr ⟨rfl, rfl, rfl⟩)))) (hb hby o571) (by decide) (by decide) (by exact ⟨b2283, nz0_2311, kz1_2312, rfl, N2301, K2330, z2331, z2332, F2314, F2315, F2316, F2317, F2318⟩)
theorem o977 (hw : o35 a0 Z) (hS : o64 Z wcs) (ad0 ad1 : Addr) (kc2 : ClassId) (iv3 : Int32) (kc4 : ClassId) (h0 : Heap) (n0 : Nat) (O0 : Old Z n0 h0) (pa2 : Arv Z h0 ad0 kc2 .byte 8 [.int 98, .int 101, .int 97, .int 110, .int 32, .int 39, .int iv3, .int 39] (.int 0)) (pa4 : Arv Z h0 ad1 kc4 .byte 8 [.int 98, .int 101, .int 97, .int 110, .int 32, .int 39, .int iv3, .int 39] (.int 0)) :
    o21 l o320 jdk_43_method_13_code 3 (some .boolean) ws ⟨0, 0, 0, 0⟩ Z h0 #[.ref ad0, .ref ad1] (fun v h L => v = some (.int 1) ∧ Fr n0 L ∧ h = h0) := by
  refine o18 (plainFor_of_name o413) ?_
  intro p e s m below meth c s₁ hx hby hml hown hnm hret hlk hZ e0 X0
  have N0 := Fr.nil n0
  refine o4 (fun u j => castTop (show entryFrame m #[.ref ad0, .ref ad1] 3 = mkF m 0 #[o1 ad0, o1 ad1, o5] [] from rfl) j) ?_
  refine o4 (fun u j => o3 X0.here hx rfl (hb hby o295) rfl rfl (o75 X0 hx hZ e0 pa2 rfl rfl (hb hby o296) (o3 X0.here hx rfl (hb hby o297) rfl rfl (o75 X0 hx hZ e0 pa4 rfl rfl (hb hby o298) (o14 X0.here hx rfl (hb hby o299) rfl (o93 (by decide)) (o16 X0.here hx rfl (hb hby o300) j)))))) ?_
  show o11 p e below _ (s₁.setTop (mkF m 8 #[o1 ad0, o1 ad1, o5] [.int 0]))
  refine o4 (fun u j => o94 X0.here hx rfl (hb hby o301) rfl (l' := #[o1 ad0, o1 ad1, o0 0]) rfl (o6 X0.here hx rfl (hb hby o31) rfl (o3 X0.here hx rfl (hb hby o25) rfl rfl (o75 X0 hx hZ e0 pa2 rfl rfl (hb hby o26) (o14 X0.here hx rfl (hb hby o27) rfl (o19 (by decide)) (o3 X0.here hx rfl (hb hby o52) rfl rfl j)))))) ?_
  show o11 p e below _ (s₁.setTop (mkF m 16 #[o1 ad0, o1 ad1, o0 0] [.ref ad0]))
  refine o4 (fun u j => o6 X0.here hx rfl (hb hby o53) rfl (o77 X0 hx hZ e0 pa2 (j := 0) (v := (.int 98)) (by decide) rfl rfl rfl (hb hby o54) (o3 X0.here hx rfl (hb hby o55) rfl rfl (o6 X0.here hx rfl (hb hby o56) rfl (o77 X0 hx hZ e0 pa4 (j := 0) (v := (.int 98)) (by decide) rfl rfl rfl (hb hby o57) (o13 X0.here hx rfl (pc0 := 21) (pc' := 26) rfl (hb hby o58) rfl (o66 (by decide)) (by decide) (by decide) j)))))) ?_
  show o11 p e below _ (s₁.setTop (mkF m 26 #[o1 ad0, o1 ad1, o0 0] []))
  refine o4 (fun u j => o12 X0.here hx rfl (hb hby o59) rfl (l' := #[o1 ad0, o1 ad1, o0 1]) rfl (o15 X0.here hx rfl (pc0 := 29) (pc' := 9) rfl (hb hby o60) (by decide) (by decide) (o6 X0.here hx rfl (hb hby o31) rfl (o3 X0.here hx rfl (hb hby o25) rfl rfl (o75 X0 hx hZ e0 pa2 rfl rfl (hb hby o26) (o14 X0.here hx rfl (hb hby o27) rfl (o19 (by decide)) j)))))) ?_
  show o11 p e below _ (s₁.setTop (mkF m 15 #[o1 ad0, o1 ad1, o0 1] []))
  refine o4 (fun u j => o3 X0.here hx rfl (hb hby o52) rfl rfl (o6 X0.here hx rfl (hb hby o53) rfl (o77 X0 hx hZ e0 pa2 (j := 1) (v := (.int 101)) (by decide) rfl rfl rfl (hb hby o54) (o3 X0.here hx rfl (hb hby o55) rfl rfl (o6 X0.here hx rfl (hb hby o56) rfl (o77 X0 hx hZ e0 pa4 (j := 1) (v := (.int 101)) (by decide) rfl rfl rfl (hb hby o57) j)))))) ?_
  show o11 p e below _ (s₁.setTop (mkF m 21 #[o1 ad0, o1 ad1, o0 1] [.int 101, .int 101]))
  refine o4 (fun u j => o13 X0.here hx rfl (pc0 := 21) (pc' := 26) rfl (hb hby o58) rfl (o66 (by decide)) (by decide) (by decide) (o12 X0.here hx rfl (hb hby o59) rfl (l' := #[o1 ad0, o1 ad1, o0 2]) rfl (o15 X0.here hx rfl (pc0 := 29) (pc' := 9) rfl (hb hby o60) (by decide) (by decide) (o6 X0.here hx rfl (hb hby o31) rfl (o3 X0.here hx rfl (hb hby o25) rfl rfl (o75 X0 hx hZ e0 pa2 rfl rfl (hb hby o26) j)))))) ?_
  show o11 p e below _ (s₁.setTop (mkF m 12 #[o1 ad0, o1 ad1, o0 2] [.int 8, .int 2]))
  refine o4 (fun u j => o14 X0.here hx rfl (hb hby o27) rfl (o19 (by decide)) (o3 X0.here hx rfl (hb hby o52) rfl rfl (o6 X0.here hx rfl (hb hby o53) rfl (o77 X0 hx hZ e0 pa2 (j := 2) (v := (.int 97)) (by decide) rfl rfl rfl (hb hby o54) (o3 X0.here hx rfl (hb hby o55) rfl rfl (o6 X0.here hx rfl (hb hby o56) rfl j)))))) ?_
  show o11 p e below _ (s₁.setTop (mkF m 20 #[o1 ad0, o1 ad1, o0 2] [.int 2, .ref ad1, .int 97]))
  refine o4 (fun u j => o77 X0 hx hZ e0 pa4 (j := 2) (v := (.int 97)) (by decide) rfl rfl rfl (hb hby o57) (o13 X0.here hx rfl (pc0 := 21) (pc' := 26) rfl (hb hby o58) rfl (o66 (by decide)) (by decide) (by decide) (o12 X0.here hx rfl (hb hby o59) rfl (l' := #[o1 ad0, o1 ad1, o0 3]) rfl (o15 X0.here hx rfl (pc0 := 29) (pc' := 9) rfl (hb hby o60) (by decide) (by decide) (o6 X0.here hx rfl (hb hby o31) rfl (o3 X0.here hx rfl (hb hby o25) rfl rfl j)))))) ?_
  show o11 p e below _ (s₁.setTop (mkF m 11 #[o1 ad0, o1 ad1, o0 3] [.ref ad0, .int 3]))
  refine o4 (fun u j => o75 X0 hx hZ e0 pa2 rfl rfl (hb hby o26) (o14 X0.here hx rfl (hb hby o27) rfl (o19 (by decide)) (o3 X0.here hx rfl (hb hby o52) rfl rfl (o6 X0.here hx rfl (hb hby o53) rfl (o77 X0 hx hZ e0 pa2 (j := 3) (v := (.int 110)) (by decide) rfl rfl rfl (hb hby o54) (o3 X0.here hx rfl (hb hby o55) rfl rfl j)))))) ?_
  show o11 p e below _ (s₁.setTop (mkF m 19 #[o1 ad0, o1 ad1, o0 3] [.ref ad1, .int 110]))
  refine o4 (fun u j => o6 X0.here hx rfl (hb hby o56) rfl (o77 X0 hx hZ e0 pa4 (j := 3) (v := (.int 110)) (by decide) rfl rfl rfl (hb hby o57) (o13 X0.here hx rfl (pc0 := 21) (pc' := 26) rfl (hb hby o58) rfl (o66 (by decide)) (by decide) (by decide) (o12 X0.here hx rfl (hb hby o59) rfl (l' := #[o1 ad0, o1 ad1, o0 4]) rfl (o15 X0.here hx rfl (pc0 := 29) (pc' := 9) rfl (hb hby o60) (by decide) (by decide) (o6 X0.here hx rfl (hb hby o31) rfl j)))))) ?_
  show o11 p e below _ (s₁.setTop (mkF m 10 #[o1 ad0, o1 ad1, o0 4] [.int 4]))
  refine o4 (fun u j => o3 X0.here hx rfl (hb hby o25) rfl rfl (o75 X0 hx hZ e0 pa2 rfl rfl (hb hby o26) (o14 X0.here hx rfl (hb hby o27) rfl (o19 (by decide)) (o3 X0.here hx rfl (hb hby o52) rfl rfl (o6 X0.here hx rfl (hb hby o53) rfl (o77 X0 hx hZ e0 pa2 (j := 4) (v := (.int 32)) (by decide) rfl rfl rfl (hb hby o54) j)))))) ?_
  show o11 p e below _ (s₁.setTop (mkF m 18 #[o1 ad0, o1 ad1, o0 4] [.int 32]))
  refine o4 (fun u j => o3 X0.here hx rfl (hb hby o55) rfl rfl (o6 X0.here hx rfl (hb hby o56) rfl (o77 X0 hx hZ e0 pa4 (j := 4) (v := (.int 32)) (by decide) rfl rfl rfl (hb hby o57) (o13 X0.here hx rfl (pc0 := 21) (pc' := 26) rfl (hb hby o58) rfl (o66 (by decide)) (by decide) (by decide) (o12 X0.here hx rfl (hb hby o59) rfl (l' := #[o1 ad0, o1 ad1, o0 5]) rfl (o15 X0.here hx rfl (pc0 := 29) (pc' := 9) rfl (hb hby o60) (by decide) (by decide) j)))))) ?_
  show o11 p e below _ (s₁.setTop (mkF m 9 #[o1 ad0, o1 ad1, o0 5] []))
  refine o4 (fun u j => o6 X0.here hx rfl (hb hby o31) rfl (o3 X0.here hx rfl (hb hby o25) rfl rfl (o75 X0 hx hZ e0 pa2 rfl rfl (hb hby o26) (o14 X0.here hx rfl (hb hby o27) rfl (o19 (by decide)) (o3 X0.here hx rfl (hb hby o52) rfl rfl (o6 X0.here hx rfl (hb hby o53) rfl j)))))) ?_
  show o11 p e below _ (s₁.setTop (mkF m 17 #[o1 ad0, o1 ad1, o0 5] [.int 5, .ref ad0]))
  refine o4 (fun u j => o77 X0 hx hZ e0 pa2 (j := 5) (v := (.int 39)) (by decide) rfl rfl rfl (hb hby o54) (o3 X0.here hx rfl (hb hby o55) rfl rfl (o6 X0.here hx rfl (hb hby o56) rfl (o77 X0 hx hZ e0 pa4 (j := 5) (v := (.int 39)) (by decide) rfl rfl rfl (hb hby o57) (o13 X0.here hx rfl (pc0 := 21) (pc' := 26) rfl (hb hby o58) rfl (o66 (by decide)) (by decide) (by decide) (o12 X0.here hx rfl (hb hby o59) rfl (l' := #[o1 ad0, o1 ad1, o0 6]) rfl j)))))) ?_
  show o11 p e below _ (s₁.setTop (mkF m 29 #[o1 ad0, o1 ad1, o0 6] []))
  refine o4 (fun u j => o15 X0.here hx rfl (pc0 := 29) (pc' := 9) rfl (hb hby o60) (by decide) (by decide) (o6 X0.here hx rfl (hb hby o31) rfl (o3 X0.here hx rfl (hb hby o25) rfl rfl (o75 X0 hx hZ e0 pa2 rfl rfl (hb hby o26) (o14 X0.here hx rfl (hb hby o27) rfl (o19 (by decide)) (o3 X0.here hx rfl (hb hby o52) rfl rfl j)))))) ?_
  show o11 p e below _ (s₁.setTop (mkF m 16 #[o1 ad0, o1 ad1, o0 6] [.ref ad0]))
  refine o4 (fun u j => o6 X0.here hx rfl (hb hby o53) rfl (o77 X0 hx hZ e0 pa2 (j := 6) (v := (.int iv3)) (by decide) rfl rfl rfl (hb hby o54) (o3 X0.here hx rfl (hb hby o55) rfl rfl (o6 X0.here hx rfl (hb hby o56) rfl (o77 X0 hx hZ e0 pa4 (j := 6) (v := (.int iv3)) (by decide) rfl rfl rfl (hb hby o57) (o13 X0.here hx rfl (pc0 := 21) (pc' := 26) rfl (hb hby o58) rfl (o66 rfl) (by decide) (by decide) j)))))) ?_
  show o11 p e below _ (s₁.setTop (mkF m 26 #[o1 ad0, o1 ad1, o0 6] []))
  refine o4 (fun u j => o12 X0.here hx rfl (hb hby o59) rfl (l' := #[o1 ad0, o1 ad1, o0 7]) rfl (o15 X0.here hx rfl (pc0 := 29) (pc' := 9) rfl (hb hby o60) (by decide) (by decide) (o6 X0.here hx rfl (hb hby o31) rfl (o3 X0.here hx rfl (hb hby o25) rfl rfl (o75 X0 hx hZ e0 pa2 rfl rfl (hb hby o26) (o14 X0.here hx rfl (hb hby o27) rfl (o19 (by decide)) j)))))) ?_
  show o11 p e below _ (s₁.setTop (mkF m 15 #[o1 ad0, o1 ad1, o0 7] []))
  refine o4 (fun u j => o3 X0.here hx rfl (hb hby o52) rfl rfl (o6 X0.here hx rfl (hb hby o53) rfl (o77 X0 hx hZ e0 pa2 (j := 7) (v := (.int 39)) (by decide) rfl rfl rfl (hb hby o54) (o3 X0.here hx rfl (hb hby o55) rfl rfl (o6 X0.here hx rfl (hb hby o56) rfl (o77 X0 hx hZ e0 pa4 (j := 7) (v := (.int 39)) (by decide) rfl rfl rfl (hb hby o57) j)))))) ?_
  show o11 p e below _ (s₁.setTop (mkF m 21 #[o1 ad0, o1 ad1, o0 7] [.int 39, .int 39]))
  refine o4 (fun u j => o13 X0.here hx rfl (pc0 := 21) (pc' := 26) rfl (hb hby o58) rfl (o66 (by decide)) (by decide) (by decide) (o12 X0.here hx rfl (hb hby o59) rfl (l' := #[o1 ad0, o1 ad1, o0 8]) rfl (o15 X0.here hx rfl (pc0 := 29) (pc' := 9) rfl (hb hby o60) (by decide) (by decide) (o6 X0.here hx rfl (hb hby o31) rfl (o3 X0.here hx rfl (hb hby o25) rfl rfl (o75 X0 hx hZ e0 pa2 rfl rfl (hb hby o26) j)))))) ?_
  show o11 p e below _ (s₁.setTop (mkF m 12 #[o1 ad0, o1 ad1, o0 8] [.int 8, .int 8]))
  refine o4 (fun u j => o13 X0.here hx rfl (pc0 := 12) (pc' := 32) rfl (hb hby o27) rfl (o175 (by decide)) (by decide) (by decide) (o16 X0.here hx rfl (hb hby o253) j)) ?_
  exact o69 X0 hx hlk hret rfl (Or.inl ⟨rfl, by simp, _, rfl⟩) (hb hby o254) (by decide) (by decide) (by rw [e0]; exact ⟨rfl, N0, rfl⟩)
theorem o978 (hw : o35 a0 Z) (hS : o64 Z wcs) (ad0 ad1 : Addr) (ad2 ad3 : Addr) (kc4 : ClassId) (iv5 : Int32) (kc6 : ClassId) (h0 : Heap) (n0 : Nat) (O0 : Old Z n0 h0) (pf2 : Fld Z h0 ad0 o7 "coder" "B" (.int 0)) (pf3 : Fld Z h0 ad0 o7 "value" "[B" (.ref ad2)) (pe4 : Exa Z h0 ad1 o7) (pf5 : Fld Z h0 ad1 o7 "coder" "B" (.int 0)) (pf6 : Fld Z h0 ad1 o7 "value" "[B" (.ref ad3)) (pa8 : Arv Z h0 ad2 kc4 .byte 8 [.int 98, .int 101, .int 97, .int 110, .int 32, .int 39, .int iv5, .int 39] (.int 0)) (pa10 : Arv Z h0 ad3 kc6 .byte 8 [.int 98, .int 101, .int 97, .int 110, .int 32, .int 39, .int iv5, .int 39] (.int 0)) (pn_ad0_ad1 : ad0 ≠ ad1) :
    o21 l o182 jdk_42_method_66_code 3 (some .boolean) ws ⟨1, 0, 0, 14⟩ Z h0 #[.ref ad0, .ref ad1] (fun v h L => v = some (.int 1) ∧ Fr n0 L ∧ h = h0) := by
  refine o18 (plainFor_of_name o83) ?_
  intro p e s m below meth c s₁ hx hby hml hown hnm hret hlk hZ e0 X0
  have N0 := Fr.nil n0
  refine o4 (fun u j => castTop (show entryFrame m #[.ref ad0, .ref ad1] 3 = mkF m 0 #[o1 ad0, o1 ad1, o5] [] from rfl) j) ?_
  refine o4 (fun u j => o3 X0.here hx rfl (hb hby o290) rfl rfl (o3 X0.here hx rfl (hb hby o291) rfl rfl (XT.acmpYes X0.here hx rfl (pc0 := 2) (pc' := 7) rfl (hb hby o292) rfl rfl rfl (XT.aa_ne_t (o504 pn_ad0_ad1)) (by decide) (by decide) (o3 X0.here hx rfl (hb hby o293) rfl rfl j)))) ?_
  have q_ := instY X0 hx hZ hown (o2 hw 9 rfl) e0 (Ins.self pe4) (g := (mkF m 8 #[o1 ad0, o1 ad1, o5] [.ref ad1])) rfl rfl (hb hby o294)
  obtain ⟨T2376, X2376, e2376, st2376⟩ := q_
  refine o4 (fun u j => st2376 u j) ?_
  refine o4 (fun u j => o68 X2376.here hx rfl (hb hby o237) rfl (o65 (by decide)) (o3 X2376.here hx rfl (hb hby o238) rfl rfl j)) ?_
  have q_ := castY X2376 hx hZ hown (o2 hw 9 rfl) e2376 (Ins.self pe4) (g := (mkF m 15 #[o1 ad0, o1 ad1, o5] [.ref ad1])) rfl rfl (hb hby o239)
  obtain ⟨T2377, X2377, e2377, st2377⟩ := q_
  refine o4 (fun u j => st2377 u j) ?_
  refine o4 (fun u j => o84 X2377.here hx rfl (hb hby o240) rfl rfl (l' := #[o1 ad0, o1 ad1, o1 ad1]) rfl j) ?_
  have F2378 := Sta.ext O0.2 hS.1
  refine o22 (getS2 X2377 hx hZ hown (host := "") (Or.inl (o2 hw 4 rfl)) Via.refl e2377 F2378 rfl (hb hby o241)) ?_
  intro T2379 X2379 e2379
  refine o4 (fun u j => o68 X2379.here hx rfl (hb hby o242) rfl (o65 hS.2) (o3 X2379.here hx rfl (hb hby o243) rfl rfl j)) ?_
  refine o22 (getF X2379 hx hZ hown (host := "") (Or.inl (o2 hw 24 rfl)) Via.refl e2379 pf2 rfl rfl (hb hby o244)) ?_
  intro T2380 X2380 e2380
  refine o4 (fun u j => o3 X2380.here hx rfl (hb hby o245) rfl rfl j) ?_
  refine o22 (getF X2380 hx hZ hown (host := "") (Or.inl (o2 hw 24 rfl)) Via.refl e2380 pf5 rfl rfl (hb hby o246)) ?_
  intro T2381 X2381 e2381
  refine o4 (fun u j => o14 X2381.here hx rfl (hb hby o247) rfl (o93 (by decide)) (o3 X2381.here hx rfl (hb hby o248) rfl rfl j)) ?_
  refine o22 (getF X2381 hx hZ hown (host := "") (Or.inl (o2 hw 22 rfl)) Via.refl e2381 pf3 rfl rfl (hb hby o249)) ?_
  intro T2382 X2382 e2382
  refine o4 (fun u j => o3 X2382.here hx rfl (hb hby o250) rfl rfl j) ?_
  refine o22 (getF X2382 hx hZ hown (host := "") (Or.inl (o2 hw 22 rfl)) Via.refl e2382 pf6 rfl rfl (hb hby o251)) ?_
  intro T2383 X2383 e2383
  refine o17 (o78 X2383 hx hZ (y := o320) hown (o2 hw 76 rfl) (o2 hw 77 rfl) (o2 hw 7 rfl) (o2 hw 78 rfl) o414 (o977 hw hS ad2 ad3 kc4 iv5 kc6 h0 n0 O0 pa8 pa10) e2383 o441 (argsL := [.ref ad2, .ref ad3]) (rest := []) rfl rfl (g := (mkF m 44 #[o1 ad0, o1 ad1, o1 ad1] [.ref ad3, .ref ad2])) rfl (by rw [hml]; rfl) rfl (hb hby o252) (W := 0) rfl) ?_
  intro T2384 v2384 L2384 X2384 hQ2384
  obtain ⟨rfl, M2384, e2384⟩ := hQ2384
  have N2384 := Fr.app N0 M2384
  refine o4 (fun u j => o68 X2384.here hx rfl (hb hby o255) rfl (o65 (by decide)) (o16 X2384.here hx rfl (hb hby o256) (o15 X2384.here hx rfl (pc0 := 51) (pc' := 55) rfl (hb hby o257) (by decide) (by decide) j))) ?_
  exact o69 X2384 hx hlk hret rfl (Or.inl ⟨rfl, by simp, _, rfl⟩) (hb hby o258) (by decide) (by decide) (by rw [e2384]; exact ⟨rfl, N2384, rfl⟩)
theorem o979 (hw : o35 a0 Z) (hS : o64 Z wcs) (ad0 ad1 ad2 : Addr) (h0 : Heap) (n0 : Nat) (O0 : Old Z n0 h0) (pe1 : Exa Z h0 ad0 o62) (pf2 : Fld Z h0 ad0 o62 "bean" o71 .null) (pf3 : Fld Z h0 ad0 o62 "name" o71 .null) (pf4 : Fld Z h0 ad0 o62 "part" o71 .null) (pg_ad0 : n0 ≤ ad0) :
    o21 l o395 prog_89_method_1_code 4 none ws ⟨2, 0, 0, 24⟩ Z h0 #[.ref ad0, .ref ad1, .ref ad2, .null] (fun v h L => v = none ∧ Fr n0 L ∧ Keep h0 h [ad0] ∧ Exa Z h ad0 o62 ∧ Fld Z h ad0 o62 "bean" o71 (.ref ad1) ∧ Fld Z h ad0 o62 "name" o71 .null ∧ Fld Z h ad0 o62 "part" o71 (.ref ad2)) := by
  refine o18 (plainFor_of_name o312) ?_
  intro p e s m below meth c s₁ hx hby hml hown hnm hret hlk hZ e0 X0
  have N0 := Fr.nil n0
  refine o4 (fun u j => castTop (show entryFrame m #[.ref ad0, .ref ad1, .ref ad2, .null] 4 = mkF m 0 #[o1 ad0, o1 ad1, o1 ad2, .val .null] [] from rfl) j) ?_
  refine o4 (fun u j => o3 X0.here hx rfl (hb hby o262) rfl rfl j) ?_
  refine o17 (o87 X0 hx hZ (y := o458) rfl hown (o2 hw 32 rfl) (o2 hw 33 rfl) (o2 hw 35 rfl) (o2 hw 36 rfl) o462 (o842 hw hS ad0 h0 n0 O0 ) e0 o311 (a := ad0) (argsL := []) (rest := []) rfl rfl (g := (mkF m 1 #[o1 ad0, o1 ad1, o1 ad2, .val .null] [.ref ad0])) rfl (by rw [hml]; rfl) rfl (hb hby o263) (W := 0) rfl) ?_
  intro T2436 v2436 L2436 X2436 hQ2436
  obtain ⟨rfl, M2436, e2436⟩ := hQ2436
  have N2436 := Fr.app N0 M2436
  refine o4 (fun u j => o3 X2436.here hx rfl (hb hby o264) rfl rfl (o3 X2436.here hx rfl (hb hby o265) rfl rfl j)) ?_
  refine o32 (putF X2436 hx hZ hown (host := "") (Or.inl (o2 hw 38 rfl)) Via.refl e2436 pf2 pe1 (Or.inr ⟨(o2 hw 39 rfl), rfl, hnm⟩) (o2 hw 27 rfl) (ty := (.object "java/lang/String")) o82 rfl rfl rfl rfl (hb hby o266)) ?_
  intro T2437 h2437 X2437 e2437 W2437
  have N2437 := Fr.snoc X2437 N2436 pg_ad0
  have F2438 : Fld Z h2437 ad0 o62 "bean" o71 (.ref ad1) := Fld.same W2437 pf2
  refine o4 (fun u j => o3 X2437.here hx rfl (hb hby o267) rfl rfl (o3 X2437.here hx rfl (hb hby o215) rfl rfl j)) ?_
  have F2439 := (Exa.wr W2437 pe1)
  have F2440 := (Fld.other W2437 pf4 (Or.inr (o463 hw)))
  refine o32 (putF X2437 hx hZ hown (host := "") (Or.inl (o2 hw 40 rfl)) Via.refl e2437 F2440 F2439 (Or.inr ⟨(o2 hw 41 rfl), rfl, hnm⟩) (o2 hw 27 rfl) (ty := (.object "java/lang/String")) o82 rfl rfl rfl rfl (hb hby o216)) ?_
  intro T2441 h2441 X2441 e2441 W2441
  have N2441 := Fr.snoc X2441 N2437 pg_ad0
  have F2442 : Fld Z h2441 ad0 o62 "part" o71 (.ref ad2) := Fld.same W2441 F2440
  refine o4 (fun u j => o3 X2441.here hx rfl (hb hby o217) rfl rfl (o3 X2441.here hx rfl (hb hby o218) rfl rfl j)) ?_
  have F2443 := (Exa.wr W2441 F2439)
  have F2444 := (Fld.other W2441 (Fld.other W2437 pf3 (Or.inr (o464 hw))) (Or.inr (o465 hw)))
  refine o32 (putF X2441 hx hZ hown (host := "") (Or.inl (o2 hw 42 rfl)) Via.refl e2441 F2444 F2443 (Or.inr ⟨(o2 hw 43 rfl), rfl, hnm⟩) (o2 hw 27 rfl) (ty := (.object "java/lang/String")) o82 rfl rfl rfl rfl (hb hby o219)) ?_
  intro T2445 h2445 X2445 e2445 W2445
  have N2445 := Fr.snoc X2445 N2441 pg_ad0
  have F2446 : Fld Z h2445 ad0 o62 "name" o71 .null := Fld.same W2445 F2444
  have K2447 := (Keep.refl h0 [ad0]).wr W2437 (Or.inl (List.mem_of_getElem? (i := 0) rfl))
  have K2448 := K2447.wr W2441 (Or.inl (List.mem_of_getElem? (i := 0) rfl))
  have K2449 := K2448.wr W2445 (Or.inl (List.mem_of_getElem? (i := 0) rfl))
  have F2450 := (Exa.wr W2445 F2443)
  have F2451 := (Fld.other W2445 (Fld.other W2441 F2438 (Or.inr (o466 hw))) (Or.inr (o467 hw)))
  have F2452 := (Fld.other W2445 F2442 (Or.inr (o468 hw)))
  exact o81 X2445 hx hlk hret (hb hby o220) (by decide) (by decide) (by rw [e2445]; exact ⟨rfl, N2445, K2449, F2450, F2451, F2446, F2452⟩)
theorem o489 : decode prog_89_method_5_code 99 = .ok (.new 22, 3) := by decide +kernel
theorem o445 : decode prog_89_method_5_code 102 = .ok (.dup, 1) := by decide +kernel
theorem o446 : decode prog_89_method_5_code 103 = .ok (.invokespecial 24, 3) := by decide +kernel
theorem o447 : decode prog_89_method_5_code 106 = .ok (.ldc 37, 2) := by decide +kernel
theorem o448 : decode prog_89_method_5_code 108 = .ok (.invokevirtual 25, 3) := by decide +kernel
theorem o449 : decode prog_89_method_5_code 111 = .ok (.aload_n 0, 1) := by decide +kernel
theorem o450 : decode prog_89_method_5_code 112 = .ok (.getfield 7, 3) := by decide +kernel
theorem o451 : decode prog_89_method_5_code 115 = .ok (.invokevirtual 25, 3) := by decide +kernel
theorem o452 : decode prog_89_method_5_code 118 = .ok (.ldc 39, 2) := by decide +kernel
theorem o827 : (∀ c ∈ ("': " : String).toList, c.toNat < 256) ∧ ("': " : String).toList.map (fun c => Value.int (Jvm.Lit.byteI c.toNat.toUInt16)) = [.int 39, .int 58, .int 32] := (by decide)
theorem o453 : decode prog_89_method_5_code 120 = .ok (.invokevirtual 25, 3) := by decide +kernel
theorem o980 (hw : o35 a0 Z) (hS : o64 Z wcs) (ad0 ad1 : Addr) (kc2 : ClassId) (h0 : Heap) (n0 : Nat) (O0 : Old Z n0 h0) (pe1 : Exa Z h0 ad0 o7) (pf2 : Fld Z h0 ad0 o7 "coder" "B" (.int 0)) (pf3 : Fld Z h0 ad0 o7 "value" "[B" (.ref ad1)) (pa4 : Arv Z h0 ad1 kc2 .byte 3 [.int 39, .int 58, .int 32] (.int 0)) :
    o21 l o106 jdk_42_method_54_code 1 (some .int) ws ⟨1, 0, 0, 13⟩ Z h0 #[.ref ad0] (fun v h L => v = some (.int 3) ∧ Fr n0 L ∧ h = h0) := by
  refine o18 (plainFor_of_name o83) ?_
  intro p e s m below meth c s₁ hx hby hml hown hnm hret hlk hZ e0 X0
  have N0 := Fr.nil n0
  refine o4 (fun u j => castTop (show entryFrame m #[.ref ad0] 1 = mkF m 0 #[o1 ad0] [] from rfl) j) ?_
  refine o4 (fun u j => o3 X0.here hx rfl (hb hby o302) rfl rfl j) ?_
  refine o22 (getF X0 hx hZ hown (host := "") (Or.inl (o2 hw 22 rfl)) Via.refl e0 pf3 rfl rfl (hb hby o303)) ?_
  intro T2531 X2531 e2531
  refine o4 (fun u j => o75 X2531 hx hZ e2531 pa4 rfl rfl (hb hby o304) (o3 X2531.here hx rfl (hb hby o305) rfl rfl j)) ?_
  refine o17 (o63 X2531 hx hZ (y := o89) (z := o89) hown (o2 hw 112 rfl) (o2 hw 113 rfl) (notFace_of_selects (args := #[]) (mvT hZ (o2 hw 115 rfl))) (o2 hw 115 rfl) (o2 hw 114 rfl) (o2 hw 2 rfl) (o2 hw 116 rfl) o67 (o396 hw hS ad0 h0 n0 O0 pf2) e2531 pe1 o174 (argsL := []) (rest := [.int 3]) rfl rfl (g := (mkF m 6 #[o1 ad0] [.ref ad0, .int 3])) rfl (by rw [hml]; rfl) rfl (hb hby o306) (W := 1) rfl) ?_
  intro T2533 v2533 L2533 X2533 hQ2533
  obtain ⟨rfl, M2533, e2533⟩ := hQ2533
  have N2533 := Fr.app N0 M2533
  refine o4 (fun u j => XS.ishr X2533.here hx rfl (hb hby o307) rfl j) ?_
  exact o69 X2533 hx hlk hret rfl (Or.inl ⟨rfl, by simp, _, rfl⟩) (hb hby o259) (by decide) (by decide) (by rw [e2533]; exact ⟨rfl, N2533, rfl⟩)
theorem o981 (hw : o35 a0 Z) (hS : o64 Z wcs) (ad0 ad1 ad2 : Addr) (kc3 : ClassId) (iv4 : Int32) (kc5 : ClassId) (h0 : Heap) (n0 : Nat) (O0 : Old Z n0 h0) (pe1 : Exa Z h0 ad0 o7) (pf2 : Fld Z h0 ad0 o7 "coder" "B" (.int 0)) (pf3 : Fld Z h0 ad0 o7 "value" "[B" (.ref ad2)) (pe4 : Exa Z h0 ad1 "[B") (pa5 : Arv Z h0 ad1 kc3 .byte 16 [.int 98, .int 101, .int 97, .int 110, .int 32, .int 39, .int iv4, .int 0, .int 0, .int 0, .int 0, .int 0, .int 0, .int 0, .int 0, .int 0] (.int 0)) (pa6 : Arv Z h0 ad2 kc5 .byte 3 [.int 39, .int 58, .int 32] (.int 0)) (pg_ad1 : n0 ≤ ad1) :
    o21 l o97 jdk_42_method_147_code 4 none ws ⟨1, 0, 0, 27⟩ Z h0 #[.ref ad0, .ref ad1, .int 7, .int 0] (fun v h L => v = none ∧ Fr n0 L ∧ Keep h0 h [ad1] ∧ Exa Z h ad1 "[B" ∧ Arv Z h ad1 kc3 .byte 16 [.int 98, .int 101, .int 97, .int 110, .int 32, .int 39, .int iv4, .int 39, .int 58, .int 32, .int 0, .int 0, .int 0, .int 0, .int 0, .int 0] (.int 0)) := by
  refine o18 (plainFor_of_name o83) ?_
  intro p e s m below meth c s₁ hx hby hml hown hnm hret hlk hZ e0 X0
  have N0 := Fr.nil n0
  refine o4 (fun u j => castTop (show entryFrame m #[.ref ad0, .ref ad1, .int 7, .int 0] 4 = mkF m 0 #[o1 ad0, o1 ad1, o0 7, o0 0] [] from rfl) j) ?_
  refine o4 (fun u j => o3 X0.here hx rfl (hb hby o139) rfl rfl j) ?_
  refine o17 (o63 X0 hx hZ (y := o89) (z := o89) hown (o2 hw 112 rfl) (o2 hw 113 rfl) (notFace_of_selects (args := #[]) (mvT hZ (o2 hw 115 rfl))) (o2 hw 115 rfl) (o2 hw 114 rfl) (o2 hw 2 rfl) (o2 hw 116 rfl) o67 (o396 hw hS ad0 h0 n0 O0 pf2) e0 pe1 o174 (argsL := []) (rest := []) rfl rfl (g := (mkF m 1 #[o1 ad0, o1 ad1, o0 7, o0 0] [.ref ad0])) rfl (by rw [hml]; rfl) rfl (hb hby o140) (W := 0) rfl) ?_
  intro T2547 v2547 L2547 X2547 hQ2547
  obtain ⟨rfl, M2547, e2547⟩ := hQ2547
  have N2547 := Fr.app N0 M2547
  refine o4 (fun u j => o6 X2547.here hx rfl (hb hby o141) rfl (o14 X2547.here hx rfl (hb hby o142) rfl (o93 (by decide)) (o3 X2547.here hx rfl (hb hby o143) rfl rfl j))) ?_
  refine o22 (getF X2547 hx hZ hown (host := "") (Or.inl (o2 hw 22 rfl)) Via.refl e2547 pf3 rfl rfl (hb hby o144)) ?_
  intro T2548 X2548 e2548
  refine o4 (fun u j => o16 X2548.here hx rfl (hb hby o109) (o3 X2548.here hx rfl (hb hby o110) rfl rfl (o6 X2548.here hx rfl (hb hby o111) rfl (o6 X2548.here hx rfl (hb hby o112) rfl (XS.ishl X2548.here hx rfl (hb hby o113) rfl (o3 X2548.here hx rfl (hb hby o114) rfl rfl j)))))) ?_
  show o11 p e below _ (T2548.setTop (mkF m 18 #[o1 ad0, o1 ad1, o0 7, o0 0] [.ref ad0, .int 7, .ref ad1, .int 0, .ref ad2]))
  refine o22 (getF X2548 hx hZ hown (host := "") (Or.inl (o2 hw 22 rfl)) Via.refl e2548 pf3 rfl rfl (hb hby o115)) ?_
  intro T2549 X2549 e2549
  refine o4 (fun u j => o75 X2549 hx hZ e2549 pa6 rfl rfl (hb hby o116) j) ?_
  have q_ := cpA X2549 hx hZ hown (o2 hw 140 rfl) (o2 hw 143 rfl) (o2 hw 141 rfl) (o2 hw 142 rfl) e2549 pa6 pa5 (us := [.int 39, .int 58, .int 32]) (Or.inl ⟨rfl, rfl⟩) (by decide) (by decide) (by decide) (by decide) (by decide) rfl (Nat.le_of_ble_eq_true rfl) N2547 pg_ad1 (g := (mkF m 22 #[o1 ad0, o1 ad1, o0 7, o0 0] [.int 3, .int 7, .ref ad1, .int 0, .ref ad2])) rfl (by rw [hml]; rfl) rfl (hb hby o117) (by decide) (W := 0) (by show 2 * 0 + _ ≤ _; exact Nat.le_of_eq rfl) (by decide)
  obtain ⟨T2551, h2551, L2551, X2551, e2551, N2551, K2551, V2551, st2551⟩ := q_
  have V2552 : Arv Z h2551 ad1 kc3 .byte 16 [.int 98, .int 101, .int 97, .int 110, .int 32, .int 39, .int iv4, .int 39, .int 58, .int 32, .int 0, .int 0, .int 0, .int 0, .int 0, .int 0] (.int 0) := V2551
  refine o4 (fun u j => st2551 u j) ?_
  refine o4 (fun u j => o15 X2551.here hx rfl (pc0 := 25) (pc' := 43) rfl (hb hby o118) (by decide) (by decide) j) ?_
  have K2553 := (Keep.refl h0 [ad1]).trans K2551 (allS (Or.inl (List.mem_of_getElem? (i := 0) rfl)) all0)
  have F2554 := (pe4.keep K2551)
  exact o81 X2551 hx hlk hret (hb hby o119) (by decide) (by decide) (by rw [e2551]; exact ⟨rfl, N2551, K2553, F2554, V2552⟩)
theorem o982 (hw : o35 a0 Z) (hS : o64 Z wcs) (ad0 ad1 : Addr) (ad2 ad3 : Addr) (kc4 : ClassId) (iv5 : Int32) (kc6 : ClassId) (h0 : Heap) (n0 : Nat) (O0 : Old Z n0 h0) (pe1 : Exa Z h0 ad0 o70) (pf2 : Fld Z h0 ad0 o10 "coder" "B" (.int 0)) (pf4 : Fld Z h0 ad0 o10 "value" "[B" (.ref ad2)) (pe5 : Exa Z h0 ad1 o7) (pf6 : Fld Z h0 ad1 o7 "coder" "B" (.int 0)) (pf7 : Fld Z h0 ad1 o7 "value" "[B" (.ref ad3)) (pe8 : Exa Z h0 ad2 "[B") (pa9 : Arv Z h0 ad2 kc4 .byte 16 [.int 98, .int 101, .int 97, .int 110, .int 32, .int 39, .int iv5, .int 0, .int 0, .int 0, .int 0, .int 0, .int 0, .int 0, .int 0, .int 0] (.int 0)) (pa10 : Arv Z h0 ad3 kc6 .byte 3 [.int 39, .int 58, .int 32] (.int 0)) (pg_ad2 : n0 ≤ ad2) :
    o21 l o154 jdk_68_method_73_code 3 none ws ⟨2, 0, 0, 42⟩ Z h0 #[.ref ad0, .int 7, .ref ad1] (fun v h L => v = none ∧ Fr n0 L ∧ Keep h0 h [ad2] ∧ Exa Z h ad2 "[B" ∧ Arv Z h ad2 kc4 .byte 16 [.int 98, .int 101, .int 97, .int 110, .int 32, .int 39, .int iv5, .int 39, .int 58, .int 32, .int 0, .int 0, .int 0, .int 0, .int 0, .int 0] (.int 0)) := by
  refine o18 (plainFor_of_name o100) ?_
  intro p e s m below meth c s₁ hx hby hml hown hnm hret hlk hZ e0 X0
  have N0 := Fr.nil n0
  refine o4 (fun u j => castTop (show entryFrame m #[.ref ad0, .int 7, .ref ad1] 3 = mkF m 0 #[o1 ad0, o0 7, o1 ad1] [] from rfl) j) ?_
  refine o4 (fun u j => o3 X0.here hx rfl (hb hby o158) rfl rfl (o3 X0.here hx rfl (hb hby o159) rfl rfl j)) ?_
  refine o17 (o95 X0 hx hZ (y := o261) hown (o2 hw 129 rfl) (o2 hw 130 rfl) (o96 hZ (o2 hw 132 rfl) (o2 hw 131 rfl) (o2 hw 130 rfl) o24) (o2 hw 131 rfl) (o2 hw 89 rfl) (o2 hw 133 rfl) o24 (o460 hw hS ad0 ad1 h0 n0 O0 pf2 pe5 pf6) e0 pe1 o208 (argsL := [.ref ad1]) (rest := []) rfl rfl (g := (mkF m 2 #[o1 ad0, o0 7, o1 ad1] [.ref ad1, .ref ad0])) rfl (by rw [hml]; rfl) rfl (hb hby o160) (W := 0) rfl) ?_
  intro T2558 v2558 L2558 X2558 hQ2558
  obtain ⟨rfl, M2558, e2558⟩ := hQ2558
  have N2558 := Fr.app N0 M2558
  refine o4 (fun u j => o3 X2558.here hx rfl (hb hby o161) rfl rfl (o3 X2558.here hx rfl (hb hby o162) rfl rfl j)) ?_
  refine o22 (getF X2558 hx hZ hown (host := "") (Or.inl (o2 hw 93 rfl)) Via.refl e2558 pf4 rfl rfl (hb hby o163)) ?_
  intro T2559 X2559 e2559
  refine o4 (fun u j => o6 X2559.here hx rfl (hb hby o135) rfl (o3 X2559.here hx rfl (hb hby o136) rfl rfl j)) ?_
  refine o22 (getF X2559 hx hZ hown (host := "") (Or.inl (o2 hw 95 rfl)) Via.refl e2559 pf2 rfl rfl (hb hby o137)) ?_
  intro T2560 X2560 e2560
  refine o17 (o63 X2560 hx hZ (y := o97) (z := o97) hown (o2 hw 135 rfl) (o2 hw 136 rfl) (notFace_of_selects (args := #[]) (mvT hZ (o2 hw 138 rfl))) (o2 hw 138 rfl) (o2 hw 137 rfl) (o2 hw 2 rfl) (o2 hw 139 rfl) o67 (o981 hw hS ad1 ad2 ad3 kc4 iv5 kc6 h0 n0 O0 pe5 pf6 pf7 pe8 pa9 pa10 pg_ad2) e2560 pe5 o209 (argsL := [.ref ad2, .int 7, .int 0]) (rest := []) rfl rfl (g := (mkF m 15 #[o1 ad0, o0 7, o1 ad1] [.int 0, .int 7, .ref ad2, .ref ad1])) rfl (by rw [hml]; rfl) rfl (hb hby o138) (W := 0) rfl) ?_
  intro T2561 v2561 L2561 X2561 hQ2561
  obtain ⟨rfl, M2561, K2561, F2562, F2563⟩ := hQ2561
  have N2561 := Fr.app N2558 M2561
  have K2564 := (Keep.refl h0 [ad2]).trans K2561 (allS (Or.inl (List.mem_of_getElem? (i := 0) rfl)) all0)
  exact o81 X2561 hx hlk hret (hb hby o145) (by decide) (by decide) (by exact ⟨rfl, N2561, K2564, F2562, F2563⟩)
theorem o983 (hw : o35 a0 Z) (hS : o64 Z wcs) (ad0 ad1 : Addr) (ad2 ad3 : Addr) (kc4 : ClassId) (iv5 : Int32) (kc6 : ClassId) (h0 : Heap) (n0 : Nat) (O0 : Old Z n0 h0) (pe1 : Exa Z h0 ad0 o70) (pf2 : Fld Z h0 ad0 o10 "coder" "B" (.int 0)) (pf3 : Fld Z h0 ad0 o10 "count" "I" (.int 7)) (pf4 : Fld Z h0 ad0 o10 "value" "[B" (.ref ad2)) (pe5 : Exa Z h0 ad1 o7) (pf6 : Fld Z h0 ad1 o7 "coder" "B" (.int 0)) (pf7 : Fld Z h0 ad1 o7 "value" "[B" (.ref ad3)) (pe8 : Exa Z h0 ad2 "[B") (pa9 : Arv Z h0 ad2 kc4 .byte 16 [.int 98, .int 101, .int 97, .int 110, .int 32, .int 39, .int iv5, .int 0, .int 0, .int 0, .int 0, .int 0, .int 0, .int 0, .int 0, .int 0] (.int 0)) (pa10 : Arv Z h0 ad3 kc6 .byte 3 [.int 39, .int 58, .int 32] (.int 0)) (pg_ad2 : n0 ≤ ad2) (pg_ad0 : n0 ≤ ad0) :
    o21 l o98 jdk_68_method_22_code 3 (some (.object "java/lang/AbstractStringBuilder")) ws ⟨3, 0, 0, 56⟩ Z h0 #[.ref ad0, .ref ad1] (fun v h L => v = some (.ref ad0) ∧ Fr n0 L ∧ Keep h0 h [ad2, ad0] ∧ Exa Z h ad2 "[B" ∧ Arv Z h ad2 kc4 .byte 16 [.int 98, .int 101, .int 97, .int 110, .int 32, .int 39, .int iv5, .int 39, .int 58, .int 32, .int 0, .int 0, .int 0, .int 0, .int 0, .int 0] (.int 0) ∧ Exa Z h ad0 o70 ∧ Fld Z h ad0 o10 "coder" "B" (.int 0) ∧ Fld Z h ad0 o10 "count" "I" (.int 10) ∧ Fld Z h ad0 o10 "value" "[B" (.ref ad2)) := by
  refine o18 (plainFor_of_name o100) ?_
  intro p e s m below meth c s₁ hx hby hml hown hnm hret hlk hZ e0 X0
  have N0 := Fr.nil n0
  refine o4 (fun u j => castTop (show entryFrame m #[.ref ad0, .ref ad1] 3 = mkF m 0 #[o1 ad0, o1 ad1, o5] [] from rfl) j) ?_
  refine o4 (fun u j => o3 X0.here hx rfl (hb hby o155) rfl rfl (o86 X0.here hx rfl (pc0 := 1) (pc' := 9) rfl (hb hby o156) rfl (by decide) (by decide) (o3 X0.here hx rfl (hb hby o157) rfl rfl j))) ?_
  refine o17 (o63 X0 hx hZ (y := o106) (z := o106) hown (o2 hw 107 rfl) (o2 hw 108 rfl) (notFace_of_selects (args := #[]) (mvT hZ (o2 hw 110 rfl))) (o2 hw 110 rfl) (o2 hw 109 rfl) (o2 hw 2 rfl) (o2 hw 111 rfl) o67 (o980 hw hS ad1 ad3 kc6 h0 n0 O0 pe5 pf6 pf7 pa10) e0 pe5 o179 (argsL := []) (rest := []) rfl rfl (g := (mkF m 10 #[o1 ad0, o1 ad1, o5] [.ref ad1])) rfl (by rw [hml]; rfl) rfl (hb hby o122) (W := 0) rfl) ?_
  intro T2574 v2574 L2574 X2574 hQ2574
  obtain ⟨rfl, M2574, e2574⟩ := hQ2574
  have N2574 := Fr.app N0 M2574
  refine o4 (fun u j => o94 X2574.here hx rfl (hb hby o123) rfl (l' := #[o1 ad0, o1 ad1, o0 3]) rfl (o3 X2574.here hx rfl (hb hby o124) rfl rfl (o3 X2574.here hx rfl (hb hby o125) rfl rfl j))) ?_
  refine o22 (getF X2574 hx hZ hown (host := "") (Or.inl (o2 hw 117 rfl)) Via.refl e2574 pf3 rfl rfl (hb hby o126)) ?_
  intro T2575 X2575 e2575
  refine o4 (fun u j => o6 X2575.here hx rfl (hb hby o127) rfl (o107 X2575.here hx rfl (hb hby o128) rfl j)) ?_
  refine o17 (o95 X2575 hx hZ (y := o260) hown (o2 hw 119 rfl) (o2 hw 120 rfl) (o96 hZ (o2 hw 122 rfl) (o2 hw 121 rfl) (o2 hw 120 rfl) o24) (o2 hw 121 rfl) (o2 hw 89 rfl) (o2 hw 123 rfl) o24 (o459 hw hS ad0 (10 : Int32) ad2 kc4 (16 : Int32) [.int 98, .int 101, .int 97, .int 110, .int 32, .int 39, .int iv5, .int 0, .int 0, .int 0, .int 0, .int 0, .int 0, .int 0, .int 0, .int 0] h0 n0 O0 pf2 pf4 pa9 (by decide)) e2575 pe1 o187 (argsL := [.int 10]) (rest := []) rfl rfl (g := (mkF m 21 #[o1 ad0, o1 ad1, o0 3] [.int 10, .ref ad0])) rfl (by rw [hml]; rfl) rfl (hb hby o129) (W := 0) rfl) ?_
  intro T2576 v2576 L2576 X2576 hQ2576
  obtain ⟨rfl, M2576, e2576⟩ := hQ2576
  have N2576 := Fr.app N2574 M2576
  refine o4 (fun u j => o3 X2576.here hx rfl (hb hby o130) rfl rfl (o3 X2576.here hx rfl (hb hby o131) rfl rfl j)) ?_
  refine o22 (getF X2576 hx hZ hown (host := "") (Or.inl (o2 hw 117 rfl)) Via.refl e2576 pf3 rfl rfl (hb hby o132)) ?_
  intro T2577 X2577 e2577
  refine o4 (fun u j => o3 X2577.here hx rfl (hb hby o133) rfl rfl j) ?_
  refine o17 (o95 X2577 hx hZ (y := o154) hown (o2 hw 124 rfl) (o2 hw 125 rfl) (o96 hZ (o2 hw 127 rfl) (o2 hw 126 rfl) (o2 hw 125 rfl) o24) (o2 hw 126 rfl) (o2 hw 89 rfl) (o2 hw 128 rfl) o24 (o982 hw hS ad0 ad1 ad2 ad3 kc4 iv5 kc6 h0 n0 O0 pe1 pf2 pf4 pe5 pf6 pf7 pe8 pa9 pa10 pg_ad2) e2577 pe1 o210 (argsL := [.int 7, .ref ad1]) (rest := []) rfl rfl (g := (mkF m 30 #[o1 ad0, o1 ad1, o0 3] [.ref ad1, .int 7, .ref ad0])) rfl (by rw [hml]; rfl) rfl (hb hby o134) (W := 0) rfl) ?_
  intro T2578 v2578 L2578 X2578 hQ2578
  obtain ⟨rfl, M2578, K2578, F2579, F2580⟩ := hQ2578
  have N2578 := Fr.app N2576 M2578
  refine o4 (fun u j => o3 X2578.here hx rfl (hb hby o146) rfl rfl (o61 X2578.here hx rfl (hb hby o147) rfl rfl j)) ?_
  have ne2581 := (ne_exa pe1 pe8 o85)
  have F2582 := (pf3.keep K2578 (ninS ne2581 nin0))
  refine o22 (getF X2578 hx hZ hown (host := "") (Or.inl (o2 hw 117 rfl)) Via.refl rfl F2582 rfl rfl (hb hby o148)) ?_
  intro T2583 X2583 e2583
  refine o4 (fun u j => o6 X2583.here hx rfl (hb hby o149) rfl (o107 X2583.here hx rfl (hb hby o150) rfl j)) ?_
  have F2584 := (pe1.keep K2578)
  refine o32 (putF X2583 hx hZ hown (host := "") (Or.inl (o2 hw 117 rfl)) Via.refl e2583 F2582 F2584 (Or.inl (o2 hw 118 rfl)) (o2 hw 80 rfl) (ty := .int) o120 rfl rfl rfl rfl (hb hby o151)) ?_
  intro T2585 h2585 X2585 e2585 W2585
  have N2585 := Fr.snoc X2585 N2578 pg_ad0
  have F2586 : Fld Z h2585 ad0 o10 "count" "I" (.int 10) := Fld.same W2585 F2582
  refine o4 (fun u j => o3 X2585.here hx rfl (hb hby o152) rfl rfl j) ?_
  have K2587 := (Keep.refl h0 [ad2, ad0]).trans K2578 (allS (Or.inl (List.mem_of_getElem? (i := 0) rfl)) all0)
  have K2588 := K2587.wr W2585 (Or.inl (List.mem_of_getElem? (i := 1) rfl))
  have F2589 := (Exa.wr W2585 F2579)
  have F2590 := (F2580.other W2585 (Ne.symm ne2581))
  have F2591 := (Exa.wr W2585 F2584)
  have F2592 := (Fld.other W2585 (pf2.keep K2578 (ninS ne2581 nin0)) (Or.inr (o211 hw)))
  have F2593 := (Fld.other W2585 (pf4.keep K2578 (ninS ne2581 nin0)) (Or.inr (o212 hw)))
  exact o69 X2585 hx hlk hret rfl (Or.inr (Or.inr (Or.inr (Or.inr ⟨rfl, rfl, rfl⟩)))) (hb hby o153) (by decide) (by decide) (by rw [e2585]; exact ⟨rfl, N2585, K2588, F2589, F2590, F2591, F2592, F2586, F2593⟩)
theorem o873 (hw : o35 a0 Z) (hS : o64 Z wcs) (ad0 ad1 : Addr) (ad2 ad3 : Addr) (kc4 : ClassId) (iv5 : Int32) (kc6 : ClassId) (h0 : Heap) (n0 : Nat) (O0 : Old Z n0 h0) (pe1 : Exa Z h0 ad0 o70) (pf2 : Fld Z h0 ad0 o10 "coder" "B" (.int 0)) (pf3 : Fld Z h0 ad0 o10 "count" "I" (.int 7)) (pf4 : Fld Z h0 ad0 o10 "value" "[B" (.ref ad2)) (pe5 : Exa Z h0 ad1 o7) (pf6 : Fld Z h0 ad1 o7 "coder" "B" (.int 0)) (pf7 : Fld Z h0 ad1 o7 "value" "[B" (.ref ad3)) (pe8 : Exa Z h0 ad2 "[B") (pa9 : Arv Z h0 ad2 kc4 .byte 16 [.int 98, .int 101, .int 97, .int 110, .int 32, .int 39, .int iv5, .int 0, .int 0, .int 0, .int 0, .int 0, .int 0, .int 0, .int 0, .int 0] (.int 0)) (pa10 : Arv Z h0 ad3 kc6 .byte 3 [.int 39, .int 58, .int 32] (.int 0)) (pg_ad2 : n0 ≤ ad2) (pg_ad0 : n0 ≤ ad0) :
    o21 l o80 jdk_67_method_7_code 2 (some (.object "java/lang/StringBuilder")) ws ⟨4, 0, 0, 70⟩ Z h0 #[.ref ad0, .ref ad1] (fun v h L => v = some (.ref ad0) ∧ Fr n0 L ∧ Keep h0 h [ad2, ad0] ∧ Exa Z h ad2 "[B" ∧ Arv Z h ad2 kc4 .byte 16 [.int 98, .int 101, .int 97, .int 110, .int 32, .int 39, .int iv5, .int 39, .int 58, .int 32, .int 0, .int 0, .int 0, .int 0, .int 0, .int 0] (.int 0) ∧ Exa Z h ad0 o70 ∧ Fld Z h ad0 o10 "coder" "B" (.int 0) ∧ Fld Z h ad0 o10 "count" "I" (.int 10) ∧ Fld Z h ad0 o10 "value" "[B" (.ref ad2)) := by
  refine o18 (plainFor_of_name o173) ?_
  intro p e s m below meth c s₁ hx hby hml hown hnm hret hlk hZ e0 X0
  have N0 := Fr.nil n0
  refine o4 (fun u j => castTop (show entryFrame m #[.ref ad0, .ref ad1] 2 = mkF m 0 #[o1 ad0, o1 ad1] [] from rfl) j) ?_
  refine o4 (fun u j => o3 X0.here hx rfl (hb hby o166) rfl rfl (o3 X0.here hx rfl (hb hby o167) rfl rfl j)) ?_
  refine o17 (o186 X0 hx hZ (y := o98) hown (o2 hw 102 rfl) (o321 (y := o98) (o2 hw 122 rfl) rfl (o2 hw 103 rfl) o24) (o2 hw 103 rfl) (o2 hw 104 rfl) (by decide) (o2 hw 89 rfl) (o2 hw 106 rfl) (o983 hw hS ad0 ad1 ad2 ad3 kc4 iv5 kc6 h0 n0 O0 pe1 pf2 pf3 pf4 pe5 pf6 pf7 pe8 pa9 pa10 pg_ad2 pg_ad0) e0 (Ins.self pe1) o213 (argsL := [.ref ad1]) (rest := []) rfl rfl (g := (mkF m 2 #[o1 ad0, o1 ad1] [.ref ad1, .ref ad0])) rfl (by rw [hml]; rfl) rfl (hb hby o168) (W := 0) rfl) ?_
  intro T2601 v2601 L2601 X2601 hQ2601
  obtain ⟨rfl, M2601, K2601, F2602, F2603, F2604, F2605, F2606, F2607⟩ := hQ2601
  have N2601 := Fr.app N0 M2601
  refine o4 (fun u j => XS.pop X2601.here hx rfl (hb hby o169) rfl rfl (o3 X2601.here hx rfl (hb hby o170) rfl rfl j)) ?_
  have K2608 := (Keep.refl h0 [ad2, ad0]).trans K2601 (allS (Or.inl (List.mem_of_getElem? (i := 0) rfl)) (allS (Or.inl (List.mem_of_getElem? (i := 1) rfl)) all0))
  exact o69 X2601 hx hlk hret rfl (Or.inr (Or.inr (Or.inr (Or.inr ⟨rfl, rfl, rfl⟩)))) (hb hby o171) (by decide) (by decide) (by exact ⟨rfl, N2601, K2608, F2602, F2603, F2604, F2605, F2606, F2607⟩)
theorem o454 : decode prog_89_method_5_code 123 = .ok (.aload_n 1, 1) := by decide +kernel
theorem o455 : decode prog_89_method_5_code 124 = .ok (.invokevirtual 25, 3) := by decide +kernel
theorem o984 (hw : o35 a0 Z) (hS : o64 Z wcs) (ad0 ad1 ad2 : Addr) (kc3 : ClassId) (iv4 : Int32) (kc5 : ClassId) (iv6 : Int32) (h0 : Heap) (n0 : Nat) (O0 : Old Z n0 h0) (pe1 : Exa Z h0 ad0 o7) (pf2 : Fld Z h0 ad0 o7 "coder" "B" (.int 0)) (pf3 : Fld Z h0 ad0 o7 "value" "[B" (.ref ad2)) (pe4 : Exa Z h0 ad1 "[B") (pa5 : Arv Z h0 ad1 kc3 .byte 16 [.int 98, .int 101, .int 97, .int 110, .int 32, .int 39, .int iv4, .int 39, .int 58, .int 32, .int 0, .int 0, .int 0, .int 0, .int 0, .int 0] (.int 0)) (pa7 : Arv Z h0 ad2 kc5 .byte 1 [.int iv6] (.int 0)) (pg_ad1 : n0 ≤ ad1) :
    o21 l o97 jdk_42_method_147_code 4 none ws ⟨1, 0, 0, 27⟩ Z h0 #[.ref ad0, .ref ad1, .int 10, .int 0] (fun v h L => v = none ∧ Fr n0 L ∧ Keep h0 h [ad1] ∧ Exa Z h ad1 "[B" ∧ Arv Z h ad1 kc3 .byte 16 [.int 98, .int 101, .int 97, .int 110, .int 32, .int 39, .int iv4, .int 39, .int 58, .int 32, .int iv6, .int 0, .int 0, .int 0, .int 0, .int 0] (.int 0)) := by
  refine o18 (plainFor_of_name o83) ?_
  intro p e s m below meth c s₁ hx hby hml hown hnm hret hlk hZ e0 X0
  have N0 := Fr.nil n0
  refine o4 (fun u j => castTop (show entryFrame m #[.ref ad0, .ref ad1, .int 10, .int 0] 4 = mkF m 0 #[o1 ad0, o1 ad1, o0 10, o0 0] [] from rfl) j) ?_
  refine o4 (fun u j => o3 X0.here hx rfl (hb hby o139) rfl rfl j) ?_
  refine o17 (o63 X0 hx hZ (y := o89) (z := o89) hown (o2 hw 112 rfl) (o2 hw 113 rfl) (notFace_of_selects (args := #[]) (mvT hZ (o2 hw 115 rfl))) (o2 hw 115 rfl) (o2 hw 114 rfl) (o2 hw 2 rfl) (o2 hw 116 rfl) o67 (o396 hw hS ad0 h0 n0 O0 pf2) e0 pe1 o174 (argsL := []) (rest := []) rfl rfl (g := (mkF m 1 #[o1 ad0, o1 ad1, o0 10, o0 0] [.ref ad0])) rfl (by rw [hml]; rfl) rfl (hb hby o140) (W := 0) rfl) ?_
  intro T2637 v2637 L2637 X2637 hQ2637
  obtain ⟨rfl, M2637, e2637⟩ := hQ2637
  have N2637 := Fr.app N0 M2637
  refine o4 (fun u j => o6 X2637.here hx rfl (hb hby o141) rfl (o14 X2637.here hx rfl (hb hby o142) rfl (o93 (by decide)) (o3 X2637.here hx rfl (hb hby o143) rfl rfl j))) ?_
  refine o22 (getF X2637 hx hZ hown (host := "") (Or.inl (o2 hw 22 rfl)) Via.refl e2637 pf3 rfl rfl (hb hby o144)) ?_
  intro T2638 X2638 e2638
  refine o4 (fun u j => o16 X2638.here hx rfl (hb hby o109) (o3 X2638.here hx rfl (hb hby o110) rfl rfl (o6 X2638.here hx rfl (hb hby o111) rfl (o6 X2638.here hx rfl (hb hby o112) rfl (XS.ishl X2638.here hx rfl (hb hby o113) rfl (o3 X2638.here hx rfl (hb hby o114) rfl rfl j)))))) ?_
  show o11 p e below _ (T2638.setTop (mkF m 18 #[o1 ad0, o1 ad1, o0 10, o0 0] [.ref ad0, .int 10, .ref ad1, .int 0, .ref ad2]))
  refine o22 (getF X2638 hx hZ hown (host := "") (Or.inl (o2 hw 22 rfl)) Via.refl e2638 pf3 rfl rfl (hb hby o115)) ?_
  intro T2639 X2639 e2639
  refine o4 (fun u j => o75 X2639 hx hZ e2639 pa7 rfl rfl (hb hby o116) j) ?_
  have q_ := cpA X2639 hx hZ hown (o2 hw 140 rfl) (o2 hw 143 rfl) (o2 hw 141 rfl) (o2 hw 142 rfl) e2639 pa7 pa5 (us := [.int iv6]) (Or.inl ⟨rfl, rfl⟩) (by decide) (by decide) (by decide) (by decide) (by decide) rfl (Nat.le_of_ble_eq_true rfl) N2637 pg_ad1 (g := (mkF m 22 #[o1 ad0, o1 ad1, o0 10, o0 0] [.int 1, .int 10, .ref ad1, .int 0, .ref ad2])) rfl (by rw [hml]; rfl) rfl (hb hby o117) (by decide) (W := 0) (by show 2 * 0 + _ ≤ _; exact Nat.le_of_eq rfl) (by decide)
  obtain ⟨T2641, h2641, L2641, X2641, e2641, N2641, K2641, V2641, st2641⟩ := q_
  have V2642 : Arv Z h2641 ad1 kc3 .byte 16 [.int 98, .int 101, .int 97, .int 110, .int 32, .int 39, .int iv4, .int 39, .int 58, .int 32, .int iv6, .int 0, .int 0, .int 0, .int 0, .int 0] (.int 0) := V2641
  refine o4 (fun u j => st2641 u j) ?_
  refine o4 (fun u j => o15 X2641.here hx rfl (pc0 := 25) (pc' := 43) rfl (hb hby o118) (by decide) (by decide) j) ?_
  have K2643 := (Keep.refl h0 [ad1]).trans K2641 (allS (Or.inl (List.mem_of_getElem? (i := 0) rfl)) all0)
  have F2644 := (pe4.keep K2641)
  exact o81 X2641 hx hlk hret (hb hby o119) (by decide) (by decide) (by rw [e2641]; exact ⟨rfl, N2641, K2643, F2644, V2642⟩)
theorem o985 (hw : o35 a0 Z) (hS : o64 Z wcs) (ad0 ad1 : Addr) (ad2 ad3 : Addr) (kc4 : ClassId) (iv5 : Int32) (kc6 : ClassId) (iv7 : Int32) (h0 : Heap) (n0 : Nat) (O0 : Old Z n0 h0) (pe1 : Exa Z h0 ad0 o70) (pf2 : Fld Z h0 ad0 o10 "coder" "B" (.int 0)) (pf4 : Fld Z h0 ad0 o10 "value" "[B" (.ref ad2)) (pe5 : Exa Z h0 ad1 o7) (pf6 : Fld Z h0 ad1 o7 "coder" "B" (.int 0)) (pf7 : Fld Z h0 ad1 o7 "value" "[B" (.ref ad3)) (pe8 : Exa Z h0 ad2 "[B") (pa9 : Arv Z h0 ad2 kc4 .byte 16 [.int 98, .int 101, .int 97, .int 110, .int 32, .int 39, .int iv5, .int 39, .int 58, .int 32, .int 0, .int 0, .int 0, .int 0, .int 0, .int 0] (.int 0)) (pa11 : Arv Z h0 ad3 kc6 .byte 1 [.int iv7] (.int 0)) (pg_ad2 : n0 ≤ ad2) :
    o21 l o154 jdk_68_method_73_code 3 none ws ⟨2, 0, 0, 42⟩ Z h0 #[.ref ad0, .int 10, .ref ad1] (fun v h L => v = none ∧ Fr n0 L ∧ Keep h0 h [ad2] ∧ Exa Z h ad2 "[B" ∧ Arv Z h ad2 kc4 .byte 16 [.int 98, .int 101, .int 97, .int 110, .int 32, .int 39, .int iv5, .int 39, .int 58, .int 32, .int iv7, .int 0, .int 0, .int 0, .int 0, .int 0] (.int 0)) := by
  refine o18 (plainFor_of_name o100) ?_
  intro p e s m below meth c s₁ hx hby hml hown hnm hret hlk hZ e0 X0
  have N0 := Fr.nil n0
  refine o4 (fun u j => castTop (show entryFrame m #[.ref ad0, .int 10, .ref ad1] 3 = mkF m 0 #[o1 ad0, o0 10, o1 ad1] [] from rfl) j) ?_
  refine o4 (fun u j => o3 X0.here hx rfl (hb hby o158) rfl rfl (o3 X0.here hx rfl (hb hby o159) rfl rfl j)) ?_
  refine o17 (o95 X0 hx hZ (y := o261) hown (o2 hw 129 rfl) (o2 hw 130 rfl) (o96 hZ (o2 hw 132 rfl) (o2 hw 131 rfl) (o2 hw 130 rfl) o24) (o2 hw 131 rfl) (o2 hw 89 rfl) (o2 hw 133 rfl) o24 (o460 hw hS ad0 ad1 h0 n0 O0 pf2 pe5 pf6) e0 pe1 o208 (argsL := [.ref ad1]) (rest := []) rfl rfl (g := (mkF m 2 #[o1 ad0, o0 10, o1 ad1] [.ref ad1, .ref ad0])) rfl (by rw [hml]; rfl) rfl (hb hby o160) (W := 0) rfl) ?_
  intro T2648 v2648 L2648 X2648 hQ2648
  obtain ⟨rfl, M2648, e2648⟩ := hQ2648
  have N2648 := Fr.app N0 M2648
  refine o4 (fun u j => o3 X2648.here hx rfl (hb hby o161) rfl rfl (o3 X2648.here hx rfl (hb hby o162) rfl rfl j)) ?_
  refine o22 (getF X2648 hx hZ hown (host := "") (Or.inl (o2 hw 93 rfl)) Via.refl e2648 pf4 rfl rfl (hb hby o163)) ?_
  intro T2649 X2649 e2649
  refine o4 (fun u j => o6 X2649.here hx rfl (hb hby o135) rfl (o3 X2649.here hx rfl (hb hby o136) rfl rfl j)) ?_
  refine o22 (getF X2649 hx hZ hown (host := "") (Or.inl (o2 hw 95 rfl)) Via.refl e2649 pf2 rfl rfl (hb hby o137)) ?_
  intro T2650 X2650 e2650
  refine o17 (o63 X2650 hx hZ (y := o97) (z := o97) hown (o2 hw 135 rfl) (o2 hw 136 rfl) (notFace_of_selects (args := #[]) (mvT hZ (o2 hw 138 rfl))) (o2 hw 138 rfl) (o2 hw 137 rfl) (o2 hw 2 rfl) (o2 hw 139 rfl) o67 (o984 hw hS ad1 ad2 ad3 kc4 iv5 kc6 iv7 h0 n0 O0 pe5 pf6 pf7 pe8 pa9 pa11 pg_ad2) e2650 pe5 o209 (argsL := [.ref ad2, .int 10, .int 0]) (rest := []) rfl rfl (g := (mkF m 15 #[o1 ad0, o0 10, o1 ad1] [.int 0, .int 10, .ref ad2, .ref ad1])) rfl (by rw [hml]; rfl) rfl (hb hby o138) (W := 0) rfl) ?_
  intro T2651 v2651 L2651 X2651 hQ2651
  obtain ⟨rfl, M2651, K2651, F2652, F2653⟩ := hQ2651
  have N2651 := Fr.app N2648 M2651
  have K2654 := (Keep.refl h0 [ad2]).trans K2651 (allS (Or.inl (List.mem_of_getElem? (i := 0) rfl)) all0)
  exact o81 X2651 hx hlk hret (hb hby o145) (by decide) (by decide) (by exact ⟨rfl, N2651, K2654, F2652, F2653⟩)
theorem o986 (hw : o35 a0 Z) (hS : o64 Z wcs) (ad0 ad1 : Addr) (ad2 ad3 : Addr) (kc4 : ClassId) (iv5 : Int32) (kc6 : ClassId) (iv7 : Int32) (h0 : Heap) (n0 : Nat) (O0 : Old Z n0 h0) (pe1 : Exa Z h0 ad0 o70) (pf2 : Fld Z h0 ad0 o10 "coder" "B" (.int 0)) (pf3 : Fld Z h0 ad0 o10 "count" "I" (.int 10)) (pf4 : Fld Z h0 ad0 o10 "value" "[B" (.ref ad2)) (pe5 : Exa Z h0 ad1 o7) (pf6 : Fld Z h0 ad1 o7 "coder" "B" (.int 0)) (pf7 : Fld Z h0 ad1 o7 "value" "[B" (.ref ad3)) (pe8 : Exa Z h0 ad2 "[B") (pa9 : Arv Z h0 ad2 kc4 .byte 16 [.int 98, .int 101, .int 97, .int 110, .int 32, .int 39, .int iv5, .int 39, .int 58, .int 32, .int 0, .int 0, .int 0, .int 0, .int 0, .int 0] (.int 0)) (pa11 : Arv Z h0 ad3 kc6 .byte 1 [.int iv7] (.int 0)) (pg_ad2 : n0 ≤ ad2) (pg_ad0 : n0 ≤ ad0) :
    o21 l o98 jdk_68_method_22_code 3 (some (.object "java/lang/AbstractStringBuilder")) ws ⟨3, 0, 0, 56⟩ Z h0 #[.ref ad0, .ref ad1] (fun v h L => v = some (.ref ad0) ∧ Fr n0 L ∧ Keep h0 h [ad2, ad0] ∧ Exa Z h ad2 "[B" ∧ Arv Z h ad2 kc4 .byte 16 [.int 98, .int 101, .int 97, .int 110, .int 32, .int 39, .int iv5, .int 39, .int 58, .int 32, .int iv7, .int 0, .int 0, .int 0, .int 0, .int 0] (.int 0) ∧ Exa Z h ad0 o70 ∧ Fld Z h ad0 o10 "coder" "B" (.int 0) ∧ Fld Z h ad0 o10 "count" "I" (.int 11) ∧ Fld Z h ad0 o10 "value" "[B" (.ref ad2)) := by
  refine o18 (plainFor_of_name o100) ?_
  intro p e s m below meth c s₁ hx hby hml hown hnm hret hlk hZ e0 X0
  have N0 := Fr.nil n0
  refine o4 (fun u j => castTop (show entryFrame m #[.ref ad0, .ref ad1] 3 = mkF m 0 #[o1 ad0, o1 ad1, o5] [] from rfl) j) ?_
  refine o4 (fun u j => o3 X0.here hx rfl (hb hby o155) rfl rfl (o86 X0.here hx rfl (pc0 := 1) (pc' := 9) rfl (hb hby o156) rfl (by decide) (by decide) (o3 X0.here hx rfl (hb hby o157) rfl rfl j))) ?_
  refine o17 (o63 X0 hx hZ (y := o106) (z := o106) hown (o2 hw 107 rfl) (o2 hw 108 rfl) (notFace_of_selects (args := #[]) (mvT hZ (o2 hw 110 rfl))) (o2 hw 110 rfl) (o2 hw 109 rfl) (o2 hw 2 rfl) (o2 hw 111 rfl) o67 (o691 hw hS ad1 ad3 kc6 iv7 h0 n0 O0 pe5 pf6 pf7 pa11) e0 pe5 o179 (argsL := []) (rest := []) rfl rfl (g := (mkF m 10 #[o1 ad0, o1 ad1, o5] [.ref ad1])) rfl (by rw [hml]; rfl) rfl (hb hby o122) (W := 0) rfl) ?_
  intro T2664 v2664 L2664 X2664 hQ2664
  obtain ⟨rfl, M2664, e2664⟩ := hQ2664
  have N2664 := Fr.app N0 M2664
  refine o4 (fun u j => o94 X2664.here hx rfl (hb hby o123) rfl (l' := #[o1 ad0, o1 ad1, o0 1]) rfl (o3 X2664.here hx rfl (hb hby o124) rfl rfl (o3 X2664.here hx rfl (hb hby o125) rfl rfl j))) ?_
  refine o22 (getF X2664 hx hZ hown (host := "") (Or.inl (o2 hw 117 rfl)) Via.refl e2664 pf3 rfl rfl (hb hby o126)) ?_
  intro T2665 X2665 e2665
  refine o4 (fun u j => o6 X2665.here hx rfl (hb hby o127) rfl (o107 X2665.here hx rfl (hb hby o128) rfl j)) ?_
  refine o17 (o95 X2665 hx hZ (y := o260) hown (o2 hw 119 rfl) (o2 hw 120 rfl) (o96 hZ (o2 hw 122 rfl) (o2 hw 121 rfl) (o2 hw 120 rfl) o24) (o2 hw 121 rfl) (o2 hw 89 rfl) (o2 hw 123 rfl) o24 (o459 hw hS ad0 (11 : Int32) ad2 kc4 (16 : Int32) [.int 98, .int 101, .int 97, .int 110, .int 32, .int 39, .int iv5, .int 39, .int 58, .int 32, .int 0, .int 0, .int 0, .int 0, .int 0, .int 0] h0 n0 O0 pf2 pf4 pa9 (by decide)) e2665 pe1 o187 (argsL := [.int 11]) (rest := []) rfl rfl (g := (mkF m 21 #[o1 ad0, o1 ad1, o0 1] [.int 11, .ref ad0])) rfl (by rw [hml]; rfl) rfl (hb hby o129) (W := 0) rfl) ?_
  intro T2666 v2666 L2666 X2666 hQ2666
  obtain ⟨rfl, M2666, e2666⟩ := hQ2666
  have N2666 := Fr.app N2664 M2666
  refine o4 (fun u j => o3 X2666.here hx rfl (hb hby o130) rfl rfl (o3 X2666.here hx rfl (hb hby o131) rfl rfl j)) ?_
  refine o22 (getF X2666 hx hZ hown (host := "") (Or.inl (o2 hw 117 rfl)) Via.refl e2666 pf3 rfl rfl (hb hby o132)) ?_
  intro T2667 X2667 e2667
  refine o4 (fun u j => o3 X2667.here hx rfl (hb hby o133) rfl rfl j) ?_
  refine o17 (o95 X2667 hx hZ (y := o154) hown (o2 hw 124 rfl) (o2 hw 125 rfl) (o96 hZ (o2 hw 127 rfl) (o2 hw 126 rfl) (o2 hw 125 rfl) o24) (o2 hw 126 rfl) (o2 hw 89 rfl) (o2 hw 128 rfl) o24 (o985 hw hS ad0 ad1 ad2 ad3 kc4 iv5 kc6 iv7 h0 n0 O0 pe1 pf2 pf4 pe5 pf6 pf7 pe8 pa9 pa11 pg_ad2) e2667 pe1 o210 (argsL := [.int 10, .ref ad1]) (rest := []) rfl rfl (g := (mkF m 30 #[o1 ad0, o1 ad1, o0 1] [.ref ad1, .int 10, .ref ad0])) rfl (by rw [hml]; rfl) rfl (hb hby o134) (W := 0) rfl) ?_
  intro T2668 v2668 L2668 X2668 hQ2668
  obtain ⟨rfl, M2668, K2668, F2669, F2670⟩ := hQ2668
  have N2668 := Fr.app N2666 M2668
  refine o4 (fun u j => o3 X2668.here hx rfl (hb hby o146) rfl rfl (o61 X2668.here hx rfl (hb hby o147) rfl rfl j)) ?_
  have ne2671 := (ne_exa pe1 pe8 o85)
  have F2672 := (pf3.keep K2668 (ninS ne2671 nin0))
  refine o22 (getF X2668 hx hZ hown (host := "") (Or.inl (o2 hw 117 rfl)) Via.refl rfl F2672 rfl rfl (hb hby o148)) ?_
  intro T2673 X2673 e2673
  refine o4 (fun u j => o6 X2673.here hx rfl (hb hby o149) rfl (o107 X2673.here hx rfl (hb hby o150) rfl j)) ?_
  have F2674 := (pe1.keep K2668)
  refine o32 (putF X2673 hx hZ hown (host := "") (Or.inl (o2 hw 117 rfl)) Via.refl e2673 F2672 F2674 (Or.inl (o2 hw 118 rfl)) (o2 hw 80 rfl) (ty := .int) o120 rfl rfl rfl rfl (hb hby o151)) ?_
  intro T2675 h2675 X2675 e2675 W2675
  have N2675 := Fr.snoc X2675 N2668 pg_ad0
  have F2676 : Fld Z h2675 ad0 o10 "count" "I" (.int 11) := Fld.same W2675 F2672
  refine o4 (fun u j => o3 X2675.here hx rfl (hb hby o152) rfl rfl j) ?_
  have K2677 := (Keep.refl h0 [ad2, ad0]).trans K2668 (allS (Or.inl (List.mem_of_getElem? (i := 0) rfl)) all0)
  have K2678 := K2677.wr W2675 (Or.inl (List.mem_of_getElem? (i := 1) rfl))
  have F2679 := (Exa.wr W2675 F2669)
  have F2680 := (F2670.other W2675 (Ne.symm ne2671))
  have F2681 := (Exa.wr W2675 F2674)
  have F2682 := (Fld.other W2675 (pf2.keep K2668 (ninS ne2671 nin0)) (Or.inr (o211 hw)))
  have F2683 := (Fld.other W2675 (pf4.keep K2668 (ninS ne2671 nin0)) (Or.inr (o212 hw)))
  exact o69 X2675 hx hlk hret rfl (Or.inr (Or.inr (Or.inr (Or.inr ⟨rfl, rfl, rfl⟩)))) (hb hby o153) (by decide) (by decide) (by rw [e2675]; exact ⟨rfl, N2675, K2678, F2679, F2680, F2681, F2682, F2676, F2683⟩)
theorem o987 (hw : o35 a0 Z) (hS : o64 Z wcs) (ad0 ad1 : Addr) (ad2 ad3 : Addr) (kc4 : ClassId) (iv5 : Int32) (kc6 : ClassId) (iv7 : Int32) (h0 : Heap) (n0 : Nat) (O0 : Old Z n0 h0) (pe1 : Exa Z h0 ad0 o70) (pf2 : Fld Z h0 ad0 o10 "coder" "B" (.int 0)) (pf3 : Fld Z h0 ad0 o10 "count" "I" (.int 10)) (pf4 : Fld Z h0 ad0 o10 "value" "[B" (.ref ad2)) (pe5 : Exa Z h0 ad1 o7) (pf6 : Fld Z h0 ad1 o7 "coder" "B" (.int 0)) (pf7 : Fld Z h0 ad1 o7 "value" "[B" (.ref ad3)) (pe8 : Exa Z h0 ad2 "[B") (pa9 : Arv Z h0 ad2 kc4 .byte 16 [.int 98, .int 101, .int 97, .int 110, .int 32, .int 39, .int iv5, .int 39, .int 58, .int 32, .int 0, .int 0, .int 0, .int 0, .int 0, .int 0] (.int 0)) (pa11 : Arv Z h0 ad3 kc6 .byte 1 [.int iv7] (.int 0)) (pg_ad2 : n0 ≤ ad2) (pg_ad0 : n0 ≤ ad0) :
    o21 l o80 jdk_67_method_7_code 2 (some (.object "java/lang/StringBuilder")) ws ⟨4, 0, 0, 70⟩ Z h0 #[.ref ad0, .ref ad1] (fun v h L => v = some (.ref ad0) ∧ Fr n0 L ∧ Keep h0 h [ad2, ad0] ∧ Exa Z h ad2 "[B" ∧ Arv Z h ad2 kc4 .byte 16 [.int 98, .int 101, .int 97, .int 110, .int 32, .int 39, .int iv5, .int 39, .int 58, .int 32, .int iv7, .int 0, .int 0, .int 0, .int 0, .int 0] (.int 0) ∧ Exa Z h ad0 o70 ∧ Fld Z h ad0 o10 "coder" "B" (.int 0) ∧ Fld Z h ad0 o10 "count" "I" (.int 11) ∧ Fld Z h ad0 o10 "value" "[B" (.ref ad2)) := by
  refine o18 (plainFor_of_name o173) ?_
  intro p e s m below meth c s₁ hx hby hml hown hnm hret hlk hZ e0 X0
  have N0 := Fr.nil n0
  refine o4 (fun u j => castTop (show entryFrame m #[.ref ad0, .ref ad1] 2 = mkF m 0 #[o1 ad0, o1 ad1] [] from rfl) j) ?_
  refine o4 (fun u j => o3 X0.here hx rfl (hb hby o166) rfl rfl (o3 X0.here hx rfl (hb hby o167) rfl rfl j)) ?_
  refine o17 (o186 X0 hx hZ (y := o98) hown (o2 hw 102 rfl) (o321 (y := o98) (o2 hw 122 rfl) rfl (o2 hw 103 rfl) o24) (o2 hw 103 rfl) (o2 hw 104 rfl) (by decide) (o2 hw 89 rfl) (o2 hw 106 rfl) (o986 hw hS ad0 ad1 ad2 ad3 kc4 iv5 kc6 iv7 h0 n0 O0 pe1 pf2 pf3 pf4 pe5 pf6 pf7 pe8 pa9 pa11 pg_ad2 pg_ad0) e0 (Ins.self pe1) o213 (argsL := [.ref ad1]) (rest := []) rfl rfl (g := (mkF m 2 #[o1 ad0, o1 ad1] [.ref ad1, .ref ad0])) rfl (by rw [hml]; rfl) rfl (hb hby o168) (W := 0) rfl) ?_
  intro T2691 v2691 L2691 X2691 hQ2691
  obtain ⟨rfl, M2691, K2691, F2692, F2693, F2694, F2695, F2696, F2697⟩ := hQ2691
  have N2691 := Fr.app N0 M2691
  refine o4 (fun u j => XS.pop X2691.here hx rfl (hb hby o169) rfl rfl (o3 X2691.here hx rfl (hb hby o170) rfl rfl j)) ?_
  have K2698 := (Keep.refl h0 [ad2, ad0]).trans K2691 (allS (Or.inl (List.mem_of_getElem? (i := 0) rfl)) (allS (Or.inl (List.mem_of_getElem? (i := 1) rfl)) all0))
  exact o69 X2691 hx hlk hret rfl (Or.inr (Or.inr (Or.inr (Or.inr ⟨rfl, rfl, rfl⟩)))) (hb hby o171) (by decide) (by decide) (by exact ⟨rfl, N2691, K2698, F2692, F2693, F2694, F2695, F2696, F2697⟩)
theorem o456 : decode prog_89_method_5_code 127 = .ok (.invokevirtual 33, 3) := by decide +kernel
theorem o988 (hw : o35 a0 Z) (hS : o64 Z wcs) (ad0 : Addr) (kc1 : ClassId) (iv2 iv3 : Int32) (h0 : Heap) (n0 : Nat) (O0 : Old Z n0 h0) (pa2 : Arv Z h0 ad0 kc1 .byte 16 [.int 98, .int 101, .int 97, .int 110, .int 32, .int 39, .int iv2, .int 39, .int 58, .int 32, .int iv3, .int 0, .int 0, .int 0, .int 0, .int 0] (.int 0)) :
    o21 l o407 jdk_65_method_133_code 5 (some (.array .byte)) ws ⟨1, 1, 11, 27⟩ Z h0 #[.ref ad0, .int 0, .int 11] (fun v h L => ∃ nz0 : Addr, ∃ kz1 : ClassId, v = some (.ref nz0) ∧ Fr n0 L ∧ Keep h0 h [] ∧ h0.size ≤ nz0 ∧ Exa Z h nz0 "[B" ∧ Arv Z h nz0 kz1 .byte 11 [.int 98, .int 101, .int 97, .int 110, .int 32, .int 39, .int iv2, .int 39, .int 58, .int 32, .int iv3] (.int 0)) := by
  refine o18 (plainFor_of_name o308) ?_
  intro p e s m below meth c s₁ hx hby hml hown hnm hret hlk hZ e0 X0
  have N0 := Fr.nil n0
  refine o4 (fun u j => castTop (show entryFrame m #[.ref ad0, .int 0, .int 11] 5 = mkF m 0 #[o1 ad0, o0 0, o0 11, o5, o5] [] from rfl) j) ?_
  refine o4 (fun u j => o6 X0.here hx rfl (hb hby o384) rfl (o6 X0.here hx rfl (hb hby o385) rfl j)) ?_
  refine o17 (o78 X0 hx hZ (y := o488) hown (o2 hw 185 rfl) (o2 hw 186 rfl) (o2 hw 180 rfl) (o2 hw 187 rfl) o184 (o834 hw hS (0 : Int32) (11 : Int32) h0 n0 O0 (by decide)) e0 o495 (argsL := [.int 0, .int 11]) (rest := []) rfl rfl (g := (mkF m 2 #[o1 ad0, o0 0, o0 11, o5, o5] [.int 11, .int 0])) rfl (by rw [hml]; rfl) rfl (hb hby o386) (W := 0) rfl) ?_
  intro T2732 v2732 L2732 X2732 hQ2732
  obtain ⟨rfl, M2732, e2732⟩ := hQ2732
  have N2732 := Fr.app N0 M2732
  refine o4 (fun u j => o6 X2732.here hx rfl (hb hby o387) rfl (o6 X2732.here hx rfl (hb hby o388) rfl (XS.isub X2732.here hx rfl (hb hby o389) rfl (o94 X2732.here hx rfl (hb hby o390) rfl (l' := #[o1 ad0, o0 0, o0 11, o0 11, o5]) rfl (o6 X2732.here hx rfl (hb hby o391) rfl j))))) ?_
  have q_ := newPE X2732 hx hZ (o2 hw 14 rfl) e2732 (g := (mkF m 10 #[o1 ad0, o0 0, o0 11, o0 11, o5] [.int 11])) rfl (hb hby o349) rfl (by decide) (cap := 11) (by decide) (by decide) (by decide) (by decide) (ad := "[B") o214
  obtain ⟨T2733, h2733, k2733, X2733, e2733, E2733, A2733, Y2733, st2733⟩ := q_
  have q_ : ∃ z, z = h0.size := ⟨_, rfl⟩
  obtain ⟨b2733, g2733⟩ := q_
  rw [← g2733] at A2733 Y2733 st2733
  have V2733 : Arv Z h2733 b2733 k2733 .byte 11 [.int 0, .int 0, .int 0, .int 0, .int 0, .int 0, .int 0, .int 0, .int 0, .int 0, .int 0] (.int 0) := (Arv.new A2733 (by decide)).pad (pad_rep [] (.int 0) 11)
  refine o4 (fun u j => st2733 u j) ?_
  refine o4 (fun u j => o76 X2733.here hx rfl (hb hby o350) rfl rfl (l' := #[o1 ad0, o0 0, o0 11, o0 11, o1 b2733]) rfl (o3 X2733.here hx rfl (hb hby o351) rfl rfl (o6 X2733.here hx rfl (hb hby o352) rfl (o72 X2733.here hx rfl (hb hby o353) rfl rfl (o16 X2733.here hx rfl (hb hby o354) (o3 X2733.here hx rfl (hb hby o355) rfl rfl j)))))) ?_
  show o11 p e below _ (T2733.setTop (mkF m 20 #[o1 ad0, o0 0, o0 11, o0 11, o1 b2733] [.ref ad0, .int 0, .ref b2733, .int 0, .ref ad0]))
  have F2734 := (pa2.ext E2733)
  refine o4 (fun u j => o75 X2733 hx hZ e2733 F2734 rfl rfl (hb hby o356) (o6 X2733.here hx rfl (hb hby o357) rfl (XS.isub X2733.here hx rfl (hb hby o358) rfl (o6 X2733.here hx rfl (hb hby o359) rfl j)))) ?_
  have O2737 := O0.ext E2733
  refine o17 (o78 X2733 hx hZ (y := o432) hown (o2 hw 188 rfl) (o2 hw 189 rfl) (o2 hw 190 rfl) (o2 hw 191 rfl) o496 (o835 hw hS (16 : Int32) (11 : Int32) h2733 n0 O2737 (by decide)) e2733 o497 (argsL := [.int 16, .int 11]) (rest := [.int 0, .ref b2733, .int 0, .ref ad0]) rfl rfl (g := (mkF m 24 #[o1 ad0, o0 0, o0 11, o0 11, o1 b2733] [.int 11, .int 16, .int 0, .ref b2733, .int 0, .ref ad0])) rfl (by rw [hml]; rfl) rfl (hb hby o360) (W := 4) rfl) ?_
  intro T2736 v2736 L2736 X2736 hQ2736
  obtain ⟨rfl, M2736, e2736⟩ := hQ2736
  have N2736 := Fr.app N2732 M2736
  have g2739 := Nat.le_trans (o103 O0) (Nat.le_of_eq g2733.symm)
  have q_ := cpA X2736 hx hZ hown (o2 hw 192 rfl) (o2 hw 143 rfl) (o2 hw 141 rfl) (o2 hw 142 rfl) e2736 F2734 V2733 (us := [.int 98, .int 101, .int 97, .int 110, .int 32, .int 39, .int iv2, .int 39, .int 58, .int 32, .int iv3]) (Or.inl ⟨rfl, rfl⟩) (by decide) (by decide) (by decide) (by decide) (by decide) rfl (Nat.le_of_ble_eq_true rfl) N2736 g2739 (g := (mkF m 27 #[o1 ad0, o0 0, o0 11, o0 11, o1 b2733] [.int 11, .int 0, .ref b2733, .int 0, .ref ad0])) rfl (by rw [hml]; rfl) rfl (hb hby o361) (by decide) (W := 0) (by show 2 * 0 + _ ≤ _; exact Nat.le_of_eq rfl) (by decide)
  obtain ⟨T2738, h2738, L2738, X2738, e2738, N2738, K2738, V2738, st2738⟩ := q_
  have V2740 : Arv Z h2738 b2733 k2733 .byte 11 [.int 98, .int 101, .int 97, .int 110, .int 32, .int 39, .int iv2, .int 39, .int 58, .int 32, .int iv3] (.int 0) := V2738
  refine o4 (fun u j => st2738 u j) ?_
  refine o4 (fun u j => o72 X2738.here hx rfl (hb hby o362) rfl rfl j) ?_
  have K2741 := (Keep.refl h0 []).ext E2733
  have z2743 := Nat.le_trans (Nat.le_refl _) (Nat.le_of_eq g2733.symm)
  have K2742 := K2741.trans K2738 (allS (Or.inr z2743) all0)
  have F2744 := (Y2733.keep K2738)
  exact o69 X2738 hx hlk hret rfl (Or.inr (Or.inr (Or.inr (Or.inr ⟨rfl, rfl, rfl⟩)))) (hb hby o363) (by decide) (by decide) (by rw [e2738]; exact ⟨b2733, k2733, rfl, N2738, K2742, z2743, F2744, V2740⟩)
theorem o989 (hw : o35 a0 Z) (hS : o64 Z wcs) (ad0 : Addr) (kc1 : ClassId) (iv2 iv3 : Int32) (h0 : Heap) (n0 : Nat) (O0 : Old Z n0 h0) (pa2 : Arv Z h0 ad0 kc1 .byte 16 [.int 98, .int 101, .int 97, .int 110, .int 32, .int 39, .int iv2, .int 39, .int 58, .int 32, .int iv3, .int 0, .int 0, .int 0, .int 0, .int 0] (.int 0)) :
    o21 l o408 jdk_65_method_132_code 3 (some (.array .byte)) ws ⟨2, 1, 11, 43⟩ Z h0 #[.ref ad0, .int 0, .int 11] (fun v h L => ∃ nz0 : Addr, ∃ kz1 : ClassId, v = some (.ref nz0) ∧ Fr n0 L ∧ Keep h0 h [] ∧ h0.size ≤ nz0 ∧ Exa Z h nz0 "[B" ∧ Arv Z h nz0 kz1 .byte 11 [.int 98, .int 101, .int 97, .int 110, .int 32, .int 39, .int iv2, .int 39, .int 58, .int 32, .int iv3] (.int 0)) := by
  refine o18 (plainFor_of_name o308) ?_
  intro p e s m below meth c s₁ hx hby hml hown hnm hret hlk hZ e0 X0
  have N0 := Fr.nil n0
  refine o4 (fun u j => castTop (show entryFrame m #[.ref ad0, .int 0, .int 11] 3 = mkF m 0 #[o1 ad0, o0 0, o0 11] [] from rfl) j) ?_
  refine o4 (fun u j => o6 X0.here hx rfl (hb hby o378) rfl (o68 X0.here hx rfl (hb hby o379) rfl (o180 (by decide)) (o6 X0.here hx rfl (hb hby o380) rfl (o3 X0.here hx rfl (hb hby o381) rfl rfl (o75 X0 hx hZ e0 pa2 rfl rfl (hb hby o382) (o14 X0.here hx rfl (hb hby o383) rfl (XT.ii_eq_f (by decide)) j)))))) ?_
  show o11 p e below _ (s₁.setTop (mkF m 10 #[o1 ad0, o0 0, o0 11] []))
  refine o4 (fun u j => o3 X0.here hx rfl (hb hby o345) rfl rfl (o6 X0.here hx rfl (hb hby o346) rfl (o6 X0.here hx rfl (hb hby o347) rfl j))) ?_
  refine o17 (o78 X0 hx hZ (y := o407) hown (o2 hw 182 rfl) (o2 hw 183 rfl) (o2 hw 180 rfl) (o2 hw 184 rfl) o184 (o988 hw hS ad0 kc1 iv2 iv3 h0 n0 O0 pa2) e0 o392 (argsL := [.ref ad0, .int 0, .int 11]) (rest := []) rfl rfl (g := (mkF m 13 #[o1 ad0, o0 0, o0 11] [.int 11, .int 0, .ref ad0])) rfl (by rw [hml]; rfl) rfl (hb hby o348) (W := 0) rfl) ?_
  intro T2752 v2752 L2752 X2752 hQ2752
  obtain ⟨nz0_2753, kz1_2754, rfl, M2752, K2752, z2755, F2756, F2757⟩ := hQ2752
  have N2752 := Fr.app N0 M2752
  have K2758 := (Keep.refl h0 []).trans K2752 all0
  have z2759 := Nat.le_trans (Nat.le_refl _) z2755
  exact o69 X2752 hx hlk hret rfl (Or.inr (Or.inr (Or.inr (Or.inr ⟨rfl, rfl, rfl⟩)))) (hb hby o364) (by decide) (by decide) (by exact ⟨nz0_2753, kz1_2754, rfl, N2752, K2758, z2759, F2756, F2757⟩)
theorem o990 (hw : o35 a0 Z) (hS : o64 Z wcs) (ad0 ad1 ad2 : Addr) (kc3 : ClassId) (iv4 iv5 : Int32) (h0 : Heap) (n0 : Nat) (O0 : Old Z n0 h0) (pe1 : Exa Z h0 ad0 o7) (pf2 : Fld Z h0 ad0 o7 "coder" "B" (.int 0)) (pf3 : Fld Z h0 ad0 o7 "value" "[B" .null) (pe4 : Exa Z h0 ad1 o70) (pf5 : Fld Z h0 ad1 o10 "coder" "B" (.int 0)) (pf6 : Fld Z h0 ad1 o10 "count" "I" (.int 11)) (pf7 : Fld Z h0 ad1 o10 "value" "[B" (.ref ad2)) (pe8 : Exa Z h0 ad2 "[B") (pa9 : Arv Z h0 ad2 kc3 .byte 16 [.int 98, .int 101, .int 97, .int 110, .int 32, .int 39, .int iv4, .int 39, .int 58, .int 32, .int iv5, .int 0, .int 0, .int 0, .int 0, .int 0] (.int 0)) (pg_ad0 : n0 ≤ ad0) :
    o21 l o409 jdk_42_method_150_code 5 none ws ⟨3, 1, 11, 58⟩ Z h0 #[.ref ad0, .ref ad1, .null] (fun v h L => ∃ nz0 : Addr, ∃ kz1 : ClassId, v = none ∧ Fr n0 L ∧ Keep h0 h [ad0] ∧ h0.size ≤ nz0 ∧ Exa Z h ad0 o7 ∧ Fld Z h ad0 o7 "coder" "B" (.int 0) ∧ Fld Z h ad0 o7 "value" "[B" (.ref nz0) ∧ Exa Z h nz0 "[B" ∧ Arv Z h nz0 kz1 .byte 11 [.int 98, .int 101, .int 97, .int 110, .int 32, .int 39, .int iv4, .int 39, .int 58, .int 32, .int iv5] (.int 0)) := by
  refine o18 (plainFor_of_name o83) ?_
  intro p e s m below meth c s₁ hx hby hml hown hnm hret hlk hZ e0 X0
  have N0 := Fr.nil n0
  refine o4 (fun u j => castTop (show entryFrame m #[.ref ad0, .ref ad1, .null] 5 = mkF m 0 #[o1 ad0, o1 ad1, .val .null, o5, o5] [] from rfl) j) ?_
  refine o4 (fun u j => o3 X0.here hx rfl (hb hby o370) rfl rfl j) ?_
  refine o22 (initO X0 hx hZ hown (o2 hw 19 rfl) (o2 hw 20 rfl) (o2 hw 21 rfl) e0 rfl (by rw [hml]; rfl) rfl (hb hby o371) (by decide) (W := 0) (by show 2 * 0 + _ ≤ _; exact Nat.le_of_eq rfl) (by decide)) ?_
  intro T2773 X2773 e2773
  refine o4 (fun u j => o3 X2773.here hx rfl (hb hby o372) rfl rfl j) ?_
  refine o17 (o63 X2773 hx hZ (y := o374) (z := o374) hown (o2 hw 160 rfl) (o2 hw 161 rfl) (notFace_of_selects (args := #[]) (mvT hZ (o2 hw 163 rfl))) (o2 hw 163 rfl) (o2 hw 162 rfl) (o2 hw 89 rfl) (o2 hw 164 rfl) o24 (o831 hw hS ad1 ad2 h0 n0 O0 pf7) e2773 pe4 o493 (argsL := []) (rest := []) rfl rfl (g := (mkF m 5 #[o1 ad0, o1 ad1, .val .null, o5, o5] [.ref ad1])) rfl (by rw [hml]; rfl) rfl (hb hby o373) (W := 0) rfl) ?_
  intro T2774 v2774 L2774 X2774 hQ2774
  obtain ⟨rfl, M2774, e2774⟩ := hQ2774
  have N2774 := Fr.app N0 M2774
  refine o4 (fun u j => o84 X2774.here hx rfl (hb hby o375) rfl rfl (l' := #[o1 ad0, o1 ad1, .val .null, o1 ad2, o5]) rfl (o3 X2774.here hx rfl (hb hby o376) rfl rfl j)) ?_
  refine o17 (o63 X2774 hx hZ (y := o416) (z := o487) hown (o2 hw 165 rfl) (o2 hw 166 rfl) (o690 (args := #[]) (mvT hZ (o2 hw 122 rfl)) rfl) (o2 hw 168 rfl) (o2 hw 169 rfl) (o2 hw 81 rfl) (o2 hw 170 rfl) o24 (o832 hw hS ad1 (11 : Int32) h0 n0 O0 pe4 pf6) e2774 pe4 o179 (argsL := []) (rest := []) rfl rfl (g := (mkF m 10 #[o1 ad0, o1 ad1, .val .null, o1 ad2, o5] [.ref ad1])) rfl (by rw [hml]; rfl) rfl (hb hby o332) (W := 0) rfl) ?_
  intro T2775 v2775 L2775 X2775 hQ2775
  obtain ⟨rfl, M2775, e2775⟩ := hQ2775
  have N2775 := Fr.app N2774 M2775
  refine o4 (fun u j => o20 X2775.here hx rfl (hb hby o333) rfl (l' := #[o1 ad0, o1 ad1, .val .null, o1 ad2, o0 11]) rfl (o3 X2775.here hx rfl (hb hby o334) rfl rfl j)) ?_
  refine o17 (o63 X2775 hx hZ (y := o377) (z := o377) hown (o2 hw 173 rfl) (o2 hw 174 rfl) (notFace_of_selects (args := #[]) (mvT hZ (o2 hw 176 rfl))) (o2 hw 176 rfl) (o2 hw 175 rfl) (o2 hw 89 rfl) (o2 hw 177 rfl) o24 (o833 hw hS ad1 h0 n0 O0 pf5) e2775 pe4 o494 (argsL := []) (rest := []) rfl rfl (g := (mkF m 16 #[o1 ad0, o1 ad1, .val .null, o1 ad2, o0 11] [.ref ad1])) rfl (by rw [hml]; rfl) rfl (hb hby o335) (W := 0) rfl) ?_
  intro T2776 v2776 L2776 X2776 hQ2776
  obtain ⟨rfl, M2776, e2776⟩ := hQ2776
  have N2776 := Fr.app N2775 M2776
  refine o4 (fun u j => o68 X2776.here hx rfl (hb hby o336) rfl (o65 (by decide)) (o3 X2776.here hx rfl (hb hby o337) rfl rfl (o16 X2776.here hx rfl (hb hby o338) j))) ?_
  refine o32 (putF X2776 hx hZ hown (host := "") (Or.inl (o2 hw 24 rfl)) Via.refl e2776 pf2 pe1 (Or.inr ⟨(o2 hw 25 rfl), rfl, hnm⟩) (o2 hw 10 rfl) (ty := .byte) o92 rfl rfl rfl rfl (hb hby o339)) ?_
  intro T2777 h2777 X2777 e2777 W2777
  have N2777 := Fr.snoc X2777 N2776 pg_ad0
  have F2778 : Fld Z h2777 ad0 o7 "coder" "B" (.int 0) := Fld.same W2777 pf2
  refine o4 (fun u j => o3 X2777.here hx rfl (hb hby o340) rfl rfl (o3 X2777.here hx rfl (hb hby o341) rfl rfl (o16 X2777.here hx rfl (hb hby o342) (o8 X2777.here hx rfl (hb hby o343) rfl j)))) ?_
  have ne2779 := (ne_exa pe8 pe1 o498)
  have F2780 := (pa9.other W2777 ne2779)
  have O2782 := O0.wr W2777 pg_ad0
  refine o17 (o78 X2777 hx hZ (y := o408) hown (o2 hw 178 rfl) (o2 hw 179 rfl) (o2 hw 180 rfl) (o2 hw 181 rfl) o184 (o989 hw hS ad2 kc3 iv4 iv5 h2777 n0 O2782 F2780) e2777 o392 (argsL := [.ref ad2, .int 0, .int 11]) (rest := [.ref ad0]) rfl rfl (g := (mkF m 32 #[o1 ad0, o1 ad1, .val .null, o1 ad2, o0 11] [.int 11, .int 0, .ref ad2, .ref ad0])) rfl (by rw [hml]; rfl) rfl (hb hby o344) (W := 1) rfl) ?_
  intro T2781 v2781 L2781 X2781 hQ2781
  obtain ⟨nz0_2783, kz1_2784, rfl, M2781, K2781, z2785, F2786, F2787⟩ := hQ2781
  have N2781 := Fr.app N2777 M2781
  have F2788 := ((Exa.wr W2777 pe1).keep K2781)
  have F2789 := ((Fld.other W2777 pf3 (Or.inr (o310 hw))).keep K2781 nin0)
  refine o32 (putF X2781 hx hZ hown (host := "") (Or.inl (o2 hw 22 rfl)) Via.refl rfl F2789 F2788 (Or.inr ⟨(o2 hw 23 rfl), rfl, hnm⟩) (o2 hw 10 rfl) (ty := (.array .byte)) o91 rfl rfl rfl rfl (hb hby o365)) ?_
  intro T2790 h2790 X2790 e2790 W2790
  have N2790 := Fr.snoc X2790 N2781 pg_ad0
  have F2791 : Fld Z h2790 ad0 o7 "value" "[B" (.ref nz0_2783) := Fld.same W2790 F2789
  refine o4 (fun u j => o15 X2790.here hx rfl (pc0 := 38) (pc' := 97) rfl (hb hby o366) (by decide) (by decide) j) ?_
  have K2792 := (Keep.refl h0 [ad0]).wr W2777 (Or.inl (List.mem_of_getElem? (i := 0) rfl))
  have K2793 := K2792.trans K2781 all0
  have K2794 := K2793.wr W2790 (Or.inl (List.mem_of_getElem? (i := 0) rfl))
  have z2795 := Nat.le_trans (Nat.le_of_eq W2777.size.symm) z2785
  have F2796 := (Exa.wr W2790 F2788)
  have F2797 := (Fld.other W2790 (F2778.keep K2781 nin0) (Or.inr (o309 hw)))
  have F2798 := (Exa.wr W2790 F2786)
  have ne2799 := (Ne.symm (Nat.ne_of_lt (Nat.lt_of_lt_of_le F2778.lt z2785)))
  have F2800 := (F2787.other W2790 ne2799)
  exact o81 X2790 hx hlk hret (hb hby o367) (by decide) (by decide) (by rw [e2790]; exact ⟨nz0_2783, kz1_2784, rfl, N2790, K2794, z2795, F2796, F2797, F2791, F2798, F2800⟩)
theorem o877 (hw : o35 a0 Z) (hS : o64 Z wcs) (ad0 ad1 ad2 : Addr) (kc3 : ClassId) (iv4 iv5 : Int32) (h0 : Heap) (n0 : Nat) (O0 : Old Z n0 h0) (pe1 : Exa Z h0 ad0 o7) (pf2 : Fld Z h0 ad0 o7 "coder" "B" (.int 0)) (pf3 : Fld Z h0 ad0 o7 "value" "[B" .null) (pe4 : Exa Z h0 ad1 o70) (pf5 : Fld Z h0 ad1 o10 "coder" "B" (.int 0)) (pf6 : Fld Z h0 ad1 o10 "count" "I" (.int 11)) (pf7 : Fld Z h0 ad1 o10 "value" "[B" (.ref ad2)) (pe8 : Exa Z h0 ad2 "[B") (pa9 : Arv Z h0 ad2 kc3 .byte 16 [.int 98, .int 101, .int 97, .int 110, .int 32, .int 39, .int iv4, .int 39, .int 58, .int 32, .int iv5, .int 0, .int 0, .int 0, .int 0, .int 0] (.int 0)) (pg_ad0 : n0 ≤ ad0) :
    o21 l o410 jdk_42_method_53_code 2 none ws ⟨4, 1, 11, 74⟩ Z h0 #[.ref ad0, .ref ad1] (fun v h L => ∃ nz0 : Addr, ∃ kz1 : ClassId, v = none ∧ Fr n0 L ∧ Keep h0 h [ad0] ∧ h0.size ≤ nz0 ∧ Exa Z h ad0 o7 ∧ Fld Z h ad0 o7 "coder" "B" (.int 0) ∧ Fld Z h ad0 o7 "value" "[B" (.ref nz0) ∧ Exa Z h nz0 "[B" ∧ Arv Z h nz0 kz1 .byte 11 [.int 98, .int 101, .int 97, .int 110, .int 32, .int 39, .int iv4, .int 39, .int 58, .int 32, .int iv5] (.int 0)) := by
  refine o18 (plainFor_of_name o83) ?_
  intro p e s m below meth c s₁ hx hby hml hown hnm hret hlk hZ e0 X0
  have N0 := Fr.nil n0
  refine o4 (fun u j => castTop (show entryFrame m #[.ref ad0, .ref ad1] 2 = mkF m 0 #[o1 ad0, o1 ad1] [] from rfl) j) ?_
  refine o4 (fun u j => o3 X0.here hx rfl (hb hby o401) rfl rfl (o3 X0.here hx rfl (hb hby o402) rfl rfl (o99 X0.here hx rfl (hb hby o403) j))) ?_
  refine o17 (o87 X0 hx hZ (y := o409) rfl hown (o2 hw 157 rfl) (o2 hw 158 rfl) (o2 hw 2 rfl) (o2 hw 159 rfl) o67 (o990 hw hS ad0 ad1 ad2 kc3 iv4 iv5 h0 n0 O0 pe1 pf2 pf3 pe4 pf5 pf6 pf7 pe8 pa9 pg_ad0) e0 o499 (a := ad0) (argsL := [.ref ad1, .null]) (rest := []) rfl rfl (g := (mkF m 3 #[o1 ad0, o1 ad1] [.null, .ref ad1, .ref ad0])) rfl (by rw [hml]; rfl) rfl (hb hby o404) (W := 0) rfl) ?_
  intro T2810 v2810 L2810 X2810 hQ2810
  obtain ⟨nz0_2811, kz1_2812, rfl, M2810, K2810, z2813, F2814, F2815, F2816, F2817, F2818⟩ := hQ2810
  have N2810 := Fr.app N0 M2810
  have K2819 := (Keep.refl h0 [ad0]).trans K2810 (allS (Or.inl (List.mem_of_getElem? (i := 0) rfl)) all0)
  have z2820 := Nat.le_trans (Nat.le_refl _) z2813
  exact o81 X2810 hx hlk hret (hb hby o405) (by decide) (by decide) (by exact ⟨nz0_2811, kz1_2812, rfl, N2810, K2819, z2820, F2814, F2815, F2816, F2817, F2818⟩)
theorem o878 (hw : o35 a0 Z) (hS : o64 Z wcs) (ad0 ad1 : Addr) (kc2 : ClassId) (iv3 iv4 : Int32) (h0 : Heap) (n0 : Nat) (O0 : Old Z n0 h0) (pe1 : Exa Z h0 ad0 o70) (pf2 : Fld Z h0 ad0 o10 "coder" "B" (.int 0)) (pf3 : Fld Z h0 ad0 o10 "count" "I" (.int 11)) (pf4 : Fld Z h0 ad0 o10 "value" "[B" (.ref ad1)) (pe5 : Exa Z h0 ad1 "[B") (pa6 : Arv Z h0 ad1 kc2 .byte 16 [.int 98, .int 101, .int 97, .int 110, .int 32, .int 39, .int iv3, .int 39, .int 58, .int 32, .int iv4, .int 0, .int 0, .int 0, .int 0, .int 0] (.int 0)) :
    o21 l o183 jdk_67_method_42_code 1 (some (.object "java/lang/String")) ws ⟨5, 2, 15, 88⟩ Z h0 #[.ref ad0] (fun v h L => ∃ nz0 : Addr, ∃ nz1 : Addr, ∃ kz2 : ClassId, v = some (.ref nz0) ∧ Fr n0 L ∧ Keep h0 h [] ∧ h0.size ≤ nz0 ∧ h0.size ≤ nz1 ∧ Exa Z h nz0 o7 ∧ Fld Z h nz0 o7 "coder" "B" (.int 0) ∧ Fld Z h nz0 o7 "value" "[B" (.ref nz1) ∧ Exa Z h nz1 "[B" ∧ Arv Z h nz1 kz2 .byte 11 [.int 98, .int 101, .int 97, .int 110, .int 32, .int 39, .int iv3, .int 39, .int 58, .int 32, .int iv4] (.int 0)) := by
  refine o18 (plainFor_of_name o173) ?_
  intro p e s m below meth c s₁ hx hby hml hown hnm hret hlk hZ e0 X0
  have N0 := Fr.nil n0
  refine o4 (fun u j => castTop (show entryFrame m #[.ref ad0] 1 = mkF m 0 #[o1 ad0] [] from rfl) j) ?_
  have q_ := newO X0 hx hZ hown (o2 hw 153 rfl) (o2 hw 10 rfl) (o2 hw 2 rfl) e0 (g := (mkF m 0 #[o1 ad0] [])) rfl (hb hby o397) (by decide) (by decide)
  obtain ⟨T2838, h2838, X2838, e2838, E2838, A2838, D2838, U2838, st2838⟩ := q_
  have q_ : ∃ z, z = h0.size := ⟨_, rfl⟩
  obtain ⟨b2838, g2838⟩ := q_
  rw [← g2838] at A2838 D2838 U2838 st2838
  have F2838_value : Fld Z h2838 b2838 o7 "value" "[B" .null := D2838 (Or.inr (o2 hw 23 rfl)) (ty := (.array .byte)) o91
  have F2838_coder : Fld Z h2838 b2838 o7 "coder" "B" (.int 0) := D2838 (Or.inr (o2 hw 25 rfl)) (ty := .byte) o92
  refine o4 (fun u j => st2838 u j) ?_
  refine o4 (fun u j => o61 X2838.here hx rfl (hb hby o398) rfl rfl (o3 X2838.here hx rfl (hb hby o399) rfl rfl j)) ?_
  have F2839 := (Exa.ext E2838 pe1)
  have F2840 := (Fld.ext E2838 pf2)
  have F2841 := (Fld.ext E2838 pf3)
  have F2842 := (Fld.ext E2838 pf4)
  have F2843 := (Exa.ext E2838 pe5)
  have F2844 := (pa6.ext E2838)
  have g2845 := Nat.le_trans (o103 O0) (Nat.le_of_eq g2838.symm)
  have O2847 := O0.ext E2838
  refine o17 (o87 X2838 hx hZ (y := o410) rfl hown (o2 hw 154 rfl) (o2 hw 155 rfl) (o2 hw 2 rfl) (o2 hw 156 rfl) o67 (o877 hw hS b2838 ad0 ad1 kc2 iv3 iv4 h2838 n0 O2847 A2838 F2838_coder F2838_value F2839 F2840 F2841 F2842 F2843 F2844 g2845) e2838 o500 (a := b2838) (argsL := [.ref ad0]) (rest := [.ref b2838]) rfl rfl (g := (mkF m 5 #[o1 ad0] [.ref ad0, .ref b2838, .ref b2838])) rfl (by rw [hml]; rfl) rfl (hb hby o400) (W := 1) rfl) ?_
  intro T2846 v2846 L2846 X2846 hQ2846
  obtain ⟨nz0_2848, kz1_2849, rfl, M2846, K2846, z2850, F2851, F2852, F2853, F2854, F2855⟩ := hQ2846
  have N2846 := Fr.app N0 M2846
  have K2856 := (Keep.refl h0 []).ext E2838
  have z2858 := Nat.le_trans (Nat.le_refl _) (Nat.le_of_eq g2838.symm)
  have K2857 := K2856.trans K2846 (allS (Or.inr z2858) all0)
  have z2859 := Nat.le_trans E2838.1 z2850
  exact o69 X2846 hx hlk hret rfl (Or.inr (Or.inr (Or.inr (Or.inr ⟨rfl, rfl, rfl⟩)))) (hb hby o406) (by decide) (by decide) (by exact ⟨b2838, nz0_2848, kz1_2849, rfl, N2846, K2857, z2858, z2859, F2851, F2852, F2853, F2854, F2855⟩)
theorem o457 : decode prog_89_method_5_code 130 = .ok (.astore_n 2, 1) := by decide +kernel
theorem o879 (hw : o35 a0 Z) (hS : o64 Z wcs) (ad0 ad1 : Addr) (ad2 ad3 ad4 : Addr) (kc5 : ClassId) (iv6 : Int32) (kc7 : ClassId) (iv8 : Int32) (h0 : Heap) (n0 : Nat) (O0 : Old Z n0 h0) (pe1 : Exa Z h0 ad0 o62) (pf2 : Fld Z h0 ad0 o62 "bean" o71 (.ref ad1)) (pf3 : Fld Z h0 ad0 o62 "name" o71 .null) (pf4 : Fld Z h0 ad0 o62 "part" o71 (.ref ad2)) (pe5 : Exa Z h0 ad1 o7) (pf6 : Fld Z h0 ad1 o7 "coder" "B" (.int 0)) (pf7 : Fld Z h0 ad1 o7 "value" "[B" (.ref ad3)) (pe8 : Exa Z h0 ad2 o7) (pf9 : Fld Z h0 ad2 o7 "coder" "B" (.int 0)) (pf10 : Fld Z h0 ad2 o7 "value" "[B" (.ref ad4)) (pe11 : Exa Z h0 ad3 "[B") (pa12 : Arv Z h0 ad3 kc5 .byte 1 [.int iv6] (.int 0)) (pe13 : Exa Z h0 ad4 "[B") (pa14 : Arv Z h0 ad4 kc7 .byte 1 [.int iv8] (.int 0)) :
    o206 o23 [] l o181 prog_89_method_5_code 3 (some (.object "java/lang/String")) ws ⟨6, 8, 79, 100⟩ Z h0 #[.ref ad0] (fun v h L => ∃ nz0 : Addr, ∃ nz1 : Addr, ∃ kz2 : ClassId, v = some (.ref nz0) ∧ Fr n0 L ∧ Keep h0 h [] ∧ h0.size ≤ nz0 ∧ h0.size ≤ nz1 ∧ Exa Z h nz0 o7 ∧ Fld Z h nz0 o7 "coder" "B" (.int 0) ∧ Fld Z h nz0 o7 "value" "[B" (.ref nz1) ∧ Exa Z h nz1 "[B" ∧ Arv Z h nz1 kz2 .byte 11 [.int 98, .int 101, .int 97, .int 110, .int 32, .int 39, .int iv6, .int 39, .int 58, .int 32, .int iv8] (.int 0)) := by
  refine o461 (plainFor_of_name o312) ?_
  intro p e s m below meth c s₁ hx hby hml hown hnm hret hlk hZ e0 X0 hSi0 hs0 hC0 hsf0
  have hZ_0 := hZ
  have R0 : CHr Z o23 s.vm h0 s.vm h0 := CHr.refl hC0
  have N0 := Fr.nil n0
  refine o4 (fun u j => castTop (show entryFrame m #[.ref ad0] 3 = mkF m 0 #[o1 ad0, o5, o5] [] from rfl) j) ?_
  refine o4 (fun u j => o3 X0.here hx rfl (hb hby o268) rfl rfl j) ?_
  refine o22 (getF X0 hx hZ hown (host := "") (Or.inl (o2 hw 42 rfl)) Via.refl e0 pf3 rfl rfl (hb hby o269)) ?_
  intro T2872 X2872 e2872
  refine o4 (fun u j => o185 X2872.here hx rfl (hb hby o270) rfl (o3 X2872.here hx rfl (hb hby o422) rfl rfl j)) ?_
  refine o22 (getF X2872 hx hZ hown (host := "") (Or.inl (o2 hw 40 rfl)) Via.refl e2872 pf4 rfl rfl (hb hby o423)) ?_
  intro T2873 X2873 e2873
  refine o4 (fun u j => o15 X2873.here hx rfl (pc0 := 11) (pc' := 48) rfl (hb hby o415) (by decide) (by decide) (o84 X2873.here hx rfl (hb hby o221) rfl rfl (l' := #[o1 ad0, o1 ad2, o5]) rfl (o3 X2873.here hx rfl (hb hby o222) rfl rfl j))) ?_
  refine o22 (getF X2873 hx hZ hown (host := "") (Or.inl (o2 hw 38 rfl)) Via.refl e2873 pf2 rfl rfl (hb hby o223)) ?_
  intro T2874 X2874 e2874
  refine o4 (fun u j => o86 X2874.here hx rfl (pc0 := 53) (pc' := 61) rfl (hb hby o224) rfl (by decide) (by decide) (o3 X2874.here hx rfl (hb hby o417) rfl rfl j)) ?_
  refine o22 (getF X2874 hx hZ hown (host := "") (Or.inl (o2 hw 40 rfl)) Via.refl e2874 pf4 rfl rfl (hb hby o418)) ?_
  intro T2875 X2875 e2875
  refine o4 (fun u j => o86 X2875.here hx rfl (pc0 := 65) (pc' := 99) rfl (hb hby o419) rfl (by decide) (by decide) j) ?_
  have q_ := newO X2875 hx hZ hown (o2 hw 79 rfl) (o2 hw 80 rfl) (o2 hw 81 rfl) e2875 (g := (mkF m 99 #[o1 ad0, o1 ad2, o5] [])) rfl (hb hby o489) (by decide) (by decide)
  obtain ⟨T2876, h2876, X2876, e2876, E2876, A2876, D2876, U2876, st2876⟩ := q_
  have q_ : ∃ z, z = h0.size := ⟨_, rfl⟩
  obtain ⟨b2876, g2876⟩ := q_
  rw [← g2876] at A2876 D2876 U2876 st2876
  have F2876_value : Fld Z h2876 b2876 o10 "value" "[B" .null := D2876 (Or.inl (o2 hw 94 rfl)) (ty := (.array .byte)) o91
  have F2876_coder : Fld Z h2876 b2876 o10 "coder" "B" (.int 0) := D2876 (Or.inl (o2 hw 96 rfl)) (ty := .byte) o92
  have F2876_count : Fld Z h2876 b2876 o10 "count" "I" (.int 0) := D2876 (Or.inl (o2 hw 118 rfl)) (ty := .int) o120
  refine o4 (fun u j => st2876 u j) ?_
  refine o4 (fun u j => o61 X2876.here hx rfl (hb hby o445) rfl rfl j) ?_
  have g2877 := Nat.le_trans (o103 O0) (Nat.le_of_eq g2876.symm)
  have O2879 := O0.ext E2876
  refine o17 (o87 X2876 hx hZ (y := o431) rfl hown (o2 hw 82 rfl) (o2 hw 83 rfl) (o2 hw 81 rfl) (o2 hw 84 rfl) o90 (o825 hw hS b2876 h2876 n0 O2879 A2876 F2876_coder F2876_count F2876_value g2877) e2876 o311 (a := b2876) (argsL := []) (rest := [.ref b2876]) rfl rfl (g := (mkF m 103 #[o1 ad0, o1 ad2, o5] [.ref b2876, .ref b2876])) rfl (by rw [hml]; rfl) rfl (hb hby o446) (W := 1) rfl) ?_
  intro T2878 v2878 L2878 X2878 hQ2878
  obtain ⟨nz0_2880, kz1_2881, rfl, M2878, K2878, z2882, F2883, F2884, F2885, F2886, F2887, F2888⟩ := hQ2878
  have N2878 := Fr.app N0 M2878
  have R2890 : CHr Z o23 s.vm h0 s.vm h2876 := R0.trans (CHr.ext E2876 R0.1)
  have sf_2892 : Safe Z o23 s.vm h2876 b2876 := Safe.exa hZ_0.alike A2876 o102 o85
  have R2891 : CHr Z o23 s.vm h0 s.vm T2878.heap := R2890.trans (CHr.keep K2878 (sfS sf_2892 sf0) R2890.1)
  obtain ⟨a2889, T2889, h2889, j2889, b2889, k2889, X2889, e2889, E2889, Si2889, Sk2889, hZ2889, hown2889, Ea2889, Fc2889, Fv2889, Av2889, la2889, lb2889, hr2889, Li2889, ln2889, st2889⟩ := ldcCH X2878 hx hZ hown (o2 hw 193 rfl) (o393 hw) rfl hSi0 (Nat.le_trans (Nat.zero_le _) (Nat.le_trans E2876.1 K2878.1)) (o172 hw) (List.mem_of_getElem? (i := 2) rfl) R2891.1 (vs := [.int 98, .int 101, .int 97, .int 110, .int 32, .int 39]) (z := 6) o507 (by decide) rfl (g := (mkF m 106 #[o1 ad0, o1 ad2, o5] [.ref b2876])) rfl (hb hby o447) (n := 24) (by decide) (by decide) (by decide) (by decide)
  refine o4 (fun u j => st2889 u j) ?_
  have F2893 := (Exa.ext E2889 F2883)
  have F2894 := (Fld.ext E2889 F2884)
  have F2895 := (Fld.ext E2889 F2885)
  have F2896 := (Fld.ext E2889 F2886)
  have F2897 := (Exa.ext E2889 F2887)
  have F2898 := (F2888.ext E2889)
  have g2899 := Nat.le_trans (o103 O2879) z2882
  have O2901 := O2879.keep K2878 (allS g2877 all0)
  have O2902 := O2901.ext E2889
  refine o17 (o63 X2889 hx hZ2889 (y := o80) (z := o80) hown2889 (o2 hw 97 rfl) (o2 hw 98 rfl) (notFace_of_selects (args := #[]) (mvT hZ2889 (o2 hw 100 rfl))) (o2 hw 100 rfl) (o2 hw 99 rfl) (o2 hw 81 rfl) (o2 hw 101 rfl) o90 (o853 hw hS b2876 a2889 nz0_2880 b2889 kz1_2881 k2889 h2889 n0 O2902 F2893 F2894 F2895 F2896 Ea2889 Fc2889 Fv2889 F2897 F2898 Av2889 g2899 g2877) e2889 F2893 o121 (argsL := [.ref a2889]) (rest := []) rfl rfl (g := (mkF m 108 #[o1 ad0, o1 ad2, o5] [.ref a2889, .ref b2876])) rfl (by rw [hml]; rfl) rfl (hb hby o448) (W := 0) rfl) ?_
  intro T2900 v2900 L2900 X2900 hQ2900
  obtain ⟨rfl, M2900, K2900, F2903, F2904, F2905, F2906, F2907, F2908⟩ := hQ2900
  have N2900 := Fr.app N2878 M2900
  refine o4 (fun u j => o3 X2900.here hx rfl (hb hby o449) rfl rfl j) ?_
  have ne2909 := (Nat.ne_of_lt (Nat.lt_of_lt_of_le pe1.lt (Nat.le_of_eq g2876.symm)))
  have ne2910 := (Nat.ne_of_lt (Nat.lt_of_lt_of_le (Nat.lt_of_lt_of_le pe1.lt E2876.1) z2882))
  have F2911 := ((Fld.ext E2889 ((Fld.ext E2876 pf2).keep K2878 (ninS ne2909 nin0))).keep K2900 (ninS ne2910 (ninS ne2909 nin0)))
  refine o22 (getF X2900 hx hZ2889 hown2889 (host := "") (Or.inl (o2 hw 38 rfl)) Via.refl rfl F2911 rfl rfl (hb hby o450)) ?_
  intro T2912 X2912 e2912
  have F2913 := ((Exa.ext E2889 ((Exa.ext E2876 pe5).keep K2878)).keep K2900)
  have ne2914 := (Nat.ne_of_lt (Nat.lt_of_lt_of_le pe5.lt (Nat.le_of_eq g2876.symm)))
  have ne2915 := (Nat.ne_of_lt (Nat.lt_of_lt_of_le (Nat.lt_of_lt_of_le pe5.lt E2876.1) z2882))
  have F2916 := ((Fld.ext E2889 ((Fld.ext E2876 pf6).keep K2878 (ninS ne2914 nin0))).keep K2900 (ninS ne2915 (ninS ne2914 nin0)))
  have F2917 := ((Fld.ext E2889 ((Fld.ext E2876 pf7).keep K2878 (ninS ne2914 nin0))).keep K2900 (ninS ne2915 (ninS ne2914 nin0)))
  have ne2918 := (Nat.ne_of_lt (Nat.lt_of_lt_of_le pe11.lt (Nat.le_of_eq g2876.symm)))
  have ne2919 := (Nat.ne_of_lt (Nat.lt_of_lt_of_le (Nat.lt_of_lt_of_le pe11.lt E2876.1) z2882))
  have F2920 := ((((pa12.ext E2876).keep K2878 (ninS ne2918 nin0)).ext E2889).keep K2900 (ninS ne2919 (ninS ne2918 nin0)))
  have O2922 := O2902.keep K2900 (allS g2899 (allS g2877 all0))
  refine o17 (o63 X2912 hx hZ2889 (y := o80) (z := o80) hown2889 (o2 hw 97 rfl) (o2 hw 98 rfl) (notFace_of_selects (args := #[]) (mvT hZ2889 (o2 hw 100 rfl))) (o2 hw 100 rfl) (o2 hw 99 rfl) (o2 hw 81 rfl) (o2 hw 101 rfl) o90 (o854 hw hS b2876 ad1 nz0_2880 ad3 kz1_2881 kc5 iv6 T2900.heap n0 O2922 F2905 F2906 F2907 F2908 F2913 F2916 F2917 F2903 F2904 F2920 g2899 g2877) e2912 F2905 o121 (argsL := [.ref ad1]) (rest := []) rfl rfl (g := (mkF m 115 #[o1 ad0, o1 ad2, o5] [.ref ad1, .ref b2876])) rfl (by rw [hml]; rfl) rfl (hb hby o451) (W := 0) rfl) ?_
  intro T2921 v2921 L2921 X2921 hQ2921
  obtain ⟨rfl, M2921, K2921, F2923, F2924, F2925, F2926, F2927, F2928⟩ := hQ2921
  have N2921 := Fr.app N2900 M2921
  have R2930 : CHr Z o23 s.vm h0 T2889.vm h2889 := R2891.trans hr2889
  have sf_2932 : Safe Z o23 T2889.vm h2889 b2876 := Safe.exa hZ2889.alike F2893 o102 o85
  have sf_2933 : Safe Z o23 s.vm h2876 nz0_2880 := Safe.new z2882
  have sf_2934 : Safe Z o23 s.vm T2878.heap nz0_2880 := Safe.keep K2878 (sfS sf_2892 sf0) R2890.1 sf_2933
  have sf_2935 : Safe Z o23 T2889.vm h2889 nz0_2880 := hr2889.safe F2887.lt sf_2934
  have R2931 : CHr Z o23 s.vm h0 T2889.vm T2900.heap := R2930.trans (CHr.keep K2900 (sfS sf_2935 (sfS sf_2932 sf0)) R2930.1)
  have sf_2937 : Safe Z o23 T2889.vm T2900.heap b2876 := Safe.exa hZ2889.alike F2905 o102 o85
  have sf_2938 : Safe Z o23 T2889.vm T2900.heap nz0_2880 := Safe.keep K2900 (sfS sf_2935 (sfS sf_2932 sf0)) R2930.1 sf_2935
  have R2936 : CHr Z o23 s.vm h0 T2889.vm T2921.heap := R2931.trans (CHr.keep K2921 (sfS sf_2938 (sfS sf_2937 sf0)) R2931.1)
  obtain ⟨a2929, T2929, h2929, j2929, b2929, k2929, X2929, e2929, E2929, Si2929, Sk2929, hZ2929, hown2929, Ea2929, Fc2929, Fv2929, Av2929, la2929, lb2929, hr2929, Li2929, ln2929, st2929⟩ := ldcCH X2921 hx hZ2889 hown2889 (o2 hw 194 rfl) (o393 hw) rfl Si2889 (Nat.le_trans Sk2889 (Nat.le_trans K2900.1 K2921.1)) (o172 hw) (List.mem_of_getElem? (i := 3) rfl) R2936.1 (vs := [.int 39, .int 58, .int 32]) (z := 3) o827 (by decide) rfl (g := (mkF m 118 #[o1 ad0, o1 ad2, o5] [.ref b2876])) rfl (hb hby o452) (n := 12) (by decide) (by decide) (by decide) (by decide)
  refine o4 (fun u j => st2929 u j) ?_
  have F2939 := (Exa.ext E2929 F2925)
  have F2940 := (Fld.ext E2929 F2926)
  have F2941 := (Fld.ext E2929 F2927)
  have F2942 := (Fld.ext E2929 F2928)
  have F2943 := (Exa.ext E2929 F2923)
  have F2944 := (F2924.ext E2929)
  have O2946 := O2922.keep K2921 (allS g2899 (allS g2877 all0))
  have O2947 := O2946.ext E2929
  refine o17 (o63 X2929 hx hZ2929 (y := o80) (z := o80) hown2929 (o2 hw 97 rfl) (o2 hw 98 rfl) (notFace_of_selects (args := #[]) (mvT hZ2929 (o2 hw 100 rfl))) (o2 hw 100 rfl) (o2 hw 99 rfl) (o2 hw 81 rfl) (o2 hw 101 rfl) o90 (o873 hw hS b2876 a2929 nz0_2880 b2929 kz1_2881 iv6 k2929 h2929 n0 O2947 F2939 F2940 F2941 F2942 Ea2929 Fc2929 Fv2929 F2943 F2944 Av2929 g2899 g2877) e2929 F2939 o121 (argsL := [.ref a2929]) (rest := []) rfl rfl (g := (mkF m 120 #[o1 ad0, o1 ad2, o5] [.ref a2929, .ref b2876])) rfl (by rw [hml]; rfl) rfl (hb hby o453) (W := 0) rfl) ?_
  intro T2945 v2945 L2945 X2945 hQ2945
  obtain ⟨rfl, M2945, K2945, F2948, F2949, F2950, F2951, F2952, F2953⟩ := hQ2945
  have N2945 := Fr.app N2921 M2945
  refine o4 (fun u j => o3 X2945.here hx rfl (hb hby o454) rfl rfl j) ?_
  have F2954 := ((Exa.ext E2929 (((Exa.ext E2889 ((Exa.ext E2876 pe8).keep K2878)).keep K2900).keep K2921)).keep K2945)
  have ne2955 := (Nat.ne_of_lt (Nat.lt_of_lt_of_le pe8.lt (Nat.le_of_eq g2876.symm)))
  have ne2956 := (Nat.ne_of_lt (Nat.lt_of_lt_of_le (Nat.lt_of_lt_of_le pe8.lt E2876.1) z2882))
  have F2957 := ((Fld.ext E2929 (((Fld.ext E2889 ((Fld.ext E2876 pf9).keep K2878 (ninS ne2955 nin0))).keep K2900 (ninS ne2956 (ninS ne2955 nin0))).keep K2921 (ninS ne2956 (ninS ne2955 nin0)))).keep K2945 (ninS ne2956 (ninS ne2955 nin0)))
  have F2958 := ((Fld.ext E2929 (((Fld.ext E2889 ((Fld.ext E2876 pf10).keep K2878 (ninS ne2955 nin0))).keep K2900 (ninS ne2956 (ninS ne2955 nin0))).keep K2921 (ninS ne2956 (ninS ne2955 nin0)))).keep K2945 (ninS ne2956 (ninS ne2955 nin0)))
  have ne2959 := (Nat.ne_of_lt (Nat.lt_of_lt_of_le pe13.lt (Nat.le_of_eq g2876.symm)))
  have ne2960 := (Nat.ne_of_lt (Nat.lt_of_lt_of_le (Nat.lt_of_lt_of_le pe13.lt E2876.1) z2882))
  have F2961 := (((((((pa14.ext E2876).keep K2878 (ninS ne2959 nin0)).ext E2889).keep K2900 (ninS ne2960 (ninS ne2959 nin0))).keep K2921 (ninS ne2960 (ninS ne2959 nin0))).ext E2929).keep K2945 (ninS ne2960 (ninS ne2959 nin0)))
  have O2963 := O2947.keep K2945 (allS g2899 (allS g2877 all0))
  refine o17 (o63 X2945 hx hZ2929 (y := o80) (z := o80) hown2929 (o2 hw 97 rfl) (o2 hw 98 rfl) (notFace_of_selects (args := #[]) (mvT hZ2929 (o2 hw 100 rfl))) (o2 hw 100 rfl) (o2 hw 99 rfl) (o2 hw 81 rfl) (o2 hw 101 rfl) o90 (o987 hw hS b2876 ad2 nz0_2880 ad4 kz1_2881 iv6 kc7 iv8 T2945.heap n0 O2963 F2950 F2951 F2952 F2953 F2954 F2957 F2958 F2948 F2949 F2961 g2899 g2877) rfl F2950 o121 (argsL := [.ref ad2]) (rest := []) rfl rfl (g := (mkF m 124 #[o1 ad0, o1 ad2, o5] [.ref ad2, .ref b2876])) rfl (by rw [hml]; rfl) rfl (hb hby o455) (W := 0) rfl) ?_
  intro T2962 v2962 L2962 X2962 hQ2962
  obtain ⟨rfl, M2962, K2962, F2964, F2965, F2966, F2967, F2968, F2969⟩ := hQ2962
  have N2962 := Fr.app N2945 M2962
  have O2971 := O2963.keep K2962 (allS g2899 (allS g2877 all0))
  refine o17 (o63 X2962 hx hZ2929 (y := o183) (z := o183) hown2929 (o2 hw 148 rfl) (o2 hw 149 rfl) (notFace_of_selects (args := #[]) (mvT hZ2929 (o2 hw 151 rfl))) (o2 hw 151 rfl) (o2 hw 150 rfl) (o2 hw 81 rfl) (o2 hw 152 rfl) o90 (o878 hw hS b2876 nz0_2880 kz1_2881 iv6 iv8 T2962.heap n0 O2971 F2966 F2967 F2968 F2969 F2964 F2965) rfl F2966 o207 (argsL := []) (rest := []) rfl rfl (g := (mkF m 127 #[o1 ad0, o1 ad2, o5] [.ref b2876])) rfl (by rw [hml]; rfl) rfl (hb hby o456) (W := 0) rfl) ?_
  intro T2970 v2970 L2970 X2970 hQ2970
  obtain ⟨nz0_2972, nz1_2973, kz2_2974, rfl, M2970, K2970, z2975, z2976, F2977, F2978, F2979, F2980, F2981⟩ := hQ2970
  have N2970 := Fr.app N2962 M2970
  refine o4 (fun u j => o84 X2970.here hx rfl (hb hby o457) rfl rfl (l' := #[o1 ad0, o1 ad2, o1 nz0_2972]) rfl (o3 X2970.here hx rfl (hb hby o188) rfl rfl j)) ?_
  have K2982 := (Keep.refl h0 []).ext E2876
  have z2984 := Nat.le_trans (Nat.le_refl _) (Nat.le_of_eq g2876.symm)
  have K2983 := K2982.trans K2878 (allS (Or.inr z2984) all0)
  have K2985 := K2983.ext E2889
  have z2987 := Nat.le_trans E2876.1 z2882
  have K2986 := K2985.trans K2900 (allS (Or.inr z2987) (allS (Or.inr z2984) all0))
  have K2988 := K2986.trans K2921 (allS (Or.inr z2987) (allS (Or.inr z2984) all0))
  have K2989 := K2988.ext E2929
  have K2990 := K2989.trans K2945 (allS (Or.inr z2987) (allS (Or.inr z2984) all0))
  have K2991 := K2990.trans K2962 (allS (Or.inr z2987) (allS (Or.inr z2984) all0))
  have K2992 := K2991.trans K2970 all0
  have z2993 := Nat.le_trans (Nat.le_trans (Nat.le_trans (Nat.le_trans (Nat.le_trans (Nat.le_trans (Nat.le_trans (Nat.le_trans E2876.1 K2878.1) E2889.1) K2900.1) K2921.1) E2929.1) K2945.1) K2962.1) z2975
  have z2994 := Nat.le_trans (Nat.le_trans (Nat.le_trans (Nat.le_trans (Nat.le_trans (Nat.le_trans (Nat.le_trans (Nat.le_trans E2876.1 K2878.1) E2889.1) K2900.1) K2921.1) E2929.1) K2945.1) K2962.1) z2976
  have R2995 : CHr Z o23 s.vm h0 T2929.vm h2929 := R2936.trans hr2929
  have sf_2997 : Safe Z o23 T2929.vm h2929 b2876 := Safe.exa hZ2929.alike F2939 o102 o85
  have sf_2998 : Safe Z o23 T2889.vm T2921.heap nz0_2880 := Safe.keep K2921 (sfS sf_2938 (sfS sf_2937 sf0)) R2931.1 sf_2938
  have sf_2999 : Safe Z o23 T2929.vm h2929 nz0_2880 := hr2929.safe F2923.lt sf_2998
  have R2996 : CHr Z o23 s.vm h0 T2929.vm T2945.heap := R2995.trans (CHr.keep K2945 (sfS sf_2999 (sfS sf_2997 sf0)) R2995.1)
  have sf_3001 : Safe Z o23 T2929.vm T2945.heap b2876 := Safe.exa hZ2929.alike F2950 o102 o85
  have sf_3002 : Safe Z o23 T2929.vm T2945.heap nz0_2880 := Safe.keep K2945 (sfS sf_2999 (sfS sf_2997 sf0)) R2995.1 sf_2999
  have R3000 : CHr Z o23 s.vm h0 T2929.vm T2962.heap := R2996.trans (CHr.keep K2962 (sfS sf_3002 (sfS sf_3001 sf0)) R2996.1)
  have R3003 : CHr Z o23 s.vm h0 T2929.vm T2970.heap := R3000.trans (CHr.keep K2970 sf0 R3000.1)
  exact o368 X2970 Si2929 (Nat.le_trans Sk2929 (Nat.le_trans (Nat.le_trans K2945.1 K2962.1) K2970.1)) rfl hZ2929 (o172 hw) hs0 R3003 hx hlk hret rfl (Or.inr (Or.inr (Or.inr (Or.inr ⟨rfl, rfl, rfl⟩)))) (hb hby o189) (by decide) (by decide) (by exact ⟨nz0_2972, nz1_2973, kz2_2974, rfl, N2970, K2992, z2993, z2994, F2977, F2978, F2979, F2980, F2981⟩)
theorem o490 : decode method_3_code 117 = .ok (.iload_n 2, 1) := by decide +kernel
theorem o491 : decode method_3_code 118 = .ok (.ifCond .ne 74, 3) := by decide +kernel
theorem o572 : decode method_3_code 121 = .ok (.new 8, 3) := by decide +kernel
theorem o573 : decode method_3_code 124 = .ok (.dup, 1) := by decide +kernel
theorem o574 : decode method_3_code 125 = .ok (.bipush 11, 2) := by decide +kernel
theorem o575 : decode method_3_code 127 = .ok (.newarray .char, 2) := by decide +kernel
theorem o576 : decode method_3_code 129 = .ok (.dup, 1) := by decide +kernel
theorem o577 : decode method_3_code 130 = .ok (.iconst 0, 1) := by decide +kernel
theorem o578 : decode method_3_code 131 = .ok (.bipush 98, 2) := by decide +kernel
theorem o579 : decode method_3_code 133 = .ok (.castore, 1) := by decide +kernel
theorem o580 : decode method_3_code 134 = .ok (.dup, 1) := by decide +kernel
theorem o581 : decode method_3_code 135 = .ok (.iconst 1, 1) := by decide +kernel
theorem o582 : decode method_3_code 136 = .ok (.bipush 101, 2) := by decide +kernel
theorem o583 : decode method_3_code 138 = .ok (.castore, 1) := by decide +kernel
theorem o584 : decode method_3_code 139 = .ok (.dup, 1) := by decide +kernel
theorem o585 : decode method_3_code 140 = .ok (.iconst 2, 1) := by decide +kernel
theorem o586 : decode method_3_code 141 = .ok (.bipush 97, 2) := by decide +kernel
theorem o587 : decode method_3_code 143 = .ok (.castore, 1) := by decide +kernel
theorem o588 : decode method_3_code 144 = .ok (.dup, 1) := by decide +kernel
theorem o589 : decode method_3_code 145 = .ok (.iconst 3, 1) := by decide +kernel
theorem o590 : decode method_3_code 146 = .ok (.bipush 110, 2) := by decide +kernel
theorem o591 : decode method_3_code 148 = .ok (.castore, 1) := by decide +kernel
theorem o592 : decode method_3_code 149 = .ok (.dup, 1) := by decide +kernel
theorem o593 : decode method_3_code 150 = .ok (.iconst 4, 1) := by decide +kernel
theorem o594 : decode method_3_code 151 = .ok (.bipush 32, 2) := by decide +kernel
theorem o595 : decode method_3_code 153 = .ok (.castore, 1) := by decide +kernel
theorem o596 : decode method_3_code 154 = .ok (.dup, 1) := by decide +kernel
theorem o597 : decode method_3_code 155 = .ok (.iconst 5, 1) := by decide +kernel
theorem o598 : decode method_3_code 156 = .ok (.bipush 39, 2) := by decide +kernel
theorem o599 : decode method_3_code 158 = .ok (.castore, 1) := by decide +kernel
theorem o600 : decode method_3_code 159 = .ok (.dup, 1) := by decide +kernel
theorem o601 : decode method_3_code 160 = .ok (.bipush 6, 2) := by decide +kernel
theorem o602 : decode method_3_code 162 = .ok (.iload_n 3, 1) := by decide +kernel
theorem o603 : decode method_3_code 163 = .ok (.castore, 1) := by decide +kernel
theorem o604 : decode method_3_code 164 = .ok (.dup, 1) := by decide +kernel
theorem o605 : decode method_3_code 165 = .ok (.bipush 7, 2) := by decide +kernel
theorem o606 : decode method_3_code 167 = .ok (.bipush 39, 2) := by decide +kernel
theorem o607 : decode method_3_code 169 = .ok (.castore, 1) := by decide +kernel
theorem o608 : decode method_3_code 170 = .ok (.dup, 1) := by decide +kernel
theorem o609 : decode method_3_code 171 = .ok (.bipush 8, 2) := by decide +kernel
theorem o610 : decode method_3_code 173 = .ok (.bipush 58, 2) := by decide +kernel
theorem o611 : decode method_3_code 175 = .ok (.castore, 1) := by decide +kernel
theorem o612 : decode method_3_code 176 = .ok (.dup, 1) := by decide +kernel
theorem o613 : decode method_3_code 177 = .ok (.bipush 9, 2) := by decide +kernel
theorem o614 : decode method_3_code 179 = .ok (.bipush 32, 2) := by decide +kernel
theorem o615 : decode method_3_code 181 = .ok (.castore, 1) := by decide +kernel
theorem o616 : decode method_3_code 182 = .ok (.dup, 1) := by decide +kernel
theorem o617 : decode method_3_code 183 = .ok (.bipush 10, 2) := by decide +kernel
theorem o618 : decode method_3_code 185 = .ok (.iload 4, 2) := by decide +kernel
theorem o619 : decode method_3_code 187 = .ok (.castore, 1) := by decide +kernel
theorem o620 : decode method_3_code 188 = .ok (.invokespecial 32, 3) := by decide +kernel
theorem o880 (hw : o35 a0 Z) (hS : o64 Z wcs) (ad0 ad1 : Addr) (kc2 : ClassId) (iv3 iv4 : Int32) (kc5 : ClassId) (h0 : Heap) (n0 : Nat) (O0 : Old Z n0 h0) (pe1 : Exa Z h0 ad0 "[C") (pa2 : Arv Z h0 ad0 kc2 .char 11 [.int 98, .int 101, .int 97, .int 110, .int 32, .int 39, .int iv3, .int 39, .int 58, .int 32, .int iv4] (.int 0)) (pe3 : Exa Z h0 ad1 "[B") (pa4 : Arv Z h0 ad1 kc5 .byte 11 [.int 0, .int 0, .int 0, .int 0, .int 0, .int 0, .int 0, .int 0, .int 0, .int 0, .int 0] (.int 0)) (pk5 : ¬ (255 : Int32) < iv3) (pk6 : ¬ (255 : Int32) < iv4) (pg_ad1 : n0 ≤ ad1) :
    o21 l o314 jdk_52_method_21_code 7 (some .int) ws ⟨0, 0, 0, 0⟩ Z h0 #[.ref ad0, .int 0, .ref ad1, .int 0, .int 11] (fun v h L => v = some (.int 11) ∧ Fr n0 L ∧ Keep h0 h [ad1] ∧ Exa Z h ad1 "[B" ∧ Arv Z h ad1 kc5 .byte 11 [.int 98, .int 101, .int 97, .int 110, .int 32, .int 39, (.int (iv3.toInt8.toInt32)), .int 39, .int 58, .int 32, (.int (iv4.toInt8.toInt32))] (.int 0)) := by
  refine o18 (plainFor_of_name o177) ?_
  intro p e s m below meth c s₁ hx hby hml hown hnm hret hlk hZ e0 X0
  have N0 := Fr.nil n0
  refine o4 (fun u j => castTop (show entryFrame m #[.ref ad0, .int 0, .ref ad1, .int 0, .int 11] 7 = mkF m 0 #[o1 ad0, o0 0, o1 ad1, o0 0, o0 11, o5, o5] [] from rfl) j) ?_
  refine o4 (fun u j => o16 X0.here hx rfl (hb hby o280) (o20 X0.here hx rfl (hb hby o281) rfl (l' := #[o1 ad0, o0 0, o1 ad1, o0 0, o0 11, o0 0, o5]) rfl (o8 X0.here hx rfl (hb hby o28) rfl (o8 X0.here hx rfl (hb hby o29) rfl (o14 X0.here hx rfl (hb hby o30) rfl (o19 (by decide)) (o3 X0.here hx rfl (hb hby o36) rfl rfl j)))))) ?_
  show o11 p e below _ (s₁.setTop (mkF m 11 #[o1 ad0, o0 0, o1 ad1, o0 0, o0 11, o0 0, o5] [.ref ad0]))
  refine o4 (fun u j => o6 X0.here hx rfl (hb hby o37) rfl (o104 X0 hx hZ e0 pa2 (j := 0) (v := (.int 98)) (by decide) rfl rfl rfl (hb hby o38) (o20 X0.here hx rfl (hb hby o39) rfl (l' := #[o1 ad0, o0 0, o1 ad1, o0 0, o0 11, o0 0, o0 98]) rfl (o8 X0.here hx rfl (hb hby o40) rfl (o33 X0.here hx rfl (hb hby o41) (o13 X0.here hx rfl (pc0 := 20) (pc' := 26) rfl (hb hby o42) rfl (o73 (by decide)) (by decide) (by decide) j)))))) ?_
  show o11 p e below _ (s₁.setTop (mkF m 26 #[o1 ad0, o0 0, o1 ad1, o0 0, o0 11, o0 0, o0 98] []))
  refine o4 (fun u j => o3 X0.here hx rfl (hb hby o43) rfl rfl (o6 X0.here hx rfl (hb hby o44) rfl (o8 X0.here hx rfl (hb hby o45) rfl (o79 X0.here hx rfl (hb hby o46) rfl j)))) ?_
  refine o32 (o101 X0 hx hZ e0 pa4 (j := 0) (by decide) rfl rfl (hb hby o47)) ?_
  intro T3077 h3077 X3077 e3077 W3077
  replace W3077 : Wr h0 h3077 ad1 ((0 : Int32)).toNatClampNeg (.int 98) := W3077
  have N3077 := Fr.snoc X3077 N0 pg_ad1
  have V3077 : Arv Z h3077 ad1 kc5 .byte 11 [.int 98, .int 0, .int 0, .int 0, .int 0, .int 0, .int 0, .int 0, .int 0, .int 0, .int 0] (.int 0) := o74 pa4 rfl W3077 0 rfl (Nat.le_of_ble_eq_true rfl)
  refine o4 (fun u j => o12 X3077.here hx rfl (hb hby o48) rfl (l' := #[o1 ad0, o0 1, o1 ad1, o0 0, o0 11, o0 0, o0 98]) rfl (o12 X3077.here hx rfl (hb hby o49) rfl (l' := #[o1 ad0, o0 1, o1 ad1, o0 1, o0 11, o0 0, o0 98]) rfl (o12 X3077.here hx rfl (hb hby o50) rfl (l' := #[o1 ad0, o0 1, o1 ad1, o0 1, o0 11, o0 1, o0 98]) rfl (o15 X3077.here hx rfl (pc0 := 41) (pc' := 3) rfl (hb hby o51) (by decide) (by decide) (o8 X3077.here hx rfl (hb hby o28) rfl (o8 X3077.here hx rfl (hb hby o29) rfl j)))))) ?_
  show o11 p e below _ (T3077.setTop (mkF m 7 #[o1 ad0, o0 1, o1 ad1, o0 1, o0 11, o0 1, o0 98] [.int 11, .int 1]))
  refine o4 (fun u j => o14 X3077.here hx rfl (hb hby o30) rfl (o19 (by decide)) (o3 X3077.here hx rfl (hb hby o36) rfl rfl (o6 X3077.here hx rfl (hb hby o37) rfl j))) ?_
  have ne3078 := (ne_exa pe1 pe3 o501)
  have F3079 := (pa2.other W3077 ne3078)
  refine o4 (fun u j => o104 X3077 hx hZ e3077 F3079 (j := 1) (v := (.int 101)) (by decide) rfl rfl rfl (hb hby o38) (o20 X3077.here hx rfl (hb hby o39) rfl (l' := #[o1 ad0, o0 1, o1 ad1, o0 1, o0 11, o0 1, o0 101]) rfl (o8 X3077.here hx rfl (hb hby o40) rfl j))) ?_
  show o11 p e below _ (T3077.setTop (mkF m 17 #[o1 ad0, o0 1, o1 ad1, o0 1, o0 11, o0 1, o0 101] [.int 101]))
  refine o4 (fun u j => o33 X3077.here hx rfl (hb hby o41) (o13 X3077.here hx rfl (pc0 := 20) (pc' := 26) rfl (hb hby o42) rfl (o73 (by decide)) (by decide) (by decide) (o3 X3077.here hx rfl (hb hby o43) rfl rfl (o6 X3077.here hx rfl (hb hby o44) rfl (o8 X3077.here hx rfl (hb hby o45) rfl (o79 X3077.here hx rfl (hb hby o46) rfl j)))))) ?_
  show o11 p e below _ (T3077.setTop (mkF m 31 #[o1 ad0, o0 1, o1 ad1, o0 1, o0 11, o0 1, o0 101] [.int 101, .int 1, .ref ad1]))
  refine o32 (o101 X3077 hx hZ e3077 V3077 (j := 1) (by decide) rfl rfl (hb hby o47)) ?_
  intro T3080 h3080 X3080 e3080 W3080
  replace W3080 : Wr h3077 h3080 ad1 ((1 : Int32)).toNatClampNeg (.int 101) := W3080
  have N3080 := Fr.snoc X3080 N3077 pg_ad1
  have V3080 : Arv Z h3080 ad1 kc5 .byte 11 [.int 98, .int 101, .int 0, .int 0, .int 0, .int 0, .int 0, .int 0, .int 0, .int 0, .int 0] (.int 0) := o74 V3077 rfl W3080 1 rfl (Nat.le_of_ble_eq_true rfl)
  refine o4 (fun u j => o12 X3080.here hx rfl (hb hby o48) rfl (l' := #[o1 ad0, o0 2, o1 ad1, o0 1, o0 11, o0 1, o0 101]) rfl (o12 X3080.here hx rfl (hb hby o49) rfl (l' := #[o1 ad0, o0 2, o1 ad1, o0 2, o0 11, o0 1, o0 101]) rfl (o12 X3080.here hx rfl (hb hby o50) rfl (l' := #[o1 ad0, o0 2, o1 ad1, o0 2, o0 11, o0 2, o0 101]) rfl (o15 X3080.here hx rfl (pc0 := 41) (pc' := 3) rfl (hb hby o51) (by decide) (by decide) (o8 X3080.here hx rfl (hb hby o28) rfl (o8 X3080.here hx rfl (hb hby o29) rfl j)))))) ?_
  show o11 p e below _ (T3080.setTop (mkF m 7 #[o1 ad0, o0 2, o1 ad1, o0 2, o0 11, o0 2, o0 101] [.int 11, .int 2]))
  refine o4 (fun u j => o14 X3080.here hx rfl (hb hby o30) rfl (o19 (by decide)) (o3 X3080.here hx rfl (hb hby o36) rfl rfl (o6 X3080.here hx rfl (hb hby o37) rfl j))) ?_
  have F3081 := (F3079.other W3080 ne3078)
  refine o4 (fun u j => o104 X3080 hx hZ e3080 F3081 (j := 2) (v := (.int 97)) (by decide) rfl rfl rfl (hb hby o38) (o20 X3080.here hx rfl (hb hby o39) rfl (l' := #[o1 ad0, o0 2, o1 ad1, o0 2, o0 11, o0 2, o0 97]) rfl (o8 X3080.here hx rfl (hb hby o40) rfl j))) ?_
  show o11 p e below _ (T3080.setTop (mkF m 17 #[o1 ad0, o0 2, o1 ad1, o0 2, o0 11, o0 2, o0 97] [.int 97]))
  refine o4 (fun u j => o33 X3080.here hx rfl (hb hby o41) (o13 X3080.here hx rfl (pc0 := 20) (pc' := 26) rfl (hb hby o42) rfl (o73 (by decide)) (by decide) (by decide) (o3 X3080.here hx rfl (hb hby o43) rfl rfl (o6 X3080.here hx rfl (hb hby o44) rfl (o8 X3080.here hx rfl (hb hby o45) rfl (o79 X3080.here hx rfl (hb hby o46) rfl j)))))) ?_
  show o11 p e below _ (T3080.setTop (mkF m 31 #[o1 ad0, o0 2, o1 ad1, o0 2, o0 11, o0 2, o0 97] [.int 97, .int 2, .ref ad1]))
  refine o32 (o101 X3080 hx hZ e3080 V3080 (j := 2) (by decide) rfl rfl (hb hby o47)) ?_
  intro T3082 h3082 X3082 e3082 W3082
  replace W3082 : Wr h3080 h3082 ad1 ((2 : Int32)).toNatClampNeg (.int 97) := W3082
  have N3082 := Fr.snoc X3082 N3080 pg_ad1
  have V3082 : Arv Z h3082 ad1 kc5 .byte 11 [.int 98, .int 101, .int 97, .int 0, .int 0, .int 0, .int 0, .int 0, .int 0, .int 0, .int 0] (.int 0) := o74 V3080 rfl W3082 2 rfl (Nat.le_of_ble_eq_true rfl)
  refine o4 (fun u j => o12 X3082.here hx rfl (hb hby o48) rfl (l' := #[o1 ad0, o0 3, o1 ad1, o0 2, o0 11, o0 2, o0 97]) rfl (o12 X3082.here hx rfl (hb hby o49) rfl (l' := #[o1 ad0, o0 3, o1 ad1, o0 3, o0 11, o0 2, o0 97]) rfl (o12 X3082.here hx rfl (hb hby o50) rfl (l' := #[o1 ad0, o0 3, o1 ad1, o0 3, o0 11, o0 3, o0 97]) rfl (o15 X3082.here hx rfl (pc0 := 41) (pc' := 3) rfl (hb hby o51) (by decide) (by decide) (o8 X3082.here hx rfl (hb hby o28) rfl (o8 X3082.here hx rfl (hb hby o29) rfl j)))))) ?_
  show o11 p e below _ (T3082.setTop (mkF m 7 #[o1 ad0, o0 3, o1 ad1, o0 3, o0 11, o0 3, o0 97] [.int 11, .int 3]))
  refine o4 (fun u j => o14 X3082.here hx rfl (hb hby o30) rfl (o19 (by decide)) (o3 X3082.here hx rfl (hb hby o36) rfl rfl (o6 X3082.here hx rfl (hb hby o37) rfl j))) ?_
  have F3083 := (F3081.other W3082 ne3078)
  refine o4 (fun u j => o104 X3082 hx hZ e3082 F3083 (j := 3) (v := (.int 110)) (by decide) rfl rfl rfl (hb hby o38) (o20 X3082.here hx rfl (hb hby o39) rfl (l' := #[o1 ad0, o0 3, o1 ad1, o0 3, o0 11, o0 3, o0 110]) rfl (o8 X3082.here hx rfl (hb hby o40) rfl j))) ?_
  show o11 p e below _ (T3082.setTop (mkF m 17 #[o1 ad0, o0 3, o1 ad1, o0 3, o0 11, o0 3, o0 110] [.int 110]))
  refine o4 (fun u j => o33 X3082.here hx rfl (hb hby o41) (o13 X3082.here hx rfl (pc0 := 20) (pc' := 26) rfl (hb hby o42) rfl (o73 (by decide)) (by decide) (by decide) (o3 X3082.here hx rfl (hb hby o43) rfl rfl (o6 X3082.here hx rfl (hb hby o44) rfl (o8 X3082.here hx rfl (hb hby o45) rfl (o79 X3082.here hx rfl (hb hby o46) rfl j)))))) ?_
  show o11 p e below _ (T3082.setTop (mkF m 31 #[o1 ad0, o0 3, o1 ad1, o0 3, o0 11, o0 3, o0 110] [.int 110, .int 3, .ref ad1]))
  refine o32 (o101 X3082 hx hZ e3082 V3082 (j := 3) (by decide) rfl rfl (hb hby o47)) ?_
  intro T3084 h3084 X3084 e3084 W3084
  replace W3084 : Wr h3082 h3084 ad1 ((3 : Int32)).toNatClampNeg (.int 110) := W3084
  have N3084 := Fr.snoc X3084 N3082 pg_ad1
  have V3084 : Arv Z h3084 ad1 kc5 .byte 11 [.int 98, .int 101, .int 97, .int 110, .int 0, .int 0, .int 0, .int 0, .int 0, .int 0, .int 0] (.int 0) := o74 V3082 rfl W3084 3 rfl (Nat.le_of_ble_eq_true rfl)
  refine o4 (fun u j => o12 X3084.here hx rfl (hb hby o48) rfl (l' := #[o1 ad0, o0 4, o1 ad1, o0 3, o0 11, o0 3, o0 110]) rfl (o12 X3084.here hx rfl (hb hby o49) rfl (l' := #[o1 ad0, o0 4, o1 ad1, o0 4, o0 11, o0 3, o0 110]) rfl (o12 X3084.here hx rfl (hb hby o50) rfl (l' := #[o1 ad0, o0 4, o1 ad1, o0 4, o0 11, o0 4, o0 110]) rfl (o15 X3084.here hx rfl (pc0 := 41) (pc' := 3) rfl (hb hby o51) (by decide) (by decide) (o8 X3084.here hx rfl (hb hby o28) rfl (o8 X3084.here hx rfl (hb hby o29) rfl j)))))) ?_
  show o11 p e below _ (T3084.setTop (mkF m 7 #[o1 ad0, o0 4, o1 ad1, o0 4, o0 11, o0 4, o0 110] [.int 11, .int 4]))
  refine o4 (fun u j => o14 X3084.here hx rfl (hb hby o30) rfl (o19 (by decide)) (o3 X3084.here hx rfl (hb hby o36) rfl rfl (o6 X3084.here hx rfl (hb hby o37) rfl j))) ?_
  have F3085 := (F3083.other W3084 ne3078)
  refine o4 (fun u j => o104 X3084 hx hZ e3084 F3085 (j := 4) (v := (.int 32)) (by decide) rfl rfl rfl (hb hby o38) (o20 X3084.here hx rfl (hb hby o39) rfl (l' := #[o1 ad0, o0 4, o1 ad1, o0 4, o0 11, o0 4, o0 32]) rfl (o8 X3084.here hx rfl (hb hby o40) rfl j))) ?_
  show o11 p e below _ (T3084.setTop (mkF m 17 #[o1 ad0, o0 4, o1 ad1, o0 4, o0 11, o0 4, o0 32] [.int 32]))
  refine o4 (fun u j => o33 X3084.here hx rfl (hb hby o41) (o13 X3084.here hx rfl (pc0 := 20) (pc' := 26) rfl (hb hby o42) rfl (o73 (by decide)) (by decide) (by decide) (o3 X3084.here hx rfl (hb hby o43) rfl rfl (o6 X3084.here hx rfl (hb hby o44) rfl (o8 X3084.here hx rfl (hb hby o45) rfl (o79 X3084.here hx rfl (hb hby o46) rfl j)))))) ?_
  show o11 p e below _ (T3084.setTop (mkF m 31 #[o1 ad0, o0 4, o1 ad1, o0 4, o0 11, o0 4, o0 32] [.int 32, .int 4, .ref ad1]))
  refine o32 (o101 X3084 hx hZ e3084 V3084 (j := 4) (by decide) rfl rfl (hb hby o47)) ?_
  intro T3086 h3086 X3086 e3086 W3086
  replace W3086 : Wr h3084 h3086 ad1 ((4 : Int32)).toNatClampNeg (.int 32) := W3086
  have N3086 := Fr.snoc X3086 N3084 pg_ad1
  have V3086 : Arv Z h3086 ad1 kc5 .byte 11 [.int 98, .int 101, .int 97, .int 110, .int 32, .int 0, .int 0, .int 0, .int 0, .int 0, .int 0] (.int 0) := o74 V3084 rfl W3086 4 rfl (Nat.le_of_ble_eq_true rfl)
  refine o4 (fun u j => o12 X3086.here hx rfl (hb hby o48) rfl (l' := #[o1 ad0, o0 5, o1 ad1, o0 4, o0 11, o0 4, o0 32]) rfl (o12 X3086.here hx rfl (hb hby o49) rfl (l' := #[o1 ad0, o0 5, o1 ad1, o0 5, o0 11, o0 4, o0 32]) rfl (o12 X3086.here hx rfl (hb hby o50) rfl (l' := #[o1 ad0, o0 5, o1 ad1, o0 5, o0 11, o0 5, o0 32]) rfl (o15 X3086.here hx rfl (pc0 := 41) (pc' := 3) rfl (hb hby o51) (by decide) (by decide) (o8 X3086.here hx rfl (hb hby o28) rfl (o8 X3086.here hx rfl (hb hby o29) rfl j)))))) ?_
  show o11 p e below _ (T3086.setTop (mkF m 7 #[o1 ad0, o0 5, o1 ad1, o0 5, o0 11, o0 5, o0 32] [.int 11, .int 5]))
  refine o4 (fun u j => o14 X3086.here hx rfl (hb hby o30) rfl (o19 (by decide)) (o3 X3086.here hx rfl (hb hby o36) rfl rfl (o6 X3086.here hx rfl (hb hby o37) rfl j))) ?_
  have F3087 := (F3085.other W3086 ne3078)
  refine o4 (fun u j => o104 X3086 hx hZ e3086 F3087 (j := 5) (v := (.int 39)) (by decide) rfl rfl rfl (hb hby o38) (o20 X3086.here hx rfl (hb hby o39) rfl (l' := #[o1 ad0, o0 5, o1 ad1, o0 5, o0 11, o0 5, o0 39]) rfl (o8 X3086.here hx rfl (hb hby o40) rfl j))) ?_
  show o11 p e below _ (T3086.setTop (mkF m 17 #[o1 ad0, o0 5, o1 ad1, o0 5, o0 11, o0 5, o0 39] [.int 39]))
  refine o4 (fun u j => o33 X3086.here hx rfl (hb hby o41) (o13 X3086.here hx rfl (pc0 := 20) (pc' := 26) rfl (hb hby o42) rfl (o73 (by decide)) (by decide) (by decide) (o3 X3086.here hx rfl (hb hby o43) rfl rfl (o6 X3086.here hx rfl (hb hby o44) rfl (o8 X3086.here hx rfl (hb hby o45) rfl (o79 X3086.here hx rfl (hb hby o46) rfl j)))))) ?_
  show o11 p e below _ (T3086.setTop (mkF m 31 #[o1 ad0, o0 5, o1 ad1, o0 5, o0 11, o0 5, o0 39] [.int 39, .int 5, .ref ad1]))
  refine o32 (o101 X3086 hx hZ e3086 V3086 (j := 5) (by decide) rfl rfl (hb hby o47)) ?_
  intro T3088 h3088 X3088 e3088 W3088
  replace W3088 : Wr h3086 h3088 ad1 ((5 : Int32)).toNatClampNeg (.int 39) := W3088
  have N3088 := Fr.snoc X3088 N3086 pg_ad1
  have V3088 : Arv Z h3088 ad1 kc5 .byte 11 [.int 98, .int 101, .int 97, .int 110, .int 32, .int 39, .int 0, .int 0, .int 0, .int 0, .int 0] (.int 0) := o74 V3086 rfl W3088 5 rfl (Nat.le_of_ble_eq_true rfl)
  refine o4 (fun u j => o12 X3088.here hx rfl (hb hby o48) rfl (l' := #[o1 ad0, o0 6, o1 ad1, o0 5, o0 11, o0 5, o0 39]) rfl (o12 X3088.here hx rfl (hb hby o49) rfl (l' := #[o1 ad0, o0 6, o1 ad1, o0 6, o0 11, o0 5, o0 39]) rfl (o12 X3088.here hx rfl (hb hby o50) rfl (l' := #[o1 ad0, o0 6, o1 ad1, o0 6, o0 11, o0 6, o0 39]) rfl (o15 X3088.here hx rfl (pc0 := 41) (pc' := 3) rfl (hb hby o51) (by decide) (by decide) (o8 X3088.here hx rfl (hb hby o28) rfl (o8 X3088.here hx rfl (hb hby o29) rfl j)))))) ?_
  show o11 p e below _ (T3088.setTop (mkF m 7 #[o1 ad0, o0 6, o1 ad1, o0 6, o0 11, o0 6, o0 39] [.int 11, .int 6]))
  refine o4 (fun u j => o14 X3088.here hx rfl (hb hby o30) rfl (o19 (by decide)) (o3 X3088.here hx rfl (hb hby o36) rfl rfl (o6 X3088.here hx rfl (hb hby o37) rfl j))) ?_
  have F3089 := (F3087.other W3088 ne3078)
  refine o4 (fun u j => o104 X3088 hx hZ e3088 F3089 (j := 6) (v := (.int iv3)) (by decide) rfl rfl rfl (hb hby o38) (o20 X3088.here hx rfl (hb hby o39) rfl (l' := #[o1 ad0, o0 6, o1 ad1, o0 6, o0 11, o0 6, o0 iv3]) rfl (o8 X3088.here hx rfl (hb hby o40) rfl j))) ?_
  show o11 p e below _ (T3088.setTop (mkF m 17 #[o1 ad0, o0 6, o1 ad1, o0 6, o0 11, o0 6, o0 iv3] [.int iv3]))
  refine o4 (fun u j => o33 X3088.here hx rfl (hb hby o41) (o13 X3088.here hx rfl (pc0 := 20) (pc' := 26) rfl (hb hby o42) rfl (o73 pk5) (by decide) (by decide) (o3 X3088.here hx rfl (hb hby o43) rfl rfl (o6 X3088.here hx rfl (hb hby o44) rfl (o8 X3088.here hx rfl (hb hby o45) rfl (o79 X3088.here hx rfl (hb hby o46) rfl j)))))) ?_
  show o11 p e below _ (T3088.setTop (mkF m 31 #[o1 ad0, o0 6, o1 ad1, o0 6, o0 11, o0 6, o0 iv3] [(.int (iv3.toInt8.toInt32)), .int 6, .ref ad1]))
  refine o32 (o101 X3088 hx hZ e3088 V3088 (j := 6) (by decide) rfl rfl (hb hby o47)) ?_
  intro T3090 h3090 X3090 e3090 W3090
  rw [o426] at W3090
  have N3090 := Fr.snoc X3090 N3088 pg_ad1
  have V3090 : Arv Z h3090 ad1 kc5 .byte 11 [.int 98, .int 101, .int 97, .int 110, .int 32, .int 39, (.int (iv3.toInt8.toInt32)), .int 0, .int 0, .int 0, .int 0] (.int 0) := o74 V3088 (fits_nar_byte _) W3090 6 rfl (Nat.le_of_ble_eq_true rfl)
  refine o4 (fun u j => o12 X3090.here hx rfl (hb hby o48) rfl (l' := #[o1 ad0, o0 7, o1 ad1, o0 6, o0 11, o0 6, o0 iv3]) rfl (o12 X3090.here hx rfl (hb hby o49) rfl (l' := #[o1 ad0, o0 7, o1 ad1, o0 7, o0 11, o0 6, o0 iv3]) rfl (o12 X3090.here hx rfl (hb hby o50) rfl (l' := #[o1 ad0, o0 7, o1 ad1, o0 7, o0 11, o0 7, o0 iv3]) rfl (o15 X3090.here hx rfl (pc0 := 41) (pc' := 3) rfl (hb hby o51) (by decide) (by decide) (o8 X3090.here hx rfl (hb hby o28) rfl (o8 X3090.here hx rfl (hb hby o29) rfl j)))))) ?_
  show o11 p e below _ (T3090.setTop (mkF m 7 #[o1 ad0, o0 7, o1 ad1, o0 7, o0 11, o0 7, o0 iv3] [.int 11, .int 7]))
  refine o4 (fun u j => o14 X3090.here hx rfl (hb hby o30) rfl (o19 (by decide)) (o3 X3090.here hx rfl (hb hby o36) rfl rfl (o6 X3090.here hx rfl (hb hby o37) rfl j))) ?_
  have F3091 := (F3089.other W3090 ne3078)
  refine o4 (fun u j => o104 X3090 hx hZ e3090 F3091 (j := 7) (v := (.int 39)) (by decide) rfl rfl rfl (hb hby o38) (o20 X3090.here hx rfl (hb hby o39) rfl (l' := #[o1 ad0, o0 7, o1 ad1, o0 7, o0 11, o0 7, o0 39]) rfl (o8 X3090.here hx rfl (hb hby o40) rfl j))) ?_
  show o11 p e below _ (T3090.setTop (mkF m 17 #[o1 ad0, o0 7, o1 ad1, o0 7, o0 11, o0 7, o0 39] [.int 39]))
  refine o4 (fun u j => o33 X3090.here hx rfl (hb hby o41) (o13 X3090.here hx rfl (pc0 := 20) (pc' := 26) rfl (hb hby o42) rfl (o73 (by decide)) (by decide) (by decide) (o3 X3090.here hx rfl (hb hby o43) rfl rfl (o6 X3090.here hx rfl (hb hby o44) rfl (o8 X3090.here hx rfl (hb hby o45) rfl (o79 X3090.here hx rfl (hb hby o46) rfl j)))))) ?_
  show o11 p e below _ (T3090.setTop (mkF m 31 #[o1 ad0, o0 7, o1 ad1, o0 7, o0 11, o0 7, o0 39] [.int 39, .int 7, .ref ad1]))
  refine o32 (o101 X3090 hx hZ e3090 V3090 (j := 7) (by decide) rfl rfl (hb hby o47)) ?_
  intro T3092 h3092 X3092 e3092 W3092
  replace W3092 : Wr h3090 h3092 ad1 ((7 : Int32)).toNatClampNeg (.int 39) := W3092
  have N3092 := Fr.snoc X3092 N3090 pg_ad1
  have V3092 : Arv Z h3092 ad1 kc5 .byte 11 [.int 98, .int 101, .int 97, .int 110, .int 32, .int 39, (.int (iv3.toInt8.toInt32)), .int 39, .int 0, .int 0, .int 0] (.int 0) := o74 V3090 rfl W3092 7 rfl (Nat.le_of_ble_eq_true rfl)
  refine o4 (fun u j => o12 X3092.here hx rfl (hb hby o48) rfl (l' := #[o1 ad0, o0 8, o1 ad1, o0 7, o0 11, o0 7, o0 39]) rfl (o12 X3092.here hx rfl (hb hby o49) rfl (l' := #[o1 ad0, o0 8, o1 ad1, o0 8, o0 11, o0 7, o0 39]) rfl (o12 X3092.here hx rfl (hb hby o50) rfl (l' := #[o1 ad0, o0 8, o1 ad1, o0 8, o0 11, o0 8, o0 39]) rfl (o15 X3092.here hx rfl (pc0 := 41) (pc' := 3) rfl (hb hby o51) (by decide) (by decide) (o8 X3092.here hx rfl (hb hby o28) rfl (o8 X3092.here hx rfl (hb hby o29) rfl j)))))) ?_
  show o11 p e below _ (T3092.setTop (mkF m 7 #[o1 ad0, o0 8, o1 ad1, o0 8, o0 11, o0 8, o0 39] [.int 11, .int 8]))
  refine o4 (fun u j => o14 X3092.here hx rfl (hb hby o30) rfl (o19 (by decide)) (o3 X3092.here hx rfl (hb hby o36) rfl rfl (o6 X3092.here hx rfl (hb hby o37) rfl j))) ?_
  have F3093 := (F3091.other W3092 ne3078)
  refine o4 (fun u j => o104 X3092 hx hZ e3092 F3093 (j := 8) (v := (.int 58)) (by decide) rfl rfl rfl (hb hby o38) (o20 X3092.here hx rfl (hb hby o39) rfl (l' := #[o1 ad0, o0 8, o1 ad1, o0 8, o0 11, o0 8, o0 58]) rfl (o8 X3092.here hx rfl (hb hby o40) rfl j))) ?_
  show o11 p e below _ (T3092.setTop (mkF m 17 #[o1 ad0, o0 8, o1 ad1, o0 8, o0 11, o0 8, o0 58] [.int 58]))
  refine o4 (fun u j => o33 X3092.here hx rfl (hb hby o41) (o13 X3092.here hx rfl (pc0 := 20) (pc' := 26) rfl (hb hby o42) rfl (o73 (by decide)) (by decide) (by decide) (o3 X3092.here hx rfl (hb hby o43) rfl rfl (o6 X3092.here hx rfl (hb hby o44) rfl (o8 X3092.here hx rfl (hb hby o45) rfl (o79 X3092.here hx rfl (hb hby o46) rfl j)))))) ?_
  show o11 p e below _ (T3092.setTop (mkF m 31 #[o1 ad0, o0 8, o1 ad1, o0 8, o0 11, o0 8, o0 58] [.int 58, .int 8, .ref ad1]))
  refine o32 (o101 X3092 hx hZ e3092 V3092 (j := 8) (by decide) rfl rfl (hb hby o47)) ?_
  intro T3094 h3094 X3094 e3094 W3094
  replace W3094 : Wr h3092 h3094 ad1 ((8 : Int32)).toNatClampNeg (.int 58) := W3094
  have N3094 := Fr.snoc X3094 N3092 pg_ad1
  have V3094 : Arv Z h3094 ad1 kc5 .byte 11 [.int 98, .int 101, .int 97, .int 110, .int 32, .int 39, (.int (iv3.toInt8.toInt32)), .int 39, .int 58, .int 0, .int 0] (.int 0) := o74 V3092 rfl W3094 8 rfl (Nat.le_of_ble_eq_true rfl)
  refine o4 (fun u j => o12 X3094.here hx rfl (hb hby o48) rfl (l' := #[o1 ad0, o0 9, o1 ad1, o0 8, o0 11, o0 8, o0 58]) rfl (o12 X3094.here hx rfl (hb hby o49) rfl (l' := #[o1 ad0, o0 9, o1 ad1, o0 9, o0 11, o0 8, o0 58]) rfl (o12 X3094.here hx rfl (hb hby o50) rfl (l' := #[o1 ad0, o0 9, o1 ad1, o0 9, o0 11, o0 9, o0 58]) rfl (o15 X3094.here hx rfl (pc0 := 41) (pc' := 3) rfl (hb hby o51) (by decide) (by decide) (o8 X3094.here hx rfl (hb hby o28) rfl (o8 X3094.here hx rfl (hb hby o29) rfl j)))))) ?_
  show o11 p e below _ (T3094.setTop (mkF m 7 #[o1 ad0, o0 9, o1 ad1, o0 9, o0 11, o0 9, o0 58] [.int 11, .int 9]))
  refine o4 (fun u j => o14 X3094.here hx rfl (hb hby o30) rfl (o19 (by decide)) (o3 X3094.here hx rfl (hb hby o36) rfl rfl (o6 X3094.here hx rfl (hb hby o37) rfl j))) ?_
  have F3095 := (F3093.other W3094 ne3078)
  refine o4 (fun u j => o104 X3094 hx hZ e3094 F3095 (j := 9) (v := (.int 32)) (by decide) rfl rfl rfl (hb hby o38) (o20 X3094.here hx rfl (hb hby o39) rfl (l' := #[o1 ad0, o0 9, o1 ad1, o0 9, o0 11, o0 9, o0 32]) rfl (o8 X3094.here hx rfl (hb hby o40) rfl j))) ?_
  show o11 p e below _ (T3094.setTop (mkF m 17 #[o1 ad0, o0 9, o1 ad1, o0 9, o0 11, o0 9, o0 32] [.int 32]))
  refine o4 (fun u j => o33 X3094.here hx rfl (hb hby o41) (o13 X3094.here hx rfl (pc0 := 20) (pc' := 26) rfl (hb hby o42) rfl (o73 (by decide)) (by decide) (by decide) (o3 X3094.here hx rfl (hb hby o43) rfl rfl (o6 X3094.here hx rfl (hb hby o44) rfl (o8 X3094.here hx rfl (hb hby o45) rfl (o79 X3094.here hx rfl (hb hby o46) rfl j)))))) ?_
  show o11 p e below _ (T3094.setTop (mkF m 31 #[o1 ad0, o0 9, o1 ad1, o0 9, o0 11, o0 9, o0 32] [.int 32, .int 9, .ref ad1]))
  refine o32 (o101 X3094 hx hZ e3094 V3094 (j := 9) (by decide) rfl rfl (hb hby o47)) ?_
  intro T3096 h3096 X3096 e3096 W3096
  replace W3096 : Wr h3094 h3096 ad1 ((9 : Int32)).toNatClampNeg (.int 32) := W3096
  have N3096 := Fr.snoc X3096 N3094 pg_ad1
  have V3096 : Arv Z h3096 ad1 kc5 .byte 11 [.int 98, .int 101, .int 97, .int 110, .int 32, .int 39, (.int (iv3.toInt8.toInt32)), .int 39, .int 58, .int 32, .int 0] (.int 0) := o74 V3094 rfl W3096 9 rfl (Nat.le_of_ble_eq_true rfl)
  refine o4 (fun u j => o12 X3096.here hx rfl (hb hby o48) rfl (l' := #[o1 ad0, o0 10, o1 ad1, o0 9, o0 11, o0 9, o0 32]) rfl (o12 X3096.here hx rfl (hb hby o49) rfl (l' := #[o1 ad0, o0 10, o1 ad1, o0 10, o0 11, o0 9, o0 32]) rfl (o12 X3096.here hx rfl (hb hby o50) rfl (l' := #[o1 ad0, o0 10, o1 ad1, o0 10, o0 11, o0 10, o0 32]) rfl (o15 X3096.here hx rfl (pc0 := 41) (pc' := 3) rfl (hb hby o51) (by decide) (by decide) (o8 X3096.here hx rfl (hb hby o28) rfl (o8 X3096.here hx rfl (hb hby o29) rfl j)))))) ?_
  show o11 p e below _ (T3096.setTop (mkF m 7 #[o1 ad0, o0 10, o1 ad1, o0 10, o0 11, o0 10, o0 32] [.int 11, .int 10]))
  refine o4 (fun u j => o14 X3096.here hx rfl (hb hby o30) rfl (o19 (by decide)) (o3 X3096.here hx rfl (hb hby o36) rfl rfl (o6 X3096.here hx rfl (hb hby o37) rfl j))) ?_
  have F3097 := (F3095.other W3096 ne3078)
  refine o4 (fun u j => o104 X3096 hx hZ e3096 F3097 (j := 10) (v := (.int iv4)) (by decide) rfl rfl rfl (hb hby o38) (o20 X3096.here hx rfl (hb hby o39) rfl (l' := #[o1 ad0, o0 10, o1 ad1, o0 10, o0 11, o0 10, o0 iv4]) rfl (o8 X3096.here hx rfl (hb hby o40) rfl j))) ?_
  show o11 p e below _ (T3096.setTop (mkF m 17 #[o1 ad0, o0 10, o1 ad1, o0 10, o0 11, o0 10, o0 iv4] [.int iv4]))
  refine o4 (fun u j => o33 X3096.here hx rfl (hb hby o41) (o13 X3096.here hx rfl (pc0 := 20) (pc' := 26) rfl (hb hby o42) rfl (o73 pk6) (by decide) (by decide) (o3 X3096.here hx rfl (hb hby o43) rfl rfl (o6 X3096.here hx rfl (hb hby o44) rfl (o8 X3096.here hx rfl (hb hby o45) rfl (o79 X3096.here hx rfl (hb hby o46) rfl j)))))) ?_
  show o11 p e below _ (T3096.setTop (mkF m 31 #[o1 ad0, o0 10, o1 ad1, o0 10, o0 11, o0 10, o0 iv4] [(.int (iv4.toInt8.toInt32)), .int 10, .ref ad1]))
  refine o32 (o101 X3096 hx hZ e3096 V3096 (j := 10) (by decide) rfl rfl (hb hby o47)) ?_
  intro T3098 h3098 X3098 e3098 W3098
  rw [o426] at W3098
  have N3098 := Fr.snoc X3098 N3096 pg_ad1
  have V3098 : Arv Z h3098 ad1 kc5 .byte 11 [.int 98, .int 101, .int 97, .int 110, .int 32, .int 39, (.int (iv3.toInt8.toInt32)), .int 39, .int 58, .int 32, (.int (iv4.toInt8.toInt32))] (.int 0) := o74 V3096 (fits_nar_byte _) W3098 10 rfl (Nat.le_of_ble_eq_true rfl)
  refine o4 (fun u j => o12 X3098.here hx rfl (hb hby o48) rfl (l' := #[o1 ad0, o0 11, o1 ad1, o0 10, o0 11, o0 10, o0 iv4]) rfl (o12 X3098.here hx rfl (hb hby o49) rfl (l' := #[o1 ad0, o0 11, o1 ad1, o0 11, o0 11, o0 10, o0 iv4]) rfl (o12 X3098.here hx rfl (hb hby o50) rfl (l' := #[o1 ad0, o0 11, o1 ad1, o0 11, o0 11, o0 11, o0 iv4]) rfl (o15 X3098.here hx rfl (pc0 := 41) (pc' := 3) rfl (hb hby o51) (by decide) (by decide) (o8 X3098.here hx rfl (hb hby o28) rfl (o8 X3098.here hx rfl (hb hby o29) rfl j)))))) ?_
  show o11 p e below _ (T3098.setTop (mkF m 7 #[o1 ad0, o0 11, o1 ad1, o0 11, o0 11, o0 11, o0 iv4] [.int 11, .int 11]))
  refine o4 (fun u j => o13 X3098.here hx rfl (pc0 := 7) (pc' := 44) rfl (hb hby o30) rfl (o175 (by decide)) (by decide) (by decide) (o8 X3098.here hx rfl (hb hby o229) rfl j)) ?_
  have K3099 := (Keep.refl h0 [ad1]).wr W3077 (Or.inl (List.mem_of_getElem? (i := 0) rfl))
  have K3100 := K3099.wr W3080 (Or.inl (List.mem_of_getElem? (i := 0) rfl))
  have K3101 := K3100.wr W3082 (Or.inl (List.mem_of_getElem? (i := 0) rfl))
  have K3102 := K3101.wr W3084 (Or.inl (List.mem_of_getElem? (i := 0) rfl))
  have K3103 := K3102.wr W3086 (Or.inl (List.mem_of_getElem? (i := 0) rfl))
  have K3104 := K3103.wr W3088 (Or.inl (List.mem_of_getElem? (i := 0) rfl))
  have K3105 := K3104.wr W3090 (Or.inl (List.mem_of_getElem? (i := 0) rfl))
  have K3106 := K3105.wr W3092 (Or.inl (List.mem_of_getElem? (i := 0) rfl))
  have K3107 := K3106.wr W3094 (Or.inl (List.mem_of_getElem? (i := 0) rfl))
  have K3108 := K3107.wr W3096 (Or.inl (List.mem_of_getElem? (i := 0) rfl))
  have K3109 := K3108.wr W3098 (Or.inl (List.mem_of_getElem? (i := 0) rfl))
  have F3110 := (Exa.wr W3098 (Exa.wr W3096 (Exa.wr W3094 (Exa.wr W3092 (Exa.wr W3090 (Exa.wr W3088 (Exa.wr W3086 (Exa.wr W3084 (Exa.wr W3082 (Exa.wr W3080 (Exa.wr W3077 pe3)))))))))))
  exact o69 X3098 hx hlk hret rfl (Or.inl ⟨rfl, by simp, _, rfl⟩) (hb hby o230) (by decide) (by decide) (by rw [e3098]; exact ⟨rfl, N3098, K3109, F3110, V3098⟩)
theorem o881 (hw : o35 a0 Z) (hS : o64 Z wcs) (ad0 : Addr) (kc1 : ClassId) (iv2 iv3 : Int32) (h0 : Heap) (n0 : Nat) (O0 : Old Z n0 h0) (pe1 : Exa Z h0 ad0 "[C") (pa2 : Arv Z h0 ad0 kc1 .char 11 [.int 98, .int 101, .int 97, .int 110, .int 32, .int 39, .int iv2, .int 39, .int 58, .int 32, .int iv3] (.int 0)) (pk3 : ¬ (255 : Int32) < iv2) (pk4 : ¬ (255 : Int32) < iv3) :
    o21 l o315 jdk_52_method_16_code 6 (some (.array .byte)) ws ⟨1, 1, 11, 18⟩ Z h0 #[.ref ad0, .int 0, .int 11] (fun v h L => ∃ nz0 : Addr, ∃ kz1 : ClassId, v = some (.ref nz0) ∧ Fr n0 L ∧ Keep h0 h [] ∧ h0.size ≤ nz0 ∧ Exa Z h nz0 "[B" ∧ Arv Z h nz0 kz1 .byte 11 [.int 98, .int 101, .int 97, .int 110, .int 32, .int 39, (.int (iv2.toInt8.toInt32)), .int 39, .int 58, .int 32, (.int (iv3.toInt8.toInt32))] (.int 0)) := by
  refine o18 (plainFor_of_name o177) ?_
  intro p e s m below meth c s₁ hx hby hml hown hnm hret hlk hZ e0 X0
  have N0 := Fr.nil n0
  refine o4 (fun u j => castTop (show entryFrame m #[.ref ad0, .int 0, .int 11] 6 = mkF m 0 #[o1 ad0, o0 0, o0 11, o5, o5, o5] [] from rfl) j) ?_
  refine o4 (fun u j => o6 X0.here hx rfl (hb hby o271) rfl j) ?_
  have q_ := newPE X0 hx hZ (o2 hw 14 rfl) e0 (g := (mkF m 1 #[o1 ad0, o0 0, o0 11, o5, o5, o5] [.int 11])) rfl (hb hby o272) rfl (by decide) (cap := 11) (by decide) (by decide) (by decide) (by decide) (ad := "[B") o214
  obtain ⟨T3118, h3118, k3118, X3118, e3118, E3118, A3118, Y3118, st3118⟩ := q_
  have q_ : ∃ z, z = h0.size := ⟨_, rfl⟩
  obtain ⟨b3118, g3118⟩ := q_
  rw [← g3118] at A3118 Y3118 st3118
  have V3118 : Arv Z h3118 b3118 k3118 .byte 11 [.int 0, .int 0, .int 0, .int 0, .int 0, .int 0, .int 0, .int 0, .int 0, .int 0, .int 0] (.int 0) := (Arv.new A3118 (by decide)).pad (pad_rep [] (.int 0) 11)
  refine o4 (fun u j => st3118 u j) ?_
  refine o4 (fun u j => o84 X3118.here hx rfl (hb hby o273) rfl rfl (l' := #[o1 ad0, o0 0, o0 11, o1 b3118, o5, o5]) rfl (o3 X3118.here hx rfl (hb hby o274) rfl rfl (o6 X3118.here hx rfl (hb hby o275) rfl (o3 X3118.here hx rfl (hb hby o276) rfl rfl (o16 X3118.here hx rfl (hb hby o277) (o6 X3118.here hx rfl (hb hby o278) rfl j)))))) ?_
  show o11 p e below _ (T3118.setTop (mkF m 9 #[o1 ad0, o0 0, o0 11, o1 b3118, o5, o5] [.int 11, .int 0, .ref b3118, .int 0, .ref ad0]))
  have F3119 := (Exa.ext E3118 pe1)
  have F3120 := (pa2.ext E3118)
  have g3121 := Nat.le_trans (o103 O0) (Nat.le_of_eq g3118.symm)
  have O3123 := O0.ext E3118
  refine o17 (o78 X3118 hx hZ (y := o314) hown (o2 hw 65 rfl) (o2 hw 66 rfl) (o2 hw 63 rfl) (o2 hw 67 rfl) o178 (o880 hw hS ad0 b3118 kc1 iv2 iv3 k3118 h3118 n0 O3123 F3119 F3120 Y3118 V3118 pk3 pk4 g3121) e3118 o434 (argsL := [.ref ad0, .int 0, .ref b3118, .int 0, .int 11]) (rest := []) rfl rfl (g := (mkF m 9 #[o1 ad0, o0 0, o0 11, o1 b3118, o5, o5] [.int 11, .int 0, .ref b3118, .int 0, .ref ad0])) rfl (by rw [hml]; rfl) rfl (hb hby o279) (W := 0) rfl) ?_
  intro T3122 v3122 L3122 X3122 hQ3122
  obtain ⟨rfl, M3122, K3122, F3124, F3125⟩ := hQ3122
  have N3122 := Fr.app N0 M3122
  refine o4 (fun u j => o20 X3122.here hx rfl (hb hby o231) rfl (l' := #[o1 ad0, o0 0, o0 11, o1 b3118, o0 11, o5]) rfl (o8 X3122.here hx rfl (hb hby o232) rfl (o6 X3122.here hx rfl (hb hby o233) rfl (o13 X3122.here hx rfl (pc0 := 17) (pc' := 57) rfl (hb hby o234) rfl (o66 (by decide)) (by decide) (by decide) (o3 X3122.here hx rfl (hb hby o235) rfl rfl j))))) ?_
  have K3126 := (Keep.refl h0 []).ext E3118
  have z3128 := Nat.le_trans (Nat.le_refl _) (Nat.le_of_eq g3118.symm)
  have K3127 := K3126.trans K3122 (allS (Or.inr z3128) all0)
  exact o69 X3122 hx hlk hret rfl (Or.inr (Or.inr (Or.inr (Or.inr ⟨rfl, rfl, rfl⟩)))) (hb hby o236) (by decide) (by decide) (by exact ⟨b3118, k3118, rfl, N3122, K3127, z3128, F3124, F3125⟩)
theorem o882 (hw : o35 a0 Z) (hS : o64 Z wcs) (ad0 : Addr) (kc1 : ClassId) (iv2 iv3 : Int32) (h0 : Heap) (n0 : Nat) (O0 : Old Z n0 h0) (pa2 : Arv Z h0 ad0 kc1 .byte 11 [.int 98, .int 101, .int 97, .int 110, .int 32, .int 39, .int iv2, .int 39, .int 58, .int 32, .int iv3] (.int 0)) :
    o21 l o316 jdk_52_method_15_code 2 (some .byte) ws ⟨0, 0, 0, 0⟩ Z h0 #[.ref ad0, .int 11] (fun v h L => v = some (.int 0) ∧ Fr n0 L ∧ h = h0) := by
  refine o18 (plainFor_of_name o177) ?_
  intro p e s m below meth c s₁ hx hby hml hown hnm hret hlk hZ e0 X0
  have N0 := Fr.nil n0
  refine o4 (fun u j => castTop (show entryFrame m #[.ref ad0, .int 11] 2 = mkF m 0 #[o1 ad0, o0 11] [] from rfl) j) ?_
  refine o4 (fun u j => o6 X0.here hx rfl (hb hby o282) rfl (o3 X0.here hx rfl (hb hby o283) rfl rfl (o75 X0 hx hZ e0 pa2 rfl rfl (hb hby o284) (XS.isub X0.here hx rfl (hb hby o285) rfl (o34 X0.here hx rfl (hb hby o286) (XS.iushr X0.here hx rfl (hb hby o287) rfl j)))))) ?_
  show o11 p e below _ (s₁.setTop (mkF m 7 #[o1 ad0, o0 11] [.int 0]))
  refine o4 (fun u j => o79 X0.here hx rfl (hb hby o288) rfl j) ?_
  exact o69 X0 hx hlk hret rfl (Or.inl ⟨rfl, by simp, _, rfl⟩) (hb hby o289) (by decide) (by decide) (by rw [e0]; exact ⟨rfl, N0, rfl⟩)
theorem o883 (hw : o35 a0 Z) (hS : o64 Z wcs) (ad0 ad1 : Addr) (kc2 : ClassId) (iv3 iv4 : Int32) (h0 : Heap) (n0 : Nat) (O0 : Old Z n0 h0) (pe1 : Exa Z h0 ad0 o7) (pf2 : Fld Z h0 ad0 o7 "coder" "B" (.int 0)) (pf3 : Fld Z h0 ad0 o7 "value" "[B" .null) (pe4 : Exa Z h0 ad1 "[C") (pa5 : Arv Z h0 ad1 kc2 .char 11 [.int 98, .int 101, .int 97, .int 110, .int 32, .int 39, .int iv3, .int 39, .int 58, .int 32, .int iv4] (.int 0)) (pk6 : ¬ (255 : Int32) < iv3) (pk7 : ¬ (255 : Int32) < iv4) (pg_ad0 : n0 ≤ ad0) :
    o21 l o317 jdk_42_method_149_code 6 none ws ⟨2, 1, 11, 35⟩ Z h0 #[.ref ad0, .ref ad1, .int 0, .int 11, .null] (fun v h L => ∃ nz0 : Addr, ∃ kz1 : ClassId, v = none ∧ Fr n0 L ∧ Keep h0 h [ad0] ∧ h0.size ≤ nz0 ∧ Exa Z h ad0 o7 ∧ Fld Z h ad0 o7 "coder" "B" (.int 0) ∧ Fld Z h ad0 o7 "value" "[B" (.ref nz0) ∧ Exa Z h nz0 "[B" ∧ Arv Z h nz0 kz1 .byte 11 [.int 98, .int 101, .int 97, .int 110, .int 32, .int 39, (.int (iv3.toInt8.toInt32)), .int 39, .int 58, .int 32, (.int (iv4.toInt8.toInt32))] (.int 0)) := by
  refine o18 (plainFor_of_name o83) ?_
  intro p e s m below meth c s₁ hx hby hml hown hnm hret hlk hZ e0 X0
  have N0 := Fr.nil n0
  refine o4 (fun u j => castTop (show entryFrame m #[.ref ad0, .ref ad1, .int 0, .int 11, .null] 6 = mkF m 0 #[o1 ad0, o1 ad1, o0 0, o0 11, .val .null, o5] [] from rfl) j) ?_
  refine o4 (fun u j => o3 X0.here hx rfl (hb hby o225) rfl rfl j) ?_
  refine o22 (initO X0 hx hZ hown (o2 hw 19 rfl) (o2 hw 20 rfl) (o2 hw 21 rfl) e0 rfl (by rw [hml]; rfl) rfl (hb hby o226) (by decide) (W := 0) (by show 2 * 0 + _ ≤ _; exact Nat.le_of_eq rfl) (by decide)) ?_
  intro T3147 X3147 e3147
  refine o4 (fun u j => o6 X3147.here hx rfl (hb hby o227) rfl (o88 X3147.here hx rfl (pc0 := 5) (pc' := 27) rfl (hb hby o228) rfl (o164 (by decide)) (by decide) (by decide) j)) ?_
  have F3148 := Sta.ext O0.2 hS.1
  refine o22 (getS2 X3147 hx hZ hown (host := "") (Or.inl (o2 hw 4 rfl)) Via.refl e3147 F3148 rfl (hb hby o190)) ?_
  intro T3149 X3149 e3149
  refine o4 (fun u j => o68 X3149.here hx rfl (hb hby o191) rfl (o65 hS.2) (o3 X3149.here hx rfl (hb hby o192) rfl rfl (o6 X3149.here hx rfl (hb hby o193) rfl (o6 X3149.here hx rfl (hb hby o194) rfl j)))) ?_
  refine o17 (o78 X3149 hx hZ (y := o315) hown (o2 hw 61 rfl) (o2 hw 62 rfl) (o2 hw 63 rfl) (o2 hw 64 rfl) o178 (o881 hw hS ad1 kc2 iv3 iv4 h0 n0 O0 pe4 pa5 pk6 pk7) e3149 o435 (argsL := [.ref ad1, .int 0, .int 11]) (rest := []) rfl rfl (g := (mkF m 36 #[o1 ad0, o1 ad1, o0 0, o0 11, .val .null, o5] [.int 11, .int 0, .ref ad1])) rfl (by rw [hml]; rfl) rfl (hb hby o195) (W := 0) rfl) ?_
  intro T3150 v3150 L3150 X3150 hQ3150
  obtain ⟨nz0_3151, kz1_3152, rfl, M3150, K3150, z3153, F3154, F3155⟩ := hQ3150
  have N3150 := Fr.app N0 M3150
  refine o4 (fun u j => o76 X3150.here hx rfl (hb hby o196) rfl rfl (l' := #[o1 ad0, o1 ad1, o0 0, o0 11, .val .null, o1 nz0_3151]) rfl (o3 X3150.here hx rfl (hb hby o197) rfl rfl (o72 X3150.here hx rfl (hb hby o198) rfl rfl (o6 X3150.here hx rfl (hb hby o199) rfl j)))) ?_
  have O3157 := O0.keep K3150 all0
  refine o17 (o78 X3150 hx hZ (y := o316) hown (o2 hw 68 rfl) (o2 hw 69 rfl) (o2 hw 63 rfl) (o2 hw 70 rfl) o178 (o882 hw hS nz0_3151 kz1_3152 (iv3.toInt8.toInt32) (iv4.toInt8.toInt32) T3150.heap n0 O3157 F3155) rfl o436 (argsL := [.ref nz0_3151, .int 11]) (rest := [.ref ad0]) rfl rfl (g := (mkF m 45 #[o1 ad0, o1 ad1, o0 0, o0 11, .val .null, o1 nz0_3151] [.int 11, .ref nz0_3151, .ref ad0])) rfl (by rw [hml]; rfl) rfl (hb hby o200) (W := 1) rfl) ?_
  intro T3156 v3156 L3156 X3156 hQ3156
  obtain ⟨rfl, M3156, e3156⟩ := hQ3156
  have N3156 := Fr.app N3150 M3156
  have F3158 := (pe1.keep K3150)
  have F3159 := (pf2.keep K3150 nin0)
  refine o32 (putF X3156 hx hZ hown (host := "") (Or.inl (o2 hw 24 rfl)) Via.refl e3156 F3159 F3158 (Or.inr ⟨(o2 hw 25 rfl), rfl, hnm⟩) (o2 hw 10 rfl) (ty := .byte) o92 rfl rfl rfl rfl (hb hby o201)) ?_
  intro T3160 h3160 X3160 e3160 W3160
  have N3160 := Fr.snoc X3160 N3156 pg_ad0
  have F3161 : Fld Z h3160 ad0 o7 "coder" "B" (.int 0) := Fld.same W3160 F3159
  refine o4 (fun u j => o3 X3160.here hx rfl (hb hby o202) rfl rfl (o72 X3160.here hx rfl (hb hby o203) rfl rfl j)) ?_
  have F3162 := (Exa.wr W3160 F3158)
  have F3163 := (Fld.other W3160 (pf3.keep K3150 nin0) (Or.inr (o310 hw)))
  refine o32 (putF X3160 hx hZ hown (host := "") (Or.inl (o2 hw 22 rfl)) Via.refl e3160 F3163 F3162 (Or.inr ⟨(o2 hw 23 rfl), rfl, hnm⟩) (o2 hw 10 rfl) (ty := (.array .byte)) o91 rfl rfl rfl rfl (hb hby o204)) ?_
  intro T3164 h3164 X3164 e3164 W3164
  have N3164 := Fr.snoc X3164 N3160 pg_ad0
  have F3165 : Fld Z h3164 ad0 o7 "value" "[B" (.ref nz0_3151) := Fld.same W3164 F3163
  have K3166 := (Keep.refl h0 [ad0]).trans K3150 all0
  have K3167 := K3166.wr W3160 (Or.inl (List.mem_of_getElem? (i := 0) rfl))
  have K3168 := K3167.wr W3164 (Or.inl (List.mem_of_getElem? (i := 0) rfl))
  have z3169 := Nat.le_trans (Nat.le_refl _) z3153
  have F3170 := (Exa.wr W3164 F3162)
  have F3171 := (Fld.other W3164 F3161 (Or.inr (o309 hw)))
  have F3172 := (Exa.wr W3164 (Exa.wr W3160 F3154))
  have ne3173 := (Ne.symm (Nat.ne_of_lt (Nat.lt_of_lt_of_le pe1.lt z3153)))
  have F3174 := ((F3155.other W3160 ne3173).other W3164 ne3173)
  exact o81 X3164 hx hlk hret (hb hby o205) (by decide) (by decide) (by rw [e3164]; exact ⟨nz0_3151, kz1_3152, rfl, N3164, K3168, z3169, F3170, F3171, F3165, F3172, F3174⟩)
theorem o884 (hw : o35 a0 Z) (hS : o64 Z wcs) (ad0 ad1 : Addr) (kc2 : ClassId) (iv3 iv4 : Int32) (h0 : Heap) (n0 : Nat) (O0 : Old Z n0 h0) (pe1 : Exa Z h0 ad0 o7) (pf2 : Fld Z h0 ad0 o7 "coder" "B" (.int 0)) (pf3 : Fld Z h0 ad0 o7 "value" "[B" .null) (pe4 : Exa Z h0 ad1 "[C") (pa5 : Arv Z h0 ad1 kc2 .char 11 [.int 98, .int 101, .int 97, .int 110, .int 32, .int 39, .int iv3, .int 39, .int 58, .int 32, .int iv4] (.int 0)) (pk6 : ¬ (255 : Int32) < iv3) (pk7 : ¬ (255 : Int32) < iv4) (pg_ad0 : n0 ≤ ad0) :
    o21 l o318 jdk_42_method_3_code 2 none ws ⟨3, 1, 11, 52⟩ Z h0 #[.ref ad0, .ref ad1] (fun v h L => ∃ nz0 : Addr, ∃ kz1 : ClassId, v = none ∧ Fr n0 L ∧ Keep h0 h [ad0] ∧ h0.size ≤ nz0 ∧ Exa Z h ad0 o7 ∧ Fld Z h ad0 o7 "coder" "B" (.int 0) ∧ Fld Z h ad0 o7 "value" "[B" (.ref nz0) ∧ Exa Z h nz0 "[B" ∧ Arv Z h nz0 kz1 .byte 11 [.int 98, .int 101, .int 97, .int 110, .int 32, .int 39, (.int (iv3.toInt8.toInt32)), .int 39, .int 58, .int 32, (.int (iv4.toInt8.toInt32))] (.int 0)) := by
  refine o18 (plainFor_of_name o83) ?_
  intro p e s m below meth c s₁ hx hby hml hown hnm hret hlk hZ e0 X0
  have N0 := Fr.nil n0
  refine o4 (fun u j => castTop (show entryFrame m #[.ref ad0, .ref ad1] 2 = mkF m 0 #[o1 ad0, o1 ad1] [] from rfl) j) ?_
  refine o4 (fun u j => o3 X0.here hx rfl (hb hby o324) rfl rfl (o3 X0.here hx rfl (hb hby o325) rfl rfl (o16 X0.here hx rfl (hb hby o326) (o3 X0.here hx rfl (hb hby o327) rfl rfl (o75 X0 hx hZ e0 pa5 rfl rfl (hb hby o328) (o99 X0.here hx rfl (hb hby o329) j)))))) ?_
  show o11 p e below _ (s₁.setTop (mkF m 6 #[o1 ad0, o1 ad1] [.null, .int 11, .int 0, .ref ad1, .ref ad0]))
  refine o17 (o87 X0 hx hZ (y := o317) rfl hown (o2 hw 58 rfl) (o2 hw 59 rfl) (o2 hw 2 rfl) (o2 hw 60 rfl) o67 (o883 hw hS ad0 ad1 kc2 iv3 iv4 h0 n0 O0 pe1 pf2 pf3 pe4 pa5 pk6 pk7 pg_ad0) e0 o437 (a := ad0) (argsL := [.ref ad1, .int 0, .int 11, .null]) (rest := []) rfl rfl (g := (mkF m 6 #[o1 ad0, o1 ad1] [.null, .int 11, .int 0, .ref ad1, .ref ad0])) rfl (by rw [hml]; rfl) rfl (hb hby o330) (W := 0) rfl) ?_
  intro T3185 v3185 L3185 X3185 hQ3185
  obtain ⟨nz0_3186, kz1_3187, rfl, M3185, K3185, z3188, F3189, F3190, F3191, F3192, F3193⟩ := hQ3185
  have N3185 := Fr.app N0 M3185
  have K3194 := (Keep.refl h0 [ad0]).trans K3185 (allS (Or.inl (List.mem_of_getElem? (i := 0) rfl)) all0)
  have z3195 := Nat.le_trans (Nat.le_refl _) z3188
  exact o81 X3185 hx hlk hret (hb hby o331) (by decide) (by decide) (by exact ⟨nz0_3186, kz1_3187, rfl, N3185, K3194, z3195, F3189, F3190, F3191, F3192, F3193⟩)
theorem o621 : decode method_3_code 191 = .ok (.areturn, 1) := by decide +kernel
theorem o885 (hw : o35 a0 Z) (hS : o64 Z wcs) (iv0 iv1 iv2 : Int32) (h0 : Heap) (n0 : Nat) (O0 : Old Z n0 h0) (pc1 : nar .char iv0 = iv0) (pc2 : nar .char iv1 = iv1) (pk4 : ¬ (255 : Int32) < iv0) (pk5 : ¬ (255 : Int32) < iv1) :
    o21 l o319 method_3_code 6 (some (.object "java/lang/String")) ws ⟨4, 3, 26, 66⟩ Z h0 #[.int 1, .int 1, .int 0, .int iv0, .int iv1, .int iv2] (fun v h L => ∃ nz0 : Addr, ∃ nz1 : Addr, ∃ kz2 : ClassId, v = some (.ref nz0) ∧ Fr n0 L ∧ Keep h0 h [] ∧ h0.size ≤ nz0 ∧ h0.size ≤ nz1 ∧ Exa Z h nz0 o7 ∧ Fld Z h nz0 o7 "coder" "B" (.int 0) ∧ Fld Z h nz0 o7 "value" "[B" (.ref nz1) ∧ Exa Z h nz1 "[B" ∧ Arv Z h nz1 kz2 .byte 11 [.int 98, .int 101, .int 97, .int 110, .int 32, .int 39, (.int (iv0.toInt8.toInt32)), .int 39, .int 58, .int 32, (.int (iv1.toInt8.toInt32))] (.int 0)) := by
  refine o18 (plainFor_of_name o421) ?_
  intro p e s m below meth c s₁ hx hby hml hown hnm hret hlk hZ e0 X0
  have N0 := Fr.nil n0
  refine o4 (fun u j => castTop (show entryFrame m #[.int 1, .int 1, .int 0, .int iv0, .int iv1, .int iv2] 6 = mkF m 0 #[o0 1, o0 1, o0 0, o0 iv0, o0 iv1, o0 iv2] [] from rfl) j) ?_
  refine o4 (fun u j => o6 X0.here hx rfl (hb hby o322) rfl (o88 X0.here hx rfl (pc0 := 1) (pc' := 60) rfl (hb hby o323) rfl (o164 (by decide)) (by decide) (by decide) (o6 X0.here hx rfl (hb hby o424) rfl (o88 X0.here hx rfl (pc0 := 61) (pc' := 117) rfl (hb hby o425) rfl (o164 (by decide)) (by decide) (by decide) (o6 X0.here hx rfl (hb hby o490) rfl (o68 X0.here hx rfl (hb hby o491) rfl (o180 (by decide)) j)))))) ?_
  show o11 p e below _ (s₁.setTop (mkF m 121 #[o0 1, o0 1, o0 0, o0 iv0, o0 iv1, o0 iv2] []))
  have q_ := newO X0 hx hZ hown (o2 hw 53 rfl) (o2 hw 10 rfl) (o2 hw 2 rfl) e0 (g := (mkF m 121 #[o0 1, o0 1, o0 0, o0 iv0, o0 iv1, o0 iv2] [])) rfl (hb hby o572) (by decide) (by decide)
  obtain ⟨T3223, h3223, X3223, e3223, E3223, A3223, D3223, U3223, st3223⟩ := q_
  have q_ : ∃ z, z = h0.size := ⟨_, rfl⟩
  obtain ⟨b3223, g3223⟩ := q_
  rw [← g3223] at A3223 D3223 U3223 st3223
  have F3223_value : Fld Z h3223 b3223 o7 "value" "[B" .null := D3223 (Or.inr (o2 hw 23 rfl)) (ty := (.array .byte)) o91
  have F3223_coder : Fld Z h3223 b3223 o7 "coder" "B" (.int 0) := D3223 (Or.inr (o2 hw 25 rfl)) (ty := .byte) o92
  refine o4 (fun u j => st3223 u j) ?_
  refine o4 (fun u j => o61 X3223.here hx rfl (hb hby o573) rfl rfl (o34 X3223.here hx rfl (hb hby o574) j)) ?_
  have q_ := newPE X3223 hx hZ (o2 hw 54 rfl) e3223 (g := (mkF m 127 #[o0 1, o0 1, o0 0, o0 iv0, o0 iv1, o0 iv2] [.int 11, .ref b3223, .ref b3223])) rfl (hb hby o575) rfl (by decide) (cap := 11) (by decide) (by decide) (by decide) (by decide) (ad := "[C") o433
  obtain ⟨T3224, h3224, k3224, X3224, e3224, E3224, A3224, Y3224, st3224⟩ := q_
  have q_ : ∃ z, z = h3223.size := ⟨_, rfl⟩
  obtain ⟨b3224, g3224⟩ := q_
  rw [← g3224] at A3224 Y3224 st3224
  have V3224 : Arv Z h3224 b3224 k3224 .char 11 [.int 0, .int 0, .int 0, .int 0, .int 0, .int 0, .int 0, .int 0, .int 0, .int 0, .int 0] (.int 0) := (Arv.new A3224 (by decide)).pad (pad_rep [] (.int 0) 11)
  refine o4 (fun u j => st3224 u j) ?_
  refine o4 (fun u j => o61 X3224.here hx rfl (hb hby o576) rfl rfl (o16 X3224.here hx rfl (hb hby o577) (o34 X3224.here hx rfl (hb hby o578) j))) ?_
  refine o32 (o105 X3224 hx hZ e3224 V3224 (j := 0) (by decide) rfl rfl (hb hby o579)) ?_
  intro T3225 h3225 X3225 e3225 W3225
  replace W3225 : Wr h3224 h3225 b3224 ((0 : Int32)).toNatClampNeg (.int 98) := W3225
  have O3227 := O0.ext E3223
  have g3226 := Nat.le_trans (o103 O3227) (Nat.le_of_eq g3224.symm)
  have N3225 := Fr.snoc X3225 N0 g3226
  have V3225 : Arv Z h3225 b3224 k3224 .char 11 [.int 98, .int 0, .int 0, .int 0, .int 0, .int 0, .int 0, .int 0, .int 0, .int 0, .int 0] (.int 0) := o74 V3224 rfl W3225 0 rfl (Nat.le_of_ble_eq_true rfl)
  refine o4 (fun u j => o61 X3225.here hx rfl (hb hby o580) rfl rfl (o16 X3225.here hx rfl (hb hby o581) (o34 X3225.here hx rfl (hb hby o582) j))) ?_
  refine o32 (o105 X3225 hx hZ e3225 V3225 (j := 1) (by decide) rfl rfl (hb hby o583)) ?_
  intro T3228 h3228 X3228 e3228 W3228
  replace W3228 : Wr h3225 h3228 b3224 ((1 : Int32)).toNatClampNeg (.int 101) := W3228
  have N3228 := Fr.snoc X3228 N3225 g3226
  have V3228 : Arv Z h3228 b3224 k3224 .char 11 [.int 98, .int 101, .int 0, .int 0, .int 0, .int 0, .int 0, .int 0, .int 0, .int 0, .int 0] (.int 0) := o74 V3225 rfl W3228 1 rfl (Nat.le_of_ble_eq_true rfl)
  refine o4 (fun u j => o61 X3228.here hx rfl (hb hby o584) rfl rfl (o16 X3228.here hx rfl (hb hby o585) (o34 X3228.here hx rfl (hb hby o586) j))) ?_
  refine o32 (o105 X3228 hx hZ e3228 V3228 (j := 2) (by decide) rfl rfl (hb hby o587)) ?_
  intro T3229 h3229 X3229 e3229 W3229
  replace W3229 : Wr h3228 h3229 b3224 ((2 : Int32)).toNatClampNeg (.int 97) := W3229
  have N3229 := Fr.snoc X3229 N3228 g3226
  have V3229 : Arv Z h3229 b3224 k3224 .char 11 [.int 98, .int 101, .int 97, .int 0, .int 0, .int 0, .int 0, .int 0, .int 0, .int 0, .int 0] (.int 0) := o74 V3228 rfl W3229 2 rfl (Nat.le_of_ble_eq_true rfl)
  refine o4 (fun u j => o61 X3229.here hx rfl (hb hby o588) rfl rfl (o16 X3229.here hx rfl (hb hby o589) (o34 X3229.here hx rfl (hb hby o590) j))) ?_
  refine o32 (o105 X3229 hx hZ e3229 V3229 (j := 3) (by decide) rfl rfl (hb hby o591)) ?_
  intro T3230 h3230 X3230 e3230 W3230
  replace W3230 : Wr h3229 h3230 b3224 ((3 : Int32)).toNatClampNeg (.int 110) := W3230
  have N3230 := Fr.snoc X3230 N3229 g3226
  have V3230 : Arv Z h3230 b3224 k3224 .char 11 [.int 98, .int 101, .int 97, .int 110, .int 0, .int 0, .int 0, .int 0, .int 0, .int 0, .int 0] (.int 0) := o74 V3229 rfl W3230 3 rfl (Nat.le_of_ble_eq_true rfl)
  refine o4 (fun u j => o61 X3230.here hx rfl (hb hby o592) rfl rfl (o16 X3230.here hx rfl (hb hby o593) (o34 X3230.here hx rfl (hb hby o594) j))) ?_
  refine o32 (o105 X3230 hx hZ e3230 V3230 (j := 4) (by decide) rfl rfl (hb hby o595)) ?_
  intro T3231 h3231 X3231 e3231 W3231
  replace W3231 : Wr h3230 h3231 b3224 ((4 : Int32)).toNatClampNeg (.int 32) := W3231
  have N3231 := Fr.snoc X3231 N3230 g3226
  have V3231 : Arv Z h3231 b3224 k3224 .char 11 [.int 98, .int 101, .int 97, .int 110, .int 32, .int 0, .int 0, .int 0, .int 0, .int 0, .int 0] (.int 0) := o74 V3230 rfl W3231 4 rfl (Nat.le_of_ble_eq_true rfl)
  refine o4 (fun u j => o61 X3231.here hx rfl (hb hby o596) rfl rfl (o16 X3231.here hx rfl (hb hby o597) (o34 X3231.here hx rfl (hb hby o598) j))) ?_
  refine o32 (o105 X3231 hx hZ e3231 V3231 (j := 5) (by decide) rfl rfl (hb hby o599)) ?_
  intro T3232 h3232 X3232 e3232 W3232
  replace W3232 : Wr h3231 h3232 b3224 ((5 : Int32)).toNatClampNeg (.int 39) := W3232
  have N3232 := Fr.snoc X3232 N3231 g3226
  have V3232 : Arv Z h3232 b3224 k3224 .char 11 [.int 98, .int 101, .int 97, .int 110, .int 32, .int 39, .int 0, .int 0, .int 0, .int 0, .int 0] (.int 0) := o74 V3231 rfl W3232 5 rfl (Nat.le_of_ble_eq_true rfl)
  refine o4 (fun u j => o61 X3232.here hx rfl (hb hby o600) rfl rfl (o34 X3232.here hx rfl (hb hby o601) (o6 X3232.here hx rfl (hb hby o602) rfl j))) ?_
  refine o32 (o105 X3232 hx hZ e3232 V3232 (j := 6) (by decide) rfl rfl (hb hby o603)) ?_
  intro T3233 h3233 X3233 e3233 W3233
  rw [pc1] at W3233
  have N3233 := Fr.snoc X3233 N3232 g3226
  have V3233 : Arv Z h3233 b3224 k3224 .char 11 [.int 98, .int 101, .int 97, .int 110, .int 32, .int 39, .int iv0, .int 0, .int 0, .int 0, .int 0] (.int 0) := o74 V3232 (o411 pc1) W3233 6 rfl (Nat.le_of_ble_eq_true rfl)
  refine o4 (fun u j => o61 X3233.here hx rfl (hb hby o604) rfl rfl (o34 X3233.here hx rfl (hb hby o605) (o34 X3233.here hx rfl (hb hby o606) j))) ?_
  refine o32 (o105 X3233 hx hZ e3233 V3233 (j := 7) (by decide) rfl rfl (hb hby o607)) ?_
  intro T3234 h3234 X3234 e3234 W3234
  replace W3234 : Wr h3233 h3234 b3224 ((7 : Int32)).toNatClampNeg (.int 39) := W3234
  have N3234 := Fr.snoc X3234 N3233 g3226
  have V3234 : Arv Z h3234 b3224 k3224 .char 11 [.int 98, .int 101, .int 97, .int 110, .int 32, .int 39, .int iv0, .int 39, .int 0, .int 0, .int 0] (.int 0) := o74 V3233 rfl W3234 7 rfl (Nat.le_of_ble_eq_true rfl)
  refine o4 (fun u j => o61 X3234.here hx rfl (hb hby o608) rfl rfl (o34 X3234.here hx rfl (hb hby o609) (o34 X3234.here hx rfl (hb hby o610) j))) ?_
  refine o32 (o105 X3234 hx hZ e3234 V3234 (j := 8) (by decide) rfl rfl (hb hby o611)) ?_
  intro T3235 h3235 X3235 e3235 W3235
  replace W3235 : Wr h3234 h3235 b3224 ((8 : Int32)).toNatClampNeg (.int 58) := W3235
  have N3235 := Fr.snoc X3235 N3234 g3226
  have V3235 : Arv Z h3235 b3224 k3224 .char 11 [.int 98, .int 101, .int 97, .int 110, .int 32, .int 39, .int iv0, .int 39, .int 58, .int 0, .int 0] (.int 0) := o74 V3234 rfl W3235 8 rfl (Nat.le_of_ble_eq_true rfl)
  refine o4 (fun u j => o61 X3235.here hx rfl (hb hby o612) rfl rfl (o34 X3235.here hx rfl (hb hby o613) (o34 X3235.here hx rfl (hb hby o614) j))) ?_
  refine o32 (o105 X3235 hx hZ e3235 V3235 (j := 9) (by decide) rfl rfl (hb hby o615)) ?_
  intro T3236 h3236 X3236 e3236 W3236
  replace W3236 : Wr h3235 h3236 b3224 ((9 : Int32)).toNatClampNeg (.int 32) := W3236
  have N3236 := Fr.snoc X3236 N3235 g3226
  have V3236 : Arv Z h3236 b3224 k3224 .char 11 [.int 98, .int 101, .int 97, .int 110, .int 32, .int 39, .int iv0, .int 39, .int 58, .int 32, .int 0] (.int 0) := o74 V3235 rfl W3236 9 rfl (Nat.le_of_ble_eq_true rfl)
  refine o4 (fun u j => o61 X3236.here hx rfl (hb hby o616) rfl rfl (o34 X3236.here hx rfl (hb hby o617) (o8 X3236.here hx rfl (hb hby o618) rfl j))) ?_
  refine o32 (o105 X3236 hx hZ e3236 V3236 (j := 10) (by decide) rfl rfl (hb hby o619)) ?_
  intro T3237 h3237 X3237 e3237 W3237
  rw [pc2] at W3237
  have N3237 := Fr.snoc X3237 N3236 g3226
  have V3237 : Arv Z h3237 b3224 k3224 .char 11 [.int 98, .int 101, .int 97, .int 110, .int 32, .int 39, .int iv0, .int 39, .int 58, .int 32, .int iv1] (.int 0) := o74 V3236 (o411 pc2) W3237 10 rfl (Nat.le_of_ble_eq_true rfl)
  have F3238 := (Exa.wr W3237 (Exa.wr W3236 (Exa.wr W3235 (Exa.wr W3234 (Exa.wr W3233 (Exa.wr W3232 (Exa.wr W3231 (Exa.wr W3230 (Exa.wr W3229 (Exa.wr W3228 (Exa.wr W3225 (Exa.ext E3224 A3223))))))))))))
  have ne3239 := (Nat.ne_of_lt (Nat.lt_of_lt_of_le A3223.lt (Nat.le_of_eq g3224.symm)))
  have F3240 := (Fld.other W3237 (Fld.other W3236 (Fld.other W3235 (Fld.other W3234 (Fld.other W3233 (Fld.other W3232 (Fld.other W3231 (Fld.other W3230 (Fld.other W3229 (Fld.other W3228 (Fld.other W3225 (Fld.ext E3224 F3223_coder) (Or.inl ne3239)) (Or.inl ne3239)) (Or.inl ne3239)) (Or.inl ne3239)) (Or.inl ne3239)) (Or.inl ne3239)) (Or.inl ne3239)) (Or.inl ne3239)) (Or.inl ne3239)) (Or.inl ne3239)) (Or.inl ne3239))
  have F3241 := (Fld.other W3237 (Fld.other W3236 (Fld.other W3235 (Fld.other W3234 (Fld.other W3233 (Fld.other W3232 (Fld.other W3231 (Fld.other W3230 (Fld.other W3229 (Fld.other W3228 (Fld.other W3225 (Fld.ext E3224 F3223_value) (Or.inl ne3239)) (Or.inl ne3239)) (Or.inl ne3239)) (Or.inl ne3239)) (Or.inl ne3239)) (Or.inl ne3239)) (Or.inl ne3239)) (Or.inl ne3239)) (Or.inl ne3239)) (Or.inl ne3239)) (Or.inl ne3239))
  have F3242 := (Exa.wr W3237 (Exa.wr W3236 (Exa.wr W3235 (Exa.wr W3234 (Exa.wr W3233 (Exa.wr W3232 (Exa.wr W3231 (Exa.wr W3230 (Exa.wr W3229 (Exa.wr W3228 (Exa.wr W3225 Y3224)))))))))))
  have g3243 := Nat.le_trans (o103 O0) (Nat.le_of_eq g3223.symm)
  have O3245 := O3227.ext E3224
  have O3246 := O3245.wr W3225 g3226
  have O3247 := O3246.wr W3228 g3226
  have O3248 := O3247.wr W3229 g3226
  have O3249 := O3248.wr W3230 g3226
  have O3250 := O3249.wr W3231 g3226
  have O3251 := O3250.wr W3232 g3226
  have O3252 := O3251.wr W3233 g3226
  have O3253 := O3252.wr W3234 g3226
  have O3254 := O3253.wr W3235 g3226
  have O3255 := O3254.wr W3236 g3226
  have O3256 := O3255.wr W3237 g3226
  refine o17 (o87 X3237 hx hZ (y := o318) rfl hown (o2 hw 55 rfl) (o2 hw 56 rfl) (o2 hw 2 rfl) (o2 hw 57 rfl) o67 (o884 hw hS b3223 b3224 k3224 iv0 iv1 h3237 n0 O3256 F3238 F3240 F3241 F3242 V3237 pk4 pk5 g3243) e3237 o438 (a := b3223) (argsL := [.ref b3224]) (rest := [.ref b3223]) rfl rfl (g := (mkF m 188 #[o0 1, o0 1, o0 0, o0 iv0, o0 iv1, o0 iv2] [.ref b3224, .ref b3223, .ref b3223])) rfl (by rw [hml]; rfl) rfl (hb hby o620) (W := 1) rfl) ?_
  intro T3244 v3244 L3244 X3244 hQ3244
  obtain ⟨nz0_3257, kz1_3258, rfl, M3244, K3244, z3259, F3260, F3261, F3262, F3263, F3264⟩ := hQ3244
  have N3244 := Fr.app N3237 M3244
  have K3265 := (Keep.refl h0 []).ext E3223
  have K3266 := K3265.ext E3224
  have z3268 := Nat.le_trans E3223.1 (Nat.le_of_eq g3224.symm)
  have K3267 := K3266.wr W3225 (Or.inr z3268)
  have K3269 := K3267.wr W3228 (Or.inr z3268)
  have K3270 := K3269.wr W3229 (Or.inr z3268)
  have K3271 := K3270.wr W3230 (Or.inr z3268)
  have K3272 := K3271.wr W3231 (Or.inr z3268)
  have K3273 := K3272.wr W3232 (Or.inr z3268)
  have K3274 := K3273.wr W3233 (Or.inr z3268)
  have K3275 := K3274.wr W3234 (Or.inr z3268)
  have K3276 := K3275.wr W3235 (Or.inr z3268)
  have K3277 := K3276.wr W3236 (Or.inr z3268)
  have K3278 := K3277.wr W3237 (Or.inr z3268)
  have z3280 := Nat.le_trans (Nat.le_refl _) (Nat.le_of_eq g3223.symm)
  have K3279 := K3278.trans K3244 (allS (Or.inr z3280) all0)
  have z3281 := Nat.le_trans (Nat.le_trans (Nat.le_trans (Nat.le_trans (Nat.le_trans (Nat.le_trans (Nat.le_trans (Nat.le_trans (Nat.le_trans (Nat.le_trans (Nat.le_trans (Nat.le_trans (Nat.le_trans E3223.1 E3224.1) (Nat.le_of_eq W3225.size.symm)) (Nat.le_of_eq W3228.size.symm)) (Nat.le_of_eq W3229.size.symm)) (Nat.le_of_eq W3230.size.symm)) (Nat.le_of_eq W3231.size.symm)) (Nat.le_of_eq W3232.size.symm)) (Nat.le_of_eq W3233.size.symm)) (Nat.le_of_eq W3234.size.symm)) (Nat.le_of_eq W3235.size.symm)) (Nat.le_of_eq W3236.size.symm)) (Nat.le_of_eq W3237.size.symm)) z3259
  exact o69 X3244 hx hlk hret rfl (Or.inr (Or.inr (Or.inr (Or.inr ⟨rfl, rfl, rfl⟩)))) (hb hby o621) (by decide) (by decide) (by exact ⟨b3223, nz0_3257, kz1_3258, rfl, N3244, K3279, z3280, z3281, F3260, F3261, F3262, F3263, F3264⟩)
theorem o886 (hw : o35 a0 Z) (hS : o64 Z wcs) (ad0 ad1 : Addr) (kc2 : ClassId) (iv3 iv4 : Int32) (kc5 : ClassId) (h0 : Heap) (n0 : Nat) (O0 : Old Z n0 h0) (pa2 : Arv Z h0 ad0 kc2 .byte 11 [.int 98, .int 101, .int 97, .int 110, .int 32, .int 39, .int iv3, .int 39, .int 58, .int 32, .int iv4] (.int 0)) (pa4 : Arv Z h0 ad1 kc5 .byte 11 [.int 98, .int 101, .int 97, .int 110, .int 32, .int 39, .int iv3, .int 39, .int 58, .int 32, .int iv4] (.int 0)) :
    o21 l o320 jdk_43_method_13_code 3 (some .boolean) ws ⟨0, 0, 0, 0⟩ Z h0 #[.ref ad0, .ref ad1] (fun v h L => v = some (.int 1) ∧ Fr n0 L ∧ h = h0) := by
  refine o18 (plainFor_of_name o413) ?_
  intro p e s m below meth c s₁ hx hby hml hown hnm hret hlk hZ e0 X0
  have N0 := Fr.nil n0
  refine o4 (fun u j => castTop (show entryFrame m #[.ref ad0, .ref ad1] 3 = mkF m 0 #[o1 ad0, o1 ad1, o5] [] from rfl) j) ?_
  refine o4 (fun u j => o3 X0.here hx rfl (hb hby o295) rfl rfl (o75 X0 hx hZ e0 pa2 rfl rfl (hb hby o296) (o3 X0.here hx rfl (hb hby o297) rfl rfl (o75 X0 hx hZ e0 pa4 rfl rfl (hb hby o298) (o14 X0.here hx rfl (hb hby o299) rfl (o93 (by decide)) (o16 X0.here hx rfl (hb hby o300) j)))))) ?_
  show o11 p e below _ (s₁.setTop (mkF m 8 #[o1 ad0, o1 ad1, o5] [.int 0]))
  refine o4 (fun u j => o94 X0.here hx rfl (hb hby o301) rfl (l' := #[o1 ad0, o1 ad1, o0 0]) rfl (o6 X0.here hx rfl (hb hby o31) rfl (o3 X0.here hx rfl (hb hby o25) rfl rfl (o75 X0 hx hZ e0 pa2 rfl rfl (hb hby o26) (o14 X0.here hx rfl (hb hby o27) rfl (o19 (by decide)) (o3 X0.here hx rfl (hb hby o52) rfl rfl j)))))) ?_
  show o11 p e below _ (s₁.setTop (mkF m 16 #[o1 ad0, o1 ad1, o0 0] [.ref ad0]))
  refine o4 (fun u j => o6 X0.here hx rfl (hb hby o53) rfl (o77 X0 hx hZ e0 pa2 (j := 0) (v := (.int 98)) (by decide) rfl rfl rfl (hb hby o54) (o3 X0.here hx rfl (hb hby o55) rfl rfl (o6 X0.here hx rfl (hb hby o56) rfl (o77 X0 hx hZ e0 pa4 (j := 0) (v := (.int 98)) (by decide) rfl rfl rfl (hb hby o57) (o13 X0.here hx rfl (pc0 := 21) (pc' := 26) rfl (hb hby o58) rfl (o66 (by decide)) (by decide) (by decide) j)))))) ?_
  show o11 p e below _ (s₁.setTop (mkF m 26 #[o1 ad0, o1 ad1, o0 0] []))
  refine o4 (fun u j => o12 X0.here hx rfl (hb hby o59) rfl (l' := #[o1 ad0, o1 ad1, o0 1]) rfl (o15 X0.here hx rfl (pc0 := 29) (pc' := 9) rfl (hb hby o60) (by decide) (by decide) (o6 X0.here hx rfl (hb hby o31) rfl (o3 X0.here hx rfl (hb hby o25) rfl rfl (o75 X0 hx hZ e0 pa2 rfl rfl (hb hby o26) (o14 X0.here hx rfl (hb hby o27) rfl (o19 (by decide)) j)))))) ?_
  show o11 p e below _ (s₁.setTop (mkF m 15 #[o1 ad0, o1 ad1, o0 1] []))
  refine o4 (fun u j => o3 X0.here hx rfl (hb hby o52) rfl rfl (o6 X0.here hx rfl (hb hby o53) rfl (o77 X0 hx hZ e0 pa2 (j := 1) (v := (.int 101)) (by decide) rfl rfl rfl (hb hby o54) (o3 X0.here hx rfl (hb hby o55) rfl rfl (o6 X0.here hx rfl (hb hby o56) rfl (o77 X0 hx hZ e0 pa4 (j := 1) (v := (.int 101)) (by decide) rfl rfl rfl (hb hby o57) j)))))) ?_
  show o11 p e below _ (s₁.setTop (mkF m 21 #[o1 ad0, o1 ad1, o0 1] [.int 101, .int 101]))
  refine o4 (fun u j => o13 X0.here hx rfl (pc0 := 21) (pc' := 26) rfl (hb hby o58) rfl (o66 (by decide)) (by decide) (by decide) (o12 X0.here hx rfl (hb hby o59) rfl (l' := #[o1 ad0, o1 ad1, o0 2]) rfl (o15 X0.here hx rfl (pc0 := 29) (pc' := 9) rfl (hb hby o60) (by decide) (by decide) (o6 X0.here hx rfl (hb hby o31) rfl (o3 X0.here hx rfl (hb hby o25) rfl rfl (o75 X0 hx hZ e0 pa2 rfl rfl (hb hby o26) j)))))) ?_
  show o11 p e below _ (s₁.setTop (mkF m 12 #[o1 ad0, o1 ad1, o0 2] [.int 11, .int 2]))
  refine o4 (fun u j => o14 X0.here hx rfl (hb hby o27) rfl (o19 (by decide)) (o3 X0.here hx rfl (hb hby o52) rfl rfl (o6 X0.here hx rfl (hb hby o53) rfl (o77 X0 hx hZ e0 pa2 (j := 2) (v := (.int 97)) (by decide) rfl rfl rfl (hb hby o54) (o3 X0.here hx rfl (hb hby o55) rfl rfl (o6 X0.here hx rfl (hb hby o56) rfl j)))))) ?_
  show o11 p e below _ (s₁.setTop (mkF m 20 #[o1 ad0, o1 ad1, o0 2] [.int 2, .ref ad1, .int 97]))
  refine o4 (fun u j => o77 X0 hx hZ e0 pa4 (j := 2) (v := (.int 97)) (by decide) rfl rfl rfl (hb hby o57) (o13 X0.here hx rfl (pc0 := 21) (pc' := 26) rfl (hb hby o58) rfl (o66 (by decide)) (by decide) (by decide) (o12 X0.here hx rfl (hb hby o59) rfl (l' := #[o1 ad0, o1 ad1, o0 3]) rfl (o15 X0.here hx rfl (pc0 := 29) (pc' := 9) rfl (hb hby o60) (by decide) (by decide) (o6 X0.here hx rfl (hb hby o31) rfl (o3 X0.here hx rfl (hb hby o25) rfl rfl j)))))) ?_
  show o11 p e below _ (s₁.setTop (mkF m 11 #[o1 ad0, o1 ad1, o0 3] [.ref ad0, .int 3]))
  refine o4 (fun u j => o75 X0 hx hZ e0 pa2 rfl rfl (hb hby o26) (o14 X0.here hx rfl (hb hby o27) rfl (o19 (by decide)) (o3 X0.here hx rfl (hb hby o52) rfl rfl (o6 X0.here hx rfl (hb hby o53) rfl (o77 X0 hx hZ e0 pa2 (j := 3) (v := (.int 110)) (by decide) rfl rfl rfl (hb hby o54) (o3 X0.here hx rfl (hb hby o55) rfl rfl j)))))) ?_
  show o11 p e below _ (s₁.setTop (mkF m 19 #[o1 ad0, o1 ad1, o0 3] [.ref ad1, .int 110]))
  refine o4 (fun u j => o6 X0.here hx rfl (hb hby o56) rfl (o77 X0 hx hZ e0 pa4 (j := 3) (v := (.int 110)) (by decide) rfl rfl rfl (hb hby o57) (o13 X0.here hx rfl (pc0 := 21) (pc' := 26) rfl (hb hby o58) rfl (o66 (by decide)) (by decide) (by decide) (o12 X0.here hx rfl (hb hby o59) rfl (l' := #[o1 ad0, o1 ad1, o0 4]) rfl (o15 X0.here hx rfl (pc0 := 29) (pc' := 9) rfl (hb hby o60) (by decide) (by decide) (o6 X0.here hx rfl (hb hby o31) rfl j)))))) ?_
  show o11 p e below _ (s₁.setTop (mkF m 10 #[o1 ad0, o1 ad1, o0 4] [.int 4]))
  refine o4 (fun u j => o3 X0.here hx rfl (hb hby o25) rfl rfl (o75 X0 hx hZ e0 pa2 rfl rfl (hb hby o26) (o14 X0.here hx rfl (hb hby o27) rfl (o19 (by decide)) (o3 X0.here hx rfl (hb hby o52) rfl rfl (o6 X0.here hx rfl (hb hby o53) rfl (o77 X0 hx hZ e0 pa2 (j := 4) (v := (.int 32)) (by decide) rfl rfl rfl (hb hby o54) j)))))) ?_
  show o11 p e below _ (s₁.setTop (mkF m 18 #[o1 ad0, o1 ad1, o0 4] [.int 32]))
  refine o4 (fun u j => o3 X0.here hx rfl (hb hby o55) rfl rfl (o6 X0.here hx rfl (hb hby o56) rfl (o77 X0 hx hZ e0 pa4 (j := 4) (v := (.int 32)) (by decide) rfl rfl rfl (hb hby o57) (o13 X0.here hx rfl (pc0 := 21) (pc' := 26) rfl (hb hby o58) rfl (o66 (by decide)) (by decide) (by decide) (o12 X0.here hx rfl (hb hby o59) rfl (l' := #[o1 ad0, o1 ad1, o0 5]) rfl (o15 X0.here hx rfl (pc0 := 29) (pc' := 9) rfl (hb hby o60) (by decide) (by decide) j)))))) ?_
  show o11 p e below _ (s₁.setTop (mkF m 9 #[o1 ad0, o1 ad1, o0 5] []))
  refine o4 (fun u j => o6 X0.here hx rfl (hb hby o31) rfl (o3 X0.here hx rfl (hb hby o25) rfl rfl (o75 X0 hx hZ e0 pa2 rfl rfl (hb hby o26) (o14 X0.here hx rfl (hb hby o27) rfl (o19 (by decide)) (o3 X0.here hx rfl (hb hby o52) rfl rfl (o6 X0.here hx rfl (hb hby o53) rfl j)))))) ?_
  show o11 p e below _ (s₁.setTop (mkF m 17 #[o1 ad0, o1 ad1, o0 5] [.int 5, .ref ad0]))
  refine o4 (fun u j => o77 X0 hx hZ e0 pa2 (j := 5) (v := (.int 39)) (by decide) rfl rfl rfl (hb hby o54) (o3 X0.here hx rfl (hb hby o55) rfl rfl (o6 X0.here hx rfl (hb hby o56) rfl (o77 X0 hx hZ e0 pa4 (j := 5) (v := (.int 39)) (by decide) rfl rfl rfl (hb hby o57) (o13 X0.here hx rfl (pc0 := 21) (pc' := 26) rfl (hb hby o58) rfl (o66 (by decide)) (by decide) (by decide) (o12 X0.here hx rfl (hb hby o59) rfl (l' := #[o1 ad0, o1 ad1, o0 6]) rfl j)))))) ?_
  show o11 p e below _ (s₁.setTop (mkF m 29 #[o1 ad0, o1 ad1, o0 6] []))
  refine o4 (fun u j => o15 X0.here hx rfl (pc0 := 29) (pc' := 9) rfl (hb hby o60) (by decide) (by decide) (o6 X0.here hx rfl (hb hby o31) rfl (o3 X0.here hx rfl (hb hby o25) rfl rfl (o75 X0 hx hZ e0 pa2 rfl rfl (hb hby o26) (o14 X0.here hx rfl (hb hby o27) rfl (o19 (by decide)) (o3 X0.here hx rfl (hb hby o52) rfl rfl j)))))) ?_
  show o11 p e below _ (s₁.setTop (mkF m 16 #[o1 ad0, o1 ad1, o0 6] [.ref ad0]))
  refine o4 (fun u j => o6 X0.here hx rfl (hb hby o53) rfl (o77 X0 hx hZ e0 pa2 (j := 6) (v := (.int iv3)) (by decide) rfl rfl rfl (hb hby o54) (o3 X0.here hx rfl (hb hby o55) rfl rfl (o6 X0.here hx rfl (hb hby o56) rfl (o77 X0 hx hZ e0 pa4 (j := 6) (v := (.int iv3)) (by decide) rfl rfl rfl (hb hby o57) (o13 X0.here hx rfl (pc0 := 21) (pc' := 26) rfl (hb hby o58) rfl (o66 rfl) (by decide) (by decide) j)))))) ?_
  show o11 p e below _ (s₁.setTop (mkF m 26 #[o1 ad0, o1 ad1, o0 6] []))
  refine o4 (fun u j => o12 X0.here hx rfl (hb hby o59) rfl (l' := #[o1 ad0, o1 ad1, o0 7]) rfl (o15 X0.here hx rfl (pc0 := 29) (pc' := 9) rfl (hb hby o60) (by decide) (by decide) (o6 X0.here hx rfl (hb hby o31) rfl (o3 X0.here hx rfl (hb hby o25) rfl rfl (o75 X0 hx hZ e0 pa2 rfl rfl (hb hby o26) (o14 X0.here hx rfl (hb hby o27) rfl (o19 (by decide)) j)))))) ?_
  show o11 p e below _ (s₁.setTop (mkF m 15 #[o1 ad0, o1 ad1, o0 7] []))
  refine o4 (fun u j => o3 X0.here hx rfl (hb hby o52) rfl rfl (o6 X0.here hx rfl (hb hby o53) rfl (o77 X0 hx hZ e0 pa2 (j := 7) (v := (.int 39)) (by decide) rfl rfl rfl (hb hby o54) (o3 X0.here hx rfl (hb hby o55) rfl rfl (o6 X0.here hx rfl (hb hby o56) rfl (o77 X0 hx hZ e0 pa4 (j := 7) (v := (.int 39)) (by decide) rfl rfl rfl (hb hby o57) j)))))) ?_
  show o11 p e below _ (s₁.setTop (mkF m 21 #[o1 ad0, o1 ad1, o0 7] [.int 39, .int 39]))
  refine o4 (fun u j => o13 X0.here hx rfl (pc0 := 21) (pc' := 26) rfl (hb hby o58) rfl (o66 (by decide)) (by decide) (by decide) (o12 X0.here hx rfl (hb hby o59) rfl (l' := #[o1 ad0, o1 ad1, o0 8]) rfl (o15 X0.here hx rfl (pc0 := 29) (pc' := 9) rfl (hb hby o60) (by decide) (by decide) (o6 X0.here hx rfl (hb hby o31) rfl (o3 X0.here hx rfl (hb hby o25) rfl rfl (o75 X0 hx hZ e0 pa2 rfl rfl (hb hby o26) j)))))) ?_
  show o11 p e below _ (s₁.setTop (mkF m 12 #[o1 ad0, o1 ad1, o0 8] [.int 11, .int 8]))
  refine o4 (fun u j => o14 X0.here hx rfl (hb hby o27) rfl (o19 (by decide)) (o3 X0.here hx rfl (hb hby o52) rfl rfl (o6 X0.here hx rfl (hb hby o53) rfl (o77 X0 hx hZ e0 pa2 (j := 8) (v := (.int 58)) (by decide) rfl rfl rfl (hb hby o54) (o3 X0.here hx rfl (hb hby o55) rfl rfl (o6 X0.here hx rfl (hb hby o56) rfl j)))))) ?_
  show o11 p e below _ (s₁.setTop (mkF m 20 #[o1 ad0, o1 ad1, o0 8] [.int 8, .ref ad1, .int 58]))
  refine o4 (fun u j => o77 X0 hx hZ e0 pa4 (j := 8) (v := (.int 58)) (by decide) rfl rfl rfl (hb hby o57) (o13 X0.here hx rfl (pc0 := 21) (pc' := 26) rfl (hb hby o58) rfl (o66 (by decide)) (by decide) (by decide) (o12 X0.here hx rfl (hb hby o59) rfl (l' := #[o1 ad0, o1 ad1, o0 9]) rfl (o15 X0.here hx rfl (pc0 := 29) (pc' := 9) rfl (hb hby o60) (by decide) (by decide) (o6 X0.here hx rfl (hb hby o31) rfl (o3 X0.here hx rfl (hb hby o25) rfl rfl j)))))) ?_
  show o11 p e below _ (s₁.setTop (mkF m 11 #[o1 ad0, o1 ad1, o0 9] [.ref ad0, .int 9]))
  refine o4 (fun u j => o75 X0 hx hZ e0 pa2 rfl rfl (hb hby o26) (o14 X0.here hx rfl (hb hby o27) rfl (o19 (by decide)) (o3 X0.here hx rfl (hb hby o52) rfl rfl (o6 X0.here hx rfl (hb hby o53) rfl (o77 X0 hx hZ e0 pa2 (j := 9) (v := (.int 32)) (by decide) rfl rfl rfl (hb hby o54) (o3 X0.here hx rfl (hb hby o55) rfl rfl j)))))) ?_
  show o11 p e below _ (s₁.setTop (mkF m 19 #[o1 ad0, o1 ad1, o0 9] [.ref ad1, .int 32]))
  refine o4 (fun u j => o6 X0.here hx rfl (hb hby o56) rfl (o77 X0 hx hZ e0 pa4 (j := 9) (v := (.int 32)) (by decide) rfl rfl rfl (hb hby o57) (o13 X0.here hx rfl (pc0 := 21) (pc' := 26) rfl (hb hby o58) rfl (o66 (by decide)) (by decide) (by decide) (o12 X0.here hx rfl (hb hby o59) rfl (l' := #[o1 ad0, o1 ad1, o0 10]) rfl (o15 X0.here hx rfl (pc0 := 29) (pc' := 9) rfl (hb hby o60) (by decide) (by decide) (o6 X0.here hx rfl (hb hby o31) rfl j)))))) ?_
  show o11 p e below _ (s₁.setTop (mkF m 10 #[o1 ad0, o1 ad1, o0 10] [.int 10]))
  refine o4 (fun u j => o3 X0.here hx rfl (hb hby o25) rfl rfl (o75 X0 hx hZ e0 pa2 rfl rfl (hb hby o26) (o14 X0.here hx rfl (hb hby o27) rfl (o19 (by decide)) (o3 X0.here hx rfl (hb hby o52) rfl rfl (o6 X0.here hx rfl (hb hby o53) rfl (o77 X0 hx hZ e0 pa2 (j := 10) (v := (.int iv4)) (by decide) rfl rfl rfl (hb hby o54) j)))))) ?_
  show o11 p e below _ (s₁.setTop (mkF m 18 #[o1 ad0, o1 ad1, o0 10] [.int iv4]))
  refine o4 (fun u j => o3 X0.here hx rfl (hb hby o55) rfl rfl (o6 X0.here hx rfl (hb hby o56) rfl (o77 X0 hx hZ e0 pa4 (j := 10) (v := (.int iv4)) (by decide) rfl rfl rfl (hb hby o57) (o13 X0.here hx rfl (pc0 := 21) (pc' := 26) rfl (hb hby o58) rfl (o66 rfl) (by decide) (by decide) (o12 X0.here hx rfl (hb hby o59) rfl (l' := #[o1 ad0, o1 ad1, o0 11]) rfl (o15 X0.here hx rfl (pc0 := 29) (pc' := 9) rfl (hb hby o60) (by decide) (by decide) j)))))) ?_
  show o11 p e below _ (s₁.setTop (mkF m 9 #[o1 ad0, o1 ad1, o0 11] []))
  refine o4 (fun u j => o6 X0.here hx rfl (hb hby o31) rfl (o3 X0.here hx rfl (hb hby o25) rfl rfl (o75 X0 hx hZ e0 pa2 rfl rfl (hb hby o26) (o13 X0.here hx rfl (pc0 := 12) (pc' := 32) rfl (hb hby o27) rfl (o175 (by decide)) (by decide) (by decide) (o16 X0.here hx rfl (hb hby o253) j))))) ?_
  exact o69 X0 hx hlk hret rfl (Or.inl ⟨rfl, by simp, _, rfl⟩) (hb hby o254) (by decide) (by decide) (by rw [e0]; exact ⟨rfl, N0, rfl⟩)
theorem o887 (hw : o35 a0 Z) (hS : o64 Z wcs) (ad0 ad1 : Addr) (ad2 ad3 : Addr) (kc4 : ClassId) (iv5 iv6 : Int32) (kc7 : ClassId) (h0 : Heap) (n0 : Nat) (O0 : Old Z n0 h0) (pf2 : Fld Z h0 ad0 o7 "coder" "B" (.int 0)) (pf3 : Fld Z h0 ad0 o7 "value" "[B" (.ref ad2)) (pe4 : Exa Z h0 ad1 o7) (pf5 : Fld Z h0 ad1 o7 "coder" "B" (.int 0)) (pf6 : Fld Z h0 ad1 o7 "value" "[B" (.ref ad3)) (pa8 : Arv Z h0 ad2 kc4 .byte 11 [.int 98, .int 101, .int 97, .int 110, .int 32, .int 39, .int iv5, .int 39, .int 58, .int 32, .int iv6] (.int 0)) (pa10 : Arv Z h0 ad3 kc7 .byte 11 [.int 98, .int 101, .int 97, .int 110, .int 32, .int 39, .int iv5, .int 39, .int 58, .int 32, .int iv6] (.int 0)) (pn_ad0_ad1 : ad0 ≠ ad1) :
    o21 l o182 jdk_42_method_66_code 3 (some .boolean) ws ⟨1, 0, 0, 14⟩ Z h0 #[.ref ad0, .ref ad1] (fun v h L => v = some (.int 1) ∧ Fr n0 L ∧ h = h0) := by
  refine o18 (plainFor_of_name o83) ?_
  intro p e s m below meth c s₁ hx hby hml hown hnm hret hlk hZ e0 X0
  have N0 := Fr.nil n0
  refine o4 (fun u j => castTop (show entryFrame m #[.ref ad0, .ref ad1] 3 = mkF m 0 #[o1 ad0, o1 ad1, o5] [] from rfl) j) ?_
  refine o4 (fun u j => o3 X0.here hx rfl (hb hby o290) rfl rfl (o3 X0.here hx rfl (hb hby o291) rfl rfl (XT.acmpYes X0.here hx rfl (pc0 := 2) (pc' := 7) rfl (hb hby o292) rfl rfl rfl (XT.aa_ne_t (o504 pn_ad0_ad1)) (by decide) (by decide) (o3 X0.here hx rfl (hb hby o293) rfl rfl j)))) ?_
  have q_ := instY X0 hx hZ hown (o2 hw 9 rfl) e0 (Ins.self pe4) (g := (mkF m 8 #[o1 ad0, o1 ad1, o5] [.ref ad1])) rfl rfl (hb hby o294)
  obtain ⟨T3331, X3331, e3331, st3331⟩ := q_
  refine o4 (fun u j => st3331 u j) ?_
  refine o4 (fun u j => o68 X3331.here hx rfl (hb hby o237) rfl (o65 (by decide)) (o3 X3331.here hx rfl (hb hby o238) rfl rfl j)) ?_
  have q_ := castY X3331 hx hZ hown (o2 hw 9 rfl) e3331 (Ins.self pe4) (g := (mkF m 15 #[o1 ad0, o1 ad1, o5] [.ref ad1])) rfl rfl (hb hby o239)
  obtain ⟨T3332, X3332, e3332, st3332⟩ := q_
  refine o4 (fun u j => st3332 u j) ?_
  refine o4 (fun u j => o84 X3332.here hx rfl (hb hby o240) rfl rfl (l' := #[o1 ad0, o1 ad1, o1 ad1]) rfl j) ?_
  have F3333 := Sta.ext O0.2 hS.1
  refine o22 (getS2 X3332 hx hZ hown (host := "") (Or.inl (o2 hw 4 rfl)) Via.refl e3332 F3333 rfl (hb hby o241)) ?_
  intro T3334 X3334 e3334
  refine o4 (fun u j => o68 X3334.here hx rfl (hb hby o242) rfl (o65 hS.2) (o3 X3334.here hx rfl (hb hby o243) rfl rfl j)) ?_
  refine o22 (getF X3334 hx hZ hown (host := "") (Or.inl (o2 hw 24 rfl)) Via.refl e3334 pf2 rfl rfl (hb hby o244)) ?_
  intro T3335 X3335 e3335
  refine o4 (fun u j => o3 X3335.here hx rfl (hb hby o245) rfl rfl j) ?_
  refine o22 (getF X3335 hx hZ hown (host := "") (Or.inl (o2 hw 24 rfl)) Via.refl e3335 pf5 rfl rfl (hb hby o246)) ?_
  intro T3336 X3336 e3336
  refine o4 (fun u j => o14 X3336.here hx rfl (hb hby o247) rfl (o93 (by decide)) (o3 X3336.here hx rfl (hb hby o248) rfl rfl j)) ?_
  refine o22 (getF X3336 hx hZ hown (host := "") (Or.inl (o2 hw 22 rfl)) Via.refl e3336 pf3 rfl rfl (hb hby o249)) ?_
  intro T3337 X3337 e3337
  refine o4 (fun u j => o3 X3337.here hx rfl (hb hby o250) rfl rfl j) ?_
  refine o22 (getF X3337 hx hZ hown (host := "") (Or.inl (o2 hw 22 rfl)) Via.refl e3337 pf6 rfl rfl (hb hby o251)) ?_
  intro T3338 X3338 e3338
  refine o17 (o78 X3338 hx hZ (y := o320) hown (o2 hw 76 rfl) (o2 hw 77 rfl) (o2 hw 7 rfl) (o2 hw 78 rfl) o414 (o886 hw hS ad2 ad3 kc4 iv5 iv6 kc7 h0 n0 O0 pa8 pa10) e3338 o441 (argsL := [.ref ad2, .ref ad3]) (rest := []) rfl rfl (g := (mkF m 44 #[o1 ad0, o1 ad1, o1 ad1] [.ref ad3, .ref ad2])) rfl (by rw [hml]; rfl) rfl (hb hby o252) (W := 0) rfl) ?_
  intro T3339 v3339 L3339 X3339 hQ3339
  obtain ⟨rfl, M3339, e3339⟩ := hQ3339
  have N3339 := Fr.app N0 M3339
  refine o4 (fun u j => o68 X3339.here hx rfl (hb hby o255) rfl (o65 (by decide)) (o16 X3339.here hx rfl (hb hby o256) (o15 X3339.here hx rfl (pc0 := 51) (pc' := 55) rfl (hb hby o257) (by decide) (by decide) j))) ?_
  exact o69 X3339 hx hlk hret rfl (Or.inl ⟨rfl, by simp, _, rfl⟩) (hb hby o258) (by decide) (by decide) (by rw [e3339]; exact ⟨rfl, N3339, rfl⟩)
theorem o888 (hw : o35 a0 Z) (hS : o64 Z wcs) (ad0 ad1 : Addr) (ad2 ad3 : Addr) (h0 : Heap) (n0 : Nat) (O0 : Old Z n0 h0) (pe1 : Exa Z h0 ad0 o62) (pf2 : Fld Z h0 ad0 o62 "bean" o71 .null) (pf3 : Fld Z h0 ad0 o62 "name" o71 .null) (pf4 : Fld Z h0 ad0 o62 "part" o71 .null) (pg_ad0 : n0 ≤ ad0) :
    o21 l o395 prog_89_method_1_code 4 none ws ⟨2, 0, 0, 24⟩ Z h0 #[.ref ad0, .ref ad1, .ref ad2, .ref ad3] (fun v h L => v = none ∧ Fr n0 L ∧ Keep h0 h [ad0] ∧ Exa Z h ad0 o62 ∧ Fld Z h ad0 o62 "bean" o71 (.ref ad1) ∧ Fld Z h ad0 o62 "name" o71 (.ref ad3) ∧ Fld Z h ad0 o62 "part" o71 (.ref ad2)) := by
  refine o18 (plainFor_of_name o312) ?_
  intro p e s m below meth c s₁ hx hby hml hown hnm hret hlk hZ e0 X0
  have N0 := Fr.nil n0
  refine o4 (fun u j => castTop (show entryFrame m #[.ref ad0, .ref ad1, .ref ad2, .ref ad3] 4 = mkF m 0 #[o1 ad0, o1 ad1, o1 ad2, o1 ad3] [] from rfl) j) ?_
  refine o4 (fun u j => o3 X0.here hx rfl (hb hby o262) rfl rfl j) ?_
  refine o17 (o87 X0 hx hZ (y := o458) rfl hown (o2 hw 32 rfl) (o2 hw 33 rfl) (o2 hw 35 rfl) (o2 hw 36 rfl) o462 (o842 hw hS ad0 h0 n0 O0 ) e0 o311 (a := ad0) (argsL := []) (rest := []) rfl rfl (g := (mkF m 1 #[o1 ad0, o1 ad1, o1 ad2, o1 ad3] [.ref ad0])) rfl (by rw [hml]; rfl) rfl (hb hby o263) (W := 0) rfl) ?_
  intro T3403 v3403 L3403 X3403 hQ3403
  obtain ⟨rfl, M3403, e3403⟩ := hQ3403
  have N3403 := Fr.app N0 M3403
  refine o4 (fun u j => o3 X3403.here hx rfl (hb hby o264) rfl rfl (o3 X3403.here hx rfl (hb hby o265) rfl rfl j)) ?_
  refine o32 (putF X3403 hx hZ hown (host := "") (Or.inl (o2 hw 38 rfl)) Via.refl e3403 pf2 pe1 (Or.inr ⟨(o2 hw 39 rfl), rfl, hnm⟩) (o2 hw 27 rfl) (ty := (.object "java/lang/String")) o82 rfl rfl rfl rfl (hb hby o266)) ?_
  intro T3404 h3404 X3404 e3404 W3404
  have N3404 := Fr.snoc X3404 N3403 pg_ad0
  have F3405 : Fld Z h3404 ad0 o62 "bean" o71 (.ref ad1) := Fld.same W3404 pf2
  refine o4 (fun u j => o3 X3404.here hx rfl (hb hby o267) rfl rfl (o3 X3404.here hx rfl (hb hby o215) rfl rfl j)) ?_
  have F3406 := (Exa.wr W3404 pe1)
  have F3407 := (Fld.other W3404 pf4 (Or.inr (o463 hw)))
  refine o32 (putF X3404 hx hZ hown (host := "") (Or.inl (o2 hw 40 rfl)) Via.refl e3404 F3407 F3406 (Or.inr ⟨(o2 hw 41 rfl), rfl, hnm⟩) (o2 hw 27 rfl) (ty := (.object "java/lang/String")) o82 rfl rfl rfl rfl (hb hby o216)) ?_
  intro T3408 h3408 X3408 e3408 W3408
  have N3408 := Fr.snoc X3408 N3404 pg_ad0
  have F3409 : Fld Z h3408 ad0 o62 "part" o71 (.ref ad2) := Fld.same W3408 F3407
  refine o4 (fun u j => o3 X3408.here hx rfl (hb hby o217) rfl rfl (o3 X3408.here hx rfl (hb hby o218) rfl rfl j)) ?_
  have F3410 := (Exa.wr W3408 F3406)
  have F3411 := (Fld.other W3408 (Fld.other W3404 pf3 (Or.inr (o464 hw))) (Or.inr (o465 hw)))
  refine o32 (putF X3408 hx hZ hown (host := "") (Or.inl (o2 hw 42 rfl)) Via.refl e3408 F3411 F3410 (Or.inr ⟨(o2 hw 43 rfl), rfl, hnm⟩) (o2 hw 27 rfl) (ty := (.object "java/lang/String")) o82 rfl rfl rfl rfl (hb hby o219)) ?_
  intro T3412 h3412 X3412 e3412 W3412
  have N3412 := Fr.snoc X3412 N3408 pg_ad0
  have F3413 : Fld Z h3412 ad0 o62 "name" o71 (.ref ad3) := Fld.same W3412 F3411
  have K3414 := (Keep.refl h0 [ad0]).wr W3404 (Or.inl (List.mem_of_getElem? (i := 0) rfl))
  have K3415 := K3414.wr W3408 (Or.inl (List.mem_of_getElem? (i := 0) rfl))
  have K3416 := K3415.wr W3412 (Or.inl (List.mem_of_getElem? (i := 0) rfl))
  have F3417 := (Exa.wr W3412 F3410)
  have F3418 := (Fld.other W3412 (Fld.other W3408 F3405 (Or.inr (o466 hw))) (Or.inr (o467 hw)))
  have F3419 := (Fld.other W3412 F3409 (Or.inr (o468 hw)))
  exact o81 X3412 hx hlk hret (hb hby o220) (by decide) (by decide) (by rw [e3412]; exact ⟨rfl, N3412, K3416, F3417, F3418, F3413, F3419⟩)
theorem o889 (hw : o35 a0 Z) (hS : o64 Z wcs) (ad0 ad1 : Addr) (kc2 : ClassId) (iv3 iv4 : Int32) (h0 : Heap) (n0 : Nat) (O0 : Old Z n0 h0) (pe1 : Exa Z h0 ad0 o7) (pf2 : Fld Z h0 ad0 o7 "coder" "B" (.int 0)) (pf3 : Fld Z h0 ad0 o7 "value" "[B" (.ref ad1)) (pa5 : Arv Z h0 ad1 kc2 .byte 5 [.int iv3, .int 32, .int 39, .int iv4, .int 39] (.int 0)) :
    o21 l o106 jdk_42_method_54_code 1 (some .int) ws ⟨1, 0, 0, 13⟩ Z h0 #[.ref ad0] (fun v h L => v = some (.int 5) ∧ Fr n0 L ∧ h = h0) := by
  refine o18 (plainFor_of_name o83) ?_
  intro p e s m below meth c s₁ hx hby hml hown hnm hret hlk hZ e0 X0
  have N0 := Fr.nil n0
  refine o4 (fun u j => castTop (show entryFrame m #[.ref ad0] 1 = mkF m 0 #[o1 ad0] [] from rfl) j) ?_
  refine o4 (fun u j => o3 X0.here hx rfl (hb hby o302) rfl rfl j) ?_
  refine o22 (getF X0 hx hZ hown (host := "") (Or.inl (o2 hw 22 rfl)) Via.refl e0 pf3 rfl rfl (hb hby o303)) ?_
  intro T3634 X3634 e3634
  refine o4 (fun u j => o75 X3634 hx hZ e3634 pa5 rfl rfl (hb hby o304) (o3 X3634.here hx rfl (hb hby o305) rfl rfl j)) ?_
  refine o17 (o63 X3634 hx hZ (y := o89) (z := o89) hown (o2 hw 112 rfl) (o2 hw 113 rfl) (notFace_of_selects (args := #[]) (mvT hZ (o2 hw 115 rfl))) (o2 hw 115 rfl) (o2 hw 114 rfl) (o2 hw 2 rfl) (o2 hw 116 rfl) o67 (o396 hw hS ad0 h0 n0 O0 pf2) e3634 pe1 o174 (argsL := []) (rest := [.int 5]) rfl rfl (g := (mkF m 6 #[o1 ad0] [.ref ad0, .int 5])) rfl (by rw [hml]; rfl) rfl (hb hby o306) (W := 1) rfl) ?_
  intro T3636 v3636 L3636 X3636 hQ3636
  obtain ⟨rfl, M3636, e3636⟩ := hQ3636
  have N3636 := Fr.app N0 M3636
  refine o4 (fun u j => XS.ishr X3636.here hx rfl (hb hby o307) rfl j) ?_
  exact o69 X3636 hx hlk hret rfl (Or.inl ⟨rfl, by simp, _, rfl⟩) (hb hby o259) (by decide) (by decide) (by rw [e3636]; exact ⟨rfl, N3636, rfl⟩)
theorem o890 (hw : o35 a0 Z) (hS : o64 Z wcs) (ad0 ad1 ad2 : Addr) (kc3 : ClassId) (iv4 : Int32) (kc5 : ClassId) (iv6 iv7 : Int32) (h0 : Heap) (n0 : Nat) (O0 : Old Z n0 h0) (pe1 : Exa Z h0 ad0 o7) (pf2 : Fld Z h0 ad0 o7 "coder" "B" (.int 0)) (pf3 : Fld Z h0 ad0 o7 "value" "[B" (.ref ad2)) (pe4 : Exa Z h0 ad1 "[B") (pa5 : Arv Z h0 ad1 kc3 .byte 16 [.int 98, .int 101, .int 97, .int 110, .int 32, .int 39, .int iv4, .int 39, .int 58, .int 32, .int 0, .int 0, .int 0, .int 0, .int 0, .int 0] (.int 0)) (pa7 : Arv Z h0 ad2 kc5 .byte 5 [.int iv6, .int 32, .int 39, .int iv7, .int 39] (.int 0)) (pg_ad1 : n0 ≤ ad1) :
    o21 l o97 jdk_42_method_147_code 4 none ws ⟨1, 0, 0, 27⟩ Z h0 #[.ref ad0, .ref ad1, .int 10, .int 0] (fun v h L => v = none ∧ Fr n0 L ∧ Keep h0 h [ad1] ∧ Exa Z h ad1 "[B" ∧ Arv Z h ad1 kc3 .byte 16 [.int 98, .int 101, .int 97, .int 110, .int 32, .int 39, .int iv4, .int 39, .int 58, .int 32, .int iv6, .int 32, .int 39, .int iv7, .int 39, .int 0] (.int 0)) := by
  refine o18 (plainFor_of_name o83) ?_
  intro p e s m below meth c s₁ hx hby hml hown hnm hret hlk hZ e0 X0
  have N0 := Fr.nil n0
  refine o4 (fun u j => castTop (show entryFrame m #[.ref ad0, .ref ad1, .int 10, .int 0] 4 = mkF m 0 #[o1 ad0, o1 ad1, o0 10, o0 0] [] from rfl) j) ?_
  refine o4 (fun u j => o3 X0.here hx rfl (hb hby o139) rfl rfl j) ?_
  refine o17 (o63 X0 hx hZ (y := o89) (z := o89) hown (o2 hw 112 rfl) (o2 hw 113 rfl) (notFace_of_selects (args := #[]) (mvT hZ (o2 hw 115 rfl))) (o2 hw 115 rfl) (o2 hw 114 rfl) (o2 hw 2 rfl) (o2 hw 116 rfl) o67 (o396 hw hS ad0 h0 n0 O0 pf2) e0 pe1 o174 (argsL := []) (rest := []) rfl rfl (g := (mkF m 1 #[o1 ad0, o1 ad1, o0 10, o0 0] [.ref ad0])) rfl (by rw [hml]; rfl) rfl (hb hby o140) (W := 0) rfl) ?_
  intro T3650 v3650 L3650 X3650 hQ3650
  obtain ⟨rfl, M3650, e3650⟩ := hQ3650
  have N3650 := Fr.app N0 M3650
  refine o4 (fun u j => o6 X3650.here hx rfl (hb hby o141) rfl (o14 X3650.here hx rfl (hb hby o142) rfl (o93 (by decide)) (o3 X3650.here hx rfl (hb hby o143) rfl rfl j))) ?_
  refine o22 (getF X3650 hx hZ hown (host := "") (Or.inl (o2 hw 22 rfl)) Via.refl e3650 pf3 rfl rfl (hb hby o144)) ?_
  intro T3651 X3651 e3651
  refine o4 (fun u j => o16 X3651.here hx rfl (hb hby o109) (o3 X3651.here hx rfl (hb hby o110) rfl rfl (o6 X3651.here hx rfl (hb hby o111) rfl (o6 X3651.here hx rfl (hb hby o112) rfl (XS.ishl X3651.here hx rfl (hb hby o113) rfl (o3 X3651.here hx rfl (hb hby o114) rfl rfl j)))))) ?_
  show o11 p e below _ (T3651.setTop (mkF m 18 #[o1 ad0, o1 ad1, o0 10, o0 0] [.ref ad0, .int 10, .ref ad1, .int 0, .ref ad2]))
  refine o22 (getF X3651 hx hZ hown (host := "") (Or.inl (o2 hw 22 rfl)) Via.refl e3651 pf3 rfl rfl (hb hby o115)) ?_
  intro T3652 X3652 e3652
  refine o4 (fun u j => o75 X3652 hx hZ e3652 pa7 rfl rfl (hb hby o116) j) ?_
  have q_ := cpA X3652 hx hZ hown (o2 hw 140 rfl) (o2 hw 143 rfl) (o2 hw 141 rfl) (o2 hw 142 rfl) e3652 pa7 pa5 (us := [.int iv6, .int 32, .int 39, .int iv7, .int 39]) (Or.inl ⟨rfl, rfl⟩) (by decide) (by decide) (by decide) (by decide) (by decide) rfl (Nat.le_of_ble_eq_true rfl) N3650 pg_ad1 (g := (mkF m 22 #[o1 ad0, o1 ad1, o0 10, o0 0] [.int 5, .int 10, .ref ad1, .int 0, .ref ad2])) rfl (by rw [hml]; rfl) rfl (hb hby o117) (by decide) (W := 0) (by show 2 * 0 + _ ≤ _; exact Nat.le_of_eq rfl) (by decide)
  obtain ⟨T3654, h3654, L3654, X3654, e3654, N3654, K3654, V3654, st3654⟩ := q_
  have V3655 : Arv Z h3654 ad1 kc3 .byte 16 [.int 98, .int 101, .int 97, .int 110, .int 32, .int 39, .int iv4, .int 39, .int 58, .int 32, .int iv6, .int 32, .int 39, .int iv7, .int 39, .int 0] (.int 0) := V3654
  refine o4 (fun u j => st3654 u j) ?_
  refine o4 (fun u j => o15 X3654.here hx rfl (pc0 := 25) (pc' := 43) rfl (hb hby o118) (by decide) (by decide) j) ?_
  have K3656 := (Keep.refl h0 [ad1]).trans K3654 (allS (Or.inl (List.mem_of_getElem? (i := 0) rfl)) all0)
  have F3657 := (pe4.keep K3654)
  exact o81 X3654 hx hlk hret (hb hby o119) (by decide) (by decide) (by rw [e3654]; exact ⟨rfl, N3654, K3656, F3657, V3655⟩)
theorem o891 (hw : o35 a0 Z) (hS : o64 Z wcs) (ad0 ad1 : Addr) (ad2 ad3 : Addr) (kc4 : ClassId) (iv5 : Int32) (kc6 : ClassId) (iv7 iv8 : Int32) (h0 : Heap) (n0 : Nat) (O0 : Old Z n0 h0) (pe1 : Exa Z h0 ad0 o70) (pf2 : Fld Z h0 ad0 o10 "coder" "B" (.int 0)) (pf4 : Fld Z h0 ad0 o10 "value" "[B" (.ref ad2)) (pe5 : Exa Z h0 ad1 o7) (pf6 : Fld Z h0 ad1 o7 "coder" "B" (.int 0)) (pf7 : Fld Z h0 ad1 o7 "value" "[B" (.ref ad3)) (pe8 : Exa Z h0 ad2 "[B") (pa9 : Arv Z h0 ad2 kc4 .byte 16 [.int 98, .int 101, .int 97, .int 110, .int 32, .int 39, .int iv5, .int 39, .int 58, .int 32, .int 0, .int 0, .int 0, .int 0, .int 0, .int 0] (.int 0)) (pa11 : Arv Z h0 ad3 kc6 .byte 5 [.int iv7, .int 32, .int 39, .int iv8, .int 39] (.int 0)) (pg_ad2 : n0 ≤ ad2) :
    o21 l o154 jdk_68_method_73_code 3 none ws ⟨2, 0, 0, 42⟩ Z h0 #[.ref ad0, .int 10, .ref ad1] (fun v h L => v = none ∧ Fr n0 L ∧ Keep h0 h [ad2] ∧ Exa Z h ad2 "[B" ∧ Arv Z h ad2 kc4 .byte 16 [.int 98, .int 101, .int 97, .int 110, .int 32, .int 39, .int iv5, .int 39, .int 58, .int 32, .int iv7, .int 32, .int 39, .int iv8, .int 39, .int 0] (.int 0)) := by
  refine o18 (plainFor_of_name o100) ?_
  intro p e s m below meth c s₁ hx hby hml hown hnm hret hlk hZ e0 X0
  have N0 := Fr.nil n0
  refine o4 (fun u j => castTop (show entryFrame m #[.ref ad0, .int 10, .ref ad1] 3 = mkF m 0 #[o1 ad0, o0 10, o1 ad1] [] from rfl) j) ?_
  refine o4 (fun u j => o3 X0.here hx rfl (hb hby o158) rfl rfl (o3 X0.here hx rfl (hb hby o159) rfl rfl j)) ?_
  refine o17 (o95 X0 hx hZ (y := o261) hown (o2 hw 129 rfl) (o2 hw 130 rfl) (o96 hZ (o2 hw 132 rfl) (o2 hw 131 rfl) (o2 hw 130 rfl) o24) (o2 hw 131 rfl) (o2 hw 89 rfl) (o2 hw 133 rfl) o24 (o460 hw hS ad0 ad1 h0 n0 O0 pf2 pe5 pf6) e0 pe1 o208 (argsL := [.ref ad1]) (rest := []) rfl rfl (g := (mkF m 2 #[o1 ad0, o0 10, o1 ad1] [.ref ad1, .ref ad0])) rfl (by rw [hml]; rfl) rfl (hb hby o160) (W := 0) rfl) ?_
  intro T3661 v3661 L3661 X3661 hQ3661
  obtain ⟨rfl, M3661, e3661⟩ := hQ3661
  have N3661 := Fr.app N0 M3661
  refine o4 (fun u j => o3 X3661.here hx rfl (hb hby o161) rfl rfl (o3 X3661.here hx rfl (hb hby o162) rfl rfl j)) ?_
  refine o22 (getF X3661 hx hZ hown (host := "") (Or.inl (o2 hw 93 rfl)) Via.refl e3661 pf4 rfl rfl (hb hby o163)) ?_
  intro T3662 X3662 e3662
  refine o4 (fun u j => o6 X3662.here hx rfl (hb hby o135) rfl (o3 X3662.here hx rfl (hb hby o136) rfl rfl j)) ?_
  refine o22 (getF X3662 hx hZ hown (host := "") (Or.inl (o2 hw 95 rfl)) Via.refl e3662 pf2 rfl rfl (hb hby o137)) ?_
  intro T3663 X3663 e3663
  refine o17 (o63 X3663 hx hZ (y := o97) (z := o97) hown (o2 hw 135 rfl) (o2 hw 136 rfl) (notFace_of_selects (args := #[]) (mvT hZ (o2 hw 138 rfl))) (o2 hw 138 rfl) (o2 hw 137 rfl) (o2 hw 2 rfl) (o2 hw 139 rfl) o67 (o890 hw hS ad1 ad2 ad3 kc4 iv5 kc6 iv7 iv8 h0 n0 O0 pe5 pf6 pf7 pe8 pa9 pa11 pg_ad2) e3663 pe5 o209 (argsL := [.ref ad2, .int 10, .int 0]) (rest := []) rfl rfl (g := (mkF m 15 #[o1 ad0, o0 10, o1 ad1] [.int 0, .int 10, .ref ad2, .ref ad1])) rfl (by rw [hml]; rfl) rfl (hb hby o138) (W := 0) rfl) ?_
  intro T3664 v3664 L3664 X3664 hQ3664
  obtain ⟨rfl, M3664, K3664, F3665, F3666⟩ := hQ3664
  have N3664 := Fr.app N3661 M3664
  have K3667 := (Keep.refl h0 [ad2]).trans K3664 (allS (Or.inl (List.mem_of_getElem? (i := 0) rfl)) all0)
  exact o81 X3664 hx hlk hret (hb hby o145) (by decide) (by decide) (by exact ⟨rfl, N3664, K3667, F3665, F3666⟩)
theorem o892 (hw : o35 a0 Z) (hS : o64 Z wcs) (ad0 ad1 : Addr) (ad2 ad3 : Addr) (kc4 : ClassId) (iv5 : Int32) (kc6 : ClassId) (iv7 iv8 : Int32) (h0 : Heap) (n0 : Nat) (O0 : Old Z n0 h0) (pe1 : Exa Z h0 ad0 o70) (pf2 : Fld Z h0 ad0 o10 "coder" "B" (.int 0)) (pf3 : Fld Z h0 ad0 o10 "count" "I" (.int 10)) (pf4 : Fld Z h0 ad0 o10 "value" "[B" (.ref ad2)) (pe5 : Exa Z h0 ad1 o7) (pf6 : Fld Z h0 ad1 o7 "coder" "B" (.int 0)) (pf7 : Fld Z h0 ad1 o7 "value" "[B" (.ref ad3)) (pe8 : Exa Z h0 ad2 "[B") (pa9 : Arv Z h0 ad2 kc4 .byte 16 [.int 98, .int 101, .int 97, .int 110, .int 32, .int 39, .int iv5, .int 39, .int 58, .int 32, .int 0, .int 0, .int 0, .int 0, .int 0, .int 0] (.int 0)) (pa11 : Arv Z h0 ad3 kc6 .byte 5 [.int iv7, .int 32, .int 39, .int iv8, .int 39] (.int 0)) (pg_ad2 : n0 ≤ ad2) (pg_ad0 : n0 ≤ ad0) :
    o21 l o98 jdk_68_method_22_code 3 (some (.object "java/lang/AbstractStringBuilder")) ws ⟨3, 0, 0, 56⟩ Z h0 #[.ref ad0, .ref ad1] (fun v h L => v = some (.ref ad0) ∧ Fr n0 L ∧ Keep h0 h [ad2, ad0] ∧ Exa Z h ad2 "[B" ∧ Arv Z h ad2 kc4 .byte 16 [.int 98, .int 101, .int 97, .int 110, .int 32, .int 39, .int iv5, .int 39, .int 58, .int 32, .int iv7, .int 32, .int 39, .int iv8, .int 39, .int 0] (.int 0) ∧ Exa Z h ad0 o70 ∧ Fld Z h ad0 o10 "coder" "B" (.int 0) ∧ Fld Z h ad0 o10 "count" "I" (.int 15) ∧ Fld Z h ad0 o10 "value" "[B" (.ref ad2)) := by
  refine o18 (plainFor_of_name o100) ?_
  intro p e s m below meth c s₁ hx hby hml hown hnm hret hlk hZ e0 X0
  have N0 := Fr.nil n0
  refine o4 (fun u j => castTop (show entryFrame m #[.ref ad0, .ref ad1] 3 = mkF m 0 #[o1 ad0, o1 ad1, o5] [] from rfl) j) ?_
  refine o4 (fun u j => o3 X0.here hx rfl (hb hby o155) rfl rfl (o86 X0.here hx rfl (pc0 := 1) (pc' := 9) rfl (hb hby o156) rfl (by decide) (by decide) (o3 X0.here hx rfl (hb hby o157) rfl rfl j))) ?_
  refine o17 (o63 X0 hx hZ (y := o106) (z := o106) hown (o2 hw 107 rfl) (o2 hw 108 rfl) (notFace_of_selects (args := #[]) (mvT hZ (o2 hw 110 rfl))) (o2 hw 110 rfl) (o2 hw 109 rfl) (o2 hw 2 rfl) (o2 hw 111 rfl) o67 (o889 hw hS ad1 ad3 kc6 iv7 iv8 h0 n0 O0 pe5 pf6 pf7 pa11) e0 pe5 o179 (argsL := []) (rest := []) rfl rfl (g := (mkF m 10 #[o1 ad0, o1 ad1, o5] [.ref ad1])) rfl (by rw [hml]; rfl) rfl (hb hby o122) (W := 0) rfl) ?_
  intro T3677 v3677 L3677 X3677 hQ3677
  obtain ⟨rfl, M3677, e3677⟩ := hQ3677
  have N3677 := Fr.app N0 M3677
  refine o4 (fun u j => o94 X3677.here hx rfl (hb hby o123) rfl (l' := #[o1 ad0, o1 ad1, o0 5]) rfl (o3 X3677.here hx rfl (hb hby o124) rfl rfl (o3 X3677.here hx rfl (hb hby o125) rfl rfl j))) ?_
  refine o22 (getF X3677 hx hZ hown (host := "") (Or.inl (o2 hw 117 rfl)) Via.refl e3677 pf3 rfl rfl (hb hby o126)) ?_
  intro T3678 X3678 e3678
  refine o4 (fun u j => o6 X3678.here hx rfl (hb hby o127) rfl (o107 X3678.here hx rfl (hb hby o128) rfl j)) ?_
  refine o17 (o95 X3678 hx hZ (y := o260) hown (o2 hw 119 rfl) (o2 hw 120 rfl) (o96 hZ (o2 hw 122 rfl) (o2 hw 121 rfl) (o2 hw 120 rfl) o24) (o2 hw 121 rfl) (o2 hw 89 rfl) (o2 hw 123 rfl) o24 (o459 hw hS ad0 (15 : Int32) ad2 kc4 (16 : Int32) [.int 98, .int 101, .int 97, .int 110, .int 32, .int 39, .int iv5, .int 39, .int 58, .int 32, .int 0, .int 0, .int 0, .int 0, .int 0, .int 0] h0 n0 O0 pf2 pf4 pa9 (by decide)) e3678 pe1 o187 (argsL := [.int 15]) (rest := []) rfl rfl (g := (mkF m 21 #[o1 ad0, o1 ad1, o0 5] [.int 15, .ref ad0])) rfl (by rw [hml]; rfl) rfl (hb hby o129) (W := 0) rfl) ?_
  intro T3679 v3679 L3679 X3679 hQ3679
  obtain ⟨rfl, M3679, e3679⟩ := hQ3679
  have N3679 := Fr.app N3677 M3679
  refine o4 (fun u j => o3 X3679.here hx rfl (hb hby o130) rfl rfl (o3 X3679.here hx rfl (hb hby o131) rfl rfl j)) ?_
  refine o22 (getF X3679 hx hZ hown (host := "") (Or.inl (o2 hw 117 rfl)) Via.refl e3679 pf3 rfl rfl (hb hby o132)) ?_
  intro T3680 X3680 e3680
  refine o4 (fun u j => o3 X3680.here hx rfl (hb hby o133) rfl rfl j) ?_
  refine o17 (o95 X3680 hx hZ (y := o154) hown (o2 hw 124 rfl) (o2 hw 125 rfl) (o96 hZ (o2 hw 127 rfl) (o2 hw 126 rfl) (o2 hw 125 rfl) o24) (o2 hw 126 rfl) (o2 hw 89 rfl) (o2 hw 128 rfl) o24 (o891 hw hS ad0 ad1 ad2 ad3 kc4 iv5 kc6 iv7 iv8 h0 n0 O0 pe1 pf2 pf4 pe5 pf6 pf7 pe8 pa9 pa11 pg_ad2) e3680 pe1 o210 (argsL := [.int 10, .ref ad1]) (rest := []) rfl rfl (g := (mkF m 30 #[o1 ad0, o1 ad1, o0 5] [.ref ad1, .int 10, .ref ad0])) rfl (by rw [hml]; rfl) rfl (hb hby o134) (W := 0) rfl) ?_
  intro T3681 v3681 L3681 X3681 hQ3681
  obtain ⟨rfl, M3681, K3681, F3682, F3683⟩ := hQ3681
  have N3681 := Fr.app N3679 M3681
  refine o4 (fun u j => o3 X3681.here hx rfl (hb hby o146) rfl rfl (o61 X3681.here hx rfl (hb hby o147) rfl rfl j)) ?_
  have ne3684 := (ne_exa pe1 pe8 o85)
  have F3685 := (pf3.keep K3681 (ninS ne3684 nin0))
  refine o22 (getF X3681 hx hZ hown (host := "") (Or.inl (o2 hw 117 rfl)) Via.refl rfl F3685 rfl rfl (hb hby o148)) ?_
  intro T3686 X3686 e3686
  refine o4 (fun u j => o6 X3686.here hx rfl (hb hby o149) rfl (o107 X3686.here hx rfl (hb hby o150) rfl j)) ?_
  have F3687 := (pe1.keep K3681)
  refine o32 (putF X3686 hx hZ hown (host := "") (Or.inl (o2 hw 117 rfl)) Via.refl e3686 F3685 F3687 (Or.inl (o2 hw 118 rfl)) (o2 hw 80 rfl) (ty := .int) o120 rfl rfl rfl rfl (hb hby o151)) ?_
  intro T3688 h3688 X3688 e3688 W3688
  have N3688 := Fr.snoc X3688 N3681 pg_ad0
  have F3689 : Fld Z h3688 ad0 o10 "count" "I" (.int 15) := Fld.same W3688 F3685
  refine o4 (fun u j => o3 X3688.here hx rfl (hb hby o152) rfl rfl j) ?_
  have K3690 := (Keep.refl h0 [ad2, ad0]).trans K3681 (allS (Or.inl (List.mem_of_getElem? (i := 0) rfl)) all0)
  have K3691 := K3690.wr W3688 (Or.inl (List.mem_of_getElem? (i := 1) rfl))
  have F3692 := (Exa.wr W3688 F3682)
  have F3693 := (F3683.other W3688 (Ne.symm ne3684))
  have F3694 := (Exa.wr W3688 F3687)
  have F3695 := (Fld.other W3688 (pf2.keep K3681 (ninS ne3684 nin0)) (Or.inr (o211 hw)))
  have F3696 := (Fld.other W3688 (pf4.keep K3681 (ninS ne3684 nin0)) (Or.inr (o212 hw)))
  exact o69 X3688 hx hlk hret rfl (Or.inr (Or.inr (Or.inr (Or.inr ⟨rfl, rfl, rfl⟩)))) (hb hby o153) (by decide) (by decide) (by rw [e3688]; exact ⟨rfl, N3688, K3691, F3692, F3693, F3694, F3695, F3689, F3696⟩)
theorem o893 (hw : o35 a0 Z) (hS : o64 Z wcs) (ad0 ad1 : Addr) (ad2 ad3 : Addr) (kc4 : ClassId) (iv5 : Int32) (kc6 : ClassId) (iv7 iv8 : Int32) (h0 : Heap) (n0 : Nat) (O0 : Old Z n0 h0) (pe1 : Exa Z h0 ad0 o70) (pf2 : Fld Z h0 ad0 o10 "coder" "B" (.int 0)) (pf3 : Fld Z h0 ad0 o10 "count" "I" (.int 10)) (pf4 : Fld Z h0 ad0 o10 "value" "[B" (.ref ad2)) (pe5 : Exa Z h0 ad1 o7) (pf6 : Fld Z h0 ad1 o7 "coder" "B" (.int 0)) (pf7 : Fld Z h0 ad1 o7 "value" "[B" (.ref ad3)) (pe8 : Exa Z h0 ad2 "[B") (pa9 : Arv Z h0 ad2 kc4 .byte 16 [.int 98, .int 101, .int 97, .int 110, .int 32, .int 39, .int iv5, .int 39, .int 58, .int 32, .int 0, .int 0, .int 0, .int 0, .int 0, .int 0] (.int 0)) (pa11 : Arv Z h0 ad3 kc6 .byte 5 [.int iv7, .int 32, .int 39, .int iv8, .int 39] (.int 0)) (pg_ad2 : n0 ≤ ad2) (pg_ad0 : n0 ≤ ad0) :
    o21 l o80 jdk_67_method_7_code 2 (some (.object "java/lang/StringBuilder")) ws ⟨4, 0, 0, 70⟩ Z h0 #[.ref ad0, .ref ad1] (fun v h L => v = some (.ref ad0) ∧ Fr n0 L ∧ Keep h0 h [ad2, ad0] ∧ Exa Z h ad2 "[B" ∧ Arv Z h ad2 kc4 .byte 16 [.int 98, .int 101, .int 97, .int 110, .int 32, .int 39, .int iv5, .int 39, .int 58, .int 32, .int iv7, .int 32, .int 39, .int iv8, .int 39, .int 0] (.int 0) ∧ Exa Z h ad0 o70 ∧ Fld Z h ad0 o10 "coder" "B" (.int 0) ∧ Fld Z h ad0 o10 "count" "I" (.int 15) ∧ Fld Z h ad0 o10 "value" "[B" (.ref ad2)) := by
  refine o18 (plainFor_of_name o173) ?_
  intro p e s m below meth c s₁ hx hby hml hown hnm hret hlk hZ e0 X0
  have N0 := Fr.nil n0
  refine o4 (fun u j => castTop (show entryFrame m #[.ref ad0, .ref ad1] 2 = mkF m 0 #[o1 ad0, o1 ad1] [] from rfl) j) ?_
  refine o4 (fun u j => o3 X0.here hx rfl (hb hby o166) rfl rfl (o3 X0.here hx rfl (hb hby o167) rfl rfl j)) ?_
  refine o17 (o186 X0 hx hZ (y := o98) hown (o2 hw 102 rfl) (o321 (y := o98) (o2 hw 122 rfl) rfl (o2 hw 103 rfl) o24) (o2 hw 103 rfl) (o2 hw 104 rfl) (by decide) (o2 hw 89 rfl) (o2 hw 106 rfl) (o892 hw hS ad0 ad1 ad2 ad3 kc4 iv5 kc6 iv7 iv8 h0 n0 O0 pe1 pf2 pf3 pf4 pe5 pf6 pf7 pe8 pa9 pa11 pg_ad2 pg_ad0) e0 (Ins.self pe1) o213 (argsL := [.ref ad1]) (rest := []) rfl rfl (g := (mkF m 2 #[o1 ad0, o1 ad1] [.ref ad1, .ref ad0])) rfl (by rw [hml]; rfl) rfl (hb hby o168) (W := 0) rfl) ?_
  intro T3704 v3704 L3704 X3704 hQ3704
  obtain ⟨rfl, M3704, K3704, F3705, F3706, F3707, F3708, F3709, F3710⟩ := hQ3704
  have N3704 := Fr.app N0 M3704
  refine o4 (fun u j => XS.pop X3704.here hx rfl (hb hby o169) rfl rfl (o3 X3704.here hx rfl (hb hby o170) rfl rfl j)) ?_
  have K3711 := (Keep.refl h0 [ad2, ad0]).trans K3704 (allS (Or.inl (List.mem_of_getElem? (i := 0) rfl)) (allS (Or.inl (List.mem_of_getElem? (i := 1) rfl)) all0))
  exact o69 X3704 hx hlk hret rfl (Or.inr (Or.inr (Or.inr (Or.inr ⟨rfl, rfl, rfl⟩)))) (hb hby o171) (by decide) (by decide) (by exact ⟨rfl, N3704, K3711, F3705, F3706, F3707, F3708, F3709, F3710⟩)
theorem o894 (hw : o35 a0 Z) (hS : o64 Z wcs) (ad0 : Addr) (kc1 : ClassId) (iv2 iv3 iv4 : Int32) (h0 : Heap) (n0 : Nat) (O0 : Old Z n0 h0) (pa2 : Arv Z h0 ad0 kc1 .byte 16 [.int 98, .int 101, .int 97, .int 110, .int 32, .int 39, .int iv2, .int 39, .int 58, .int 32, .int iv3, .int 32, .int 39, .int iv4, .int 39, .int 0] (.int 0)) :
    o21 l o407 jdk_65_method_133_code 5 (some (.array .byte)) ws ⟨1, 1, 15, 27⟩ Z h0 #[.ref ad0, .int 0, .int 15] (fun v h L => ∃ nz0 : Addr, ∃ kz1 : ClassId, v = some (.ref nz0) ∧ Fr n0 L ∧ Keep h0 h [] ∧ h0.size ≤ nz0 ∧ Exa Z h nz0 "[B" ∧ Arv Z h nz0 kz1 .byte 15 [.int 98, .int 101, .int 97, .int 110, .int 32, .int 39, .int iv2, .int 39, .int 58, .int 32, .int iv3, .int 32, .int 39, .int iv4, .int 39] (.int 0)) := by
  refine o18 (plainFor_of_name o308) ?_
  intro p e s m below meth c s₁ hx hby hml hown hnm hret hlk hZ e0 X0
  have N0 := Fr.nil n0
  refine o4 (fun u j => castTop (show entryFrame m #[.ref ad0, .int 0, .int 15] 5 = mkF m 0 #[o1 ad0, o0 0, o0 15, o5, o5] [] from rfl) j) ?_
  refine o4 (fun u j => o6 X0.here hx rfl (hb hby o384) rfl (o6 X0.here hx rfl (hb hby o385) rfl j)) ?_
  refine o17 (o78 X0 hx hZ (y := o488) hown (o2 hw 185 rfl) (o2 hw 186 rfl) (o2 hw 180 rfl) (o2 hw 187 rfl) o184 (o834 hw hS (0 : Int32) (15 : Int32) h0 n0 O0 (by decide)) e0 o495 (argsL := [.int 0, .int 15]) (rest := []) rfl rfl (g := (mkF m 2 #[o1 ad0, o0 0, o0 15, o5, o5] [.int 15, .int 0])) rfl (by rw [hml]; rfl) rfl (hb hby o386) (W := 0) rfl) ?_
  intro T3745 v3745 L3745 X3745 hQ3745
  obtain ⟨rfl, M3745, e3745⟩ := hQ3745
  have N3745 := Fr.app N0 M3745
  refine o4 (fun u j => o6 X3745.here hx rfl (hb hby o387) rfl (o6 X3745.here hx rfl (hb hby o388) rfl (XS.isub X3745.here hx rfl (hb hby o389) rfl (o94 X3745.here hx rfl (hb hby o390) rfl (l' := #[o1 ad0, o0 0, o0 15, o0 15, o5]) rfl (o6 X3745.here hx rfl (hb hby o391) rfl j))))) ?_
  have q_ := newPE X3745 hx hZ (o2 hw 14 rfl) e3745 (g := (mkF m 10 #[o1 ad0, o0 0, o0 15, o0 15, o5] [.int 15])) rfl (hb hby o349) rfl (by decide) (cap := 15) (by decide) (by decide) (by decide) (by decide) (ad := "[B") o214
  obtain ⟨T3746, h3746, k3746, X3746, e3746, E3746, A3746, Y3746, st3746⟩ := q_
  have q_ : ∃ z, z = h0.size := ⟨_, rfl⟩
  obtain ⟨b3746, g3746⟩ := q_
  rw [← g3746] at A3746 Y3746 st3746
  have V3746 : Arv Z h3746 b3746 k3746 .byte 15 [.int 0, .int 0, .int 0, .int 0, .int 0, .int 0, .int 0, .int 0, .int 0, .int 0, .int 0, .int 0, .int 0, .int 0, .int 0] (.int 0) := (Arv.new A3746 (by decide)).pad (pad_rep [] (.int 0) 15)
  refine o4 (fun u j => st3746 u j) ?_
  refine o4 (fun u j => o76 X3746.here hx rfl (hb hby o350) rfl rfl (l' := #[o1 ad0, o0 0, o0 15, o0 15, o1 b3746]) rfl (o3 X3746.here hx rfl (hb hby o351) rfl rfl (o6 X3746.here hx rfl (hb hby o352) rfl (o72 X3746.here hx rfl (hb hby o353) rfl rfl (o16 X3746.here hx rfl (hb hby o354) (o3 X3746.here hx rfl (hb hby o355) rfl rfl j)))))) ?_
  show o11 p e below _ (T3746.setTop (mkF m 20 #[o1 ad0, o0 0, o0 15, o0 15, o1 b3746] [.ref ad0, .int 0, .ref b3746, .int 0, .ref ad0]))
  have F3747 := (pa2.ext E3746)
  refine o4 (fun u j => o75 X3746 hx hZ e3746 F3747 rfl rfl (hb hby o356) (o6 X3746.here hx rfl (hb hby o357) rfl (XS.isub X3746.here hx rfl (hb hby o358) rfl (o6 X3746.here hx rfl (hb hby o359) rfl j)))) ?_
  have O3750 := O0.ext E3746
  refine o17 (o78 X3746 hx hZ (y := o432) hown (o2 hw 188 rfl) (o2 hw 189 rfl) (o2 hw 190 rfl) (o2 hw 191 rfl) o496 (o835 hw hS (16 : Int32) (15 : Int32) h3746 n0 O3750 (by decide)) e3746 o497 (argsL := [.int 16, .int 15]) (rest := [.int 0, .ref b3746, .int 0, .ref ad0]) rfl rfl (g := (mkF m 24 #[o1 ad0, o0 0, o0 15, o0 15, o1 b3746] [.int 15, .int 16, .int 0, .ref b3746, .int 0, .ref ad0])) rfl (by rw [hml]; rfl) rfl (hb hby o360) (W := 4) rfl) ?_
  intro T3749 v3749 L3749 X3749 hQ3749
  obtain ⟨rfl, M3749, e3749⟩ := hQ3749
  have N3749 := Fr.app N3745 M3749
  have g3752 := Nat.le_trans (o103 O0) (Nat.le_of_eq g3746.symm)
  have q_ := cpA X3749 hx hZ hown (o2 hw 192 rfl) (o2 hw 143 rfl) (o2 hw 141 rfl) (o2 hw 142 rfl) e3749 F3747 V3746 (us := [.int 98, .int 101, .int 97, .int 110, .int 32, .int 39, .int iv2, .int 39, .int 58, .int 32, .int iv3, .int 32, .int 39, .int iv4, .int 39]) (Or.inl ⟨rfl, rfl⟩) (by decide) (by decide) (by decide) (by decide) (by decide) rfl (Nat.le_of_ble_eq_true rfl) N3749 g3752 (g := (mkF m 27 #[o1 ad0, o0 0, o0 15, o0 15, o1 b3746] [.int 15, .int 0, .ref b3746, .int 0, .ref ad0])) rfl (by rw [hml]; rfl) rfl (hb hby o361) (by decide) (W := 0) (by show 2 * 0 + _ ≤ _; exact Nat.le_of_eq rfl) (by decide)
  obtain ⟨T3751, h3751, L3751, X3751, e3751, N3751, K3751, V3751, st3751⟩ := q_
  have V3753 : Arv Z h3751 b3746 k3746 .byte 15 [.int 98, .int 101, .int 97, .int 110, .int 32, .int 39, .int iv2, .int 39, .int 58, .int 32, .int iv3, .int 32, .int 39, .int iv4, .int 39] (.int 0) := V3751
  refine o4 (fun u j => st3751 u j) ?_
  refine o4 (fun u j => o72 X3751.here hx rfl (hb hby o362) rfl rfl j) ?_
  have K3754 := (Keep.refl h0 []).ext E3746
  have z3756 := Nat.le_trans (Nat.le_refl _) (Nat.le_of_eq g3746.symm)
  have K3755 := K3754.trans K3751 (allS (Or.inr z3756) all0)
  have F3757 := (Y3746.keep K3751)
  exact o69 X3751 hx hlk hret rfl (Or.inr (Or.inr (Or.inr (Or.inr ⟨rfl, rfl, rfl⟩)))) (hb hby o363) (by decide) (by decide) (by rw [e3751]; exact ⟨b3746, k3746, rfl, N3751, K3755, z3756, F3757, V3753⟩)
theorem o895 (hw : o35 a0 Z) (hS : o64 Z wcs) (ad0 : Addr) (kc1 : ClassId) (iv2 iv3 iv4 : Int32) (h0 : Heap) (n0 : Nat) (O0 : Old Z n0 h0) (pa2 : Arv Z h0 ad0 kc1 .byte 16 [.int 98, .int 101, .int 97, .int 110, .int 32, .int 39, .int iv2, .int 39, .int 58, .int 32, .int iv3, .int 32, .int 39, .int iv4, .int 39, .int 0] (.int 0)) :
    o21 l o408 jdk_65_method_132_code 3 (some (.array .byte)) ws ⟨2, 1, 15, 43⟩ Z h0 #[.ref ad0, .int 0, .int 15] (fun v h L => ∃ nz0 : Addr, ∃ kz1 : ClassId, v = some (.ref nz0) ∧ Fr n0 L ∧ Keep h0 h [] ∧ h0.size ≤ nz0 ∧ Exa Z h nz0 "[B" ∧ Arv Z h nz0 kz1 .byte 15 [.int 98, .int 101, .int 97, .int 110, .int 32, .int 39, .int iv2, .int 39, .int 58, .int 32, .int iv3, .int 32, .int 39, .int iv4, .int 39] (.int 0)) := by
  refine o18 (plainFor_of_name o308) ?_
  intro p e s m below meth c s₁ hx hby hml hown hnm hret hlk hZ e0 X0
  have N0 := Fr.nil n0
  refine o4 (fun u j => castTop (show entryFrame m #[.ref ad0, .int 0, .int 15] 3 = mkF m 0 #[o1 ad0, o0 0, o0 15] [] from rfl) j) ?_
  refine o4 (fun u j => o6 X0.here hx rfl (hb hby o378) rfl (o68 X0.here hx rfl (hb hby o379) rfl (o180 (by decide)) (o6 X0.here hx rfl (hb hby o380) rfl (o3 X0.here hx rfl (hb hby o381) rfl rfl (o75 X0 hx hZ e0 pa2 rfl rfl (hb hby o382) (o14 X0.here hx rfl (hb hby o383) rfl (XT.ii_eq_f (by decide)) j)))))) ?_
  show o11 p e below _ (s₁.setTop (mkF m 10 #[o1 ad0, o0 0, o0 15] []))
  refine o4 (fun u j => o3 X0.here hx rfl (hb hby o345) rfl rfl (o6 X0.here hx rfl (hb hby o346) rfl (o6 X0.here hx rfl (hb hby o347) rfl j))) ?_
  refine o17 (o78 X0 hx hZ (y := o407) hown (o2 hw 182 rfl) (o2 hw 183 rfl) (o2 hw 180 rfl) (o2 hw 184 rfl) o184 (o894 hw hS ad0 kc1 iv2 iv3 iv4 h0 n0 O0 pa2) e0 o392 (argsL := [.ref ad0, .int 0, .int 15]) (rest := []) rfl rfl (g := (mkF m 13 #[o1 ad0, o0 0, o0 15] [.int 15, .int 0, .ref ad0])) rfl (by rw [hml]; rfl) rfl (hb hby o348) (W := 0) rfl) ?_
  intro T3765 v3765 L3765 X3765 hQ3765
  obtain ⟨nz0_3766, kz1_3767, rfl, M3765, K3765, z3768, F3769, F3770⟩ := hQ3765
  have N3765 := Fr.app N0 M3765
  have K3771 := (Keep.refl h0 []).trans K3765 all0
  have z3772 := Nat.le_trans (Nat.le_refl _) z3768
  exact o69 X3765 hx hlk hret rfl (Or.inr (Or.inr (Or.inr (Or.inr ⟨rfl, rfl, rfl⟩)))) (hb hby o364) (by decide) (by decide) (by exact ⟨nz0_3766, kz1_3767, rfl, N3765, K3771, z3772, F3769, F3770⟩)
theorem o896 (hw : o35 a0 Z) (hS : o64 Z wcs) (ad0 ad1 ad2 : Addr) (kc3 : ClassId) (iv4 iv5 iv6 : Int32) (h0 : Heap) (n0 : Nat) (O0 : Old Z n0 h0) (pe1 : Exa Z h0 ad0 o7) (pf2 : Fld Z h0 ad0 o7 "coder" "B" (.int 0)) (pf3 : Fld Z h0 ad0 o7 "value" "[B" .null) (pe4 : Exa Z h0 ad1 o70) (pf5 : Fld Z h0 ad1 o10 "coder" "B" (.int 0)) (pf6 : Fld Z h0 ad1 o10 "count" "I" (.int 15)) (pf7 : Fld Z h0 ad1 o10 "value" "[B" (.ref ad2)) (pe8 : Exa Z h0 ad2 "[B") (pa9 : Arv Z h0 ad2 kc3 .byte 16 [.int 98, .int 101, .int 97, .int 110, .int 32, .int 39, .int iv4, .int 39, .int 58, .int 32, .int iv5, .int 32, .int 39, .int iv6, .int 39, .int 0] (.int 0)) (pg_ad0 : n0 ≤ ad0) :
    o21 l o409 jdk_42_method_150_code 5 none ws ⟨3, 1, 15, 58⟩ Z h0 #[.ref ad0, .ref ad1, .null] (fun v h L => ∃ nz0 : Addr, ∃ kz1 : ClassId, v = none ∧ Fr n0 L ∧ Keep h0 h [ad0] ∧ h0.size ≤ nz0 ∧ Exa Z h ad0 o7 ∧ Fld Z h ad0 o7 "coder" "B" (.int 0) ∧ Fld Z h ad0 o7 "value" "[B" (.ref nz0) ∧ Exa Z h nz0 "[B" ∧ Arv Z h nz0 kz1 .byte 15 [.int 98, .int 101, .int 97, .int 110, .int 32, .int 39, .int iv4, .int 39, .int 58, .int 32, .int iv5, .int 32, .int 39, .int iv6, .int 39] (.int 0)) := by
  refine o18 (plainFor_of_name o83) ?_
  intro p e s m below meth c s₁ hx hby hml hown hnm hret hlk hZ e0 X0
  have N0 := Fr.nil n0
  refine o4 (fun u j => castTop (show entryFrame m #[.ref ad0, .ref ad1, .null] 5 = mkF m 0 #[o1 ad0, o1 ad1, .val .null, o5, o5] [] from rfl) j) ?_
  refine o4 (fun u j => o3 X0.here hx rfl (hb hby o370) rfl rfl j) ?_
  refine o22 (initO X0 hx hZ hown (o2 hw 19 rfl) (o2 hw 20 rfl) (o2 hw 21 rfl) e0 rfl (by rw [hml]; rfl) rfl (hb hby o371) (by decide) (W := 0) (by show 2 * 0 + _ ≤ _; exact Nat.le_of_eq rfl) (by decide)) ?_
  intro T3786 X3786 e3786
  refine o4 (fun u j => o3 X3786.here hx rfl (hb hby o372) rfl rfl j) ?_
  refine o17 (o63 X3786 hx hZ (y := o374) (z := o374) hown (o2 hw 160 rfl) (o2 hw 161 rfl) (notFace_of_selects (args := #[]) (mvT hZ (o2 hw 163 rfl))) (o2 hw 163 rfl) (o2 hw 162 rfl) (o2 hw 89 rfl) (o2 hw 164 rfl) o24 (o831 hw hS ad1 ad2 h0 n0 O0 pf7) e3786 pe4 o493 (argsL := []) (rest := []) rfl rfl (g := (mkF m 5 #[o1 ad0, o1 ad1, .val .null, o5, o5] [.ref ad1])) rfl (by rw [hml]; rfl) rfl (hb hby o373) (W := 0) rfl) ?_
  intro T3787 v3787 L3787 X3787 hQ3787
  obtain ⟨rfl, M3787, e3787⟩ := hQ3787
  have N3787 := Fr.app N0 M3787
  refine o4 (fun u j => o84 X3787.here hx rfl (hb hby o375) rfl rfl (l' := #[o1 ad0, o1 ad1, .val .null, o1 ad2, o5]) rfl (o3 X3787.here hx rfl (hb hby o376) rfl rfl j)) ?_
  refine o17 (o63 X3787 hx hZ (y := o416) (z := o487) hown (o2 hw 165 rfl) (o2 hw 166 rfl) (o690 (args := #[]) (mvT hZ (o2 hw 122 rfl)) rfl) (o2 hw 168 rfl) (o2 hw 169 rfl) (o2 hw 81 rfl) (o2 hw 170 rfl) o24 (o832 hw hS ad1 (15 : Int32) h0 n0 O0 pe4 pf6) e3787 pe4 o179 (argsL := []) (rest := []) rfl rfl (g := (mkF m 10 #[o1 ad0, o1 ad1, .val .null, o1 ad2, o5] [.ref ad1])) rfl (by rw [hml]; rfl) rfl (hb hby o332) (W := 0) rfl) ?_
  intro T3788 v3788 L3788 X3788 hQ3788
  obtain ⟨rfl, M3788, e3788⟩ := hQ3788
  have N3788 := Fr.app N3787 M3788
  refine o4 (fun u j => o20 X3788.here hx rfl (hb hby o333) rfl (l' := #[o1 ad0, o1 ad1, .val .null, o1 ad2, o0 15]) rfl (o3 X3788.here hx rfl (hb hby o334) rfl rfl j)) ?_
  refine o17 (o63 X3788 hx hZ (y := o377) (z := o377) hown (o2 hw 173 rfl) (o2 hw 174 rfl) (notFace_of_selects (args := #[]) (mvT hZ (o2 hw 176 rfl))) (o2 hw 176 rfl) (o2 hw 175 rfl) (o2 hw 89 rfl) (o2 hw 177 rfl) o24 (o833 hw hS ad1 h0 n0 O0 pf5) e3788 pe4 o494 (argsL := []) (rest := []) rfl rfl (g := (mkF m 16 #[o1 ad0, o1 ad1, .val .null, o1 ad2, o0 15] [.ref ad1])) rfl (by rw [hml]; rfl) rfl (hb hby o335) (W := 0) rfl) ?_
  intro T3789 v3789 L3789 X3789 hQ3789
  obtain ⟨rfl, M3789, e3789⟩ := hQ3789
  have N3789 := Fr.app N3788 M3789
  refine o4 (fun u j => o68 X3789.here hx rfl (hb hby o336) rfl (o65 (by decide)) (o3 X3789.here hx rfl (hb hby o337) rfl rfl (o16 X3789.here hx rfl (hb hby o338) j))) ?_
  refine o32 (putF X3789 hx hZ hown (host := "") (Or.inl (o2 hw 24 rfl)) Via.refl e3789 pf2 pe1 (Or.inr ⟨(o2 hw 25 rfl), rfl, hnm⟩) (o2 hw 10 rfl) (ty := .byte) o92 rfl rfl rfl rfl (hb hby o339)) ?_
  intro T3790 h3790 X3790 e3790 W3790
  have N3790 := Fr.snoc X3790 N3789 pg_ad0
  have F3791 : Fld Z h3790 ad0 o7 "coder" "B" (.int 0) := Fld.same W3790 pf2
  refine o4 (fun u j => o3 X3790.here hx rfl (hb hby o340) rfl rfl (o3 X3790.here hx rfl (hb hby o341) rfl rfl (o16 X3790.here hx rfl (hb hby o342) (o8 X3790.here hx rfl (hb hby o343) rfl j)))) ?_
  have ne3792 := (ne_exa pe8 pe1 o498)
  have F3793 := (pa9.other W3790 ne3792)
  have O3795 := O0.wr W3790 pg_ad0
  refine o17 (o78 X3790 hx hZ (y := o408) hown (o2 hw 178 rfl) (o2 hw 179 rfl) (o2 hw 180 rfl) (o2 hw 181 rfl) o184 (o895 hw hS ad2 kc3 iv4 iv5 iv6 h3790 n0 O3795 F3793) e3790 o392 (argsL := [.ref ad2, .int 0, .int 15]) (rest := [.ref ad0]) rfl rfl (g := (mkF m 32 #[o1 ad0, o1 ad1, .val .null, o1 ad2, o0 15] [.int 15, .int 0, .ref ad2, .ref ad0])) rfl (by rw [hml]; rfl) rfl (hb hby o344) (W := 1) rfl) ?_
  intro T3794 v3794 L3794 X3794 hQ3794
  obtain ⟨nz0_3796, kz1_3797, rfl, M3794, K3794, z3798, F3799, F3800⟩ := hQ3794
  have N3794 := Fr.app N3790 M3794
  have F3801 := ((Exa.wr W3790 pe1).keep K3794)
  have F3802 := ((Fld.other W3790 pf3 (Or.inr (o310 hw))).keep K3794 nin0)
  refine o32 (putF X3794 hx hZ hown (host := "") (Or.inl (o2 hw 22 rfl)) Via.refl rfl F3802 F3801 (Or.inr ⟨(o2 hw 23 rfl), rfl, hnm⟩) (o2 hw 10 rfl) (ty := (.array .byte)) o91 rfl rfl rfl rfl (hb hby o365)) ?_
  intro T3803 h3803 X3803 e3803 W3803
  have N3803 := Fr.snoc X3803 N3794 pg_ad0
  have F3804 : Fld Z h3803 ad0 o7 "value" "[B" (.ref nz0_3796) := Fld.same W3803 F3802
  refine o4 (fun u j => o15 X3803.here hx rfl (pc0 := 38) (pc' := 97) rfl (hb hby o366) (by decide) (by decide) j) ?_
  have K3805 := (Keep.refl h0 [ad0]).wr W3790 (Or.inl (List.mem_of_getElem? (i := 0) rfl))
  have K3806 := K3805.trans K3794 all0
  have K3807 := K3806.wr W3803 (Or.inl (List.mem_of_getElem? (i := 0) rfl))
  have z3808 := Nat.le_trans (Nat.le_of_eq W3790.size.symm) z3798
  have F3809 := (Exa.wr W3803 F3801)
  have F3810 := (Fld.other W3803 (F3791.keep K3794 nin0) (Or.inr (o309 hw)))
  have F3811 := (Exa.wr W3803 F3799)
  have ne3812 := (Ne.symm (Nat.ne_of_lt (Nat.lt_of_lt_of_le F3791.lt z3798)))
  have F3813 := (F3800.other W3803 ne3812)
  exact o81 X3803 hx hlk hret (hb hby o367) (by decide) (by decide) (by rw [e3803]; exact ⟨nz0_3796, kz1_3797, rfl, N3803, K3807, z3808, F3809, F3810, F3804, F3811, F3813⟩)
theorem o897 (hw : o35 a0 Z) (hS : o64 Z wcs) (ad0 ad1 ad2 : Addr) (kc3 : ClassId) (iv4 iv5 iv6 : Int32) (h0 : Heap) (n0 : Nat) (O0 : Old Z n0 h0) (pe1 : Exa Z h0 ad0 o7) (pf2 : Fld Z h0 ad0 o7 "coder" "B" (.int 0)) (pf3 : Fld Z h0 ad0 o7 "value" "[B" .null) (pe4 : Exa Z h0 ad1 o70) (pf5 : Fld Z h0 ad1 o10 "coder" "B" (.int 0)) (pf6 : Fld Z h0 ad1 o10 "count" "I" (.int 15)) (pf7 : Fld Z h0 ad1 o10 "value" "[B" (.ref ad2)) (pe8 : Exa Z h0 ad2 "[B") (pa9 : Arv Z h0 ad2 kc3 .byte 16 [.int 98, .int 101, .int 97, .int 110, .int 32, .int 39, .int iv4, .int 39, .int 58, .int 32, .int iv5, .int 32, .int 39, .int iv6, .int 39, .int 0] (.int 0)) (pg_ad0 : n0 ≤ ad0) :
    o21 l o410 jdk_42_method_53_code 2 none ws ⟨4, 1, 15, 74⟩ Z h0 #[.ref ad0, .ref ad1] (fun v h L => ∃ nz0 : Addr, ∃ kz1 : ClassId, v = none ∧ Fr n0 L ∧ Keep h0 h [ad0] ∧ h0.size ≤ nz0 ∧ Exa Z h ad0 o7 ∧ Fld Z h ad0 o7 "coder" "B" (.int 0) ∧ Fld Z h ad0 o7 "value" "[B" (.ref nz0) ∧ Exa Z h nz0 "[B" ∧ Arv Z h nz0 kz1 .byte 15 [.int 98, .int 101, .int 97, .int 110, .int 32, .int 39, .int iv4, .int 39, .int 58, .int 32, .int iv5, .int 32, .int 39, .int iv6, .int 39] (.int 0)) := by
  refine o18 (plainFor_of_name o83) ?_
  intro p e s m below meth c s₁ hx hby hml hown hnm hret hlk hZ e0 X0
  have N0 := Fr.nil n0
  refine o4 (fun u j => castTop (show entryFrame m #[.ref ad0, .ref ad1] 2 = mkF m 0 #[o1 ad0, o1 ad1] [] from rfl) j) ?_
  refine o4 (fun u j => o3 X0.here hx rfl (hb hby o401) rfl rfl (o3 X0.here hx rfl (hb hby o402) rfl rfl (o99 X0.here hx rfl (hb hby o403) j))) ?_
  refine o17 (o87 X0 hx hZ (y := o409) rfl hown (o2 hw 157 rfl) (o2 hw 158 rfl) (o2 hw 2 rfl) (o2 hw 159 rfl) o67 (o896 hw hS ad0 ad1 ad2 kc3 iv4 iv5 iv6 h0 n0 O0 pe1 pf2 pf3 pe4 pf5 pf6 pf7 pe8 pa9 pg_ad0) e0 o499 (a := ad0) (argsL := [.ref ad1, .null]) (rest := []) rfl rfl (g := (mkF m 3 #[o1 ad0, o1 ad1] [.null, .ref ad1, .ref ad0])) rfl (by rw [hml]; rfl) rfl (hb hby o404) (W := 0) rfl) ?_
  intro T3823 v3823 L3823 X3823 hQ3823
  obtain ⟨nz0_3824, kz1_3825, rfl, M3823, K3823, z3826, F3827, F3828, F3829, F3830, F3831⟩ := hQ3823
  have N3823 := Fr.app N0 M3823
  have K3832 := (Keep.refl h0 [ad0]).trans K3823 (allS (Or.inl (List.mem_of_getElem? (i := 0) rfl)) all0)
  have z3833 := Nat.le_trans (Nat.le_refl _) z3826
  exact o81 X3823 hx hlk hret (hb hby o405) (by decide) (by decide) (by exact ⟨nz0_3824, kz1_3825, rfl, N3823, K3832, z3833, F3827, F3828, F3829, F3830, F3831⟩)
theorem o898 (hw : o35 a0 Z) (hS : o64 Z wcs) (ad0 ad1 : Addr) (kc2 : ClassId) (iv3 iv4 iv5 : Int32) (h0 : Heap) (n0 : Nat) (O0 : Old Z n0 h0) (pe1 : Exa Z h0 ad0 o70) (pf2 : Fld Z h0 ad0 o10 "coder" "B" (.int 0)) (pf3 : Fld Z h0 ad0 o10 "count" "I" (.int 15)) (pf4 : Fld Z h0 ad0 o10 "value" "[B" (.ref ad1)) (pe5 : Exa Z h0 ad1 "[B") (pa6 : Arv Z h0 ad1 kc2 .byte 16 [.int 98, .int 101, .int 97, .int 110, .int 32, .int 39, .int iv3, .int 39, .int 58, .int 32, .int iv4, .int 32, .int 39, .int iv5, .int 39, .int 0] (.int 0)) :
    o21 l o183 jdk_67_method_42_code 1 (some (.object "java/lang/String")) ws ⟨5, 2, 19, 88⟩ Z h0 #[.ref ad0] (fun v h L => ∃ nz0 : Addr, ∃ nz1 : Addr, ∃ kz2 : ClassId, v = some (.ref nz0) ∧ Fr n0 L ∧ Keep h0 h [] ∧ h0.size ≤ nz0 ∧ h0.size ≤ nz1 ∧ Exa Z h nz0 o7 ∧ Fld Z h nz0 o7 "coder" "B" (.int 0) ∧ Fld Z h nz0 o7 "value" "[B" (.ref nz1) ∧ Exa Z h nz1 "[B" ∧ Arv Z h nz1 kz2 .byte 15 [.int 98, .int 101, .int 97, .int 110, .int 32, .int 39, .int iv3, .int 39, .int 58, .int 32, .int iv4, .int 32, .int 39, .int iv5, .int 39] (.int 0)) := by
  refine o18 (plainFor_of_name o173) ?_
  intro p e s m below meth c s₁ hx hby hml hown hnm hret hlk hZ e0 X0
  have N0 := Fr.nil n0
  refine o4 (fun u j => castTop (show entryFrame m #[.ref ad0] 1 = mkF m 0 #[o1 ad0] [] from rfl) j) ?_
  have q_ := newO X0 hx hZ hown (o2 hw 153 rfl) (o2 hw 10 rfl) (o2 hw 2 rfl) e0 (g := (mkF m 0 #[o1 ad0] [])) rfl (hb hby o397) (by decide) (by decide)
  obtain ⟨T3851, h3851, X3851, e3851, E3851, A3851, D3851, U3851, st3851⟩ := q_
  have q_ : ∃ z, z = h0.size := ⟨_, rfl⟩
  obtain ⟨b3851, g3851⟩ := q_
  rw [← g3851] at A3851 D3851 U3851 st3851
  have F3851_value : Fld Z h3851 b3851 o7 "value" "[B" .null := D3851 (Or.inr (o2 hw 23 rfl)) (ty := (.array .byte)) o91
  have F3851_coder : Fld Z h3851 b3851 o7 "coder" "B" (.int 0) := D3851 (Or.inr (o2 hw 25 rfl)) (ty := .byte) o92
  refine o4 (fun u j => st3851 u j) ?_
  refine o4 (fun u j => o61 X3851.here hx rfl (hb hby o398) rfl rfl (o3 X3851.here hx rfl (hb hby o399) rfl rfl j)) ?_
  have F3852 := (Exa.ext E3851 pe1)
  have F3853 := (Fld.ext E3851 pf2)
  have F3854 := (Fld.ext E3851 pf3)
  have F3855 := (Fld.ext E3851 pf4)
  have F3856 := (Exa.ext E3851 pe5)
  have F3857 := (pa6.ext E3851)
  have g3858 := Nat.le_trans (o103 O0) (Nat.le_of_eq g3851.symm)
  have O3860 := O0.ext E3851
  refine o17 (o87 X3851 hx hZ (y := o410) rfl hown (o2 hw 154 rfl) (o2 hw 155 rfl) (o2 hw 2 rfl) (o2 hw 156 rfl) o67 (o897 hw hS b3851 ad0 ad1 kc2 iv3 iv4 iv5 h3851 n0 O3860 A3851 F3851_coder F3851_value F3852 F3853 F3854 F3855 F3856 F3857 g3858) e3851 o500 (a := b3851) (argsL := [.ref ad0]) (rest := [.ref b3851]) rfl rfl (g := (mkF m 5 #[o1 ad0] [.ref ad0, .ref b3851, .ref b3851])) rfl (by rw [hml]; rfl) rfl (hb hby o400) (W := 1) rfl) ?_
  intro T3859 v3859 L3859 X3859 hQ3859
  obtain ⟨nz0_3861, kz1_3862, rfl, M3859, K3859, z3863, F3864, F3865, F3866, F3867, F3868⟩ := hQ3859
  have N3859 := Fr.app N0 M3859
  have K3869 := (Keep.refl h0 []).ext E3851
  have z3871 := Nat.le_trans (Nat.le_refl _) (Nat.le_of_eq g3851.symm)
  have K3870 := K3869.trans K3859 (allS (Or.inr z3871) all0)
  have z3872 := Nat.le_trans E3851.1 z3863
  exact o69 X3859 hx hlk hret rfl (Or.inr (Or.inr (Or.inr (Or.inr ⟨rfl, rfl, rfl⟩)))) (hb hby o406) (by decide) (by decide) (by exact ⟨b3851, nz0_3861, kz1_3862, rfl, N3859, K3870, z3871, z3872, F3864, F3865, F3866, F3867, F3868⟩)
theorem o899 (hw : o35 a0 Z) (hS : o64 Z wcs) (ad0 ad1 : Addr) (ad2 ad3 : Addr) (ad4 ad5 ad6 : Addr) (kc7 : ClassId) (iv8 : Int32) (kc9 : ClassId) (iv10 : Int32) (kc11 : ClassId) (iv12 : Int32) (h0 : Heap) (n0 : Nat) (O0 : Old Z n0 h0) (pe1 : Exa Z h0 ad0 o62) (pf2 : Fld Z h0 ad0 o62 "bean" o71 (.ref ad1)) (pf3 : Fld Z h0 ad0 o62 "name" o71 (.ref ad2)) (pf4 : Fld Z h0 ad0 o62 "part" o71 (.ref ad3)) (pe5 : Exa Z h0 ad1 o7) (pf6 : Fld Z h0 ad1 o7 "coder" "B" (.int 0)) (pf7 : Fld Z h0 ad1 o7 "value" "[B" (.ref ad4)) (pe8 : Exa Z h0 ad2 o7) (pf9 : Fld Z h0 ad2 o7 "coder" "B" (.int 0)) (pf10 : Fld Z h0 ad2 o7 "value" "[B" (.ref ad5)) (pe11 : Exa Z h0 ad3 o7) (pf12 : Fld Z h0 ad3 o7 "coder" "B" (.int 0)) (pf13 : Fld Z h0 ad3 o7 "value" "[B" (.ref ad6)) (pe14 : Exa Z h0 ad4 "[B") (pa15 : Arv Z h0 ad4 kc7 .byte 1 [.int iv8] (.int 0)) (pe16 : Exa Z h0 ad5 "[B") (pa17 : Arv Z h0 ad5 kc9 .byte 1 [.int iv10] (.int 0)) (pe18 : Exa Z h0 ad6 "[B") (pa19 : Arv Z h0 ad6 kc11 .byte 1 [.int iv12] (.int 0)) :
    o206 o23 [] l o181 prog_89_method_5_code 3 (some (.object "java/lang/String")) ws ⟨6, 16, 132, 100⟩ Z h0 #[.ref ad0] (fun v h L => ∃ nz0 : Addr, ∃ nz1 : Addr, ∃ kz2 : ClassId, v = some (.ref nz0) ∧ Fr n0 L ∧ Keep h0 h [] ∧ h0.size ≤ nz0 ∧ h0.size ≤ nz1 ∧ Exa Z h nz0 o7 ∧ Fld Z h nz0 o7 "coder" "B" (.int 0) ∧ Fld Z h nz0 o7 "value" "[B" (.ref nz1) ∧ Exa Z h nz1 "[B" ∧ Arv Z h nz1 kz2 .byte 15 [.int 98, .int 101, .int 97, .int 110, .int 32, .int 39, .int iv8, .int 39, .int 58, .int 32, .int iv12, .int 32, .int 39, .int iv10, .int 39] (.int 0)) := by
  refine o461 (plainFor_of_name o312) ?_
  intro p e s m below meth c s₁ hx hby hml hown hnm hret hlk hZ e0 X0 hSi0 hs0 hC0 hsf0
  have hZ_0 := hZ
  have R0 : CHr Z o23 s.vm h0 s.vm h0 := CHr.refl hC0
  have N0 := Fr.nil n0
  refine o4 (fun u j => castTop (show entryFrame m #[.ref ad0] 3 = mkF m 0 #[o1 ad0, o5, o5] [] from rfl) j) ?_
  refine o4 (fun u j => o3 X0.here hx rfl (hb hby o268) rfl rfl j) ?_
  refine o22 (getF X0 hx hZ hown (host := "") (Or.inl (o2 hw 42 rfl)) Via.refl e0 pf3 rfl rfl (hb hby o269)) ?_
  intro T3885 X3885 e3885
  refine o4 (fun u j => o86 X3885.here hx rfl (pc0 := 4) (pc' := 14) rfl (hb hby o270) rfl (by decide) (by decide) j) ?_
  have q_ := newO X3885 hx hZ hown (o2 hw 79 rfl) (o2 hw 80 rfl) (o2 hw 81 rfl) e3885 (g := (mkF m 14 #[o1 ad0, o5, o5] [])) rfl (hb hby o473) (by decide) (by decide)
  obtain ⟨T3886, h3886, X3886, e3886, E3886, A3886, D3886, U3886, st3886⟩ := q_
  have q_ : ∃ z, z = h0.size := ⟨_, rfl⟩
  obtain ⟨b3886, g3886⟩ := q_
  rw [← g3886] at A3886 D3886 U3886 st3886
  have F3886_value : Fld Z h3886 b3886 o10 "value" "[B" .null := D3886 (Or.inl (o2 hw 94 rfl)) (ty := (.array .byte)) o91
  have F3886_coder : Fld Z h3886 b3886 o10 "coder" "B" (.int 0) := D3886 (Or.inl (o2 hw 96 rfl)) (ty := .byte) o92
  have F3886_count : Fld Z h3886 b3886 o10 "count" "I" (.int 0) := D3886 (Or.inl (o2 hw 118 rfl)) (ty := .int) o120
  refine o4 (fun u j => st3886 u j) ?_
  refine o4 (fun u j => o61 X3886.here hx rfl (hb hby o474) rfl rfl j) ?_
  have g3887 := Nat.le_trans (o103 O0) (Nat.le_of_eq g3886.symm)
  have O3889 := O0.ext E3886
  refine o17 (o87 X3886 hx hZ (y := o431) rfl hown (o2 hw 82 rfl) (o2 hw 83 rfl) (o2 hw 81 rfl) (o2 hw 84 rfl) o90 (o825 hw hS b3886 h3886 n0 O3889 A3886 F3886_coder F3886_count F3886_value g3887) e3886 o311 (a := b3886) (argsL := []) (rest := [.ref b3886]) rfl rfl (g := (mkF m 18 #[o1 ad0, o5, o5] [.ref b3886, .ref b3886])) rfl (by rw [hml]; rfl) rfl (hb hby o475) (W := 1) rfl) ?_
  intro T3888 v3888 L3888 X3888 hQ3888
  obtain ⟨nz0_3890, kz1_3891, rfl, M3888, K3888, z3892, F3893, F3894, F3895, F3896, F3897, F3898⟩ := hQ3888
  have N3888 := Fr.app N0 M3888
  refine o4 (fun u j => o3 X3888.here hx rfl (hb hby o476) rfl rfl j) ?_
  have ne3899 := (Nat.ne_of_lt (Nat.lt_of_lt_of_le pe1.lt (Nat.le_of_eq g3886.symm)))
  have F3900 := ((Fld.ext E3886 pf4).keep K3888 (ninS ne3899 nin0))
  refine o22 (getF X3888 hx hZ hown (host := "") (Or.inl (o2 hw 40 rfl)) Via.refl rfl F3900 rfl rfl (hb hby o477)) ?_
  intro T3901 X3901 e3901
  have F3902 := ((Exa.ext E3886 pe11).keep K3888)
  have ne3903 := (Nat.ne_of_lt (Nat.lt_of_lt_of_le pe11.lt (Nat.le_of_eq g3886.symm)))
  have F3904 := ((Fld.ext E3886 pf12).keep K3888 (ninS ne3903 nin0))
  have F3905 := ((Fld.ext E3886 pf13).keep K3888 (ninS ne3903 nin0))
  have ne3906 := (Nat.ne_of_lt (Nat.lt_of_lt_of_le pe18.lt (Nat.le_of_eq g3886.symm)))
  have F3907 := ((pa19.ext E3886).keep K3888 (ninS ne3906 nin0))
  have g3908 := Nat.le_trans (o103 O3889) z3892
  have O3910 := O3889.keep K3888 (allS g3887 all0)
  refine o17 (o63 X3901 hx hZ (y := o80) (z := o80) hown (o2 hw 97 rfl) (o2 hw 98 rfl) (notFace_of_selects (args := #[]) (mvT hZ (o2 hw 100 rfl))) (o2 hw 100 rfl) (o2 hw 99 rfl) (o2 hw 81 rfl) (o2 hw 101 rfl) o90 (o868 hw hS b3886 ad3 nz0_3890 ad6 kz1_3891 kc11 iv12 T3888.heap n0 O3910 F3893 F3894 F3895 F3896 F3902 F3904 F3905 F3897 F3898 F3907 g3908 g3887) e3901 F3893 o121 (argsL := [.ref ad3]) (rest := []) rfl rfl (g := (mkF m 25 #[o1 ad0, o5, o5] [.ref ad3, .ref b3886])) rfl (by rw [hml]; rfl) rfl (hb hby o478) (W := 0) rfl) ?_
  intro T3909 v3909 L3909 X3909 hQ3909
  obtain ⟨rfl, M3909, K3909, F3911, F3912, F3913, F3914, F3915, F3916⟩ := hQ3909
  have N3909 := Fr.app N3888 M3909
  have R3918 : CHr Z o23 s.vm h0 s.vm h3886 := R0.trans (CHr.ext E3886 R0.1)
  have sf_3920 : Safe Z o23 s.vm h3886 b3886 := Safe.exa hZ_0.alike A3886 o102 o85
  have R3919 : CHr Z o23 s.vm h0 s.vm T3888.heap := R3918.trans (CHr.keep K3888 (sfS sf_3920 sf0) R3918.1)
  have sf_3922 : Safe Z o23 s.vm T3888.heap b3886 := Safe.exa hZ_0.alike F3893 o102 o85
  have sf_3923 : Safe Z o23 s.vm h3886 nz0_3890 := Safe.new z3892
  have sf_3924 : Safe Z o23 s.vm T3888.heap nz0_3890 := Safe.keep K3888 (sfS sf_3920 sf0) R3918.1 sf_3923
  have R3921 : CHr Z o23 s.vm h0 s.vm T3909.heap := R3919.trans (CHr.keep K3909 (sfS sf_3924 (sfS sf_3922 sf0)) R3919.1)
  obtain ⟨a3917, T3917, h3917, j3917, b3917, k3917, X3917, e3917, E3917, Si3917, Sk3917, hZ3917, hown3917, Ea3917, Fc3917, Fv3917, Av3917, la3917, lb3917, hr3917, Li3917, ln3917, st3917⟩ := ldcCH X3909 hx hZ hown (o2 hw 144 rfl) (o393 hw) rfl hSi0 (Nat.le_trans (Nat.zero_le _) (Nat.le_trans (Nat.le_trans E3886.1 K3888.1) K3909.1)) (o172 hw) (List.mem_of_getElem? (i := 0) rfl) R3921.1 (vs := [.int 32, .int 39]) (z := 2) o826 (by decide) rfl (g := (mkF m 28 #[o1 ad0, o5, o5] [.ref b3886])) rfl (hb hby o479) (n := 8) (by decide) (by decide) (by decide) (by decide)
  refine o4 (fun u j => st3917 u j) ?_
  have F3925 := (Exa.ext E3917 F3913)
  have F3926 := (Fld.ext E3917 F3914)
  have F3927 := (Fld.ext E3917 F3915)
  have F3928 := (Fld.ext E3917 F3916)
  have F3929 := (Exa.ext E3917 F3911)
  have F3930 := (F3912.ext E3917)
  have O3932 := O3910.keep K3909 (allS g3908 (allS g3887 all0))
  have O3933 := O3932.ext E3917
  refine o17 (o63 X3917 hx hZ3917 (y := o80) (z := o80) hown3917 (o2 hw 97 rfl) (o2 hw 98 rfl) (notFace_of_selects (args := #[]) (mvT hZ3917 (o2 hw 100 rfl))) (o2 hw 100 rfl) (o2 hw 99 rfl) (o2 hw 81 rfl) (o2 hw 101 rfl) o90 (o869 hw hS b3886 a3917 nz0_3890 b3917 kz1_3891 iv12 k3917 h3917 n0 O3933 F3925 F3926 F3927 F3928 Ea3917 Fc3917 Fv3917 F3929 F3930 Av3917 g3908 g3887) e3917 F3925 o121 (argsL := [.ref a3917]) (rest := []) rfl rfl (g := (mkF m 30 #[o1 ad0, o5, o5] [.ref a3917, .ref b3886])) rfl (by rw [hml]; rfl) rfl (hb hby o480) (W := 0) rfl) ?_
  intro T3931 v3931 L3931 X3931 hQ3931
  obtain ⟨rfl, M3931, K3931, F3934, F3935, F3936, F3937, F3938, F3939⟩ := hQ3931
  have N3931 := Fr.app N3909 M3931
  refine o4 (fun u j => o3 X3931.here hx rfl (hb hby o481) rfl rfl j) ?_
  have ne3940 := (Nat.ne_of_lt (Nat.lt_of_lt_of_le (Nat.lt_of_lt_of_le pe1.lt E3886.1) z3892))
  have F3941 := ((Fld.ext E3917 (((Fld.ext E3886 pf3).keep K3888 (ninS ne3899 nin0)).keep K3909 (ninS ne3940 (ninS ne3899 nin0)))).keep K3931 (ninS ne3940 (ninS ne3899 nin0)))
  refine o22 (getF X3931 hx hZ3917 hown3917 (host := "") (Or.inl (o2 hw 42 rfl)) Via.refl rfl F3941 rfl rfl (hb hby o482)) ?_
  intro T3942 X3942 e3942
  have F3943 := ((Exa.ext E3917 (((Exa.ext E3886 pe8).keep K3888).keep K3909)).keep K3931)
  have ne3944 := (Nat.ne_of_lt (Nat.lt_of_lt_of_le pe8.lt (Nat.le_of_eq g3886.symm)))
  have ne3945 := (Nat.ne_of_lt (Nat.lt_of_lt_of_le (Nat.lt_of_lt_of_le pe8.lt E3886.1) z3892))
  have F3946 := ((Fld.ext E3917 (((Fld.ext E3886 pf9).keep K3888 (ninS ne3944 nin0)).keep K3909 (ninS ne3945 (ninS ne3944 nin0)))).keep K3931 (ninS ne3945 (ninS ne3944 nin0)))
  have F3947 := ((Fld.ext E3917 (((Fld.ext E3886 pf10).keep K3888 (ninS ne3944 nin0)).keep K3909 (ninS ne3945 (ninS ne3944 nin0)))).keep K3931 (ninS ne3945 (ninS ne3944 nin0)))
  have ne3948 := (Nat.ne_of_lt (Nat.lt_of_lt_of_le pe16.lt (Nat.le_of_eq g3886.symm)))
  have ne3949 := (Nat.ne_of_lt (Nat.lt_of_lt_of_le (Nat.lt_of_lt_of_le pe16.lt E3886.1) z3892))
  have F3950 := (((((pa17.ext E3886).keep K3888 (ninS ne3948 nin0)).keep K3909 (ninS ne3949 (ninS ne3948 nin0))).ext E3917).keep K3931 (ninS ne3949 (ninS ne3948 nin0)))
  have O3952 := O3933.keep K3931 (allS g3908 (allS g3887 all0))
  refine o17 (o63 X3942 hx hZ3917 (y := o80) (z := o80) hown3917 (o2 hw 97 rfl) (o2 hw 98 rfl) (notFace_of_selects (args := #[]) (mvT hZ3917 (o2 hw 100 rfl))) (o2 hw 100 rfl) (o2 hw 99 rfl) (o2 hw 81 rfl) (o2 hw 101 rfl) o90 (o870 hw hS b3886 ad2 nz0_3890 ad5 kz1_3891 iv12 kc9 iv10 T3931.heap n0 O3952 F3936 F3937 F3938 F3939 F3943 F3946 F3947 F3934 F3935 F3950 g3908 g3887) e3942 F3936 o121 (argsL := [.ref ad2]) (rest := []) rfl rfl (g := (mkF m 37 #[o1 ad0, o5, o5] [.ref ad2, .ref b3886])) rfl (by rw [hml]; rfl) rfl (hb hby o483) (W := 0) rfl) ?_
  intro T3951 v3951 L3951 X3951 hQ3951
  obtain ⟨rfl, M3951, K3951, F3953, F3954, F3955, F3956, F3957, F3958⟩ := hQ3951
  have N3951 := Fr.app N3931 M3951
  have R3960 : CHr Z o23 s.vm h0 T3917.vm h3917 := R3921.trans hr3917
  have sf_3962 : Safe Z o23 T3917.vm h3917 b3886 := Safe.exa hZ3917.alike F3925 o102 o85
  have sf_3963 : Safe Z o23 s.vm T3909.heap nz0_3890 := Safe.keep K3909 (sfS sf_3924 (sfS sf_3922 sf0)) R3919.1 sf_3924
  have sf_3964 : Safe Z o23 T3917.vm h3917 nz0_3890 := hr3917.safe F3911.lt sf_3963
  have R3961 : CHr Z o23 s.vm h0 T3917.vm T3931.heap := R3960.trans (CHr.keep K3931 (sfS sf_3964 (sfS sf_3962 sf0)) R3960.1)
  have sf_3966 : Safe Z o23 T3917.vm T3931.heap b3886 := Safe.exa hZ3917.alike F3936 o102 o85
  have sf_3967 : Safe Z o23 T3917.vm T3931.heap nz0_3890 := Safe.keep K3931 (sfS sf_3964 (sfS sf_3962 sf0)) R3960.1 sf_3964
  have R3965 : CHr Z o23 s.vm h0 T3917.vm T3951.heap := R3961.trans (CHr.keep K3951 (sfS sf_3967 (sfS sf_3966 sf0)) R3961.1)
  obtain ⟨a3959, T3959, h3959, j3959, b3959, k3959, X3959, e3959, E3959, Si3959, Sk3959, hZ3959, hown3959, Ea3959, Fc3959, Fv3959, Av3959, la3959, lb3959, hr3959, Li3959, ln3959, st3959⟩ := ldcCH X3951 hx hZ3917 hown3917 (o2 hw 147 rfl) (o393 hw) rfl Si3917 (Nat.le_trans Sk3917 (Nat.le_trans K3931.1 K3951.1)) (o172 hw) (List.mem_of_getElem? (i := 1) rfl) R3965.1 (vs := [.int 39]) (z := 1) o506 (by decide) rfl (g := (mkF m 40 #[o1 ad0, o5, o5] [.ref b3886])) rfl (hb hby o484) (n := 4) (by decide) (by decide) (by decide) (by decide)
  refine o4 (fun u j => st3959 u j) ?_
  have F3968 := (Exa.ext E3959 F3955)
  have F3969 := (Fld.ext E3959 F3956)
  have F3970 := (Fld.ext E3959 F3957)
  have F3971 := (Fld.ext E3959 F3958)
  have F3972 := (Exa.ext E3959 F3953)
  have F3973 := (F3954.ext E3959)
  have O3975 := O3952.keep K3951 (allS g3908 (allS g3887 all0))
  have O3976 := O3975.ext E3959
  refine o17 (o63 X3959 hx hZ3959 (y := o80) (z := o80) hown3959 (o2 hw 97 rfl) (o2 hw 98 rfl) (notFace_of_selects (args := #[]) (mvT hZ3959 (o2 hw 100 rfl))) (o2 hw 100 rfl) (o2 hw 99 rfl) (o2 hw 81 rfl) (o2 hw 101 rfl) o90 (o871 hw hS b3886 a3959 nz0_3890 b3959 kz1_3891 iv12 iv10 k3959 h3959 n0 O3976 F3968 F3969 F3970 F3971 Ea3959 Fc3959 Fv3959 F3972 F3973 Av3959 g3908 g3887) e3959 F3968 o121 (argsL := [.ref a3959]) (rest := []) rfl rfl (g := (mkF m 42 #[o1 ad0, o5, o5] [.ref a3959, .ref b3886])) rfl (by rw [hml]; rfl) rfl (hb hby o485) (W := 0) rfl) ?_
  intro T3974 v3974 L3974 X3974 hQ3974
  obtain ⟨rfl, M3974, K3974, F3977, F3978, F3979, F3980, F3981, F3982⟩ := hQ3974
  have N3974 := Fr.app N3951 M3974
  have O3984 := O3976.keep K3974 (allS g3908 (allS g3887 all0))
  refine o17 (o63 X3974 hx hZ3959 (y := o183) (z := o183) hown3959 (o2 hw 148 rfl) (o2 hw 149 rfl) (notFace_of_selects (args := #[]) (mvT hZ3959 (o2 hw 151 rfl))) (o2 hw 151 rfl) (o2 hw 150 rfl) (o2 hw 81 rfl) (o2 hw 152 rfl) o90 (o872 hw hS b3886 nz0_3890 kz1_3891 iv12 iv10 T3974.heap n0 O3984 F3979 F3980 F3981 F3982 F3977 F3978) rfl F3979 o207 (argsL := []) (rest := []) rfl rfl (g := (mkF m 45 #[o1 ad0, o5, o5] [.ref b3886])) rfl (by rw [hml]; rfl) rfl (hb hby o486) (W := 0) rfl) ?_
  intro T3983 v3983 L3983 X3983 hQ3983
  obtain ⟨nz0_3985, nz1_3986, kz2_3987, rfl, M3983, K3983, z3988, z3989, F3990, F3991, F3992, F3993, F3994⟩ := hQ3983
  have N3983 := Fr.app N3974 M3983
  refine o4 (fun u j => o84 X3983.here hx rfl (hb hby o221) rfl rfl (l' := #[o1 ad0, o1 nz0_3985, o5]) rfl (o3 X3983.here hx rfl (hb hby o222) rfl rfl j)) ?_
  have F3995 := (((Fld.ext E3959 (((Fld.ext E3917 (((Fld.ext E3886 pf2).keep K3888 (ninS ne3899 nin0)).keep K3909 (ninS ne3940 (ninS ne3899 nin0)))).keep K3931 (ninS ne3940 (ninS ne3899 nin0))).keep K3951 (ninS ne3940 (ninS ne3899 nin0)))).keep K3974 (ninS ne3940 (ninS ne3899 nin0))).keep K3983 nin0)
  refine o22 (getF X3983 hx hZ3959 hown3959 (host := "") (Or.inl (o2 hw 38 rfl)) Via.refl rfl F3995 rfl rfl (hb hby o223)) ?_
  intro T3996 X3996 e3996
  refine o4 (fun u j => o86 X3996.here hx rfl (pc0 := 53) (pc' := 61) rfl (hb hby o224) rfl (by decide) (by decide) (o3 X3996.here hx rfl (hb hby o417) rfl rfl j)) ?_
  have F3997 := (((Fld.ext E3959 (((Fld.ext E3917 (F3900.keep K3909 (ninS ne3940 (ninS ne3899 nin0)))).keep K3931 (ninS ne3940 (ninS ne3899 nin0))).keep K3951 (ninS ne3940 (ninS ne3899 nin0)))).keep K3974 (ninS ne3940 (ninS ne3899 nin0))).keep K3983 nin0)
  refine o22 (getF X3996 hx hZ3959 hown3959 (host := "") (Or.inl (o2 hw 40 rfl)) Via.refl e3996 F3997 rfl rfl (hb hby o418)) ?_
  intro T3998 X3998 e3998
  refine o4 (fun u j => o86 X3998.here hx rfl (pc0 := 65) (pc' := 99) rfl (hb hby o419) rfl (by decide) (by decide) j) ?_
  have q_ := newO X3998 hx hZ3959 hown3959 (o2 hw 79 rfl) (o2 hw 80 rfl) (o2 hw 81 rfl) e3998 (g := (mkF m 99 #[o1 ad0, o1 nz0_3985, o5] [])) rfl (hb hby o489) (by decide) (by decide)
  obtain ⟨T3999, h3999, X3999, e3999, E3999, A3999, D3999, U3999, st3999⟩ := q_
  have q_ : ∃ z, z = T3983.heap.size := ⟨_, rfl⟩
  obtain ⟨b3999, g3999⟩ := q_
  rw [← g3999] at A3999 D3999 U3999 st3999
  have F3999_value : Fld Z h3999 b3999 o10 "value" "[B" .null := D3999 (Or.inl (o2 hw 94 rfl)) (ty := (.array .byte)) o91
  have F3999_coder : Fld Z h3999 b3999 o10 "coder" "B" (.int 0) := D3999 (Or.inl (o2 hw 96 rfl)) (ty := .byte) o92
  have F3999_count : Fld Z h3999 b3999 o10 "count" "I" (.int 0) := D3999 (Or.inl (o2 hw 118 rfl)) (ty := .int) o120
  refine o4 (fun u j => st3999 u j) ?_
  refine o4 (fun u j => o61 X3999.here hx rfl (hb hby o445) rfl rfl j) ?_
  have O4001 := O3984.keep K3983 all0
  have g4000 := Nat.le_trans (o103 O4001) (Nat.le_of_eq g3999.symm)
  have O4003 := O4001.ext E3999
  refine o17 (o87 X3999 hx hZ3959 (y := o431) rfl hown3959 (o2 hw 82 rfl) (o2 hw 83 rfl) (o2 hw 81 rfl) (o2 hw 84 rfl) o90 (o825 hw hS b3999 h3999 n0 O4003 A3999 F3999_coder F3999_count F3999_value g4000) e3999 o311 (a := b3999) (argsL := []) (rest := [.ref b3999]) rfl rfl (g := (mkF m 103 #[o1 ad0, o1 nz0_3985, o5] [.ref b3999, .ref b3999])) rfl (by rw [hml]; rfl) rfl (hb hby o446) (W := 1) rfl) ?_
  intro T4002 v4002 L4002 X4002 hQ4002
  obtain ⟨nz0_4004, kz1_4005, rfl, M4002, K4002, z4006, F4007, F4008, F4009, F4010, F4011, F4012⟩ := hQ4002
  have N4002 := Fr.app N3983 M4002
  have R4014 : CHr Z o23 s.vm h0 T3959.vm h3959 := R3965.trans hr3959
  have sf_4016 : Safe Z o23 T3959.vm h3959 b3886 := Safe.exa hZ3959.alike F3968 o102 o85
  have sf_4017 : Safe Z o23 T3917.vm T3951.heap nz0_3890 := Safe.keep K3951 (sfS sf_3967 (sfS sf_3966 sf0)) R3961.1 sf_3967
  have sf_4018 : Safe Z o23 T3959.vm h3959 nz0_3890 := hr3959.safe F3953.lt sf_4017
  have R4015 : CHr Z o23 s.vm h0 T3959.vm T3974.heap := R4014.trans (CHr.keep K3974 (sfS sf_4018 (sfS sf_4016 sf0)) R4014.1)
  have R4019 : CHr Z o23 s.vm h0 T3959.vm T3983.heap := R4015.trans (CHr.keep K3983 sf0 R4015.1)
  have R4020 : CHr Z o23 s.vm h0 T3959.vm h3999 := R4019.trans (CHr.ext E3999 R4019.1)
  have sf_4022 : Safe Z o23 T3959.vm h3999 b3999 := Safe.exa hZ3959.alike A3999 o102 o85
  have R4021 : CHr Z o23 s.vm h0 T3959.vm T4002.heap := R4020.trans (CHr.keep K4002 (sfS sf_4022 sf0) R4020.1)
  obtain ⟨a4013, T4013, h4013, j4013, b4013, k4013, X4013, e4013, E4013, Si4013, Sk4013, hZ4013, hown4013, Ea4013, Fc4013, Fv4013, Av4013, la4013, lb4013, hr4013, Li4013, ln4013, st4013⟩ := ldcCH X4002 hx hZ3959 hown3959 (o2 hw 193 rfl) (o393 hw) rfl Si3959 (Nat.le_trans Sk3959 (Nat.le_trans (Nat.le_trans (Nat.le_trans K3974.1 K3983.1) E3999.1) K4002.1)) (o172 hw) (List.mem_of_getElem? (i := 2) rfl) R4021.1 (vs := [.int 98, .int 101, .int 97, .int 110, .int 32, .int 39]) (z := 6) o507 (by decide) rfl (g := (mkF m 106 #[o1 ad0, o1 nz0_3985, o5] [.ref b3999])) rfl (hb hby o447) (n := 24) (by decide) (by decide) (by decide) (by decide)
  refine o4 (fun u j => st4013 u j) ?_
  have F4023 := (Exa.ext E4013 F4007)
  have F4024 := (Fld.ext E4013 F4008)
  have F4025 := (Fld.ext E4013 F4009)
  have F4026 := (Fld.ext E4013 F4010)
  have F4027 := (Exa.ext E4013 F4011)
  have F4028 := (F4012.ext E4013)
  have g4029 := Nat.le_trans (o103 O4003) z4006
  have O4031 := O4003.keep K4002 (allS g4000 all0)
  have O4032 := O4031.ext E4013
  refine o17 (o63 X4013 hx hZ4013 (y := o80) (z := o80) hown4013 (o2 hw 97 rfl) (o2 hw 98 rfl) (notFace_of_selects (args := #[]) (mvT hZ4013 (o2 hw 100 rfl))) (o2 hw 100 rfl) (o2 hw 99 rfl) (o2 hw 81 rfl) (o2 hw 101 rfl) o90 (o853 hw hS b3999 a4013 nz0_4004 b4013 kz1_4005 k4013 h4013 n0 O4032 F4023 F4024 F4025 F4026 Ea4013 Fc4013 Fv4013 F4027 F4028 Av4013 g4029 g4000) e4013 F4023 o121 (argsL := [.ref a4013]) (rest := []) rfl rfl (g := (mkF m 108 #[o1 ad0, o1 nz0_3985, o5] [.ref a4013, .ref b3999])) rfl (by rw [hml]; rfl) rfl (hb hby o448) (W := 0) rfl) ?_
  intro T4030 v4030 L4030 X4030 hQ4030
  obtain ⟨rfl, M4030, K4030, F4033, F4034, F4035, F4036, F4037, F4038⟩ := hQ4030
  have N4030 := Fr.app N4002 M4030
  refine o4 (fun u j => o3 X4030.here hx rfl (hb hby o449) rfl rfl j) ?_
  have ne4039 := (Nat.ne_of_lt (Nat.lt_of_lt_of_le F3995.lt (Nat.le_of_eq g3999.symm)))
  have ne4040 := (Nat.ne_of_lt (Nat.lt_of_lt_of_le (Nat.lt_of_lt_of_le F3995.lt E3999.1) z4006))
  have F4041 := ((Fld.ext E4013 ((Fld.ext E3999 F3995).keep K4002 (ninS ne4039 nin0))).keep K4030 (ninS ne4040 (ninS ne4039 nin0)))
  refine o22 (getF X4030 hx hZ4013 hown4013 (host := "") (Or.inl (o2 hw 38 rfl)) Via.refl rfl F4041 rfl rfl (hb hby o450)) ?_
  intro T4042 X4042 e4042
  have F4043 := ((Exa.ext E4013 ((Exa.ext E3999 (((Exa.ext E3959 (((Exa.ext E3917 (((Exa.ext E3886 pe5).keep K3888).keep K3909)).keep K3931).keep K3951)).keep K3974).keep K3983)).keep K4002)).keep K4030)
  have ne4044 := (Nat.ne_of_lt (Nat.lt_of_lt_of_le pe5.lt (Nat.le_of_eq g3886.symm)))
  have ne4045 := (Nat.ne_of_lt (Nat.lt_of_lt_of_le (Nat.lt_of_lt_of_le pe5.lt E3886.1) z3892))
  have ne4046 := (Nat.ne_of_lt (Nat.lt_of_lt_of_le (Nat.lt_of_lt_of_le pe5.lt (Nat.le_trans (Nat.le_trans (Nat.le_trans (Nat.le_trans (Nat.le_trans (Nat.le_trans (Nat.le_trans (Nat.le_trans E3886.1 K3888.1) K3909.1) E3917.1) K3931.1) K3951.1) E3959.1) K3974.1) K3983.1)) (Nat.le_of_eq g3999.symm)))
  have ne4047 := (Nat.ne_of_lt (Nat.lt_of_lt_of_le (Nat.lt_of_lt_of_le pe5.lt (Nat.le_trans (Nat.le_trans (Nat.le_trans (Nat.le_trans (Nat.le_trans (Nat.le_trans (Nat.le_trans (Nat.le_trans (Nat.le_trans E3886.1 K3888.1) K3909.1) E3917.1) K3931.1) K3951.1) E3959.1) K3974.1) K3983.1) E3999.1)) z4006))
  have F4048 := ((Fld.ext E4013 ((Fld.ext E3999 (((Fld.ext E3959 (((Fld.ext E3917 (((Fld.ext E3886 pf6).keep K3888 (ninS ne4044 nin0)).keep K3909 (ninS ne4045 (ninS ne4044 nin0)))).keep K3931 (ninS ne4045 (ninS ne4044 nin0))).keep K3951 (ninS ne4045 (ninS ne4044 nin0)))).keep K3974 (ninS ne4045 (ninS ne4044 nin0))).keep K3983 nin0)).keep K4002 (ninS ne4046 nin0))).keep K4030 (ninS ne4047 (ninS ne4046 nin0)))
  have F4049 := ((Fld.ext E4013 ((Fld.ext E3999 (((Fld.ext E3959 (((Fld.ext E3917 (((Fld.ext E3886 pf7).keep K3888 (ninS ne4044 nin0)).keep K3909 (ninS ne4045 (ninS ne4044 nin0)))).keep K3931 (ninS ne4045 (ninS ne4044 nin0))).keep K3951 (ninS ne4045 (ninS ne4044 nin0)))).keep K3974 (ninS ne4045 (ninS ne4044 nin0))).keep K3983 nin0)).keep K4002 (ninS ne4046 nin0))).keep K4030 (ninS ne4047 (ninS ne4046 nin0)))
  have ne4050 := (Nat.ne_of_lt (Nat.lt_of_lt_of_le pe14.lt (Nat.le_of_eq g3886.symm)))
  have ne4051 := (Nat.ne_of_lt (Nat.lt_of_lt_of_le (Nat.lt_of_lt_of_le pe14.lt E3886.1) z3892))
  have ne4052 := (Nat.ne_of_lt (Nat.lt_of_lt_of_le (Nat.lt_of_lt_of_le pe14.lt (Nat.le_trans (Nat.le_trans (Nat.le_trans (Nat.le_trans (Nat.le_trans (Nat.le_trans (Nat.le_trans (Nat.le_trans E3886.1 K3888.1) K3909.1) E3917.1) K3931.1) K3951.1) E3959.1) K3974.1) K3983.1)) (Nat.le_of_eq g3999.symm)))
  have ne4053 := (Nat.ne_of_lt (Nat.lt_of_lt_of_le (Nat.lt_of_lt_of_le pe14.lt (Nat.le_trans (Nat.le_trans (Nat.le_trans (Nat.le_trans (Nat.le_trans (Nat.le_trans (Nat.le_trans (Nat.le_trans (Nat.le_trans E3886.1 K3888.1) K3909.1) E3917.1) K3931.1) K3951.1) E3959.1) K3974.1) K3983.1) E3999.1)) z4006))
  have F4054 := (((((((((((((pa15.ext E3886).keep K3888 (ninS ne4050 nin0)).keep K3909 (ninS ne4051 (ninS ne4050 nin0))).ext E3917).keep K3931 (ninS ne4051 (ninS ne4050 nin0))).keep K3951 (ninS ne4051 (ninS ne4050 nin0))).ext E3959).keep K3974 (ninS ne4051 (ninS ne4050 nin0))).keep K3983 nin0).ext E3999).keep K4002 (ninS ne4052 nin0)).ext E4013).keep K4030 (ninS ne4053 (ninS ne4052 nin0)))
  have O4056 := O4032.keep K4030 (allS g4029 (allS g4000 all0))
  refine o17 (o63 X4042 hx hZ4013 (y := o80) (z := o80) hown4013 (o2 hw 97 rfl) (o2 hw 98 rfl) (notFace_of_selects (args := #[]) (mvT hZ4013 (o2 hw 100 rfl))) (o2 hw 100 rfl) (o2 hw 99 rfl) (o2 hw 81 rfl) (o2 hw 101 rfl) o90 (o854 hw hS b3999 ad1 nz0_4004 ad4 kz1_4005 kc7 iv8 T4030.heap n0 O4056 F4035 F4036 F4037 F4038 F4043 F4048 F4049 F4033 F4034 F4054 g4029 g4000) e4042 F4035 o121 (argsL := [.ref ad1]) (rest := []) rfl rfl (g := (mkF m 115 #[o1 ad0, o1 nz0_3985, o5] [.ref ad1, .ref b3999])) rfl (by rw [hml]; rfl) rfl (hb hby o451) (W := 0) rfl) ?_
  intro T4055 v4055 L4055 X4055 hQ4055
  obtain ⟨rfl, M4055, K4055, F4057, F4058, F4059, F4060, F4061, F4062⟩ := hQ4055
  have N4055 := Fr.app N4030 M4055
  have R4064 : CHr Z o23 s.vm h0 T4013.vm h4013 := R4021.trans hr4013
  have sf_4066 : Safe Z o23 T4013.vm h4013 b3999 := Safe.exa hZ4013.alike F4023 o102 o85
  have sf_4067 : Safe Z o23 T3959.vm h3999 nz0_4004 := Safe.new z4006
  have sf_4068 : Safe Z o23 T3959.vm T4002.heap nz0_4004 := Safe.keep K4002 (sfS sf_4022 sf0) R4020.1 sf_4067
  have sf_4069 : Safe Z o23 T4013.vm h4013 nz0_4004 := hr4013.safe F4011.lt sf_4068
  have R4065 : CHr Z o23 s.vm h0 T4013.vm T4030.heap := R4064.trans (CHr.keep K4030 (sfS sf_4069 (sfS sf_4066 sf0)) R4064.1)
  have sf_4071 : Safe Z o23 T4013.vm T4030.heap b3999 := Safe.exa hZ4013.alike F4035 o102 o85
  have sf_4072 : Safe Z o23 T4013.vm T4030.heap nz0_4004 := Safe.keep K4030 (sfS sf_4069 (sfS sf_4066 sf0)) R4064.1 sf_4069
  have R4070 : CHr Z o23 s.vm h0 T4013.vm T4055.heap := R4065.trans (CHr.keep K4055 (sfS sf_4072 (sfS sf_4071 sf0)) R4065.1)
  obtain ⟨a4063, T4063, h4063, j4063, b4063, k4063, X4063, e4063, E4063, Si4063, Sk4063, hZ4063, hown4063, Ea4063, Fc4063, Fv4063, Av4063, la4063, lb4063, hr4063, Li4063, ln4063, st4063⟩ := ldcCH X4055 hx hZ4013 hown4013 (o2 hw 194 rfl) (o393 hw) rfl Si4013 (Nat.le_trans Sk4013 (Nat.le_trans K4030.1 K4055.1)) (o172 hw) (List.mem_of_getElem? (i := 3) rfl) R4070.1 (vs := [.int 39, .int 58, .int 32]) (z := 3) o827 (by decide) rfl (g := (mkF m 118 #[o1 ad0, o1 nz0_3985, o5] [.ref b3999])) rfl (hb hby o452) (n := 12) (by decide) (by decide) (by decide) (by decide)
  refine o4 (fun u j => st4063 u j) ?_
  have F4073 := (Exa.ext E4063 F4059)
  have F4074 := (Fld.ext E4063 F4060)
  have F4075 := (Fld.ext E4063 F4061)
  have F4076 := (Fld.ext E4063 F4062)
  have F4077 := (Exa.ext E4063 F4057)
  have F4078 := (F4058.ext E4063)
  have O4080 := O4056.keep K4055 (allS g4029 (allS g4000 all0))
  have O4081 := O4080.ext E4063
  refine o17 (o63 X4063 hx hZ4063 (y := o80) (z := o80) hown4063 (o2 hw 97 rfl) (o2 hw 98 rfl) (notFace_of_selects (args := #[]) (mvT hZ4063 (o2 hw 100 rfl))) (o2 hw 100 rfl) (o2 hw 99 rfl) (o2 hw 81 rfl) (o2 hw 101 rfl) o90 (o873 hw hS b3999 a4063 nz0_4004 b4063 kz1_4005 iv8 k4063 h4063 n0 O4081 F4073 F4074 F4075 F4076 Ea4063 Fc4063 Fv4063 F4077 F4078 Av4063 g4029 g4000) e4063 F4073 o121 (argsL := [.ref a4063]) (rest := []) rfl rfl (g := (mkF m 120 #[o1 ad0, o1 nz0_3985, o5] [.ref a4063, .ref b3999])) rfl (by rw [hml]; rfl) rfl (hb hby o453) (W := 0) rfl) ?_
  intro T4079 v4079 L4079 X4079 hQ4079
  obtain ⟨rfl, M4079, K4079, F4082, F4083, F4084, F4085, F4086, F4087⟩ := hQ4079
  have N4079 := Fr.app N4055 M4079
  refine o4 (fun u j => o3 X4079.here hx rfl (hb hby o454) rfl rfl j) ?_
  have F4088 := ((Exa.ext E4063 (((Exa.ext E4013 ((Exa.ext E3999 F3990).keep K4002)).keep K4030).keep K4055)).keep K4079)
  have ne4089 := (Nat.ne_of_lt (Nat.lt_of_lt_of_le F3990.lt (Nat.le_of_eq g3999.symm)))
  have ne4090 := (Nat.ne_of_lt (Nat.lt_of_lt_of_le (Nat.lt_of_lt_of_le F3990.lt E3999.1) z4006))
  have F4091 := ((Fld.ext E4063 (((Fld.ext E4013 ((Fld.ext E3999 F3991).keep K4002 (ninS ne4089 nin0))).keep K4030 (ninS ne4090 (ninS ne4089 nin0))).keep K4055 (ninS ne4090 (ninS ne4089 nin0)))).keep K4079 (ninS ne4090 (ninS ne4089 nin0)))
  have F4092 := ((Fld.ext E4063 (((Fld.ext E4013 ((Fld.ext E3999 F3992).keep K4002 (ninS ne4089 nin0))).keep K4030 (ninS ne4090 (ninS ne4089 nin0))).keep K4055 (ninS ne4090 (ninS ne4089 nin0)))).keep K4079 (ninS ne4090 (ninS ne4089 nin0)))
  have ne4093 := (Nat.ne_of_lt (Nat.lt_of_lt_of_le F3993.lt (Nat.le_of_eq g3999.symm)))
  have ne4094 := (Nat.ne_of_lt (Nat.lt_of_lt_of_le (Nat.lt_of_lt_of_le F3993.lt E3999.1) z4006))
  have F4095 := (((((((F3994.ext E3999).keep K4002 (ninS ne4093 nin0)).ext E4013).keep K4030 (ninS ne4094 (ninS ne4093 nin0))).keep K4055 (ninS ne4094 (ninS ne4093 nin0))).ext E4063).keep K4079 (ninS ne4094 (ninS ne4093 nin0)))
  have O4097 := O4081.keep K4079 (allS g4029 (allS g4000 all0))
  refine o17 (o63 X4079 hx hZ4063 (y := o80) (z := o80) hown4063 (o2 hw 97 rfl) (o2 hw 98 rfl) (notFace_of_selects (args := #[]) (mvT hZ4063 (o2 hw 100 rfl))) (o2 hw 100 rfl) (o2 hw 99 rfl) (o2 hw 81 rfl) (o2 hw 101 rfl) o90 (o893 hw hS b3999 nz0_3985 nz0_4004 nz1_3986 kz1_4005 iv8 kz2_3987 iv12 iv10 T4079.heap n0 O4097 F4084 F4085 F4086 F4087 F4088 F4091 F4092 F4082 F4083 F4095 g4029 g4000) rfl F4084 o121 (argsL := [.ref nz0_3985]) (rest := []) rfl rfl (g := (mkF m 124 #[o1 ad0, o1 nz0_3985, o5] [.ref nz0_3985, .ref b3999])) rfl (by rw [hml]; rfl) rfl (hb hby o455) (W := 0) rfl) ?_
  intro T4096 v4096 L4096 X4096 hQ4096
  obtain ⟨rfl, M4096, K4096, F4098, F4099, F4100, F4101, F4102, F4103⟩ := hQ4096
  have N4096 := Fr.app N4079 M4096
  have O4105 := O4097.keep K4096 (allS g4029 (allS g4000 all0))
  refine o17 (o63 X4096 hx hZ4063 (y := o183) (z := o183) hown4063 (o2 hw 148 rfl) (o2 hw 149 rfl) (notFace_of_selects (args := #[]) (mvT hZ4063 (o2 hw 151 rfl))) (o2 hw 151 rfl) (o2 hw 150 rfl) (o2 hw 81 rfl) (o2 hw 152 rfl) o90 (o898 hw hS b3999 nz0_4004 kz1_4005 iv8 iv12 iv10 T4096.heap n0 O4105 F4100 F4101 F4102 F4103 F4098 F4099) rfl F4100 o207 (argsL := []) (rest := []) rfl rfl (g := (mkF m 127 #[o1 ad0, o1 nz0_3985, o5] [.ref b3999])) rfl (by rw [hml]; rfl) rfl (hb hby o456) (W := 0) rfl) ?_
  intro T4104 v4104 L4104 X4104 hQ4104
  obtain ⟨nz0_4106, nz1_4107, kz2_4108, rfl, M4104, K4104, z4109, z4110, F4111, F4112, F4113, F4114, F4115⟩ := hQ4104
  have N4104 := Fr.app N4096 M4104
  refine o4 (fun u j => o84 X4104.here hx rfl (hb hby o457) rfl rfl (l' := #[o1 ad0, o1 nz0_3985, o1 nz0_4106]) rfl (o3 X4104.here hx rfl (hb hby o188) rfl rfl j)) ?_
  have K4116 := (Keep.refl h0 []).ext E3886
  have z4118 := Nat.le_trans (Nat.le_refl _) (Nat.le_of_eq g3886.symm)
  have K4117 := K4116.trans K3888 (allS (Or.inr z4118) all0)
  have z4120 := Nat.le_trans E3886.1 z3892
  have K4119 := K4117.trans K3909 (allS (Or.inr z4120) (allS (Or.inr z4118) all0))
  have K4121 := K4119.ext E3917
  have K4122 := K4121.trans K3931 (allS (Or.inr z4120) (allS (Or.inr z4118) all0))
  have K4123 := K4122.trans K3951 (allS (Or.inr z4120) (allS (Or.inr z4118) all0))
  have K4124 := K4123.ext E3959
  have K4125 := K4124.trans K3974 (allS (Or.inr z4120) (allS (Or.inr z4118) all0))
  have K4126 := K4125.trans K3983 all0
  have K4127 := K4126.ext E3999
  have z4129 := Nat.le_trans (Nat.le_trans (Nat.le_trans (Nat.le_trans (Nat.le_trans (Nat.le_trans (Nat.le_trans (Nat.le_trans (Nat.le_trans E3886.1 K3888.1) K3909.1) E3917.1) K3931.1) K3951.1) E3959.1) K3974.1) K3983.1) (Nat.le_of_eq g3999.symm)
  have K4128 := K4127.trans K4002 (allS (Or.inr z4129) all0)
  have K4130 := K4128.ext E4013
  have z4132 := Nat.le_trans (Nat.le_trans (Nat.le_trans (Nat.le_trans (Nat.le_trans (Nat.le_trans (Nat.le_trans (Nat.le_trans (Nat.le_trans (Nat.le_trans E3886.1 K3888.1) K3909.1) E3917.1) K3931.1) K3951.1) E3959.1) K3974.1) K3983.1) E3999.1) z4006
  have K4131 := K4130.trans K4030 (allS (Or.inr z4132) (allS (Or.inr z4129) all0))
  have K4133 := K4131.trans K4055 (allS (Or.inr z4132) (allS (Or.inr z4129) all0))
  have K4134 := K4133.ext E4063
  have K4135 := K4134.trans K4079 (allS (Or.inr z4132) (allS (Or.inr z4129) all0))
  have K4136 := K4135.trans K4096 (allS (Or.inr z4132) (allS (Or.inr z4129) all0))
  have K4137 := K4136.trans K4104 all0
  have z4138 := Nat.le_trans (Nat.le_trans (Nat.le_trans (Nat.le_trans (Nat.le_trans (Nat.le_trans (Nat.le_trans (Nat.le_trans (Nat.le_trans (Nat.le_trans (Nat.le_trans (Nat.le_trans (Nat.le_trans (Nat.le_trans (Nat.le_trans (Nat.le_trans (Nat.le_trans E3886.1 K3888.1) K3909.1) E3917.1) K3931.1) K3951.1) E3959.1) K3974.1) K3983.1) E3999.1) K4002.1) E4013.1) K4030.1) K4055.1) E4063.1) K4079.1) K4096.1) z4109
  have z4139 := Nat.le_trans (Nat.le_trans (Nat.le_trans (Nat.le_trans (Nat.le_trans (Nat.le_trans (Nat.le_trans (Nat.le_trans (Nat.le_trans (Nat.le_trans (Nat.le_trans (Nat.le_trans (Nat.le_trans (Nat.le_trans (Nat.le_trans (Nat.le_trans (Nat.le_trans E3886.1 K3888.1) K3909.1) E3917.1) K3931.1) K3951.1) E3959.1) K3974.1) K3983.1) E3999.1) K4002.1) E4013.1) K4030.1) K4055.1) E4063.1) K4079.1) K4096.1) z4110
  have R4140 : CHr Z o23 s.vm h0 T4063.vm h4063 := R4070.trans hr4063
  have sf_4142 : Safe Z o23 T4063.vm h4063 b3999 := Safe.exa hZ4063.alike F4073 o102 o85
  have sf_4143 : Safe Z o23 T4013.vm T4055.heap nz0_4004 := Safe.keep K4055 (sfS sf_4072 (sfS sf_4071 sf0)) R4065.1 sf_4072
  have sf_4144 : Safe Z o23 T4063.vm h4063 nz0_4004 := hr4063.safe F4057.lt sf_4143
  have R4141 : CHr Z o23 s.vm h0 T4063.vm T4079.heap := R4140.trans (CHr.keep K4079 (sfS sf_4144 (sfS sf_4142 sf0)) R4140.1)
  have sf_4146 : Safe Z o23 T4063.vm T4079.heap b3999 := Safe.exa hZ4063.alike F4084 o102 o85
  have sf_4147 : Safe Z o23 T4063.vm T4079.heap nz0_4004 := Safe.keep K4079 (sfS sf_4144 (sfS sf_4142 sf0)) R4140.1 sf_4144
  have R4145 : CHr Z o23 s.vm h0 T4063.vm T4096.heap := R4141.trans (CHr.keep K4096 (sfS sf_4147 (sfS sf_4146 sf0)) R4141.1)
  have R4148 : CHr Z o23 s.vm h0 T4063.vm T4104.heap := R4145.trans (CHr.keep K4104 sf0 R4145.1)
  exact o368 X4104 Si4063 (Nat.le_trans Sk4063 (Nat.le_trans (Nat.le_trans K4079.1 K4096.1) K4104.1)) rfl hZ4063 (o172 hw) hs0 R4148 hx hlk hret rfl (Or.inr (Or.inr (Or.inr (Or.inr ⟨rfl, rfl, rfl⟩)))) (hb hby o189) (by decide) (by decide) (by exact ⟨nz0_4106, nz1_4107, kz2_4108, rfl, N4104, K4137, z4138, z4139, F4111, F4112, F4113, F4114, F4115⟩)
theorem o622 : decode method_3_code 192 = .ok (.new 8, 3) := by decide +kernel
theorem o623 : decode method_3_code 195 = .ok (.dup, 1) := by decide +kernel
theorem o624 : decode method_3_code 196 = .ok (.bipush 15, 2) := by decide +kernel
theorem o625 : decode method_3_code 198 = .ok (.newarray .char, 2) := by decide +kernel
theorem o626 : decode method_3_code 200 = .ok (.dup, 1) := by decide +kernel
theorem o627 : decode method_3_code 201 = .ok (.iconst 0, 1) := by decide +kernel
theorem o628 : decode method_3_code 202 = .ok (.bipush 98, 2) := by decide +kernel
theorem o629 : decode method_3_code 204 = .ok (.castore, 1) := by decide +kernel
theorem o630 : decode method_3_code 205 = .ok (.dup, 1) := by decide +kernel
theorem o631 : decode method_3_code 206 = .ok (.iconst 1, 1) := by decide +kernel
theorem o632 : decode method_3_code 207 = .ok (.bipush 101, 2) := by decide +kernel
theorem o633 : decode method_3_code 209 = .ok (.castore, 1) := by decide +kernel
theorem o634 : decode method_3_code 210 = .ok (.dup, 1) := by decide +kernel
theorem o635 : decode method_3_code 211 = .ok (.iconst 2, 1) := by decide +kernel
theorem o636 : decode method_3_code 212 = .ok (.bipush 97, 2) := by decide +kernel
theorem o637 : decode method_3_code 214 = .ok (.castore, 1) := by decide +kernel
theorem o638 : decode method_3_code 215 = .ok (.dup, 1) := by decide +kernel
theorem o639 : decode method_3_code 216 = .ok (.iconst 3, 1) := by decide +kernel
theorem o640 : decode method_3_code 217 = .ok (.bipush 110, 2) := by decide +kernel
theorem o641 : decode method_3_code 219 = .ok (.castore, 1) := by decide +kernel
theorem o642 : decode method_3_code 220 = .ok (.dup, 1) := by decide +kernel
theorem o643 : decode method_3_code 221 = .ok (.iconst 4, 1) := by decide +kernel
theorem o644 : decode method_3_code 222 = .ok (.bipush 32, 2) := by decide +kernel
theorem o645 : decode method_3_code 224 = .ok (.castore, 1) := by decide +kernel
theorem o646 : decode method_3_code 225 = .ok (.dup, 1) := by decide +kernel
theorem o647 : decode method_3_code 226 = .ok (.iconst 5, 1) := by decide +kernel
theorem o648 : decode method_3_code 227 = .ok (.bipush 39, 2) := by decide +kernel
theorem o649 : decode method_3_code 229 = .ok (.castore, 1) := by decide +kernel
theorem o650 : decode method_3_code 230 = .ok (.dup, 1) := by decide +kernel
theorem o651 : decode method_3_code 231 = .ok (.bipush 6, 2) := by decide +kernel
theorem o652 : decode method_3_code 233 = .ok (.iload_n 3, 1) := by decide +kernel
theorem o653 : decode method_3_code 234 = .ok (.castore, 1) := by decide +kernel
theorem o654 : decode method_3_code 235 = .ok (.dup, 1) := by decide +kernel
theorem o655 : decode method_3_code 236 = .ok (.bipush 7, 2) := by decide +kernel
theorem o656 : decode method_3_code 238 = .ok (.bipush 39, 2) := by decide +kernel
theorem o657 : decode method_3_code 240 = .ok (.castore, 1) := by decide +kernel
theorem o658 : decode method_3_code 241 = .ok (.dup, 1) := by decide +kernel
theorem o659 : decode method_3_code 242 = .ok (.bipush 8, 2) := by decide +kernel
theorem o660 : decode method_3_code 244 = .ok (.bipush 58, 2) := by decide +kernel
theorem o661 : decode method_3_code 246 = .ok (.castore, 1) := by decide +kernel
theorem o662 : decode method_3_code 247 = .ok (.dup, 1) := by decide +kernel
theorem o663 : decode method_3_code 248 = .ok (.bipush 9, 2) := by decide +kernel
theorem o664 : decode method_3_code 250 = .ok (.bipush 32, 2) := by decide +kernel
theorem o665 : decode method_3_code 252 = .ok (.castore, 1) := by decide +kernel
theorem o666 : decode method_3_code 253 = .ok (.dup, 1) := by decide +kernel
theorem o667 : decode method_3_code 254 = .ok (.bipush 10, 2) := by decide +kernel
theorem o668 : decode method_3_code 256 = .ok (.iload 4, 2) := by decide +kernel
theorem o669 : decode method_3_code 258 = .ok (.castore, 1) := by decide +kernel
theorem o670 : decode method_3_code 259 = .ok (.dup, 1) := by decide +kernel
theorem o671 : decode method_3_code 260 = .ok (.bipush 11, 2) := by decide +kernel
theorem o672 : decode method_3_code 262 = .ok (.bipush 32, 2) := by decide +kernel
theorem o673 : decode method_3_code 264 = .ok (.castore, 1) := by decide +kernel
theorem o674 : decode method_3_code 265 = .ok (.dup, 1) := by decide +kernel
theorem o675 : decode method_3_code 266 = .ok (.bipush 12, 2) := by decide +kernel
theorem o676 : decode method_3_code 268 = .ok (.bipush 39, 2) := by decide +kernel
theorem o677 : decode method_3_code 270 = .ok (.castore, 1) := by decide +kernel
theorem o678 : decode method_3_code 271 = .ok (.dup, 1) := by decide +kernel
theorem o679 : decode method_3_code 272 = .ok (.bipush 13, 2) := by decide +kernel
theorem o680 : decode method_3_code 274 = .ok (.iload 5, 2) := by decide +kernel
theorem o681 : decode method_3_code 276 = .ok (.castore, 1) := by decide +kernel
theorem o682 : decode method_3_code 277 = .ok (.dup, 1) := by decide +kernel
theorem o683 : decode method_3_code 278 = .ok (.bipush 14, 2) := by decide +kernel
theorem o684 : decode method_3_code 280 = .ok (.bipush 39, 2) := by decide +kernel
theorem o685 : decode method_3_code 282 = .ok (.castore, 1) := by decide +kernel
theorem o686 : decode method_3_code 283 = .ok (.invokespecial 32, 3) := by decide +kernel
theorem o900 (hw : o35 a0 Z) (hS : o64 Z wcs) (ad0 ad1 : Addr) (kc2 : ClassId) (iv3 iv4 iv5 : Int32) (kc6 : ClassId) (h0 : Heap) (n0 : Nat) (O0 : Old Z n0 h0) (pe1 : Exa Z h0 ad0 "[C") (pa2 : Arv Z h0 ad0 kc2 .char 15 [.int 98, .int 101, .int 97, .int 110, .int 32, .int 39, .int iv3, .int 39, .int 58, .int 32, .int iv4, .int 32, .int 39, .int iv5, .int 39] (.int 0)) (pe3 : Exa Z h0 ad1 "[B") (pa4 : Arv Z h0 ad1 kc6 .byte 15 [.int 0, .int 0, .int 0, .int 0, .int 0, .int 0, .int 0, .int 0, .int 0, .int 0, .int 0, .int 0, .int 0, .int 0, .int 0] (.int 0)) (pk5 : ¬ (255 : Int32) < iv3) (pk6 : ¬ (255 : Int32) < iv4) (pk7 : ¬ (255 : Int32) < iv5) (pg_ad1 : n0 ≤ ad1) :
    o21 l o314 jdk_52_method_21_code 7 (some .int) ws ⟨0, 0, 0, 0⟩ Z h0 #[.ref ad0, .int 0, .ref ad1, .int 0, .int 15] (fun v h L => v = some (.int 15) ∧ Fr n0 L ∧ Keep h0 h [ad1] ∧ Exa Z h ad1 "[B" ∧ Arv Z h ad1 kc6 .byte 15 [.int 98, .int 101, .int 97, .int 110, .int 32, .int 39, (.int (iv3.toInt8.toInt32)), .int 39, .int 58, .int 32, (.int (iv4.toInt8.toInt32)), .int 32, .int 39, (.int (iv5.toInt8.toInt32)), .int 39] (.int 0)) := by
  refine o18 (plainFor_of_name o177) ?_
  intro p e s m below meth c s₁ hx hby hml hown hnm hret hlk hZ e0 X0
  have N0 := Fr.nil n0
  refine o4 (fun u j => castTop (show entryFrame m #[.ref ad0, .int 0, .ref ad1, .int 0, .int 15] 7 = mkF m 0 #[o1 ad0, o0 0, o1 ad1, o0 0, o0 15, o5, o5] [] from rfl) j) ?_
  refine o4 (fun u j => o16 X0.here hx rfl (hb hby o280) (o20 X0.here hx rfl (hb hby o281) rfl (l' := #[o1 ad0, o0 0, o1 ad1, o0 0, o0 15, o0 0, o5]) rfl (o8 X0.here hx rfl (hb hby o28) rfl (o8 X0.here hx rfl (hb hby o29) rfl (o14 X0.here hx rfl (hb hby o30) rfl (o19 (by decide)) (o3 X0.here hx rfl (hb hby o36) rfl rfl j)))))) ?_
  show o11 p e below _ (s₁.setTop (mkF m 11 #[o1 ad0, o0 0, o1 ad1, o0 0, o0 15, o0 0, o5] [.ref ad0]))
  refine o4 (fun u j => o6 X0.here hx rfl (hb hby o37) rfl (o104 X0 hx hZ e0 pa2 (j := 0) (v := (.int 98)) (by decide) rfl rfl rfl (hb hby o38) (o20 X0.here hx rfl (hb hby o39) rfl (l' := #[o1 ad0, o0 0, o1 ad1, o0 0, o0 15, o0 0, o0 98]) rfl (o8 X0.here hx rfl (hb hby o40) rfl (o33 X0.here hx rfl (hb hby o41) (o13 X0.here hx rfl (pc0 := 20) (pc' := 26) rfl (hb hby o42) rfl (o73 (by decide)) (by decide) (by decide) j)))))) ?_
  show o11 p e below _ (s₁.setTop (mkF m 26 #[o1 ad0, o0 0, o1 ad1, o0 0, o0 15, o0 0, o0 98] []))
  refine o4 (fun u j => o3 X0.here hx rfl (hb hby o43) rfl rfl (o6 X0.here hx rfl (hb hby o44) rfl (o8 X0.here hx rfl (hb hby o45) rfl (o79 X0.here hx rfl (hb hby o46) rfl j)))) ?_
  refine o32 (o101 X0 hx hZ e0 pa4 (j := 0) (by decide) rfl rfl (hb hby o47)) ?_
  intro T4242 h4242 X4242 e4242 W4242
  replace W4242 : Wr h0 h4242 ad1 ((0 : Int32)).toNatClampNeg (.int 98) := W4242
  have N4242 := Fr.snoc X4242 N0 pg_ad1
  have V4242 : Arv Z h4242 ad1 kc6 .byte 15 [.int 98, .int 0, .int 0, .int 0, .int 0, .int 0, .int 0, .int 0, .int 0, .int 0, .int 0, .int 0, .int 0, .int 0, .int 0] (.int 0) := o74 pa4 rfl W4242 0 rfl (Nat.le_of_ble_eq_true rfl)
  refine o4 (fun u j => o12 X4242.here hx rfl (hb hby o48) rfl (l' := #[o1 ad0, o0 1, o1 ad1, o0 0, o0 15, o0 0, o0 98]) rfl (o12 X4242.here hx rfl (hb hby o49) rfl (l' := #[o1 ad0, o0 1, o1 ad1, o0 1, o0 15, o0 0, o0 98]) rfl (o12 X4242.here hx rfl (hb hby o50) rfl (l' := #[o1 ad0, o0 1, o1 ad1, o0 1, o0 15, o0 1, o0 98]) rfl (o15 X4242.here hx rfl (pc0 := 41) (pc' := 3) rfl (hb hby o51) (by decide) (by decide) (o8 X4242.here hx rfl (hb hby o28) rfl (o8 X4242.here hx rfl (hb hby o29) rfl j)))))) ?_
  show o11 p e below _ (T4242.setTop (mkF m 7 #[o1 ad0, o0 1, o1 ad1, o0 1, o0 15, o0 1, o0 98] [.int 15, .int 1]))
  refine o4 (fun u j => o14 X4242.here hx rfl (hb hby o30) rfl (o19 (by decide)) (o3 X4242.here hx rfl (hb hby o36) rfl rfl (o6 X4242.here hx rfl (hb hby o37) rfl j))) ?_
  have ne4243 := (ne_exa pe1 pe3 o501)
  have F4244 := (pa2.other W4242 ne4243)
  refine o4 (fun u j => o104 X4242 hx hZ e4242 F4244 (j := 1) (v := (.int 101)) (by decide) rfl rfl rfl (hb hby o38) (o20 X4242.here hx rfl (hb hby o39) rfl (l' := #[o1 ad0, o0 1, o1 ad1, o0 1, o0 15, o0 1, o0 101]) rfl (o8 X4242.here hx rfl (hb hby o40) rfl j))) ?_
  show o11 p e below _ (T4242.setTop (mkF m 17 #[o1 ad0, o0 1, o1 ad1, o0 1, o0 15, o0 1, o0 101] [.int 101]))
  refine o4 (fun u j => o33 X4242.here hx rfl (hb hby o41) (o13 X4242.here hx rfl (pc0 := 20) (pc' := 26) rfl (hb hby o42) rfl (o73 (by decide)) (by decide) (by decide) (o3 X4242.here hx rfl (hb hby o43) rfl rfl (o6 X4242.here hx rfl (hb hby o44) rfl (o8 X4242.here hx rfl (hb hby o45) rfl (o79 X4242.here hx rfl (hb hby o46) rfl j)))))) ?_
  show o11 p e below _ (T4242.setTop (mkF m 31 #[o1 ad0, o0 1, o1 ad1, o0 1, o0 15, o0 1, o0 101] [.int 101, .int 1, .ref ad1]))
  refine o32 (o101 X4242 hx hZ e4242 V4242 (j := 1) (by decide) rfl rfl (hb hby o47)) ?_
  intro T4245 h4245 X4245 e4245 W4245
  replace W4245 : Wr h4242 h4245 ad1 ((1 : Int32)).toNatClampNeg (.int 101) := W4245
  have N4245 := Fr.snoc X4245 N4242 pg_ad1
  have V4245 : Arv Z h4245 ad1 kc6 .byte 15 [.int 98, .int 101, .int 0, .int 0, .int 0, .int 0, .int 0, .int 0, .int 0, .int 0, .int 0, .int 0, .int 0, .int 0, .int 0] (.int 0) := o74 V4242 rfl W4245 1 rfl (Nat.le_of_ble_eq_true rfl)
  refine o4 (fun u j => o12 X4245.here hx rfl (hb hby o48) rfl (l' := #[o1 ad0, o0 2, o1 ad1, o0 1, o0 15, o0 1, o0 101]) rfl (o12 X4245.here hx rfl (hb hby o49) rfl (l' := #[o1 ad0, o0 2, o1 ad1, o0 2, o0 15, o0 1, o0 101]) rfl (o12 X4245.here hx rfl (hb hby o50) rfl (l' := #[o1 ad0, o0 2, o1 ad1, o0 2, o0 15, o0 2, o0 101]) rfl (o15 X4245.here hx rfl (pc0 := 41) (pc' := 3) rfl (hb hby o51) (by decide) (by decide) (o8 X4245.here hx rfl (hb hby o28) rfl (o8 X4245.here hx rfl (hb hby o29) rfl j)))))) ?_
  show o11 p e below _ (T4245.setTop (mkF m 7 #[o1 ad0, o0 2, o1 ad1, o0 2, o0 15, o0 2, o0 101] [.int 15, .int 2]))
  refine o4 (fun u j => o14 X4245.here hx rfl (hb hby o30) rfl (o19 (by decide)) (o3 X4245.here hx rfl (hb hby o36) rfl rfl (o6 X4245.here hx rfl (hb hby o37) rfl j))) ?_
  have F4246 := (F4244.other W4245 ne4243)
  refine o4 (fun u j => o104 X4245 hx hZ e4245 F4246 (j := 2) (v := (.int 97)) (by decide) rfl rfl rfl (hb hby o38) (o20 X4245.here hx rfl (hb hby o39) rfl (l' := #[o1 ad0, o0 2, o1 ad1, o0 2, o0 15, o0 2, o0 97]) rfl (o8 X4245.here hx rfl (hb hby o40) rfl j))) ?_
  show o11 p e below _ (T4245.setTop (mkF m 17 #[o1 ad0, o0 2, o1 ad1, o0 2, o0 15, o0 2, o0 97] [.int 97]))
  refine o4 (fun u j => o33 X4245.here hx rfl (hb hby o41) (o13 X4245.here hx rfl (pc0 := 20) (pc' := 26) rfl (hb hby o42) rfl (o73 (by decide)) (by decide) (by decide) (o3 X4245.here hx rfl (hb hby o43) rfl rfl (o6 X4245.here hx rfl (hb hby o44) rfl (o8 X4245.here hx rfl (hb hby o45) rfl (o79 X4245.here hx rfl (hb hby o46) rfl j)))))) ?_
  show o11 p e below _ (T4245.setTop (mkF m 31 #[o1 ad0, o0 2, o1 ad1, o0 2, o0 15, o0 2, o0 97] [.int 97, .int 2, .ref ad1]))
  refine o32 (o101 X4245 hx hZ e4245 V4245 (j := 2) (by decide) rfl rfl (hb hby o47)) ?_
  intro T4247 h4247 X4247 e4247 W4247
  replace W4247 : Wr h4245 h4247 ad1 ((2 : Int32)).toNatClampNeg (.int 97) := W4247
  have N4247 := Fr.snoc X4247 N4245 pg_ad1
  have V4247 : Arv Z h4247 ad1 kc6 .byte 15 [.int 98, .int 101, .int 97, .int 0, .int 0, .int 0, .int 0, .int 0, .int 0, .int 0, .int 0, .int 0, .int 0, .int 0, .int 0] (.int 0) := o74 V4245 rfl W4247 2 rfl (Nat.le_of_ble_eq_true rfl)
  refine o4 (fun u j => o12 X4247.here hx rfl (hb hby o48) rfl (l' := #[o1 ad0, o0 3, o1 ad1, o0 2, o0 15, o0 2, o0 97]) rfl (o12 X4247.here hx rfl (hb hby o49) rfl (l' := #[o1 ad0, o0 3, o1 ad1, o0 3, o0 15, o0 2, o0 97]) rfl (o12 X4247.here hx rfl (hb hby o50) rfl (l' := #[o1 ad0, o0 3, o1 ad1, o0 3, o0 15, o0 3, o0 97]) rfl (o15 X4247.here hx rfl (pc0 := 41) (pc' := 3) rfl (hb hby o51) (by decide) (by decide) (o8 X4247.here hx rfl (hb hby o28) rfl (o8 X4247.here hx rfl (hb hby o29) rfl j)))))) ?_
  show o11 p e below _ (T4247.setTop (mkF m 7 #[o1 ad0, o0 3, o1 ad1, o0 3, o0 15, o0 3, o0 97] [.int 15, .int 3]))
  refine o4 (fun u j => o14 X4247.here hx rfl (hb hby o30) rfl (o19 (by decide)) (o3 X4247.here hx rfl (hb hby o36) rfl rfl (o6 X4247.here hx rfl (hb hby o37) rfl j))) ?_
  have F4248 := (F4246.other W4247 ne4243)
  refine o4 (fun u j => o104 X4247 hx hZ e4247 F4248 (j := 3) (v := (.int 110)) (by decide) rfl rfl rfl (hb hby o38) (o20 X4247.here hx rfl (hb hby o39) rfl (l' := #[o1 ad0, o0 3, o1 ad1, o0 3, o0 15, o0 3, o0 110]) rfl (o8 X4247.here hx rfl (hb hby o40) rfl j))) ?_
  show o11 p e below _ (T4247.setTop (mkF m 17 #[o1 ad0, o0 3, o1 ad1, o0 3, o0 15, o0 3, o0 110] [.int 110]))
  refine o4 (fun u j => o33 X4247.here hx rfl (hb hby o41) (o13 X4247.here hx rfl (pc0 := 20) (pc' := 26) rfl (hb hby o42) rfl (o73 (by decide)) (by decide) (by decide) (o3 X4247.here hx rfl (hb hby o43) rfl rfl (o6 X4247.here hx rfl (hb hby o44) rfl (o8 X4247.here hx rfl (hb hby o45) rfl (o79 X4247.here hx rfl (hb hby o46) rfl j)))))) ?_
  show o11 p e below _ (T4247.setTop (mkF m 31 #[o1 ad0, o0 3, o1 ad1, o0 3, o0 15, o0 3, o0 110] [.int 110, .int 3, .ref ad1]))
  refine o32 (o101 X4247 hx hZ e4247 V4247 (j := 3) (by decide) rfl rfl (hb hby o47)) ?_
  intro T4249 h4249 X4249 e4249 W4249
  replace W4249 : Wr h4247 h4249 ad1 ((3 : Int32)).toNatClampNeg (.int 110) := W4249
  have N4249 := Fr.snoc X4249 N4247 pg_ad1
  have V4249 : Arv Z h4249 ad1 kc6 .byte 15 [.int 98, .int 101, .int 97, .int 110, .int 0, .int 0, .int 0, .int 0, .int 0, .int 0, .int 0, .int 0, .int 0, .int 0, .int 0] (.int 0) := o74 V4247 rfl W4249 3 rfl (Nat.le_of_ble_eq_true rfl)
  refine o4 (fun u j => o12 X4249.here hx rfl (hb hby o48) rfl (l' := #[o1 ad0, o0 4, o1 ad1, o0 3, o0 15, o0 3, o0 110]) rfl (o12 X4249.here hx rfl (hb hby o49) rfl (l' := #[o1 ad0, o0 4, o1 ad1, o0 4, o0 15, o0 3, o0 110]) rfl (o12 X4249.here hx rfl (hb hby o50) rfl (l' := #[o1 ad0, o0 4, o1 ad1, o0 4, o0 15, o0 4, o0 110]) rfl (o15 X4249.here hx rfl (pc0 := 41) (pc' := 3) rfl (hb hby o51) (by decide) (by decide) (o8 X4249.here hx rfl (hb hby o28) rfl (o8 X4249.here hx rfl (hb hby o29) rfl j)))))) ?_
  show o11 p e below _ (T4249.setTop (mkF m 7 #[o1 ad0, o0 4, o1 ad1, o0 4, o0 15, o0 4, o0 110] [.int 15, .int 4]))
  refine o4 (fun u j => o14 X4249.here hx rfl (hb hby o30) rfl (o19 (by decide)) (o3 X4249.here hx rfl (hb hby o36) rfl rfl (o6 X4249.here hx rfl (hb hby o37) rfl j))) ?_
  have F4250 := (F4248.other W4249 ne4243)
  refine o4 (fun u j => o104 X4249 hx hZ e4249 F4250 (j := 4) (v := (.int 32)) (by decide) rfl rfl rfl (hb hby o38) (o20 X4249.here hx rfl (hb hby o39) rfl (l' := #[o1 ad0, o0 4, o1 ad1, o0 4, o0 15, o0 4, o0 32]) rfl (o8 X4249.here hx rfl (hb hby o40) rfl j))) ?_
  show o11 p e below _ (T4249.setTop (mkF m 17 #[o1 ad0, o0 4, o1 ad1, o0 4, o0 15, o0 4, o0 32] [.int 32]))
  refine o4 (fun u j => o33 X4249.here hx rfl (hb hby o41) (o13 X4249.here hx rfl (pc0 := 20) (pc' := 26) rfl (hb hby o42) rfl (o73 (by decide)) (by decide) (by decide) (o3 X4249.here hx rfl (hb hby o43) rfl rfl (o6 X4249.here hx rfl (hb hby o44) rfl (o8 X4249.here hx rfl (hb hby o45) rfl (o79 X4249.here hx rfl (hb hby o46) rfl j)))))) ?_
  show o11 p e below _ (T4249.setTop (mkF m 31 #[o1 ad0, o0 4, o1 ad1, o0 4, o0 15, o0 4, o0 32] [.int 32, .int 4, .ref ad1]))
  refine o32 (o101 X4249 hx hZ e4249 V4249 (j := 4) (by decide) rfl rfl (hb hby o47)) ?_
  intro T4251 h4251 X4251 e4251 W4251
  replace W4251 : Wr h4249 h4251 ad1 ((4 : Int32)).toNatClampNeg (.int 32) := W4251
  have N4251 := Fr.snoc X4251 N4249 pg_ad1
  have V4251 : Arv Z h4251 ad1 kc6 .byte 15 [.int 98, .int 101, .int 97, .int 110, .int 32, .int 0, .int 0, .int 0, .int 0, .int 0, .int 0, .int 0, .int 0, .int 0, .int 0] (.int 0) := o74 V4249 rfl W4251 4 rfl (Nat.le_of_ble_eq_true rfl)
  refine o4 (fun u j => o12 X4251.here hx rfl (hb hby o48) rfl (l' := #[o1 ad0, o0 5, o1 ad1, o0 4, o0 15, o0 4, o0 32]) rfl (o12 X4251.here hx rfl (hb hby o49) rfl (l' := #[o1 ad0, o0 5, o1 ad1, o0 5, o0 15, o0 4, o0 32]) rfl (o12 X4251.here hx rfl (hb hby o50) rfl (l' := #[o1 ad0, o0 5, o1 ad1, o0 5, o0 15, o0 5, o0 32]) rfl (o15 X4251.here hx rfl (pc0 := 41) (pc' := 3) rfl (hb hby o51) (by decide) (by decide) (o8 X4251.here hx rfl (hb hby o28) rfl (o8 X4251.here hx rfl (hb hby o29) rfl j)))))) ?_
  show o11 p e below _ (T4251.setTop (mkF m 7 #[o1 ad0, o0 5, o1 ad1, o0 5, o0 15, o0 5, o0 32] [.int 15, .int 5]))
  refine o4 (fun u j => o14 X4251.here hx rfl (hb hby o30) rfl (o19 (by decide)) (o3 X4251.here hx rfl (hb hby o36) rfl rfl (o6 X4251.here hx rfl (hb hby o37) rfl j))) ?_
  have F4252 := (F4250.other W4251 ne4243)
  refine o4 (fun u j => o104 X4251 hx hZ e4251 F4252 (j := 5) (v := (.int 39)) (by decide) rfl rfl rfl (hb hby o38) (o20 X4251.here hx rfl (hb hby o39) rfl (l' := #[o1 ad0, o0 5, o1 ad1, o0 5, o0 15, o0 5, o0 39]) rfl (o8 X4251.here hx rfl (hb hby o40) rfl j))) ?_
  show o11 p e below _ (T4251.setTop (mkF m 17 #[o1 ad0, o0 5, o1 ad1, o0 5, o0 15, o0 5, o0 39] [.int 39]))
  refine o4 (fun u j => o33 X4251.here hx rfl (hb hby o41) (o13 X4251.here hx rfl (pc0 := 20) (pc' := 26) rfl (hb hby o42) rfl (o73 (by decide)) (by decide) (by decide) (o3 X4251.here hx rfl (hb hby o43) rfl rfl (o6 X4251.here hx rfl (hb hby o44) rfl (o8 X4251.here hx rfl (hb hby o45) rfl (o79 X4251.here hx rfl (hb hby o46) rfl j)))))) ?_
  show o11 p e below _ (T4251.setTop (mkF m 31 #[o1 ad0, o0 5, o1 ad1, o0 5, o0 15, o0 5, o0 39] [.int 39, .int 5, .ref ad1]))
  refine o32 (o101 X4251 hx hZ e4251 V4251 (j := 5) (by decide) rfl rfl (hb hby o47)) ?_
  intro T4253 h4253 X4253 e4253 W4253
  replace W4253 : Wr h4251 h4253 ad1 ((5 : Int32)).toNatClampNeg (.int 39) := W4253
  have N4253 := Fr.snoc X4253 N4251 pg_ad1
  have V4253 : Arv Z h4253 ad1 kc6 .byte 15 [.int 98, .int 101, .int 97, .int 110, .int 32, .int 39, .int 0, .int 0, .int 0, .int 0, .int 0, .int 0, .int 0, .int 0, .int 0] (.int 0) := o74 V4251 rfl W4253 5 rfl (Nat.le_of_ble_eq_true rfl)
  refine o4 (fun u j => o12 X4253.here hx rfl (hb hby o48) rfl (l' := #[o1 ad0, o0 6, o1 ad1, o0 5, o0 15, o0 5, o0 39]) rfl (o12 X4253.here hx rfl (hb hby o49) rfl (l' := #[o1 ad0, o0 6, o1 ad1, o0 6, o0 15, o0 5, o0 39]) rfl (o12 X4253.here hx rfl (hb hby o50) rfl (l' := #[o1 ad0, o0 6, o1 ad1, o0 6, o0 15, o0 6, o0 39]) rfl (o15 X4253.here hx rfl (pc0 := 41) (pc' := 3) rfl (hb hby o51) (by decide) (by decide) (o8 X4253.here hx rfl (hb hby o28) rfl (o8 X4253.here hx rfl (hb hby o29) rfl j)))))) ?_
  show o11 p e below _ (T4253.setTop (mkF m 7 #[o1 ad0, o0 6, o1 ad1, o0 6, o0 15, o0 6, o0 39] [.int 15, .int 6]))
  refine o4 (fun u j => o14 X4253.here hx rfl (hb hby o30) rfl (o19 (by decide)) (o3 X4253.here hx rfl (hb hby o36) rfl rfl (o6 X4253.here hx rfl (hb hby o37) rfl j))) ?_
  have F4254 := (F4252.other W4253 ne4243)
  refine o4 (fun u j => o104 X4253 hx hZ e4253 F4254 (j := 6) (v := (.int iv3)) (by decide) rfl rfl rfl (hb hby o38) (o20 X4253.here hx rfl (hb hby o39) rfl (l' := #[o1 ad0, o0 6, o1 ad1, o0 6, o0 15, o0 6, o0 iv3]) rfl (o8 X4253.here hx rfl (hb hby o40) rfl j))) ?_
  show o11 p e below _ (T4253.setTop (mkF m 17 #[o1 ad0, o0 6, o1 ad1, o0 6, o0 15, o0 6, o0 iv3] [.int iv3]))
  refine o4 (fun u j => o33 X4253.here hx rfl (hb hby o41) (o13 X4253.here hx rfl (pc0 := 20) (pc' := 26) rfl (hb hby o42) rfl (o73 pk5) (by decide) (by decide) (o3 X4253.here hx rfl (hb hby o43) rfl rfl (o6 X4253.here hx rfl (hb hby o44) rfl (o8 X4253.here hx rfl (hb hby o45) rfl (o79 X4253.here hx rfl (hb hby o46) rfl j)))))) ?_
  show o11 p e below _ (T4253.setTop (mkF m 31 #[o1 ad0, o0 6, o1 ad1, o0 6, o0 15, o0 6, o0 iv3] [(.int (iv3.toInt8.toInt32)), .int 6, .ref ad1]))
  refine o32 (o101 X4253 hx hZ e4253 V4253 (j := 6) (by decide) rfl rfl (hb hby o47)) ?_
  intro T4255 h4255 X4255 e4255 W4255
  rw [o426] at W4255
  have N4255 := Fr.snoc X4255 N4253 pg_ad1
  have V4255 : Arv Z h4255 ad1 kc6 .byte 15 [.int 98, .int 101, .int 97, .int 110, .int 32, .int 39, (.int (iv3.toInt8.toInt32)), .int 0, .int 0, .int 0, .int 0, .int 0, .int 0, .int 0, .int 0] (.int 0) := o74 V4253 (fits_nar_byte _) W4255 6 rfl (Nat.le_of_ble_eq_true rfl)
  refine o4 (fun u j => o12 X4255.here hx rfl (hb hby o48) rfl (l' := #[o1 ad0, o0 7, o1 ad1, o0 6, o0 15, o0 6, o0 iv3]) rfl (o12 X4255.here hx rfl (hb hby o49) rfl (l' := #[o1 ad0, o0 7, o1 ad1, o0 7, o0 15, o0 6, o0 iv3]) rfl (o12 X4255.here hx rfl (hb hby o50) rfl (l' := #[o1 ad0, o0 7, o1 ad1, o0 7, o0 15, o0 7, o0 iv3]) rfl (o15 X4255.here hx rfl (pc0 := 41) (pc' := 3) rfl (hb hby o51) (by decide) (by decide) (o8 X4255.here hx rfl (hb hby o28) rfl (o8 X4255.here hx rfl (hb hby o29) rfl j)))))) ?_
  show o11 p e below _ (T4255.setTop (mkF m 7 #[o1 ad0, o0 7, o1 ad1, o0 7, o0 15, o0 7, o0 iv3] [.int 15, .int 7]))
  refine o4 (fun u j => o14 X4255.here hx rfl (hb hby o30) rfl (o19 (by decide)) (o3 X4255.here hx rfl (hb hby o36) rfl rfl (o6 X4255.here hx rfl (hb hby o37) rfl j))) ?_
  have F4256 := (F4254.other W4255 ne4243)
  refine o4 (fun u j => o104 X4255 hx hZ e4255 F4256 (j := 7) (v := (.int 39)) (by decide) rfl rfl rfl (hb hby o38) (o20 X4255.here hx rfl (hb hby o39) rfl (l' := #[o1 ad0, o0 7, o1 ad1, o0 7, o0 15, o0 7, o0 39]) rfl (o8 X4255.here hx rfl (hb hby o40) rfl j))) ?_
  show o11 p e below _ (T4255.setTop (mkF m 17 #[o1 ad0, o0 7, o1 ad1, o0 7, o0 15, o0 7, o0 39] [.int 39]))
  refine o4 (fun u j => o33 X4255.here hx rfl (hb hby o41) (o13 X4255.here hx rfl (pc0 := 20) (pc' := 26) rfl (hb hby o42) rfl (o73 (by decide)) (by decide) (by decide) (o3 X4255.here hx rfl (hb hby o43) rfl rfl (o6 X4255.here hx rfl (hb hby o44) rfl (o8 X4255.here hx rfl (hb hby o45) rfl (o79 X4255.here hx rfl (hb hby o46) rfl j)))))) ?_
  show o11 p e below _ (T4255.setTop (mkF m 31 #[o1 ad0, o0 7, o1 ad1, o0 7, o0 15, o0 7, o0 39] [.int 39, .int 7, .ref ad1]))
  refine o32 (o101 X4255 hx hZ e4255 V4255 (j := 7) (by decide) rfl rfl (hb hby o47)) ?_
  intro T4257 h4257 X4257 e4257 W4257
  replace W4257 : Wr h4255 h4257 ad1 ((7 : Int32)).toNatClampNeg (.int 39) := W4257
  have N4257 := Fr.snoc X4257 N4255 pg_ad1
  have V4257 : Arv Z h4257 ad1 kc6 .byte 15 [.int 98, .int 101, .int 97, .int 110, .int 32, .int 39, (.int (iv3.toInt8.toInt32)), .int 39, .int 0, .int 0, .int 0, .int 0, .int 0, .int 0, .int 0] (.int 0) := o74 V4255 rfl W4257 7 rfl (Nat.le_of_ble_eq_true rfl)
  refine o4 (fun u j => o12 X4257.here hx rfl (hb hby o48) rfl (l' := #[o1 ad0, o0 8, o1 ad1, o0 7, o0 15, o0 7, o0 39]) rfl (o12 X4257.here hx rfl (hb hby o49) rfl (l' := #[o1 ad0, o0 8, o1 ad1, o0 8, o0 15, o0 7, o0 39]) rfl (o12 X4257.here hx rfl (hb hby o50) rfl (l' := #[o1 ad0, o0 8, o1 ad1, o0 8, o0 15, o0 8, o0 39]) rfl (o15 X4257.here hx rfl (pc0 := 41) (pc' := 3) rfl (hb hby o51) (by decide) (by decide) (o8 X4257.here hx rfl (hb hby o28) rfl (o8 X4257.here hx rfl (hb hby o29) rfl j)))))) ?_
  show o11 p e below _ (T4257.setTop (mkF m 7 #[o1 ad0, o0 8, o1 ad1, o0 8, o0 15, o0 8, o0 39] [.int 15, .int 8]))
  refine o4 (fun u j => o14 X4257.here hx rfl (hb hby o30) rfl (o19 (by decide)) (o3 X4257.here hx rfl (hb hby o36) rfl rfl (o6 X4257.here hx rfl (hb hby o37) rfl j))) ?_
  have F4258 := (F4256.other W4257 ne4243)
  refine o4 (fun u j => o104 X4257 hx hZ e4257 F4258 (j := 8) (v := (.int 58)) (by decide) rfl rfl rfl (hb hby o38) (o20 X4257.here hx rfl (hb hby o39) rfl (l' := #[o1 ad0, o0 8, o1 ad1, o0 8, o0 15, o0 8, o0 58]) rfl (o8 X4257.here hx rfl (hb hby o40) rfl j))) ?_
  show o11 p e below _ (T4257.setTop (mkF m 17 #[o1 ad0, o0 8, o1 ad1, o0 8, o0 15, o0 8, o0 58] [.int 58]))
  refine o4 (fun u j => o33 X4257.here hx rfl (hb hby o41) (o13 X4257.here hx rfl (pc0 := 20) (pc' := 26) rfl (hb hby o42) rfl (o73 (by decide)) (by decide) (by decide) (o3 X4257.here hx rfl (hb hby o43) rfl rfl (o6 X4257.here hx rfl (hb hby o44) rfl (o8 X4257.here hx rfl (hb hby o45) rfl (o79 X4257.here hx rfl (hb hby o46) rfl j)))))) ?_
  show o11 p e below _ (T4257.setTop (mkF m 31 #[o1 ad0, o0 8, o1 ad1, o0 8, o0 15, o0 8, o0 58] [.int 58, .int 8, .ref ad1]))
  refine o32 (o101 X4257 hx hZ e4257 V4257 (j := 8) (by decide) rfl rfl (hb hby o47)) ?_
  intro T4259 h4259 X4259 e4259 W4259
  replace W4259 : Wr h4257 h4259 ad1 ((8 : Int32)).toNatClampNeg (.int 58) := W4259
  have N4259 := Fr.snoc X4259 N4257 pg_ad1
  have V4259 : Arv Z h4259 ad1 kc6 .byte 15 [.int 98, .int 101, .int 97, .int 110, .int 32, .int 39, (.int (iv3.toInt8.toInt32)), .int 39, .int 58, .int 0, .int 0, .int 0, .int 0, .int 0, .int 0] (.int 0) := o74 V4257 rfl W4259 8 rfl (Nat.le_of_ble_eq_true rfl)
  refine o4 (fun u j => o12 X4259.here hx rfl (hb hby o48) rfl (l' := #[o1 ad0, o0 9, o1 ad1, o0 8, o0 15, o0 8, o0 58]) rfl (o12 X4259.here hx rfl (hb hby o49) rfl (l' := #[o1 ad0, o0 9, o1 ad1, o0 9, o0 15, o0 8, o0 58]) rfl (o12 X4259.here hx rfl (hb hby o50) rfl (l' := #[o1 ad0, o0 9, o1 ad1, o0 9, o0 15, o0 9, o0 58]) rfl (o15 X4259.here hx rfl (pc0 := 41) (pc' := 3) rfl (hb hby o51) (by decide) (by decide) (o8 X4259.here hx rfl (hb hby o28) rfl (o8 X4259.here hx rfl (hb hby o29) rfl j)))))) ?_
  show o11 p e below _ (T4259.setTop (mkF m 7 #[o1 ad0, o0 9, o1 ad1, o0 9, o0 15, o0 9, o0 58] [.int 15, .int 9]))
  refine o4 (fun u j => o14 X4259.here hx rfl (hb hby o30) rfl (o19 (by decide)) (o3 X4259.here hx rfl (hb hby o36) rfl rfl (o6 X4259.here hx rfl (hb hby o37) rfl j))) ?_
  have F4260 := (F4258.other W4259 ne4243)
  refine o4 (fun u j => o104 X4259 hx hZ e4259 F4260 (j := 9) (v := (.int 32)) (by decide) rfl rfl rfl (hb hby o38) (o20 X4259.here hx rfl (hb hby o39) rfl (l' := #[o1 ad0, o0 9, o1 ad1, o0 9, o0 15, o0 9, o0 32]) rfl (o8 X4259.here hx rfl (hb hby o40) rfl j))) ?_
  show o11 p e below _ (T4259.setTop (mkF m 17 #[o1 ad0, o0 9, o1 ad1, o0 9, o0 15, o0 9, o0 32] [.int 32]))
  refine o4 (fun u j => o33 X4259.here hx rfl (hb hby o41) (o13 X4259.here hx rfl (pc0 := 20) (pc' := 26) rfl (hb hby o42) rfl (o73 (by decide)) (by decide) (by decide) (o3 X4259.here hx rfl (hb hby o43) rfl rfl (o6 X4259.here hx rfl (hb hby o44) rfl (o8 X4259.here hx rfl (hb hby o45) rfl (o79 X4259.here hx rfl (hb hby o46) rfl j)))))) ?_
  show o11 p e below _ (T4259.setTop (mkF m 31 #[o1 ad0, o0 9, o1 ad1, o0 9, o0 15, o0 9, o0 32] [.int 32, .int 9, .ref ad1]))
  refine o32 (o101 X4259 hx hZ e4259 V4259 (j := 9) (by decide) rfl rfl (hb hby o47)) ?_
  intro T4261 h4261 X4261 e4261 W4261
  replace W4261 : Wr h4259 h4261 ad1 ((9 : Int32)).toNatClampNeg (.int 32) := W4261
  have N4261 := Fr.snoc X4261 N4259 pg_ad1
  have V4261 : Arv Z h4261 ad1 kc6 .byte 15 [.int 98, .int 101, .int 97, .int 110, .int 32, .int 39, (.int (iv3.toInt8.toInt32)), .int 39, .int 58, .int 32, .int 0, .int 0, .int 0, .int 0, .int 0] (.int 0) := o74 V4259 rfl W4261 9 rfl (Nat.le_of_ble_eq_true rfl)
  refine o4 (fun u j => o12 X4261.here hx rfl (hb hby o48) rfl (l' := #[o1 ad0, o0 10, o1 ad1, o0 9, o0 15, o0 9, o0 32]) rfl (o12 X4261.here hx rfl (hb hby o49) rfl (l' := #[o1 ad0, o0 10, o1 ad1, o0 10, o0 15, o0 9, o0 32]) rfl (o12 X4261.here hx rfl (hb hby o50) rfl (l' := #[o1 ad0, o0 10, o1 ad1, o0 10, o0 15, o0 10, o0 32]) rfl (o15 X4261.here hx rfl (pc0 := 41) (pc' := 3) rfl (hb hby o51) (by decide) (by decide) (o8 X4261.here hx rfl (hb hby o28) rfl (o8 X4261.here hx rfl (hb hby o29) rfl j)))))) ?_
  show o11 p e below _ (T4261.setTop (mkF m 7 #[o1 ad0, o0 10, o1 ad1, o0 10, o0 15, o0 10, o0 32] [.int 15, .int 10]))
  refine o4 (fun u j => o14 X4261.here hx rfl (hb hby o30) rfl (o19 (by decide)) (o3 X4261.here hx rfl (hb hby o36) rfl rfl (o6 X4261.here hx rfl (hb hby o37) rfl j))) ?_
  have F4262 := (F4260.other W4261 ne4243)
  refine o4 (fun u j => o104 X4261 hx hZ e4261 F4262 (j := 10) (v := (.int iv4)) (by decide) rfl rfl rfl (hb hby o38) (o20 X4261.here hx rfl (hb hby o39) rfl (l' := #[o1 ad0, o0 10, o1 ad1, o0 10, o0 15, o0 10, o0 iv4]) rfl (o8 X4261.here hx rfl (hb hby o40) rfl j))) ?_
  show o11 p e below _ (T4261.setTop (mkF m 17 #[o1 ad0, o0 10, o1 ad1, o0 10, o0 15, o0 10, o0 iv4] [.int iv4]))
  refine o4 (fun u j => o33 X4261.here hx rfl (hb hby o41) (o13 X4261.here hx rfl (pc0 := 20) (pc' := 26) rfl (hb hby o42) rfl (o73 pk6) (by decide) (by decide) (o3 X4261.here hx rfl (hb hby o43) rfl rfl (o6 X4261.here hx rfl (hb hby o44) rfl (o8 X4261.here hx rfl (hb hby o45) rfl (o79 X4261.here hx rfl (hb hby o46) rfl j)))))) ?_
  show o11 p e below _ (T4261.setTop (mkF m 31 #[o1 ad0, o0 10, o1 ad1, o0 10, o0 15, o0 10, o0 iv4] [(.int (iv4.toInt8.toInt32)), .int 10, .ref ad1]))
  refine o32 (o101 X4261 hx hZ e4261 V4261 (j := 10) (by decide) rfl rfl (hb hby o47)) ?_
  intro T4263 h4263 X4263 e4263 W4263
  rw [o426] at W4263
  have N4263 := Fr.snoc X4263 N4261 pg_ad1
  have V4263 : Arv Z h4263 ad1 kc6 .byte 15 [.int 98, .int 101, .int 97, .int 110, .int 32, .int 39, (.int (iv3.toInt8.toInt32)), .int 39, .int 58, .int 32, (.int (iv4.toInt8.toInt32)), .int 0, .int 0, .int 0, .int 0] (.int 0) := o74 V4261 (fits_nar_byte _) W4263 10 rfl (Nat.le_of_ble_eq_true rfl)
  refine o4 (fun u j => o12 X4263.here hx rfl (hb hby o48) rfl (l' := #[o1 ad0, o0 11, o1 ad1, o0 10, o0 15, o0 10, o0 iv4]) rfl (o12 X4263.here hx rfl (hb hby o49) rfl (l' := #[o1 ad0, o0 11, o1 ad1, o0 11, o0 15, o0 10, o0 iv4]) rfl (o12 X4263.here hx rfl (hb hby o50) rfl (l' := #[o1 ad0, o0 11, o1 ad1, o0 11, o0 15, o0 11, o0 iv4]) rfl (o15 X4263.here hx rfl (pc0 := 41) (pc' := 3) rfl (hb hby o51) (by decide) (by decide) (o8 X4263.here hx rfl (hb hby o28) rfl (o8 X4263.here hx rfl (hb hby o29) rfl j)))))) ?_
  show o11 p e below _ (T4263.setTop (mkF m 7 #[o1 ad0, o0 11, o1 ad1, o0 11, o0 15, o0 11, o0 iv4] [.int 15, .int 11]))
  refine o4 (fun u j => o14 X4263.here hx rfl (hb hby o30) rfl (o19 (by decide)) (o3 X4263.here hx rfl (hb hby o36) rfl rfl (o6 X4263.here hx rfl (hb hby o37) rfl j))) ?_
  have F4264 := (F4262.other W4263 ne4243)
  refine o4 (fun u j => o104 X4263 hx hZ e4263 F4264 (j := 11) (v := (.int 32)) (by decide) rfl rfl rfl (hb hby o38) (o20 X4263.here hx rfl (hb hby o39) rfl (l' := #[o1 ad0, o0 11, o1 ad1, o0 11, o0 15, o0 11, o0 32]) rfl (o8 X4263.here hx rfl (hb hby o40) rfl j))) ?_
  show o11 p e below _ (T4263.setTop (mkF m 17 #[o1 ad0, o0 11, o1 ad1, o0 11, o0 15, o0 11, o0 32] [.int 32]))
  refine o4 (fun u j => o33 X4263.here hx rfl (hb hby o41) (o13 X4263.here hx rfl (pc0 := 20) (pc' := 26) rfl (hb hby o42) rfl (o73 (by decide)) (by decide) (by decide) (o3 X4263.here hx rfl (hb hby o43) rfl rfl (o6 X4263.here hx rfl (hb hby o44) rfl (o8 X4263.here hx rfl (hb hby o45) rfl (o79 X4263.here hx rfl (hb hby o46) rfl j)))))) ?_
  show o11 p e below _ (T4263.setTop (mkF m 31 #[o1 ad0, o0 11, o1 ad1, o0 11, o0 15, o0 11, o0 32] [.int 32, .int 11, .ref ad1]))
  refine o32 (o101 X4263 hx hZ e4263 V4263 (j := 11) (by decide) rfl rfl (hb hby o47)) ?_
  intro T4265 h4265 X4265 e4265 W4265
  replace W4265 : Wr h4263 h4265 ad1 ((11 : Int32)).toNatClampNeg (.int 32) := W4265
  have N4265 := Fr.snoc X4265 N4263 pg_ad1
  have V4265 : Arv Z h4265 ad1 kc6 .byte 15 [.int 98, .int 101, .int 97, .int 110, .int 32, .int 39, (.int (iv3.toInt8.toInt32)), .int 39, .int 58, .int 32, (.int (iv4.toInt8.toInt32)), .int 32, .int 0, .int 0, .int 0] (.int 0) := o74 V4263 rfl W4265 11 rfl (Nat.le_of_ble_eq_true rfl)
  refine o4 (fun u j => o12 X4265.here hx rfl (hb hby o48) rfl (l' := #[o1 ad0, o0 12, o1 ad1, o0 11, o0 15, o0 11, o0 32]) rfl (o12 X4265.here hx rfl (hb hby o49) rfl (l' := #[o1 ad0, o0 12, o1 ad1, o0 12, o0 15, o0 11, o0 32]) rfl (o12 X4265.here hx rfl (hb hby o50) rfl (l' := #[o1 ad0, o0 12, o1 ad1, o0 12, o0 15, o0 12, o0 32]) rfl (o15 X4265.here hx rfl (pc0 := 41) (pc' := 3) rfl (hb hby o51) (by decide) (by decide) (o8 X4265.here hx rfl (hb hby o28) rfl (o8 X4265.here hx rfl (hb hby o29) rfl j)))))) ?_
  show o11 p e below _ (T4265.setTop (mkF m 7 #[o1 ad0, o0 12, o1 ad1, o0 12, o0 15, o0 12, o0 32] [.int 15, .int 12]))
  refine o4 (fun u j => o14 X4265.here hx rfl (hb hby o30) rfl (o19 (by decide)) (o3 X4265.here hx rfl (hb hby o36) rfl rfl (o6 X4265.here hx rfl (hb hby o37) rfl j))) ?_
  have F4266 := (F4264.other W4265 ne4243)
  refine o4 (fun u j => o104 X4265 hx hZ e4265 F4266 (j := 12) (v := (.int 39)) (by decide) rfl rfl rfl (hb hby o38) (o20 X4265.here hx rfl (hb hby o39) rfl (l' := #[o1 ad0, o0 12, o1 ad1, o0 12, o0 15, o0 12, o0 39]) rfl (o8 X4265.here hx rfl (hb hby o40) rfl j))) ?_
  show o11 p e below _ (T4265.setTop (mkF m 17 #[o1 ad0, o0 12, o1 ad1, o0 12, o0 15, o0 12, o0 39] [.int 39]))
  refine o4 (fun u j => o33 X4265.here hx rfl (hb hby o41) (o13 X4265.here hx rfl (pc0 := 20) (pc' := 26) rfl (hb hby o42) rfl (o73 (by decide)) (by decide) (by decide) (o3 X4265.here hx rfl (hb hby o43) rfl rfl (o6 X4265.here hx rfl (hb hby o44) rfl (o8 X4265.here hx rfl (hb hby o45) rfl (o79 X4265.here hx rfl (hb hby o46) rfl j)))))) ?_
  show o11 p e below _ (T4265.setTop (mkF m 31 #[o1 ad0, o0 12, o1 ad1, o0 12, o0 15, o0 12, o0 39] [.int 39, .int 12, .ref ad1]))
  refine o32 (o101 X4265 hx hZ e4265 V4265 (j := 12) (by decide) rfl rfl (hb hby o47)) ?_
  intro T4267 h4267 X4267 e4267 W4267
  replace W4267 : Wr h4265 h4267 ad1 ((12 : Int32)).toNatClampNeg (.int 39) := W4267
  have N4267 := Fr.snoc X4267 N4265 pg_ad1
  have V4267 : Arv Z h4267 ad1 kc6 .byte 15 [.int 98, .int 101, .int 97, .int 110, .int 32, .int 39, (.int (iv3.toInt8.toInt32)), .int 39, .int 58, .int 32, (.int (iv4.toInt8.toInt32)), .int 32, .int 39, .int 0, .int 0] (.int 0) := o74 V4265 rfl W4267 12 rfl (Nat.le_of_ble_eq_true rfl)
  refine o4 (fun u j => o12 X4267.here hx rfl (hb hby o48) rfl (l' := #[o1 ad0, o0 13, o1 ad1, o0 12, o0 15, o0 12, o0 39]) rfl (o12 X4267.here hx rfl (hb hby o49) rfl (l' := #[o1 ad0, o0 13, o1 ad1, o0 13, o0 15, o0 12, o0 39]) rfl (o12 X4267.here hx rfl (hb hby o50) rfl (l' := #[o1 ad0, o0 13, o1 ad1, o0 13, o0 15, o0 13, o0 39]) rfl (o15 X4267.here hx rfl (pc0 := 41) (pc' := 3) rfl (hb hby o51) (by decide) (by decide) (o8 X4267.here hx rfl (hb hby o28) rfl (o8 X4267.here hx rfl (hb hby o29) rfl j)))))) ?_
  show o11 p e below _ (T4267.setTop (mkF m 7 #[o1 ad0, o0 13, o1 ad1, o0 13, o0 15, o0 13, o0 39] [.int 15, .int 13]))
  refine o4 (fun u j => o14 X4267.here hx rfl (hb hby o30) rfl (o19 (by decide)) (o3 X4267.here hx rfl (hb hby o36) rfl rfl (o6 X4267.here hx rfl (hb hby o37) rfl j))) ?_
  have F4268 := (F4266.other W4267 ne4243)
  refine o4 (fun u j => o104 X4267 hx hZ e4267 F4268 (j := 13) (v := (.int iv5)) (by decide) rfl rfl rfl (hb hby o38) (o20 X4267.here hx rfl (hb hby o39) rfl (l' := #[o1 ad0, o0 13, o1 ad1, o0 13, o0 15, o0 13, o0 iv5]) rfl (o8 X4267.here hx rfl (hb hby o40) rfl j))) ?_
  show o11 p e below _ (T4267.setTop (mkF m 17 #[o1 ad0, o0 13, o1 ad1, o0 13, o0 15, o0 13, o0 iv5] [.int iv5]))
  refine o4 (fun u j => o33 X4267.here hx rfl (hb hby o41) (o13 X4267.here hx rfl (pc0 := 20) (pc' := 26) rfl (hb hby o42) rfl (o73 pk7) (by decide) (by decide) (o3 X4267.here hx rfl (hb hby o43) rfl rfl (o6 X4267.here hx rfl (hb hby o44) rfl (o8 X4267.here hx rfl (hb hby o45) rfl (o79 X4267.here hx rfl (hb hby o46) rfl j)))))) ?_
  show o11 p e below _ (T4267.setTop (mkF m 31 #[o1 ad0, o0 13, o1 ad1, o0 13, o0 15, o0 13, o0 iv5] [(.int (iv5.toInt8.toInt32)), .int 13, .ref ad1]))
  refine o32 (o101 X4267 hx hZ e4267 V4267 (j := 13) (by decide) rfl rfl (hb hby o47)) ?_
  intro T4269 h4269 X4269 e4269 W4269
  rw [o426] at W4269
  have N4269 := Fr.snoc X4269 N4267 pg_ad1
  have V4269 : Arv Z h4269 ad1 kc6 .byte 15 [.int 98, .int 101, .int 97, .int 110, .int 32, .int 39, (.int (iv3.toInt8.toInt32)), .int 39, .int 58, .int 32, (.int (iv4.toInt8.toInt32)), .int 32, .int 39, (.int (iv5.toInt8.toInt32)), .int 0] (.int 0) := o74 V4267 (fits_nar_byte _) W4269 13 rfl (Nat.le_of_ble_eq_true rfl)
  refine o4 (fun u j => o12 X4269.here hx rfl (hb hby o48) rfl (l' := #[o1 ad0, o0 14, o1 ad1, o0 13, o0 15, o0 13, o0 iv5]) rfl (o12 X4269.here hx rfl (hb hby o49) rfl (l' := #[o1 ad0, o0 14, o1 ad1, o0 14, o0 15, o0 13, o0 iv5]) rfl (o12 X4269.here hx rfl (hb hby o50) rfl (l' := #[o1 ad0, o0 14, o1 ad1, o0 14, o0 15, o0 14, o0 iv5]) rfl (o15 X4269.here hx rfl (pc0 := 41) (pc' := 3) rfl (hb hby o51) (by decide) (by decide) (o8 X4269.here hx rfl (hb hby o28) rfl (o8 X4269.here hx rfl (hb hby o29) rfl j)))))) ?_
  show o11 p e below _ (T4269.setTop (mkF m 7 #[o1 ad0, o0 14, o1 ad1, o0 14, o0 15, o0 14, o0 iv5] [.int 15, .int 14]))
  refine o4 (fun u j => o14 X4269.here hx rfl (hb hby o30) rfl (o19 (by decide)) (o3 X4269.here hx rfl (hb hby o36) rfl rfl (o6 X4269.here hx rfl (hb hby o37) rfl j))) ?_
  have F4270 := (F4268.other W4269 ne4243)
  refine o4 (fun u j => o104 X4269 hx hZ e4269 F4270 (j := 14) (v := (.int 39)) (by decide) rfl rfl rfl (hb hby o38) (o20 X4269.here hx rfl (hb hby o39) rfl (l' := #[o1 ad0, o0 14, o1 ad1, o0 14, o0 15, o0 14, o0 39]) rfl (o8 X4269.here hx rfl (hb hby o40) rfl j))) ?_
  show o11 p e below _ (T4269.setTop (mkF m 17 #[o1 ad0, o0 14, o1 ad1, o0 14, o0 15, o0 14, o0 39] [.int 39]))
  refine o4 (fun u j => o33 X4269.here hx rfl (hb hby o41) (o13 X4269.here hx rfl (pc0 := 20) (pc' := 26) rfl (hb hby o42) rfl (o73 (by decide)) (by decide) (by decide) (o3 X4269.here hx rfl (hb hby o43) rfl rfl (o6 X4269.here hx rfl (hb hby o44) rfl (o8 X4269.here hx rfl (hb hby o45) rfl (o79 X4269.here hx rfl (hb hby o46) rfl j)))))) ?_
  show o11 p e below _ (T4269.setTop (mkF m 31 #[o1 ad0, o0 14, o1 ad1, o0 14, o0 15, o0 14, o0 39] [.int 39, .int 14, .ref ad1]))
  refine o32 (o101 X4269 hx hZ e4269 V4269 (j := 14) (by decide) rfl rfl (hb hby o47)) ?_
  intro T4271 h4271 X4271 e4271 W4271
  replace W4271 : Wr h4269 h4271 ad1 ((14 : Int32)).toNatClampNeg (.int 39) := W4271
  have N4271 := Fr.snoc X4271 N4269 pg_ad1
  have V4271 : Arv Z h4271 ad1 kc6 .byte 15 [.int 98, .int 101, .int 97, .int 110, .int 32, .int 39, (.int (iv3.toInt8.toInt32)), .int 39, .int 58, .int 32, (.int (iv4.toInt8.toInt32)), .int 32, .int 39, (.int (iv5.toInt8.toInt32)), .int 39] (.int 0) := o74 V4269 rfl W4271 14 rfl (Nat.le_of_ble_eq_true rfl)
  refine o4 (fun u j => o12 X4271.here hx rfl (hb hby o48) rfl (l' := #[o1 ad0, o0 15, o1 ad1, o0 14, o0 15, o0 14, o0 39]) rfl (o12 X4271.here hx rfl (hb hby o49) rfl (l' := #[o1 ad0, o0 15, o1 ad1, o0 15, o0 15, o0 14, o0 39]) rfl (o12 X4271.here hx rfl (hb hby o50) rfl (l' := #[o1 ad0, o0 15, o1 ad1, o0 15, o0 15, o0 15, o0 39]) rfl (o15 X4271.here hx rfl (pc0 := 41) (pc' := 3) rfl (hb hby o51) (by decide) (by decide) (o8 X4271.here hx rfl (hb hby o28) rfl (o8 X4271.here hx rfl (hb hby o29) rfl j)))))) ?_
  show o11 p e below _ (T4271.setTop (mkF m 7 #[o1 ad0, o0 15, o1 ad1, o0 15, o0 15, o0 15, o0 39] [.int 15, .int 15]))
  refine o4 (fun u j => o13 X4271.here hx rfl (pc0 := 7) (pc' := 44) rfl (hb hby o30) rfl (o175 (by decide)) (by decide) (by decide) (o8 X4271.here hx rfl (hb hby o229) rfl j)) ?_
  have K4272 := (Keep.refl h0 [ad1]).wr W4242 (Or.inl (List.mem_of_getElem? (i := 0) rfl))
  have K4273 := K4272.wr W4245 (Or.inl (List.mem_of_getElem? (i := 0) rfl))
  have K4274 := K4273.wr W4247 (Or.inl (List.mem_of_getElem? (i := 0) rfl))
  have K4275 := K4274.wr W4249 (Or.inl (List.mem_of_getElem? (i := 0) rfl))
  have K4276 := K4275.wr W4251 (Or.inl (List.mem_of_getElem? (i := 0) rfl))
  have K4277 := K4276.wr W4253 (Or.inl (List.mem_of_getElem? (i := 0) rfl))
  have K4278 := K4277.wr W4255 (Or.inl (List.mem_of_getElem? (i := 0) rfl))
  have K4279 := K4278.wr W4257 (Or.inl (List.mem_of_getElem? (i := 0) rfl))
  have K4280 := K4279.wr W4259 (Or.inl (List.mem_of_getElem? (i := 0) rfl))
  have K4281 := K4280.wr W4261 (Or.inl (List.mem_of_getElem? (i := 0) rfl))
  have K4282 := K4281.wr W4263 (Or.inl (List.mem_of_getElem? (i := 0) rfl))
  have K4283 := K4282.wr W4265 (Or.inl (List.mem_of_getElem? (i := 0) rfl))
  have K4284 := K4283.wr W4267 (Or.inl (List.mem_of_getElem? (i := 0) rfl))
  have K4285 := K4284.wr W4269 (Or.inl (List.mem_of_getElem? (i := 0) rfl))
  have K4286 := K4285.wr W4271 (Or.inl (List.mem_of_getElem? (i := 0) rfl))
  have F4287 := (Exa.wr W4271 (Exa.wr W4269 (Exa.wr W4267 (Exa.wr W4265 (Exa.wr W4263 (Exa.wr W4261 (Exa.wr W4259 (Exa.wr W4257 (Exa.wr W4255 (Exa.wr W4253 (Exa.wr W4251 (Exa.wr W4249 (Exa.wr W4247 (Exa.wr W4245 (Exa.wr W4242 pe3)))))))))))))))
  exact o69 X4271 hx hlk hret rfl (Or.inl ⟨rfl, by simp, _, rfl⟩) (hb hby o230) (by decide) (by decide) (by rw [e4271]; exact ⟨rfl, N4271, K4286, F4287, V4271⟩)
theorem o901 (hw : o35 a0 Z) (hS : o64 Z wcs) (ad0 : Addr) (kc1 : ClassId) (iv2 iv3 iv4 : Int32) (h0 : Heap) (n0 : Nat) (O0 : Old Z n0 h0) (pe1 : Exa Z h0 ad0 "[C") (pa2 : Arv Z h0 ad0 kc1 .char 15 [.int 98, .int 101, .int 97, .int 110, .int 32, .int 39, .int iv2, .int 39, .int 58, .int 32, .int iv3, .int 32, .int 39, .int iv4, .int 39] (.int 0)) (pk3 : ¬ (255 : Int32) < iv2) (pk4 : ¬ (255 : Int32) < iv3) (pk5 : ¬ (255 : Int32) < iv4) :
    o21 l o315 jdk_52_method_16_code 6 (some (.array .byte)) ws ⟨1, 1, 15, 18⟩ Z h0 #[.ref ad0, .int 0, .int 15] (fun v h L => ∃ nz0 : Addr, ∃ kz1 : ClassId, v = some (.ref nz0) ∧ Fr n0 L ∧ Keep h0 h [] ∧ h0.size ≤ nz0 ∧ Exa Z h nz0 "[B" ∧ Arv Z h nz0 kz1 .byte 15 [.int 98, .int 101, .int 97, .int 110, .int 32, .int 39, (.int (iv2.toInt8.toInt32)), .int 39, .int 58, .int 32, (.int (iv3.toInt8.toInt32)), .int 32, .int 39, (.int (iv4.toInt8.toInt32)), .int 39] (.int 0)) := by
  refine o18 (plainFor_of_name o177) ?_
  intro p e s m below meth c s₁ hx hby hml hown hnm hret hlk hZ e0 X0
  have N0 := Fr.nil n0
  refine o4 (fun u j => castTop (show entryFrame m #[.ref ad0, .int 0, .int 15] 6 = mkF m 0 #[o1 ad0, o0 0, o0 15, o5, o5, o5] [] from rfl) j) ?_
  refine o4 (fun u j => o6 X0.here hx rfl (hb hby o271) rfl j) ?_
  have q_ := newPE X0 hx hZ (o2 hw 14 rfl) e0 (g := (mkF m 1 #[o1 ad0, o0 0, o0 15, o5, o5, o5] [.int 15])) rfl (hb hby o272) rfl (by decide) (cap := 15) (by decide) (by decide) (by decide) (by decide) (ad := "[B") o214
  obtain ⟨T4295, h4295, k4295, X4295, e4295, E4295, A4295, Y4295, st4295⟩ := q_
  have q_ : ∃ z, z = h0.size := ⟨_, rfl⟩
  obtain ⟨b4295, g4295⟩ := q_
  rw [← g4295] at A4295 Y4295 st4295
  have V4295 : Arv Z h4295 b4295 k4295 .byte 15 [.int 0, .int 0, .int 0, .int 0, .int 0, .int 0, .int 0, .int 0, .int 0, .int 0, .int 0, .int 0, .int 0, .int 0, .int 0] (.int 0) := (Arv.new A4295 (by decide)).pad (pad_rep [] (.int 0) 15)
  refine o4 (fun u j => st4295 u j) ?_
  refine o4 (fun u j => o84 X4295.here hx rfl (hb hby o273) rfl rfl (l' := #[o1 ad0, o0 0, o0 15, o1 b4295, o5, o5]) rfl (o3 X4295.here hx rfl (hb hby o274) rfl rfl (o6 X4295.here hx rfl (hb hby o275) rfl (o3 X4295.here hx rfl (hb hby o276) rfl rfl (o16 X4295.here hx rfl (hb hby o277) (o6 X4295.here hx rfl (hb hby o278) rfl j)))))) ?_
  show o11 p e below _ (T4295.setTop (mkF m 9 #[o1 ad0, o0 0, o0 15, o1 b4295, o5, o5] [.int 15, .int 0, .ref b4295, .int 0, .ref ad0]))
  have F4296 := (Exa.ext E4295 pe1)
  have F4297 := (pa2.ext E4295)
  have g4298 := Nat.le_trans (o103 O0) (Nat.le_of_eq g4295.symm)
  have O4300 := O0.ext E4295
  refine o17 (o78 X4295 hx hZ (y := o314) hown (o2 hw 65 rfl) (o2 hw 66 rfl) (o2 hw 63 rfl) (o2 hw 67 rfl) o178 (o900 hw hS ad0 b4295 kc1 iv2 iv3 iv4 k4295 h4295 n0 O4300 F4296 F4297 Y4295 V4295 pk3 pk4 pk5 g4298) e4295 o434 (argsL := [.ref ad0, .int 0, .ref b4295, .int 0, .int 15]) (rest := []) rfl rfl (g := (mkF m 9 #[o1 ad0, o0 0, o0 15, o1 b4295, o5, o5] [.int 15, .int 0, .ref b4295, .int 0, .ref ad0])) rfl (by rw [hml]; rfl) rfl (hb hby o279) (W := 0) rfl) ?_
  intro T4299 v4299 L4299 X4299 hQ4299
  obtain ⟨rfl, M4299, K4299, F4301, F4302⟩ := hQ4299
  have N4299 := Fr.app N0 M4299
  refine o4 (fun u j => o20 X4299.here hx rfl (hb hby o231) rfl (l' := #[o1 ad0, o0 0, o0 15, o1 b4295, o0 15, o5]) rfl (o8 X4299.here hx rfl (hb hby o232) rfl (o6 X4299.here hx rfl (hb hby o233) rfl (o13 X4299.here hx rfl (pc0 := 17) (pc' := 57) rfl (hb hby o234) rfl (o66 (by decide)) (by decide) (by decide) (o3 X4299.here hx rfl (hb hby o235) rfl rfl j))))) ?_
  have K4303 := (Keep.refl h0 []).ext E4295
  have z4305 := Nat.le_trans (Nat.le_refl _) (Nat.le_of_eq g4295.symm)
  have K4304 := K4303.trans K4299 (allS (Or.inr z4305) all0)
  exact o69 X4299 hx hlk hret rfl (Or.inr (Or.inr (Or.inr (Or.inr ⟨rfl, rfl, rfl⟩)))) (hb hby o236) (by decide) (by decide) (by exact ⟨b4295, k4295, rfl, N4299, K4304, z4305, F4301, F4302⟩)
theorem o902 (hw : o35 a0 Z) (hS : o64 Z wcs) (ad0 : Addr) (kc1 : ClassId) (iv2 iv3 iv4 : Int32) (h0 : Heap) (n0 : Nat) (O0 : Old Z n0 h0) (pa2 : Arv Z h0 ad0 kc1 .byte 15 [.int 98, .int 101, .int 97, .int 110, .int 32, .int 39, .int iv2, .int 39, .int 58, .int 32, .int iv3, .int 32, .int 39, .int iv4, .int 39] (.int 0)) :
    o21 l o316 jdk_52_method_15_code 2 (some .byte) ws ⟨0, 0, 0, 0⟩ Z h0 #[.ref ad0, .int 15] (fun v h L => v = some (.int 0) ∧ Fr n0 L ∧ h = h0) := by
  refine o18 (plainFor_of_name o177) ?_
  intro p e s m below meth c s₁ hx hby hml hown hnm hret hlk hZ e0 X0
  have N0 := Fr.nil n0
  refine o4 (fun u j => castTop (show entryFrame m #[.ref ad0, .int 15] 2 = mkF m 0 #[o1 ad0, o0 15] [] from rfl) j) ?_
  refine o4 (fun u j => o6 X0.here hx rfl (hb hby o282) rfl (o3 X0.here hx rfl (hb hby o283) rfl rfl (o75 X0 hx hZ e0 pa2 rfl rfl (hb hby o284) (XS.isub X0.here hx rfl (hb hby o285) rfl (o34 X0.here hx rfl (hb hby o286) (XS.iushr X0.here hx rfl (hb hby o287) rfl j)))))) ?_
  show o11 p e below _ (s₁.setTop (mkF m 7 #[o1 ad0, o0 15] [.int 0]))
  refine o4 (fun u j => o79 X0.here hx rfl (hb hby o288) rfl j) ?_
  exact o69 X0 hx hlk hret rfl (Or.inl ⟨rfl, by simp, _, rfl⟩) (hb hby o289) (by decide) (by decide) (by rw [e0]; exact ⟨rfl, N0, rfl⟩)
theorem o903 (hw : o35 a0 Z) (hS : o64 Z wcs) (ad0 ad1 : Addr) (kc2 : ClassId) (iv3 iv4 iv5 : Int32) (h0 : Heap) (n0 : Nat) (O0 : Old Z n0 h0) (pe1 : Exa Z h0 ad0 o7) (pf2 : Fld Z h0 ad0 o7 "coder" "B" (.int 0)) (pf3 : Fld Z h0 ad0 o7 "value" "[B" .null) (pe4 : Exa Z h0 ad1 "[C") (pa5 : Arv Z h0 ad1 kc2 .char 15 [.int 98, .int 101, .int 97, .int 110, .int 32, .int 39, .int iv3, .int 39, .int 58, .int 32, .int iv4, .int 32, .int 39, .int iv5, .int 39] (.int 0)) (pk6 : ¬ (255 : Int32) < iv3) (pk7 : ¬ (255 : Int32) < iv4) (pk8 : ¬ (255 : Int32) < iv5) (pg_ad0 : n0 ≤ ad0) :
    o21 l o317 jdk_42_method_149_code 6 none ws ⟨2, 1, 15, 35⟩ Z h0 #[.ref ad0, .ref ad1, .int 0, .int 15, .null] (fun v h L => ∃ nz0 : Addr, ∃ kz1 : ClassId, v = none ∧ Fr n0 L ∧ Keep h0 h [ad0] ∧ h0.size ≤ nz0 ∧ Exa Z h ad0 o7 ∧ Fld Z h ad0 o7 "coder" "B" (.int 0) ∧ Fld Z h ad0 o7 "value" "[B" (.ref nz0) ∧ Exa Z h nz0 "[B" ∧ Arv Z h nz0 kz1 .byte 15 [.int 98, .int 101, .int 97, .int 110, .int 32, .int 39, (.int (iv3.toInt8.toInt32)), .int 39, .int 58, .int 32, (.int (iv4.toInt8.toInt32)), .int 32, .int 39, (.int (iv5.toInt8.toInt32)), .int 39] (.int 0)) := by
  refine o18 (plainFor_of_name o83) ?_
  intro p e s m below meth c s₁ hx hby hml hown hnm hret hlk hZ e0 X0
  have N0 := Fr.nil n0
  refine o4 (fun u j => castTop (show entryFrame m #[.ref ad0, .ref ad1, .int 0, .int 15, .null] 6 = mkF m 0 #[o1 ad0, o1 ad1, o0 0, o0 15, .val .null, o5] [] from rfl) j) ?_
  refine o4 (fun u j => o3 X0.here hx rfl (hb hby o225) rfl rfl j) ?_
  refine o22 (initO X0 hx hZ hown (o2 hw 19 rfl) (o2 hw 20 rfl) (o2 hw 21 rfl) e0 rfl (by rw [hml]; rfl) rfl (hb hby o226) (by decide) (W := 0) (by show 2 * 0 + _ ≤ _; exact Nat.le_of_eq rfl) (by decide)) ?_
  intro T4324 X4324 e4324
  refine o4 (fun u j => o6 X4324.here hx rfl (hb hby o227) rfl (o88 X4324.here hx rfl (pc0 := 5) (pc' := 27) rfl (hb hby o228) rfl (o164 (by decide)) (by decide) (by decide) j)) ?_
  have F4325 := Sta.ext O0.2 hS.1
  refine o22 (getS2 X4324 hx hZ hown (host := "") (Or.inl (o2 hw 4 rfl)) Via.refl e4324 F4325 rfl (hb hby o190)) ?_
  intro T4326 X4326 e4326
  refine o4 (fun u j => o68 X4326.here hx rfl (hb hby o191) rfl (o65 hS.2) (o3 X4326.here hx rfl (hb hby o192) rfl rfl (o6 X4326.here hx rfl (hb hby o193) rfl (o6 X4326.here hx rfl (hb hby o194) rfl j)))) ?_
  refine o17 (o78 X4326 hx hZ (y := o315) hown (o2 hw 61 rfl) (o2 hw 62 rfl) (o2 hw 63 rfl) (o2 hw 64 rfl) o178 (o901 hw hS ad1 kc2 iv3 iv4 iv5 h0 n0 O0 pe4 pa5 pk6 pk7 pk8) e4326 o435 (argsL := [.ref ad1, .int 0, .int 15]) (rest := []) rfl rfl (g := (mkF m 36 #[o1 ad0, o1 ad1, o0 0, o0 15, .val .null, o5] [.int 15, .int 0, .ref ad1])) rfl (by rw [hml]; rfl) rfl (hb hby o195) (W := 0) rfl) ?_
  intro T4327 v4327 L4327 X4327 hQ4327
  obtain ⟨nz0_4328, kz1_4329, rfl, M4327, K4327, z4330, F4331, F4332⟩ := hQ4327
  have N4327 := Fr.app N0 M4327
  refine o4 (fun u j => o76 X4327.here hx rfl (hb hby o196) rfl rfl (l' := #[o1 ad0, o1 ad1, o0 0, o0 15, .val .null, o1 nz0_4328]) rfl (o3 X4327.here hx rfl (hb hby o197) rfl rfl (o72 X4327.here hx rfl (hb hby o198) rfl rfl (o6 X4327.here hx rfl (hb hby o199) rfl j)))) ?_
  have O4334 := O0.keep K4327 all0
  refine o17 (o78 X4327 hx hZ (y := o316) hown (o2 hw 68 rfl) (o2 hw 69 rfl) (o2 hw 63 rfl) (o2 hw 70 rfl) o178 (o902 hw hS nz0_4328 kz1_4329 (iv3.toInt8.toInt32) (iv4.toInt8.toInt32) (iv5.toInt8.toInt32) T4327.heap n0 O4334 F4332) rfl o436 (argsL := [.ref nz0_4328, .int 15]) (rest := [.ref ad0]) rfl rfl (g := (mkF m 45 #[o1 ad0, o1 ad1, o0 0, o0 15, .val .null, o1 nz0_4328] [.int 15, .ref nz0_4328, .ref ad0])) rfl (by rw [hml]; rfl) rfl (hb hby o200) (W := 1) rfl) ?_
  intro T4333 v4333 L4333 X4333 hQ4333
  obtain ⟨rfl, M4333, e4333⟩ := hQ4333
  have N4333 := Fr.app N4327 M4333
  have F4335 := (pe1.keep K4327)
  have F4336 := (pf2.keep K4327 nin0)
  refine o32 (putF X4333 hx hZ hown (host := "") (Or.inl (o2 hw 24 rfl)) Via.refl e4333 F4336 F4335 (Or.inr ⟨(o2 hw 25 rfl), rfl, hnm⟩) (o2 hw 10 rfl) (ty := .byte) o92 rfl rfl rfl rfl (hb hby o201)) ?_
  intro T4337 h4337 X4337 e4337 W4337
  have N4337 := Fr.snoc X4337 N4333 pg_ad0
  have F4338 : Fld Z h4337 ad0 o7 "coder" "B" (.int 0) := Fld.same W4337 F4336
  refine o4 (fun u j => o3 X4337.here hx rfl (hb hby o202) rfl rfl (o72 X4337.here hx rfl (hb hby o203) rfl rfl j)) ?_
  have F4339 := (Exa.wr W4337 F4335)
  have F4340 := (Fld.other W4337 (pf3.keep K4327 nin0) (Or.inr (o310 hw)))
  refine o32 (putF X4337 hx hZ hown (host := "") (Or.inl (o2 hw 22 rfl)) Via.refl e4337 F4340 F4339 (Or.inr ⟨(o2 hw 23 rfl), rfl, hnm⟩) (o2 hw 10 rfl) (ty := (.array .byte)) o91 rfl rfl rfl rfl (hb hby o204)) ?_
  intro T4341 h4341 X4341 e4341 W4341
  have N4341 := Fr.snoc X4341 N4337 pg_ad0
  have F4342 : Fld Z h4341 ad0 o7 "value" "[B" (.ref nz0_4328) := Fld.same W4341 F4340
  have K4343 := (Keep.refl h0 [ad0]).trans K4327 all0
  have K4344 := K4343.wr W4337 (Or.inl (List.mem_of_getElem? (i := 0) rfl))
  have K4345 := K4344.wr W4341 (Or.inl (List.mem_of_getElem? (i := 0) rfl))
  have z4346 := Nat.le_trans (Nat.le_refl _) z4330
  have F4347 := (Exa.wr W4341 F4339)
  have F4348 := (Fld.other W4341 F4338 (Or.inr (o309 hw)))
  have F4349 := (Exa.wr W4341 (Exa.wr W4337 F4331))
  have ne4350 := (Ne.symm (Nat.ne_of_lt (Nat.lt_of_lt_of_le pe1.lt z4330)))
  have F4351 := ((F4332.other W4337 ne4350).other W4341 ne4350)
  exact o81 X4341 hx hlk hret (hb hby o205) (by decide) (by decide) (by rw [e4341]; exact ⟨nz0_4328, kz1_4329, rfl, N4341, K4345, z4346, F4347, F4348, F4342, F4349, F4351⟩)
theorem o904 (hw : o35 a0 Z) (hS : o64 Z wcs) (ad0 ad1 : Addr) (kc2 : ClassId) (iv3 iv4 iv5 : Int32) (h0 : Heap) (n0 : Nat) (O0 : Old Z n0 h0) (pe1 : Exa Z h0 ad0 o7) (pf2 : Fld Z h0 ad0 o7 "coder" "B" (.int 0)) (pf3 : Fld Z h0 ad0 o7 "value" "[B" .null) (pe4 : Exa Z h0 ad1 "[C") (pa5 : Arv Z h0 ad1 kc2 .char 15 [.int 98, .int 101, .int 97, .int 110, .int 32, .int 39, .int iv3, .int 39, .int 58, .int 32, .int iv4, .int 32, .int 39, .int iv5, .int 39] (.int 0)) (pk6 : ¬ (255 : Int32) < iv3) (pk7 : ¬ (255 : Int32) < iv4) (pk8 : ¬ (255 : Int32) < iv5) (pg_ad0 : n0 ≤ ad0) :
    o21 l o318 jdk_42_method_3_code 2 none ws ⟨3, 1, 15, 52⟩ Z h0 #[.ref ad0, .ref ad1] (fun v h L => ∃ nz0 : Addr, ∃ kz1 : ClassId, v = none ∧ Fr n0 L ∧ Keep h0 h [ad0] ∧ h0.size ≤ nz0 ∧ Exa Z h ad0 o7 ∧ Fld Z h ad0 o7 "coder" "B" (.int 0) ∧ Fld Z h ad0 o7 "value" "[B" (.ref nz0) ∧ Exa Z h nz0 "[B" ∧ Arv Z h nz0 kz1 .byte 15 [.int 98, .int 101, .int 97, .int 110, .int 32, .int 39, (.int (iv3.toInt8.toInt32)), .int 39, .int 58, .int 32, (.int (iv4.toInt8.toInt32)), .int 32, .int 39, (.int (iv5.toInt8.toInt32)), .int 39] (.int 0)) := by
  refine o18 (plainFor_of_name o83) ?_
  intro p e s m below meth c s₁ hx hby hml hown hnm hret hlk hZ e0 X0
  have N0 := Fr.nil n0
  refine o4 (fun u j => castTop (show entryFrame m #[.ref ad0, .ref ad1] 2 = mkF m 0 #[o1 ad0, o1 ad1] [] from rfl) j) ?_
  refine o4 (fun u j => o3 X0.here hx rfl (hb hby o324) rfl rfl (o3 X0.here hx rfl (hb hby o325) rfl rfl (o16 X0.here hx rfl (hb hby o326) (o3 X0.here hx rfl (hb hby o327) rfl rfl (o75 X0 hx hZ e0 pa5 rfl rfl (hb hby o328) (o99 X0.here hx rfl (hb hby o329) j)))))) ?_
  show o11 p e below _ (s₁.setTop (mkF m 6 #[o1 ad0, o1 ad1] [.null, .int 15, .int 0, .ref ad1, .ref ad0]))
  refine o17 (o87 X0 hx hZ (y := o317) rfl hown (o2 hw 58 rfl) (o2 hw 59 rfl) (o2 hw 2 rfl) (o2 hw 60 rfl) o67 (o903 hw hS ad0 ad1 kc2 iv3 iv4 iv5 h0 n0 O0 pe1 pf2 pf3 pe4 pa5 pk6 pk7 pk8 pg_ad0) e0 o437 (a := ad0) (argsL := [.ref ad1, .int 0, .int 15, .null]) (rest := []) rfl rfl (g := (mkF m 6 #[o1 ad0, o1 ad1] [.null, .int 15, .int 0, .ref ad1, .ref ad0])) rfl (by rw [hml]; rfl) rfl (hb hby o330) (W := 0) rfl) ?_
  intro T4362 v4362 L4362 X4362 hQ4362
  obtain ⟨nz0_4363, kz1_4364, rfl, M4362, K4362, z4365, F4366, F4367, F4368, F4369, F4370⟩ := hQ4362
  have N4362 := Fr.app N0 M4362
  have K4371 := (Keep.refl h0 [ad0]).trans K4362 (allS (Or.inl (List.mem_of_getElem? (i := 0) rfl)) all0)
  have z4372 := Nat.le_trans (Nat.le_refl _) z4365
  exact o81 X4362 hx hlk hret (hb hby o331) (by decide) (by decide) (by exact ⟨nz0_4363, kz1_4364, rfl, N4362, K4371, z4372, F4366, F4367, F4368, F4369, F4370⟩)
theorem o687 : decode method_3_code 286 = .ok (.areturn, 1) := by decide +kernel
theorem o905 (hw : o35 a0 Z) (hS : o64 Z wcs) (iv0 iv1 iv2 : Int32) (h0 : Heap) (n0 : Nat) (O0 : Old Z n0 h0) (pc1 : nar .char iv0 = iv0) (pc2 : nar .char iv1 = iv1) (pc3 : nar .char iv2 = iv2) (pk4 : ¬ (255 : Int32) < iv0) (pk5 : ¬ (255 : Int32) < iv1) (pk6 : ¬ (255 : Int32) < iv2) :
    o21 l o319 method_3_code 6 (some (.object "java/lang/String")) ws ⟨4, 3, 34, 66⟩ Z h0 #[.int 1, .int 1, .int 1, .int iv0, .int iv1, .int iv2] (fun v h L => ∃ nz0 : Addr, ∃ nz1 : Addr, ∃ kz2 : ClassId, v = some (.ref nz0) ∧ Fr n0 L ∧ Keep h0 h [] ∧ h0.size ≤ nz0 ∧ h0.size ≤ nz1 ∧ Exa Z h nz0 o7 ∧ Fld Z h nz0 o7 "coder" "B" (.int 0) ∧ Fld Z h nz0 o7 "value" "[B" (.ref nz1) ∧ Exa Z h nz1 "[B" ∧ Arv Z h nz1 kz2 .byte 15 [.int 98, .int 101, .int 97, .int 110, .int 32, .int 39, (.int (iv0.toInt8.toInt32)), .int 39, .int 58, .int 32, (.int (iv1.toInt8.toInt32)), .int 32, .int 39, (.int (iv2.toInt8.toInt32)), .int 39] (.int 0)) := by
  refine o18 (plainFor_of_name o421) ?_
  intro p e s m below meth c s₁ hx hby hml hown hnm hret hlk hZ e0 X0
  have N0 := Fr.nil n0
  refine o4 (fun u j => castTop (show entryFrame m #[.int 1, .int 1, .int 1, .int iv0, .int iv1, .int iv2] 6 = mkF m 0 #[o0 1, o0 1, o0 1, o0 iv0, o0 iv1, o0 iv2] [] from rfl) j) ?_
  refine o4 (fun u j => o6 X0.here hx rfl (hb hby o322) rfl (o88 X0.here hx rfl (pc0 := 1) (pc' := 60) rfl (hb hby o323) rfl (o164 (by decide)) (by decide) (by decide) (o6 X0.here hx rfl (hb hby o424) rfl (o88 X0.here hx rfl (pc0 := 61) (pc' := 117) rfl (hb hby o425) rfl (o164 (by decide)) (by decide) (by decide) (o6 X0.here hx rfl (hb hby o490) rfl (o88 X0.here hx rfl (pc0 := 118) (pc' := 192) rfl (hb hby o491) rfl (o164 (by decide)) (by decide) (by decide) j)))))) ?_
  show o11 p e below _ (s₁.setTop (mkF m 192 #[o0 1, o0 1, o0 1, o0 iv0, o0 iv1, o0 iv2] []))
  have q_ := newO X0 hx hZ hown (o2 hw 53 rfl) (o2 hw 10 rfl) (o2 hw 2 rfl) e0 (g := (mkF m 192 #[o0 1, o0 1, o0 1, o0 iv0, o0 iv1, o0 iv2] [])) rfl (hb hby o622) (by decide) (by decide)
  obtain ⟨T4404, h4404, X4404, e4404, E4404, A4404, D4404, U4404, st4404⟩ := q_
  have q_ : ∃ z, z = h0.size := ⟨_, rfl⟩
  obtain ⟨b4404, g4404⟩ := q_
  rw [← g4404] at A4404 D4404 U4404 st4404
  have F4404_value : Fld Z h4404 b4404 o7 "value" "[B" .null := D4404 (Or.inr (o2 hw 23 rfl)) (ty := (.array .byte)) o91
  have F4404_coder : Fld Z h4404 b4404 o7 "coder" "B" (.int 0) := D4404 (Or.inr (o2 hw 25 rfl)) (ty := .byte) o92
  refine o4 (fun u j => st4404 u j) ?_
  refine o4 (fun u j => o61 X4404.here hx rfl (hb hby o623) rfl rfl (o34 X4404.here hx rfl (hb hby o624) j)) ?_
  have q_ := newPE X4404 hx hZ (o2 hw 54 rfl) e4404 (g := (mkF m 198 #[o0 1, o0 1, o0 1, o0 iv0, o0 iv1, o0 iv2] [.int 15, .ref b4404, .ref b4404])) rfl (hb hby o625) rfl (by decide) (cap := 15) (by decide) (by decide) (by decide) (by decide) (ad := "[C") o433
  obtain ⟨T4405, h4405, k4405, X4405, e4405, E4405, A4405, Y4405, st4405⟩ := q_
  have q_ : ∃ z, z = h4404.size := ⟨_, rfl⟩
  obtain ⟨b4405, g4405⟩ := q_
  rw [← g4405] at A4405 Y4405 st4405
  have V4405 : Arv Z h4405 b4405 k4405 .char 15 [.int 0, .int 0, .int 0, .int 0, .int 0, .int 0, .int 0, .int 0, .int 0, .int 0, .int 0, .int 0, .int 0, .int 0, .int 0] (.int 0) := (Arv.new A4405 (by decide)).pad (pad_rep [] (.int 0) 15)
  refine o4 (fun u j => st4405 u j) ?_
  refine o4 (fun u j => o61 X4405.here hx rfl (hb hby o626) rfl rfl (o16 X4405.here hx rfl (hb hby o627) (o34 X4405.here hx rfl (hb hby o628) j))) ?_
  refine o32 (o105 X4405 hx hZ e4405 V4405 (j := 0) (by decide) rfl rfl (hb hby o629)) ?_
  intro T4406 h4406 X4406 e4406 W4406
  replace W4406 : Wr h4405 h4406 b4405 ((0 : Int32)).toNatClampNeg (.int 98) := W4406
  have O4408 := O0.ext E4404
  have g4407 := Nat.le_trans (o103 O4408) (Nat.le_of_eq g4405.symm)
  have N4406 := Fr.snoc X4406 N0 g4407
  have V4406 : Arv Z h4406 b4405 k4405 .char 15 [.int 98, .int 0, .int 0, .int 0, .int 0, .int 0, .int 0, .int 0, .int 0, .int 0, .int 0, .int 0, .int 0, .int 0, .int 0] (.int 0) := o74 V4405 rfl W4406 0 rfl (Nat.le_of_ble_eq_true rfl)
  refine o4 (fun u j => o61 X4406.here hx rfl (hb hby o630) rfl rfl (o16 X4406.here hx rfl (hb hby o631) (o34 X4406.here hx rfl (hb hby o632) j))) ?_
  refine o32 (o105 X4406 hx hZ e4406 V4406 (j := 1) (by decide) rfl rfl (hb hby o633)) ?_
  intro T4409 h4409 X4409 e4409 W4409
  replace W4409 : Wr h4406 h4409 b4405 ((1 : Int32)).toNatClampNeg (.int 101) := W4409
  have N4409 := Fr.snoc X4409 N4406 g4407
  have V4409 : Arv Z h4409 b4405 k4405 .char 15 [.int 98, .int 101, .int 0, .int 0, .int 0, .int 0, .int 0, .int 0, .int 0, .int 0, .int 0, .int 0, .int 0, .int 0, .int 0] (.int 0) := o74 V4406 rfl W4409 1 rfl (Nat.le_of_ble_eq_true rfl)
  refine o4 (fun u j => o61 X4409.here hx rfl (hb hby o634) rfl rfl (o16 X4409.here hx rfl (hb hby o635) (o34 X4409.here hx rfl (hb hby o636) j))) ?_
  refine o32 (o105 X4409 hx hZ e4409 V4409 (j := 2) (by decide) rfl rfl (hb hby o637)) ?_
  intro T4410 h4410 X4410 e4410 W4410
  replace W4410 : Wr h4409 h4410 b4405 ((2 : Int32)).toNatClampNeg (.int 97) := W4410
  have N4410 := Fr.snoc X4410 N4409 g4407
  have V4410 : Arv Z h4410 b4405 k4405 .char 15 [.int 98, .int 101, .int 97, .int 0, .int 0, .int 0, .int 0, .int 0, .int 0, .int 0, .int 0, .int 0, .int 0, .int 0, .int 0] (.int 0) := o74 V4409 rfl W4410 2 rfl (Nat.le_of_ble_eq_true rfl)
  refine o4 (fun u j => o61 X4410.here hx rfl (hb hby o638) rfl rfl (o16 X4410.here hx rfl (hb hby o639) (o34 X4410.here hx rfl (hb hby o640) j))) ?_
  refine o32 (o105 X4410 hx hZ e4410 V4410 (j := 3) (by decide) rfl rfl (hb hby o641)) ?_
  intro T4411 h4411 X4411 e4411 W4411
  replace W4411 : Wr h4410 h4411 b4405 ((3 : Int32)).toNatClampNeg (.int 110) := W4411
  have N4411 := Fr.snoc X4411 N4410 g4407
  have V4411 : Arv Z h4411 b4405 k4405 .char 15 [.int 98, .int 101, .int 97, .int 110, .int 0, .int 0, .int 0, .int 0, .int 0, .int 0, .int 0, .int 0, .int 0, .int 0, .int 0] (.int 0) := o74 V4410 rfl W4411 3 rfl (Nat.le_of_ble_eq_true rfl)
  refine o4 (fun u j => o61 X4411.here hx rfl (hb hby o642) rfl rfl (o16 X4411.here hx rfl (hb hby o643) (o34 X4411.here hx rfl (hb hby o644) j))) ?_
  refine o32 (o105 X4411 hx hZ e4411 V4411 (j := 4) (by decide) rfl rfl (hb hby o645)) ?_
  intro T4412 h4412 X4412 e4412 W4412
  replace W4412 : Wr h4411 h4412 b4405 ((4 : Int32)).toNatClampNeg (.int 32) := W4412
  have N4412 := Fr.snoc X4412 N4411 g4407
  have V4412 : Arv Z h4412 b4405 k4405 .char 15 [.int 98, .int 101, .int 97, .int 110, .int 32, .int 0, .int 0, .int 0, .int 0, .int 0, .int 0, .int 0, .int 0, .int 0, .int 0] (.int 0) := o74 V4411 rfl W4412 4 rfl (Nat.le_of_ble_eq_true rfl)
  refine o4 (fun u j => o61 X4412.here hx rfl (hb hby o646) rfl rfl (o16 X4412.here hx rfl (hb hby o647) (o34 X4412.here hx rfl (hb hby o648) j))) ?_
  refine o32 (o105 X4412 hx hZ e4412 V4412 (j := 5) (by decide) rfl rfl (hb hby o649)) ?_
  intro T4413 h4413 X4413 e4413 W4413
  replace W4413 : Wr h4412 h4413 b4405 ((5 : Int32)).toNatClampNeg (.int 39) := W4413
  have N4413 := Fr.snoc X4413 N4412 g4407
  have V4413 : Arv Z h4413 b4405 k4405 .char 15 [.int 98, .int 101, .int 97, .int 110, .int 32, .int 39, .int 0, .int 0, .int 0, .int 0, .int 0, .int 0, .int 0, .int 0, .int 0] (.int 0) := o74 V4412 rfl W4413 5 rfl (Nat.le_of_ble_eq_true rfl)
  refine o4 (fun u j => o61 X4413.here hx rfl (hb hby o650) rfl rfl (o34 X4413.here hx rfl (hb hby o651) (o6 X4413.here hx rfl (hb hby o652) rfl j))) ?_
  refine o32 (o105 X4413 hx hZ e4413 V4413 (j := 6) (by decide) rfl rfl (hb hby o653)) ?_
  intro T4414 h4414 X4414 e4414 W4414
  rw [pc1] at W4414
  have N4414 := Fr.snoc X4414 N4413 g4407
  have V4414 : Arv Z h4414 b4405 k4405 .char 15 [.int 98, .int 101, .int 97, .int 110, .int 32, .int 39, .int iv0, .int 0, .int 0, .int 0, .int 0, .int 0, .int 0, .int 0, .int 0] (.int 0) := o74 V4413 (o411 pc1) W4414 6 rfl (Nat.le_of_ble_eq_true rfl)
  refine o4 (fun u j => o61 X4414.here hx rfl (hb hby o654) rfl rfl (o34 X4414.here hx rfl (hb hby o655) (o34 X4414.here hx rfl (hb hby o656) j))) ?_
  refine o32 (o105 X4414 hx hZ e4414 V4414 (j := 7) (by decide) rfl rfl (hb hby o657)) ?_
  intro T4415 h4415 X4415 e4415 W4415
  replace W4415 : Wr h4414 h4415 b4405 ((7 : Int32)).toNatClampNeg (.int 39) := W4415
  have N4415 := Fr.snoc X4415 N4414 g4407
  have V4415 : Arv Z h4415 b4405 k4405 .char 15 [.int 98, .int 101, .int 97, .int 110, .int 32, .int 39, .int iv0, .int 39, .int 0, .int 0, .int 0, .int 0, .int 0, .int 0, .int 0] (.int 0) := o74 V4414 rfl W4415 7 rfl (Nat.le_of_ble_eq_true rfl)
  refine o4 (fun u j => o61 X4415.here hx rfl (hb hby o658) rfl rfl (o34 X4415.here hx rfl (hb hby o659) (o34 X4415.here hx rfl (hb hby o660) j))) ?_
  refine o32 (o105 X4415 hx hZ e4415 V4415 (j := 8) (by decide) rfl rfl (hb hby o661)) ?_
  intro T4416 h4416 X4416 e4416 W4416
  replace W4416 : Wr h4415 h4416 b4405 ((8 : Int32)).toNatClampNeg (.int 58) := W4416
  have N4416 := Fr.snoc X4416 N4415 g4407
  have V4416 : Arv Z h4416 b4405 k4405 .char 15 [.int 98, .int 101, .int 97, .int 110, .int 32, .int 39, .int iv0, .int 39, .int 58, .int 0, .int 0, .int 0, .int 0, .int 0, .int 0] (.int 0) := o74 V4415 rfl W4416 8 rfl (Nat.le_of_ble_eq_true rfl)
  refine o4 (fun u j => o61 X4416.here hx rfl (hb hby o662) rfl rfl (o34 X4416.here hx rfl (hb hby o663) (o34 X4416.here hx rfl (hb hby o664) j))) ?_
  refine o32 (o105 X4416 hx hZ e4416 V4416 (j := 9) (by decide) rfl rfl (hb hby o665)) ?_
  intro T4417 h4417 X4417 e4417 W4417
  replace W4417 : Wr h4416 h4417 b4405 ((9 : Int32)).toNatClampNeg (.int 32) := W4417
  have N4417 := Fr.snoc X4417 N4416 g4407
  have V4417 : Arv Z h4417 b4405 k4405 .char 15 [.int 98, .int 101, .int 97, .int 110, .int 32, .int 39, .int iv0, .int 39, .int 58, .int 32, .int 0, .int 0, .int 0, .int 0, .int 0] (.int 0) := o74 V4416 rfl W4417 9 rfl (Nat.le_of_ble_eq_true rfl)
  refine o4 (fun u j => o61 X4417.here hx rfl (hb hby o666) rfl rfl (o34 X4417.here hx rfl (hb hby o667) (o8 X4417.here hx rfl (hb hby o668) rfl j))) ?_
  refine o32 (o105 X4417 hx hZ e4417 V4417 (j := 10) (by decide) rfl rfl (hb hby o669)) ?_
  intro T4418 h4418 X4418 e4418 W4418
  rw [pc2] at W4418
  have N4418 := Fr.snoc X4418 N4417 g4407
  have V4418 : Arv Z h4418 b4405 k4405 .char 15 [.int 98, .int 101, .int 97, .int 110, .int 32, .int 39, .int iv0, .int 39, .int 58, .int 32, .int iv1, .int 0, .int 0, .int 0, .int 0] (.int 0) := o74 V4417 (o411 pc2) W4418 10 rfl (Nat.le_of_ble_eq_true rfl)
  refine o4 (fun u j => o61 X4418.here hx rfl (hb hby o670) rfl rfl (o34 X4418.here hx rfl (hb hby o671) (o34 X4418.here hx rfl (hb hby o672) j))) ?_
  refine o32 (o105 X4418 hx hZ e4418 V4418 (j := 11) (by decide) rfl rfl (hb hby o673)) ?_
  intro T4419 h4419 X4419 e4419 W4419
  replace W4419 : Wr h4418 h4419 b4405 ((11 : Int32)).toNatClampNeg (.int 32) := W4419
  have N4419 := Fr.snoc X4419 N4418 g4407
  have V4419 : Arv Z h4419 b4405 k4405 .char 15 [.int 98, .int 101, .int 97, .int 110, .int 32, .int 39, .int iv0, .int 39, .int 58, .int 32, .int iv1, .int 32, .int 0, .int 0, .int 0] (.int 0) := o74 V4418 rfl W4419 11 rfl (Nat.le_of_ble_eq_true rfl)
  refine o4 (fun u j => o61 X4419.here hx rfl (hb hby o674) rfl rfl (o34 X4419.here hx rfl (hb hby o675) (o34 X4419.here hx rfl (hb hby o676) j))) ?_
  refine o32 (o105 X4419 hx hZ e4419 V4419 (j := 12) (by decide) rfl rfl (hb hby o677)) ?_
  intro T4420 h4420 X4420 e4420 W4420
  replace W4420 : Wr h4419 h4420 b4405 ((12 : Int32)).toNatClampNeg (.int 39) := W4420
  have N4420 := Fr.snoc X4420 N4419 g4407
  have V4420 : Arv Z h4420 b4405 k4405 .char 15 [.int 98, .int 101, .int 97, .int 110, .int 32, .int 39, .int iv0, .int 39, .int 58, .int 32, .int iv1, .int 32, .int 39, .int 0, .int 0] (.int 0) := o74 V4419 rfl W4420 12 rfl (Nat.le_of_ble_eq_true rfl)
  refine o4 (fun u j => o61 X4420.here hx rfl (hb hby o678) rfl rfl (o34 X4420.here hx rfl (hb hby o679) (o8 X4420.here hx rfl (hb hby o680) rfl j))) ?_
  refine o32 (o105 X4420 hx hZ e4420 V4420 (j := 13) (by decide) rfl rfl (hb hby o681)) ?_
  intro T4421 h4421 X4421 e4421 W4421
  rw [pc3] at W4421
  have N4421 := Fr.snoc X4421 N4420 g4407
  have V4421 : Arv Z h4421 b4405 k4405 .char 15 [.int 98, .int 101, .int 97, .int 110, .int 32, .int 39, .int iv0, .int 39, .int 58, .int 32, .int iv1, .int 32, .int 39, .int iv2, .int 0] (.int 0) := o74 V4420 (o411 pc3) W4421 13 rfl (Nat.le_of_ble_eq_true rfl)
  refine o4 (fun u j => o61 X4421.here hx rfl (hb hby o682) rfl rfl (o34 X4421.here hx rfl (hb hby o683) (o34 X4421.here hx rfl (hb hby o684) j))) ?_
  refine o32 (o105 X4421 hx hZ e4421 V4421 (j := 14) (by decide) rfl rfl (hb hby o685)) ?_
  intro T4422 h4422 X4422 e4422 W4422
  replace W4422 : Wr h4421 h4422 b4405 ((14 : Int32)).toNatClampNeg (.int 39) := W4422
  have N4422 := Fr.snoc X4422 N4421 g4407
  have V4422 : Arv Z h4422 b4405 k4405 .char 15 [.int 98, .int 101, .int 97, .int 110, .int 32, .int 39, .int iv0, .int 39, .int 58, .int 32, .int iv1, .int 32, .int 39, .int iv2, .int 39] (.int 0) := o74 V4421 rfl W4422 14 rfl (Nat.le_of_ble_eq_true rfl)
  have F4423 := (Exa.wr W4422 (Exa.wr W4421 (Exa.wr W4420 (Exa.wr W4419 (Exa.wr W4418 (Exa.wr W4417 (Exa.wr W4416 (Exa.wr W4415 (Exa.wr W4414 (Exa.wr W4413 (Exa.wr W4412 (Exa.wr W4411 (Exa.wr W4410 (Exa.wr W4409 (Exa.wr W4406 (Exa.ext E4405 A4404))))))))))))))))
  have ne4424 := (Nat.ne_of_lt (Nat.lt_of_lt_of_le A4404.lt (Nat.le_of_eq g4405.symm)))
  have F4425 := (Fld.other W4422 (Fld.other W4421 (Fld.other W4420 (Fld.other W4419 (Fld.other W4418 (Fld.other W4417 (Fld.other W4416 (Fld.other W4415 (Fld.other W4414 (Fld.other W4413 (Fld.other W4412 (Fld.other W4411 (Fld.other W4410 (Fld.other W4409 (Fld.other W4406 (Fld.ext E4405 F4404_coder) (Or.inl ne4424)) (Or.inl ne4424)) (Or.inl ne4424)) (Or.inl ne4424)) (Or.inl ne4424)) (Or.inl ne4424)) (Or.inl ne4424)) (Or.inl ne4424)) (Or.inl ne4424)) (Or.inl ne4424)) (Or.inl ne4424)) (Or.inl ne4424)) (Or.inl ne4424)) (Or.inl ne4424)) (Or.inl ne4424))
  have F4426 := (Fld.other W4422 (Fld.other W4421 (Fld.other W4420 (Fld.other W4419 (Fld.other W4418 (Fld.other W4417 (Fld.other W4416 (Fld.other W4415 (Fld.other W4414 (Fld.other W4413 (Fld.other W4412 (Fld.other W4411 (Fld.other W4410 (Fld.other W4409 (Fld.other W4406 (Fld.ext E4405 F4404_value) (Or.inl ne4424)) (Or.inl ne4424)) (Or.inl ne4424)) (Or.inl ne4424)) (Or.inl ne4424)) (Or.inl ne4424)) (Or.inl ne4424)) (Or.inl ne4424)) (Or.inl ne4424)) (Or.inl ne4424)) (Or.inl ne4424)) (Or.inl ne4424)) (Or.inl ne4424)) (Or.inl ne4424)) (Or.inl ne4424))
  have F4427 := (Exa.wr W4422 (Exa.wr W4421 (Exa.wr W4420 (Exa.wr W4419 (Exa.wr W4418 (Exa.wr W4417 (Exa.wr W4416 (Exa.wr W4415 (Exa.wr W4414 (Exa.wr W4413 (Exa.wr W4412 (Exa.wr W4411 (Exa.wr W4410 (Exa.wr W4409 (Exa.wr W4406 Y4405)))))))))))))))
  have g4428 := Nat.le_trans (o103 O0) (Nat.le_of_eq g4404.symm)
  have O4430 := O4408.ext E4405
  have O4431 := O4430.wr W4406 g4407
  have O4432 := O4431.wr W4409 g4407
  have O4433 := O4432.wr W4410 g4407
  have O4434 := O4433.wr W4411 g4407
  have O4435 := O4434.wr W4412 g4407
  have O4436 := O4435.wr W4413 g4407
  have O4437 := O4436.wr W4414 g4407
  have O4438 := O4437.wr W4415 g4407
  have O4439 := O4438.wr W4416 g4407
  have O4440 := O4439.wr W4417 g4407
  have O4441 := O4440.wr W4418 g4407
  have O4442 := O4441.wr W4419 g4407
  have O4443 := O4442.wr W4420 g4407
  have O4444 := O4443.wr W4421 g4407
  have O4445 := O4444.wr W4422 g4407
  refine o17 (o87 X4422 hx hZ (y := o318) rfl hown (o2 hw 55 rfl) (o2 hw 56 rfl) (o2 hw 2 rfl) (o2 hw 57 rfl) o67 (o904 hw hS b4404 b4405 k4405 iv0 iv1 iv2 h4422 n0 O4445 F4423 F4425 F4426 F4427 V4422 pk4 pk5 pk6 g4428) e4422 o438 (a := b4404) (argsL := [.ref b4405]) (rest := [.ref b4404]) rfl rfl (g := (mkF m 283 #[o0 1, o0 1, o0 1, o0 iv0, o0 iv1, o0 iv2] [.ref b4405, .ref b4404, .ref b4404])) rfl (by rw [hml]; rfl) rfl (hb hby o686) (W := 1) rfl) ?_
  intro T4429 v4429 L4429 X4429 hQ4429
  obtain ⟨nz0_4446, kz1_4447, rfl, M4429, K4429, z4448, F4449, F4450, F4451, F4452, F4453⟩ := hQ4429
  have N4429 := Fr.app N4422 M4429
  have K4454 := (Keep.refl h0 []).ext E4404
  have K4455 := K4454.ext E4405
  have z4457 := Nat.le_trans E4404.1 (Nat.le_of_eq g4405.symm)
  have K4456 := K4455.wr W4406 (Or.inr z4457)
  have K4458 := K4456.wr W4409 (Or.inr z4457)
  have K4459 := K4458.wr W4410 (Or.inr z4457)
  have K4460 := K4459.wr W4411 (Or.inr z4457)
  have K4461 := K4460.wr W4412 (Or.inr z4457)
  have K4462 := K4461.wr W4413 (Or.inr z4457)
  have K4463 := K4462.wr W4414 (Or.inr z4457)
  have K4464 := K4463.wr W4415 (Or.inr z4457)
  have K4465 := K4464.wr W4416 (Or.inr z4457)
  have K4466 := K4465.wr W4417 (Or.inr z4457)
  have K4467 := K4466.wr W4418 (Or.inr z4457)
  have K4468 := K4467.wr W4419 (Or.inr z4457)
  have K4469 := K4468.wr W4420 (Or.inr z4457)
  have K4470 := K4469.wr W4421 (Or.inr z4457)
  have K4471 := K4470.wr W4422 (Or.inr z4457)
  have z4473 := Nat.le_trans (Nat.le_refl _) (Nat.le_of_eq g4404.symm)
  have K4472 := K4471.trans K4429 (allS (Or.inr z4473) all0)
  have z4474 := Nat.le_trans (Nat.le_trans (Nat.le_trans (Nat.le_trans (Nat.le_trans (Nat.le_trans (Nat.le_trans (Nat.le_trans (Nat.le_trans (Nat.le_trans (Nat.le_trans (Nat.le_trans (Nat.le_trans (Nat.le_trans (Nat.le_trans (Nat.le_trans (Nat.le_trans E4404.1 E4405.1) (Nat.le_of_eq W4406.size.symm)) (Nat.le_of_eq W4409.size.symm)) (Nat.le_of_eq W4410.size.symm)) (Nat.le_of_eq W4411.size.symm)) (Nat.le_of_eq W4412.size.symm)) (Nat.le_of_eq W4413.size.symm)) (Nat.le_of_eq W4414.size.symm)) (Nat.le_of_eq W4415.size.symm)) (Nat.le_of_eq W4416.size.symm)) (Nat.le_of_eq W4417.size.symm)) (Nat.le_of_eq W4418.size.symm)) (Nat.le_of_eq W4419.size.symm)) (Nat.le_of_eq W4420.size.symm)) (Nat.le_of_eq W4421.size.symm)) (Nat.le_of_eq W4422.size.symm)) z4448
  exact o69 X4429 hx hlk hret rfl (Or.inr (Or.inr (Or.inr (Or.inr ⟨rfl, rfl, rfl⟩)))) (hb hby o687) (by decide) (by decide) (by exact ⟨b4404, nz0_4446, kz1_4447, rfl, N4429, K4472, z4473, z4474, F4449, F4450, F4451, F4452, F4453⟩)
theorem o906 (hw : o35 a0 Z) (hS : o64 Z wcs) (ad0 ad1 : Addr) (kc2 : ClassId) (iv3 iv4 iv5 : Int32) (kc6 : ClassId) (h0 : Heap) (n0 : Nat) (O0 : Old Z n0 h0) (pa2 : Arv Z h0 ad0 kc2 .byte 15 [.int 98, .int 101, .int 97, .int 110, .int 32, .int 39, .int iv3, .int 39, .int 58, .int 32, .int iv4, .int 32, .int 39, .int iv5, .int 39] (.int 0)) (pa4 : Arv Z h0 ad1 kc6 .byte 15 [.int 98, .int 101, .int 97, .int 110, .int 32, .int 39, .int iv3, .int 39, .int 58, .int 32, .int iv4, .int 32, .int 39, .int iv5, .int 39] (.int 0)) :
    o21 l o320 jdk_43_method_13_code 3 (some .boolean) ws ⟨0, 0, 0, 0⟩ Z h0 #[.ref ad0, .ref ad1] (fun v h L => v = some (.int 1) ∧ Fr n0 L ∧ h = h0) := by
  refine o18 (plainFor_of_name o413) ?_
  intro p e s m below meth c s₁ hx hby hml hown hnm hret hlk hZ e0 X0
  have N0 := Fr.nil n0
  refine o4 (fun u j => castTop (show entryFrame m #[.ref ad0, .ref ad1] 3 = mkF m 0 #[o1 ad0, o1 ad1, o5] [] from rfl) j) ?_
  refine o4 (fun u j => o3 X0.here hx rfl (hb hby o295) rfl rfl (o75 X0 hx hZ e0 pa2 rfl rfl (hb hby o296) (o3 X0.here hx rfl (hb hby o297) rfl rfl (o75 X0 hx hZ e0 pa4 rfl rfl (hb hby o298) (o14 X0.here hx rfl (hb hby o299) rfl (o93 (by decide)) (o16 X0.here hx rfl (hb hby o300) j)))))) ?_
  show o11 p e below _ (s₁.setTop (mkF m 8 #[o1 ad0, o1 ad1, o5] [.int 0]))
  refine o4 (fun u j => o94 X0.here hx rfl (hb hby o301) rfl (l' := #[o1 ad0, o1 ad1, o0 0]) rfl (o6 X0.here hx rfl (hb hby o31) rfl (o3 X0.here hx rfl (hb hby o25) rfl rfl (o75 X0 hx hZ e0 pa2 rfl rfl (hb hby o26) (o14 X0.here hx rfl (hb hby o27) rfl (o19 (by decide)) (o3 X0.here hx rfl (hb hby o52) rfl rfl j)))))) ?_
  show o11 p e below _ (s₁.setTop (mkF m 16 #[o1 ad0, o1 ad1, o0 0] [.ref ad0]))
  refine o4 (fun u j => o6 X0.here hx rfl (hb hby o53) rfl (o77 X0 hx hZ e0 pa2 (j := 0) (v := (.int 98)) (by decide) rfl rfl rfl (hb hby o54) (o3 X0.here hx rfl (hb hby o55) rfl rfl (o6 X0.here hx rfl (hb hby o56) rfl (o77 X0 hx hZ e0 pa4 (j := 0) (v := (.int 98)) (by decide) rfl rfl rfl (hb hby o57) (o13 X0.here hx rfl (pc0 := 21) (pc' := 26) rfl (hb hby o58) rfl (o66 (by decide)) (by decide) (by decide) j)))))) ?_
  show o11 p e below _ (s₁.setTop (mkF m 26 #[o1 ad0, o1 ad1, o0 0] []))
  refine o4 (fun u j => o12 X0.here hx rfl (hb hby o59) rfl (l' := #[o1 ad0, o1 ad1, o0 1]) rfl (o15 X0.here hx rfl (pc0 := 29) (pc' := 9) rfl (hb hby o60) (by decide) (by decide) (o6 X0.here hx rfl (hb hby o31) rfl (o3 X0.here hx rfl (hb hby o25) rfl rfl (o75 X0 hx hZ e0 pa2 rfl rfl (hb hby o26) (o14 X0.here hx rfl (hb hby o27) rfl (o19 (by decide)) j)))))) ?_
  show o11 p e below _ (s₁.setTop (mkF m 15 #[o1 ad0, o1 ad1, o0 1] []))
  refine o4 (fun u j => o3 X0.here hx rfl (hb hby o52) rfl rfl (o6 X0.here hx rfl (hb hby o53) rfl (o77 X0 hx hZ e0 pa2 (j := 1) (v := (.int 101)) (by decide) rfl rfl rfl (hb hby o54) (o3 X0.here hx rfl (hb hby o55) rfl rfl (o6 X0.here hx rfl (hb hby o56) rfl (o77 X0 hx hZ e0 pa4 (j := 1) (v := (.int 101)) (by decide) rfl rfl rfl (hb hby o57) j)))))) ?_
  show o11 p e below _ (s₁.setTop (mkF m 21 #[o1 ad0, o1 ad1, o0 1] [.int 101, .int 101]))
  refine o4 (fun u j => o13 X0.here hx rfl (pc0 := 21) (pc' := 26) rfl (hb hby o58) rfl (o66 (by decide)) (by decide) (by decide) (o12 X0.here hx rfl (hb hby o59) rfl (l' := #[o1 ad0, o1 ad1, o0 2]) rfl (o15 X0.here hx rfl (pc0 := 29) (pc' := 9) rfl (hb hby o60) (by decide) (by decide) (o6 X0.here hx rfl (hb hby o31) rfl (o3 X0.here hx rfl (hb hby o25) rfl rfl (o75 X0 hx hZ e0 pa2 rfl rfl (hb hby o26) j)))))) ?_
  show o11 p e below _ (s₁.setTop (mkF m 12 #[o1 ad0, o1 ad1, o0 2] [.int 15, .int 2]))
  refine o4 (fun u j => o14 X0.here hx rfl (hb hby o27) rfl (o19 (by decide)) (o3 X0.here hx rfl (hb hby o52) rfl rfl (o6 X0.here hx rfl (hb hby o53) rfl (o77 X0 hx hZ e0 pa2 (j := 2) (v := (.int 97)) (by decide) rfl rfl rfl (hb hby o54) (o3 X0.here hx rfl (hb hby o55) rfl rfl (o6 X0.here hx rfl (hb hby o56) rfl j)))))) ?_
  show o11 p e below _ (s₁.setTop (mkF m 20 #[o1 ad0, o1 ad1, o0 2] [.int 2, .ref ad1, .int 97]))
  refine o4 (fun u j => o77 X0 hx hZ e0 pa4 (j := 2) (v := (.int 97)) (by decide) rfl rfl rfl (hb hby o57) (o13 X0.here hx rfl (pc0 := 21) (pc' := 26) rfl (hb hby o58) rfl (o66 (by decide)) (by decide) (by decide) (o12 X0.here hx rfl (hb hby o59) rfl (l' := #[o1 ad0, o1 ad1, o0 3]) rfl (o15 X0.here hx rfl (pc0 := 29) (pc' := 9) rfl (hb hby o60) (by decide) (by decide) (o6 X0.here hx rfl (hb hby o31) rfl (o3 X0.here hx rfl (hb hby o25) rfl rfl j)))))) ?_
  show o11 p e below _ (s₁.setTop (mkF m 11 #[o1 ad0, o1 ad1, o0 3] [.ref ad0, .int 3]))
  refine o4 (fun u j => o75 X0 hx hZ e0 pa2 rfl rfl (hb hby o26) (o14 X0.here hx rfl (hb hby o27) rfl (o19 (by decide)) (o3 X0.here hx rfl (hb hby o52) rfl rfl (o6 X0.here hx rfl (hb hby o53) rfl (o77 X0 hx hZ e0 pa2 (j := 3) (v := (.int 110)) (by decide) rfl rfl rfl (hb hby o54) (o3 X0.here hx rfl (hb hby o55) rfl rfl j)))))) ?_
  show o11 p e below _ (s₁.setTop (mkF m 19 #[o1 ad0, o1 ad1, o0 3] [.ref ad1, .int 110]))
  refine o4 (fun u j => o6 X0.here hx rfl (hb hby o56) rfl (o77 X0 hx hZ e0 pa4 (j := 3) (v := (.int 110)) (by decide) rfl rfl rfl (hb hby o57) (o13 X0.here hx rfl (pc0 := 21) (pc' := 26) rfl (hb hby o58) rfl (o66 (by decide)) (by decide) (by decide) (o12 X0.here hx rfl (hb hby o59) rfl (l' := #[o1 ad0, o1 ad1, o0 4]) rfl (o15 X0.here hx rfl (pc0 := 29) (pc' := 9) rfl (hb hby o60) (by decide) (by decide) (o6 X0.here hx rfl (hb hby o31) rfl j)))))) ?_
  show o11 p e below _ (s₁.setTop (mkF m 10 #[o1 ad0, o1 ad1, o0 4] [.int 4]))
  refine o4 (fun u j => o3 X0.here hx rfl (hb hby o25) rfl rfl (o75 X0 hx hZ e0 pa2 rfl rfl (hb hby o26) (o14 X0.here hx rfl (hb hby o27) rfl (o19 (by decide)) (o3 X0.here hx rfl (hb hby o52) rfl rfl (o6 X0.here hx rfl (hb hby o53) rfl (o77 X0 hx hZ e0 pa2 (j := 4) (v := (.int 32)) (by decide) rfl rfl rfl (hb hby o54) j)))))) ?_
  show o11 p e below _ (s₁.setTop (mkF m 18 #[o1 ad0, o1 ad1, o0 4] [.int 32]))
  refine o4 (fun u j => o3 X0.here hx rfl (hb hby o55) rfl rfl (o6 X0.here hx rfl (hb hby o56) rfl (o77 X0 hx hZ e0 pa4 (j := 4) (v := (.int 32)) (by decide) rfl rfl rfl (hb hby o57) (o13 X0.here hx rfl (pc0 := 21) (pc' := 26) rfl (hb hby o58) rfl (o66 (by decide)) (by decide) (by decide) (o12 X0.here hx rfl (hb hby o59) rfl (l' := #[o1 ad0, o1 ad1, o0 5]) rfl (o15 X0.here hx rfl (pc0 := 29) (pc' := 9) rfl (hb hby o60) (by decide) (by decide) j)))))) ?_
  show o11 p e below _ (s₁.setTop (mkF m 9 #[o1 ad0, o1 ad1, o0 5] []))
  refine o4 (fun u j => o6 X0.here hx rfl (hb hby o31) rfl (o3 X0.here hx rfl (hb hby o25) rfl rfl (o75 X0 hx hZ e0 pa2 rfl rfl (hb hby o26) (o14 X0.here hx rfl (hb hby o27) rfl (o19 (by decide)) (o3 X0.here hx rfl (hb hby o52) rfl rfl (o6 X0.here hx rfl (hb hby o53) rfl j)))))) ?_
  show o11 p e below _ (s₁.setTop (mkF m 17 #[o1 ad0, o1 ad1, o0 5] [.int 5, .ref ad0]))
  refine o4 (fun u j => o77 X0 hx hZ e0 pa2 (j := 5) (v := (.int 39)) (by decide) rfl rfl rfl (hb hby o54) (o3 X0.here hx rfl (hb hby o55) rfl rfl (o6 X0.here hx rfl (hb hby o56) rfl (o77 X0 hx hZ e0 pa4 (j := 5) (v := (.int 39)) (by decide) rfl rfl rfl (hb hby o57) (o13 X0.here hx rfl (pc0 := 21) (pc' := 26) rfl (hb hby o58) rfl (o66 (by decide)) (by decide) (by decide) (o12 X0.here hx rfl (hb hby o59) rfl (l' := #[o1 ad0, o1 ad1, o0 6]) rfl j)))))) ?_
  show o11 p e below _ (s₁.setTop (mkF m 29 #[o1 ad0, o1 ad1, o0 6] []))
  refine o4 (fun u j => o15 X0.here hx rfl (pc0 := 29) (pc' := 9) rfl (hb hby o60) (by decide) (by decide) (o6 X0.here hx rfl (hb hby o31) rfl (o3 X0.here hx rfl (hb hby o25) rfl rfl (o75 X0 hx hZ e0 pa2 rfl rfl (hb hby o26) (o14 X0.here hx rfl (hb hby o27) rfl (o19 (by decide)) (o3 X0.here hx rfl (hb hby o52) rfl rfl j)))))) ?_
  show o11 p e below _ (s₁.setTop (mkF m 16 #[o1 ad0, o1 ad1, o0 6] [.ref ad0]))
  refine o4 (fun u j => o6 X0.here hx rfl (hb hby o53) rfl (o77 X0 hx hZ e0 pa2 (j := 6) (v := (.int iv3)) (by decide) rfl rfl rfl (hb hby o54) (o3 X0.here hx rfl (hb hby o55) rfl rfl (o6 X0.here hx rfl (hb hby o56) rfl (o77 X0 hx hZ e0 pa4 (j := 6) (v := (.int iv3)) (by decide) rfl rfl rfl (hb hby o57) (o13 X0.here hx rfl (pc0 := 21) (pc' := 26) rfl (hb hby o58) rfl (o66 rfl) (by decide) (by decide) j)))))) ?_
  show o11 p e below _ (s₁.setTop (mkF m 26 #[o1 ad0, o1 ad1, o0 6] []))
  refine o4 (fun u j => o12 X0.here hx rfl (hb hby o59) rfl (l' := #[o1 ad0, o1 ad1, o0 7]) rfl (o15 X0.here hx rfl (pc0 := 29) (pc' := 9) rfl (hb hby o60) (by decide) (by decide) (o6 X0.here hx rfl (hb hby o31) rfl (o3 X0.here hx rfl (hb hby o25) rfl rfl (o75 X0 hx hZ e0 pa2 rfl rfl (hb hby o26) (o14 X0.here hx rfl (hb hby o27) rfl (o19 (by decide)) j)))))) ?_
  show o11 p e below _ (s₁.setTop (mkF m 15 #[o1 ad0, o1 ad1, o0 7] []))
  refine o4 (fun u j => o3 X0.here hx rfl (hb hby o52) rfl rfl (o6 X0.here hx rfl (hb hby o53) rfl (o77 X0 hx hZ e0 pa2 (j := 7) (v := (.int 39)) (by decide) rfl rfl rfl (hb hby o54) (o3 X0.here hx rfl (hb hby o55) rfl rfl (o6 X0.here hx rfl (hb hby o56) rfl (o77 X0 hx hZ e0 pa4 (j := 7) (v := (.int 39)) (by decide) rfl rfl rfl (hb hby o57) j)))))) ?_
  show o11 p e below _ (s₁.setTop (mkF m 21 #[o1 ad0, o1 ad1, o0 7] [.int 39, .int 39]))
  refine o4 (fun u j => o13 X0.here hx rfl (pc0 := 21) (pc' := 26) rfl (hb hby o58) rfl (o66 (by decide)) (by decide) (by decide) (o12 X0.here hx rfl (hb hby o59) rfl (l' := #[o1 ad0, o1 ad1, o0 8]) rfl (o15 X0.here hx rfl (pc0 := 29) (pc' := 9) rfl (hb hby o60) (by decide) (by decide) (o6 X0.here hx rfl (hb hby o31) rfl (o3 X0.here hx rfl (hb hby o25) rfl rfl (o75 X0 hx hZ e0 pa2 rfl rfl (hb hby o26) j)))))) ?_
  show o11 p e below _ (s₁.setTop (mkF m 12 #[o1 ad0, o1 ad1, o0 8] [.int 15, .int 8]))
  refine o4 (fun u j => o14 X0.here hx rfl (hb hby o27) rfl (o19 (by decide)) (o3 X0.here hx rfl (hb hby o52) rfl rfl (o6 X0.here hx rfl (hb hby o53) rfl (o77 X0 hx hZ e0 pa2 (j := 8) (v := (.int 58)) (by decide) rfl rfl rfl (hb hby o54) (o3 X0.here hx rfl (hb hby o55) rfl rfl (o6 X0.here hx rfl (hb hby o56) rfl j)))))) ?_
  show o11 p e below _ (s₁.setTop (mkF m 20 #[o1 ad0, o1 ad1, o0 8] [.int 8, .ref ad1, .int 58]))
  refine o4 (fun u j => o77 X0 hx hZ e0 pa4 (j := 8) (v := (.int 58)) (by decide) rfl rfl rfl (hb hby o57) (o13 X0.here hx rfl (pc0 := 21) (pc' := 26) rfl (hb hby o58) rfl (o66 (by decide)) (by decide) (by decide) (o12 X0.here hx rfl (hb hby o59) rfl (l' := #[o1 ad0, o1 ad1, o0 9]) rfl (o15 X0.here hx rfl (pc0 := 29) (pc' := 9) rfl (hb hby o60) (by decide) (by decide) (o6 X0.here hx rfl (hb hby o31) rfl (o3 X0.here hx rfl (hb hby o25) rfl rfl j)))))) ?_
  show o11 p e below _ (s₁.setTop (mkF m 11 #[o1 ad0, o1 ad1, o0 9] [.ref ad0, .int 9]))
  refine o4 (fun u j => o75 X0 hx hZ e0 pa2 rfl rfl (hb hby o26) (o14 X0.here hx rfl (hb hby o27) rfl (o19 (by decide)) (o3 X0.here hx rfl (hb hby o52) rfl rfl (o6 X0.here hx rfl (hb hby o53) rfl (o77 X0 hx hZ e0 pa2 (j := 9) (v := (.int 32)) (by decide) rfl rfl rfl (hb hby o54) (o3 X0.here hx rfl (hb hby o55) rfl rfl j)))))) ?_
  show o11 p e below _ (s₁.setTop (mkF m 19 #[o1 ad0, o1 ad1, o0 9] [.ref ad1, .int 32]))
  refine o4 (fun u j => o6 X0.here hx rfl (hb hby o56) rfl (o77 X0 hx hZ e0 pa4 (j := 9) (v := (.int 32)) (by decide) rfl rfl rfl (hb hby o57) (o13 X0.here hx rfl (pc0 := 21) (pc' := 26) rfl (hb hby o58) rfl (o66 (by decide)) (by decide) (by decide) (o12 X0.here hx rfl (hb hby o59) rfl (l' := #[o1 ad0, o1 ad1, o0 10]) rfl (o15 X0.here hx rfl (pc0 := 29) (pc' := 9) rfl (hb hby o60) (by decide) (by decide) (o6 X0.here hx rfl (hb hby o31) rfl j)))))) ?_
  show o11 p e below _ (s₁.setTop (mkF m 10 #[o1 ad0, o1 ad1, o0 10] [.int 10]))
  refine o4 (fun u j => o3 X0.here hx rfl (hb hby o25) rfl rfl (o75 X0 hx hZ e0 pa2 rfl rfl (hb hby o26) (o14 X0.here hx rfl (hb hby o27) rfl (o19 (by decide)) (o3 X0.here hx rfl (hb hby o52) rfl rfl (o6 X0.here hx rfl (hb hby o53) rfl (o77 X0 hx hZ e0 pa2 (j := 10) (v := (.int iv4)) (by decide) rfl rfl rfl (hb hby o54) j)))))) ?_
  show o11 p e below _ (s₁.setTop (mkF m 18 #[o1 ad0, o1 ad1, o0 10] [.int iv4]))
  refine o4 (fun u j => o3 X0.here hx rfl (hb hby o55) rfl rfl (o6 X0.here hx rfl (hb hby o56) rfl (o77 X0 hx hZ e0 pa4 (j := 10) (v := (.int iv4)) (by decide) rfl rfl rfl (hb hby o57) (o13 X0.here hx rfl (pc0 := 21) (pc' := 26) rfl (hb hby o58) rfl (o66 rfl) (by decide) (by decide) (o12 X0.here hx rfl (hb hby o59) rfl (l' := #[o1 ad0, o1 ad1, o0 11]) rfl (o15 X0.here hx rfl (pc0 := 29) (pc' := 9) rfl (hb hby o60) (by decide) (by decide) j)))))) ?_
  show o11 p e below _ (s₁.setTop (mkF m 9 #[o1 ad0, o1 ad1, o0 11] []))
  refine o4 (fun u j => o6 X0.here hx rfl (hb hby o31) rfl (o3 X0.here hx rfl (hb hby o25) rfl rfl (o75 X0 hx hZ e0 pa2 rfl rfl (hb hby o26) (o14 X0.here hx rfl (hb hby o27) rfl (o19 (by decide)) (o3 X0.here hx rfl (hb hby o52) rfl rfl (o6 X0.here hx rfl (hb hby o53) rfl j)))))) ?_
  show o11 p e below _ (s₁.setTop (mkF m 17 #[o1 ad0, o1 ad1, o0 11] [.int 11, .ref ad0]))
  refine o4 (fun u j => o77 X0 hx hZ e0 pa2 (j := 11) (v := (.int 32)) (by decide) rfl rfl rfl (hb hby o54) (o3 X0.here hx rfl (hb hby o55) rfl rfl (o6 X0.here hx rfl (hb hby o56) rfl (o77 X0 hx hZ e0 pa4 (j := 11) (v := (.int 32)) (by decide) rfl rfl rfl (hb hby o57) (o13 X0.here hx rfl (pc0 := 21) (pc' := 26) rfl (hb hby o58) rfl (o66 (by decide)) (by decide) (by decide) (o12 X0.here hx rfl (hb hby o59) rfl (l' := #[o1 ad0, o1 ad1, o0 12]) rfl j)))))) ?_
  show o11 p e below _ (s₁.setTop (mkF m 29 #[o1 ad0, o1 ad1, o0 12] []))
  refine o4 (fun u j => o15 X0.here hx rfl (pc0 := 29) (pc' := 9) rfl (hb hby o60) (by decide) (by decide) (o6 X0.here hx rfl (hb hby o31) rfl (o3 X0.here hx rfl (hb hby o25) rfl rfl (o75 X0 hx hZ e0 pa2 rfl rfl (hb hby o26) (o14 X0.here hx rfl (hb hby o27) rfl (o19 (by decide)) (o3 X0.here hx rfl (hb hby o52) rfl rfl j)))))) ?_
  show o11 p e below _ (s₁.setTop (mkF m 16 #[o1 ad0, o1 ad1, o0 12] [.ref ad0]))
  refine o4 (fun u j => o6 X0.here hx rfl (hb hby o53) rfl (o77 X0 hx hZ e0 pa2 (j := 12) (v := (.int 39)) (by decide) rfl rfl rfl (hb hby o54) (o3 X0.here hx rfl (hb hby o55) rfl rfl (o6 X0.here hx rfl (hb hby o56) rfl (o77 X0 hx hZ e0 pa4 (j := 12) (v := (.int 39)) (by decide) rfl rfl rfl (hb hby o57) (o13 X0.here hx rfl (pc0 := 21) (pc' := 26) rfl (hb hby o58) rfl (o66 (by decide)) (by decide) (by decide) j)))))) ?_
  show o11 p e below _ (s₁.setTop (mkF m 26 #[o1 ad0, o1 ad1, o0 12] []))
  refine o4 (fun u j => o12 X0.here hx rfl (hb hby o59) rfl (l' := #[o1 ad0, o1 ad1, o0 13]) rfl (o15 X0.here hx rfl (pc0 := 29) (pc' := 9) rfl (hb hby o60) (by decide) (by decide) (o6 X0.here hx rfl (hb hby o31) rfl (o3 X0.here hx rfl (hb hby o25) rfl rfl (o75 X0 hx hZ e0 pa2 rfl rfl (hb hby o26) (o14 X0.here hx rfl (hb hby o27) rfl (o19 (by decide)) j)))))) ?_
  show o11 p e below _ (s₁.setTop (mkF m 15 #[o1 ad0, o1 ad1, o0 13] []))
  refine o4 (fun u j => o3 X0.here hx rfl (hb hby o52) rfl rfl (o6 X0.here hx rfl (hb hby o53) rfl (o77 X0 hx hZ e0 pa2 (j := 13) (v := (.int iv5)) (by decide) rfl rfl rfl (hb hby o54) (o3 X0.here hx rfl (hb hby o55) rfl rfl (o6 X0.here hx rfl (hb hby o56) rfl (o77 X0 hx hZ e0 pa4 (j := 13) (v := (.int iv5)) (by decide) rfl rfl rfl (hb hby o57) j)))))) ?_
  show o11 p e below _ (s₁.setTop (mkF m 21 #[o1 ad0, o1 ad1, o0 13] [.int iv5, .int iv5]))
  refine o4 (fun u j => o13 X0.here hx rfl (pc0 := 21) (pc' := 26) rfl (hb hby o58) rfl (o66 rfl) (by decide) (by decide) (o12 X0.here hx rfl (hb hby o59) rfl (l' := #[o1 ad0, o1 ad1, o0 14]) rfl (o15 X0.here hx rfl (pc0 := 29) (pc' := 9) rfl (hb hby o60) (by decide) (by decide) (o6 X0.here hx rfl (hb hby o31) rfl (o3 X0.here hx rfl (hb hby o25) rfl rfl (o75 X0 hx hZ e0 pa2 rfl rfl (hb hby o26) j)))))) ?_
  show o11 p e below _ (s₁.setTop (mkF m 12 #[o1 ad0, o1 ad1, o0 14] [.int 15, .int 14]))
  refine o4 (fun u j => o14 X0.here hx rfl (hb hby o27) rfl (o19 (by decide)) (o3 X0.here hx rfl (hb hby o52) rfl rfl (o6 X0.here hx rfl (hb hby o53) rfl (o77 X0 hx hZ e0 pa2 (j := 14) (v := (.int 39)) (by decide) rfl rfl rfl (hb hby o54) (o3 X0.here hx rfl (hb hby o55) rfl rfl (o6 X0.here hx rfl (hb hby o56) rfl j)))))) ?_
  show o11 p e below _ (s₁.setTop (mkF m 20 #[o1 ad0, o1 ad1, o0 14] [.int 14, .ref ad1, .int 39]))
  refine o4 (fun u j => o77 X0 hx hZ e0 pa4 (j := 14) (v := (.int 39)) (by decide) rfl rfl rfl (hb hby o57) (o13 X0.here hx rfl (pc0 := 21) (pc' := 26) rfl (hb hby o58) rfl (o66 (by decide)) (by decide) (by decide) (o12 X0.here hx rfl (hb hby o59) rfl (l' := #[o1 ad0, o1 ad1, o0 15]) rfl (o15 X0.here hx rfl (pc0 := 29) (pc' := 9) rfl (hb hby o60) (by decide) (by decide) (o6 X0.here hx rfl (hb hby o31) rfl (o3 X0.here hx rfl (hb hby o25) rfl rfl j)))))) ?_
  show o11 p e below _ (s₁.setTop (mkF m 11 #[o1 ad0, o1 ad1, o0 15] [.ref ad0, .int 15]))
  refine o4 (fun u j => o75 X0 hx hZ e0 pa2 rfl rfl (hb hby o26) (o13 X0.here hx rfl (pc0 := 12) (pc' := 32) rfl (hb hby o27) rfl (o175 (by decide)) (by decide) (by decide) (o16 X0.here hx rfl (hb hby o253) j))) ?_
  exact o69 X0 hx hlk hret rfl (Or.inl ⟨rfl, by simp, _, rfl⟩) (hb hby o254) (by decide) (by decide) (by rw [e0]; exact ⟨rfl, N0, rfl⟩)
theorem o907 (hw : o35 a0 Z) (hS : o64 Z wcs) (ad0 ad1 : Addr) (ad2 ad3 : Addr) (kc4 : ClassId) (iv5 iv6 iv7 : Int32) (kc8 : ClassId) (h0 : Heap) (n0 : Nat) (O0 : Old Z n0 h0) (pf2 : Fld Z h0 ad0 o7 "coder" "B" (.int 0)) (pf3 : Fld Z h0 ad0 o7 "value" "[B" (.ref ad2)) (pe4 : Exa Z h0 ad1 o7) (pf5 : Fld Z h0 ad1 o7 "coder" "B" (.int 0)) (pf6 : Fld Z h0 ad1 o7 "value" "[B" (.ref ad3)) (pa8 : Arv Z h0 ad2 kc4 .byte 15 [.int 98, .int 101, .int 97, .int 110, .int 32, .int 39, .int iv5, .int 39, .int 58, .int 32, .int iv6, .int 32, .int 39, .int iv7, .int 39] (.int 0)) (pa10 : Arv Z h0 ad3 kc8 .byte 15 [.int 98, .int 101, .int 97, .int 110, .int 32, .int 39, .int iv5, .int 39, .int 58, .int 32, .int iv6, .int 32, .int 39, .int iv7, .int 39] (.int 0)) (pn_ad0_ad1 : ad0 ≠ ad1) :
    o21 l o182 jdk_42_method_66_code 3 (some .boolean) ws ⟨1, 0, 0, 14⟩ Z h0 #[.ref ad0, .ref ad1] (fun v h L => v = some (.int 1) ∧ Fr n0 L ∧ h = h0) := by
  refine o18 (plainFor_of_name o83) ?_
  intro p e s m below meth c s₁ hx hby hml hown hnm hret hlk hZ e0 X0
  have N0 := Fr.nil n0
  refine o4 (fun u j => castTop (show entryFrame m #[.ref ad0, .ref ad1] 3 = mkF m 0 #[o1 ad0, o1 ad1, o5] [] from rfl) j) ?_
  refine o4 (fun u j => o3 X0.here hx rfl (hb hby o290) rfl rfl (o3 X0.here hx rfl (hb hby o291) rfl rfl (XT.acmpYes X0.here hx rfl (pc0 := 2) (pc' := 7) rfl (hb hby o292) rfl rfl rfl (XT.aa_ne_t (o504 pn_ad0_ad1)) (by decide) (by decide) (o3 X0.here hx rfl (hb hby o293) rfl rfl j)))) ?_
  have q_ := instY X0 hx hZ hown (o2 hw 9 rfl) e0 (Ins.self pe4) (g := (mkF m 8 #[o1 ad0, o1 ad1, o5] [.ref ad1])) rfl rfl (hb hby o294)
  obtain ⟨T4532, X4532, e4532, st4532⟩ := q_
  refine o4 (fun u j => st4532 u j) ?_
  refine o4 (fun u j => o68 X4532.here hx rfl (hb hby o237) rfl (o65 (by decide)) (o3 X4532.here hx rfl (hb hby o238) rfl rfl j)) ?_
  have q_ := castY X4532 hx hZ hown (o2 hw 9 rfl) e4532 (Ins.self pe4) (g := (mkF m 15 #[o1 ad0, o1 ad1, o5] [.ref ad1])) rfl rfl (hb hby o239)
  obtain ⟨T4533, X4533, e4533, st4533⟩ := q_
  refine o4 (fun u j => st4533 u j) ?_
  refine o4 (fun u j => o84 X4533.here hx rfl (hb hby o240) rfl rfl (l' := #[o1 ad0, o1 ad1, o1 ad1]) rfl j) ?_
  have F4534 := Sta.ext O0.2 hS.1
  refine o22 (getS2 X4533 hx hZ hown (host := "") (Or.inl (o2 hw 4 rfl)) Via.refl e4533 F4534 rfl (hb hby o241)) ?_
  intro T4535 X4535 e4535
  refine o4 (fun u j => o68 X4535.here hx rfl (hb hby o242) rfl (o65 hS.2) (o3 X4535.here hx rfl (hb hby o243) rfl rfl j)) ?_
  refine o22 (getF X4535 hx hZ hown (host := "") (Or.inl (o2 hw 24 rfl)) Via.refl e4535 pf2 rfl rfl (hb hby o244)) ?_
  intro T4536 X4536 e4536
  refine o4 (fun u j => o3 X4536.here hx rfl (hb hby o245) rfl rfl j) ?_
  refine o22 (getF X4536 hx hZ hown (host := "") (Or.inl (o2 hw 24 rfl)) Via.refl e4536 pf5 rfl rfl (hb hby o246)) ?_
  intro T4537 X4537 e4537
  refine o4 (fun u j => o14 X4537.here hx rfl (hb hby o247) rfl (o93 (by decide)) (o3 X4537.here hx rfl (hb hby o248) rfl rfl j)) ?_
  refine o22 (getF X4537 hx hZ hown (host := "") (Or.inl (o2 hw 22 rfl)) Via.refl e4537 pf3 rfl rfl (hb hby o249)) ?_
  intro T4538 X4538 e4538
  refine o4 (fun u j => o3 X4538.here hx rfl (hb hby o250) rfl rfl j) ?_
  refine o22 (getF X4538 hx hZ hown (host := "") (Or.inl (o2 hw 22 rfl)) Via.refl e4538 pf6 rfl rfl (hb hby o251)) ?_
  intro T4539 X4539 e4539
  refine o17 (o78 X4539 hx hZ (y := o320) hown (o2 hw 76 rfl) (o2 hw 77 rfl) (o2 hw 7 rfl) (o2 hw 78 rfl) o414 (o906 hw hS ad2 ad3 kc4 iv5 iv6 iv7 kc8 h0 n0 O0 pa8 pa10) e4539 o441 (argsL := [.ref ad2, .ref ad3]) (rest := []) rfl rfl (g := (mkF m 44 #[o1 ad0, o1 ad1, o1 ad1] [.ref ad3, .ref ad2])) rfl (by rw [hml]; rfl) rfl (hb hby o252) (W := 0) rfl) ?_
  intro T4540 v4540 L4540 X4540 hQ4540
  obtain ⟨rfl, M4540, e4540⟩ := hQ4540
  have N4540 := Fr.app N0 M4540
  refine o4 (fun u j => o68 X4540.here hx rfl (hb hby o255) rfl (o65 (by decide)) (o16 X4540.here hx rfl (hb hby o256) (o15 X4540.here hx rfl (pc0 := 51) (pc' := 55) rfl (hb hby o257) (by decide) (by decide) j))) ?_
  exact o69 X4540 hx hlk hret rfl (Or.inl ⟨rfl, by simp, _, rfl⟩) (hb hby o258) (by decide) (by decide) (by rw [e4540]; exact ⟨rfl, N4540, rfl⟩)
-- the law itself
theorem o855 (m : MethodId) (se cb : Int32) (cp cn : Int32)  : entryFrame m #[.int se, .int cb, .int cp, .int cn] maxLocals = mkF m 0 #[o0 se, o0 cb, o0 cp, o0 cn, o5, o5, o5, o5, o5, o5, o5, o5, o5, o5, o5, o5] [] := by first | (simp [entryFrame, mkF, argsToLocals, Value.category, maxLocals]; done) | rfl
def Qrm0 (Z : State) (wcs se : Int32) (cb cp cn : Int32) (h0 : Heap) (n0 : Nat) (v : Option Value) (h : Heap) (L : List Loc) : Prop := v = some (.int 1) ∧ Fr n0 L ∧ Keep h0 h []
end OwnV
theorem rm0 (l : Launch) (Z : State) (a0 : Array Value) (hw : o35 a0 Z) (ws : List Jvm.Cond) (wcs : Int32) (hS : o64 Z wcs) (se cb : Int32) (cp cn : Int32) (h0 : Heap) (n0 : Nat) (O0 : Old Z n0 h0)  :
    o206 o23 [] l x code maxLocals ret ws room_1 Z h0 #[.int se, .int cb, .int cp, .int cn] (Qrm0 Z wcs se cb cp cn h0 n0) := by
  refine o461 (plainFor_of_name o421) ?_
  intro p e s m below meth c s₁ hx hby hml hown hnm hret hlk hZ e0 X0 hSi0 hs0 hC0 hsf0
  have hZ_0 := hZ
  have R0 : CHr Z o23 s.vm h0 s.vm h0 := CHr.refl hC0
  have N0 := Fr.nil n0
  refine o4 (fun u j => castTop (o855 m se cb cp cn) j) ?_
  show o11 p e below _ (s₁.setTop (mkF m 0 #[o0 se, o0 cb, o0 cp, o0 cn, o5, o5, o5, o5, o5, o5, o5, o5, o5, o5, o5, o5] []))
  refine o4 (fun u j => o6 X0.here hx rfl (hb hby at_0) rfl (o16 X0.here hx rfl (hb hby at_1) (o108 X0.here hx rfl (hb hby at_2) rfl j))) ?_
  by_cases hc1 : (se &&& (1 : Int32)) = (0 : Int32)
  · refine o4 (fun u j => o88 X0.here hx rfl (pc0 := 3) (pc' := 10) rfl (hb hby at_3) rfl (o165 hc1) (by decide) (by decide) (o16 X0.here hx rfl (hb hby at_10) (o20 X0.here hx rfl (hb hby at_11) rfl (l' := #[o0 se, o0 cb, o0 cp, o0 cn, o0 0, o5, o5, o5, o5, o5, o5, o5, o5, o5, o5, o5]) rfl j))) ?_
    show o11 p e below _ (s₁.setTop (mkF m 13 #[o0 se, o0 cb, o0 cp, o0 cn, o0 0, o5, o5, o5, o5, o5, o5, o5, o5, o5, o5, o5] []))
    refine o4 (fun u j => o8 X0.here hx rfl (hb hby at_13) rfl (o88 X0.here hx rfl (pc0 := 15) (pc' := 24) rfl (hb hby at_15) rfl (o165 (by decide)) (by decide) (by decide) (o16 X0.here hx rfl (hb hby at_24) (o15 X0.here hx rfl (pc0 := 25) (pc' := 29) rfl (hb hby at_25) (by decide) (by decide) (o20 X0.here hx rfl (hb hby at_29) rfl (l' := #[o0 se, o0 cb, o0 cp, o0 cn, o0 0, o0 1, o5, o5, o5, o5, o5, o5, o5, o5, o5, o5]) rfl (o8 X0.here hx rfl (hb hby at_31) rfl j)))))) ?_
    show o11 p e below _ (s₁.setTop (mkF m 33 #[o0 se, o0 cb, o0 cp, o0 cn, o0 0, o0 1, o5, o5, o5, o5, o5, o5, o5, o5, o5, o5] [.int 1]))
    refine o4 (fun u j => o68 X0.here hx rfl (hb hby at_33) rfl (o65 (by decide)) (o6 X0.here hx rfl (hb hby at_36) rfl (o16 X0.here hx rfl (hb hby at_37) (o108 X0.here hx rfl (hb hby at_38) rfl j)))) ?_
    by_cases hc2 : (se &&& (4 : Int32)) = (0 : Int32)
    · refine o4 (fun u j => o88 X0.here hx rfl (pc0 := 39) (pc' := 46) rfl (hb hby at_39) rfl (o165 hc2) (by decide) (by decide) (o16 X0.here hx rfl (hb hby at_46) j)) ?_
      show o11 p e below _ (s₁.setTop (mkF m 47 #[o0 se, o0 cb, o0 cp, o0 cn, o0 0, o0 1, o5, o5, o5, o5, o5, o5, o5, o5, o5, o5] [.int 0]))
      refine o4 (fun u j => o20 X0.here hx rfl (hb hby at_47) rfl (l' := #[o0 se, o0 cb, o0 cp, o0 cn, o0 0, o0 1, o0 0, o5, o5, o5, o5, o5, o5, o5, o5, o5]) rfl (o6 X0.here hx rfl (hb hby at_49) rfl (o33 X0.here hx rfl (hb hby at_50) (o108 X0.here hx rfl (hb hby at_53) rfl (XS.i2c X0.here hx rfl (hb hby at_54) rfl (o20 X0.here hx rfl (hb hby at_55) rfl (l' := #[o0 se, o0 cb, o0 cp, o0 cn, o0 0, o0 1, o0 0, o0 (o9 cb), o5, o5, o5, o5, o5, o5, o5, o5]) rfl j)))))) ?_
      show o11 p e below _ (s₁.setTop (mkF m 57 #[o0 se, o0 cb, o0 cp, o0 cn, o0 0, o0 1, o0 0, o0 (o9 cb), o5, o5, o5, o5, o5, o5, o5, o5] []))
      refine o4 (fun u j => o6 X0.here hx rfl (hb hby at_57) rfl (o33 X0.here hx rfl (hb hby at_58) (o108 X0.here hx rfl (hb hby at_61) rfl (XS.i2c X0.here hx rfl (hb hby at_62) rfl (o20 X0.here hx rfl (hb hby at_63) rfl (l' := #[o0 se, o0 cb, o0 cp, o0 cn, o0 0, o0 1, o0 0, o0 (o9 cb), o0 (o9 cp), o5, o5, o5, o5, o5, o5, o5]) rfl (o6 X0.here hx rfl (hb hby at_65) rfl j)))))) ?_
      show o11 p e below _ (s₁.setTop (mkF m 66 #[o0 se, o0 cb, o0 cp, o0 cn, o0 0, o0 1, o0 0, o0 (o9 cb), o0 (o9 cp), o5, o5, o5, o5, o5, o5, o5] [.int cn]))
      refine o4 (fun u j => o33 X0.here hx rfl (hb hby at_66) (o108 X0.here hx rfl (hb hby at_69) rfl (XS.i2c X0.here hx rfl (hb hby at_70) rfl (o20 X0.here hx rfl (hb hby at_71) rfl (l' := #[o0 se, o0 cb, o0 cp, o0 cn, o0 0, o0 1, o0 0, o0 (o9 cb), o0 (o9 cp), o0 (o9 cn), o5, o5, o5, o5, o5, o5]) rfl (o8 X0.here hx rfl (hb hby at_73) rfl (o88 X0.here hx rfl (pc0 := 75) (pc' := 86) rfl (hb hby at_75) rfl (o165 (by decide)) (by decide) (by decide) j)))))) ?_
      show o11 p e below _ (s₁.setTop (mkF m 86 #[o0 se, o0 cb, o0 cp, o0 cn, o0 0, o0 1, o0 0, o0 (o9 cb), o0 (o9 cp), o0 (o9 cn), o5, o5, o5, o5, o5, o5] []))
      refine o4 (fun u j => o99 X0.here hx rfl (hb hby at_86) (o76 X0.here hx rfl (hb hby at_87) rfl rfl (l' := #[o0 se, o0 cb, o0 cp, o0 cn, o0 0, o0 1, o0 0, o0 (o9 cb), o0 (o9 cp), o0 (o9 cn), .val .null, o5, o5, o5, o5, o5]) rfl (o8 X0.here hx rfl (hb hby at_89) rfl (o68 X0.here hx rfl (hb hby at_91) rfl (o65 (by decide)) (o8 X0.here hx rfl (hb hby at_94) rfl j))))) ?_
      refine o17 (o78 X0 hx hZ (y := o394) hown (o2 hw 0 rfl) (o2 hw 1 rfl) (o2 hw 2 rfl) (o2 hw 3 rfl) o67 (o505 hw hS (o9 cp) h0 n0 O0 (o176 _)) e0 o369 (argsL := [(.int (o9 cp))]) (rest := []) rfl rfl (g := (mkF m 96 #[o0 se, o0 cb, o0 cp, o0 cn, o0 0, o0 1, o0 0, o0 (o9 cb), o0 (o9 cp), o0 (o9 cn), .val .null, o5, o5, o5, o5, o5] [(.int (o9 cp))])) rfl (by rw [hml]; rfl) rfl (hb hby at_96) (W := 0) rfl) ?_
      intro T79 v79 L79 X79 hQ79
      obtain ⟨nz0_80, nz1_81, kz2_82, rfl, M79, K79, z83, z84, F85, F86, F87, F88, F89⟩ := hQ79
      have N79 := Fr.app N0 M79
      refine o4 (fun u j => o15 X79.here hx rfl (pc0 := 99) (pc' := 103) rfl (hb hby at_99) (by decide) (by decide) (o76 X79.here hx rfl (hb hby at_103) rfl rfl (l' := #[o0 se, o0 cb, o0 cp, o0 cn, o0 0, o0 1, o0 0, o0 (o9 cb), o0 (o9 cp), o0 (o9 cn), .val .null, o1 nz0_80, o5, o5, o5, o5]) rfl (o8 X79.here hx rfl (hb hby at_105) rfl (o88 X79.here hx rfl (pc0 := 107) (pc' := 118) rfl (hb hby at_107) rfl (o165 (by decide)) (by decide) (by decide) (o99 X79.here hx rfl (hb hby at_118) (o76 X79.here hx rfl (hb hby at_119) rfl rfl (l' := #[o0 se, o0 cb, o0 cp, o0 cn, o0 0, o0 1, o0 0, o0 (o9 cb), o0 (o9 cp), o0 (o9 cn), .val .null, o1 nz0_80, .val .null, o5, o5, o5]) rfl j)))))) ?_
      show o11 p e below _ (T79.setTop (mkF m 121 #[o0 se, o0 cb, o0 cp, o0 cn, o0 0, o0 1, o0 0, o0 (o9 cb), o0 (o9 cp), o0 (o9 cn), .val .null, o1 nz0_80, .val .null, o5, o5, o5] []))
      have q_ := newO X79 hx hZ hown (o2 hw 26 rfl) (o2 hw 27 rfl) (o2 hw 28 rfl) rfl (g := (mkF m 121 #[o0 se, o0 cb, o0 cp, o0 cn, o0 0, o0 1, o0 0, o0 (o9 cb), o0 (o9 cp), o0 (o9 cn), .val .null, o1 nz0_80, .val .null, o5, o5, o5] [])) rfl (hb hby at_121) (by decide) (by decide)
      obtain ⟨T90, h90, X90, e90, E90, A90, D90, U90, st90⟩ := q_
      have q_ : ∃ z, z = T79.heap.size := ⟨_, rfl⟩
      obtain ⟨b90, g90⟩ := q_
      rw [← g90] at A90 D90 U90 st90
      have F90_bean : Fld Z h90 b90 o62 "bean" o71 .null := D90 (Or.inr (o2 hw 39 rfl)) (ty := (.object "java/lang/String")) o82
      have F90_part : Fld Z h90 b90 o62 "part" o71 .null := D90 (Or.inr (o2 hw 41 rfl)) (ty := (.object "java/lang/String")) o82
      have F90_name : Fld Z h90 b90 o62 "name" o71 .null := D90 (Or.inr (o2 hw 43 rfl)) (ty := (.object "java/lang/String")) o82
      refine o4 (fun u j => st90 u j) ?_
      refine o4 (fun u j => o61 X90.here hx rfl (hb hby at_124) rfl rfl (o72 X90.here hx rfl (hb hby at_125) rfl rfl (o72 X90.here hx rfl (hb hby at_127) rfl rfl (o72 X90.here hx rfl (hb hby at_129) rfl rfl j)))) ?_
      have O122 := O0.keep K79 all0
      have g121 := Nat.le_trans (o103 O122) (Nat.le_of_eq g90.symm)
      have O124 := O122.ext E90
      refine o17 (o87 X90 hx hZ (y := o395) rfl hown (o2 hw 29 rfl) (o2 hw 30 rfl) (o2 hw 28 rfl) (o2 hw 31 rfl) o313 (o1009 hw hS b90 nz0_80 h90 n0 O124 A90 F90_bean F90_name F90_part g121) e90 o469 (a := b90) (argsL := [.null, .ref nz0_80, .null]) (rest := [.ref b90]) rfl rfl (g := (mkF m 131 #[o0 se, o0 cb, o0 cp, o0 cn, o0 0, o0 1, o0 0, o0 (o9 cb), o0 (o9 cp), o0 (o9 cn), .val .null, o1 nz0_80, .val .null, o5, o5, o5] [.null, .ref nz0_80, .null, .ref b90, .ref b90])) rfl (by rw [hml]; rfl) rfl (hb hby at_131) (W := 1) rfl) ?_
      intro T123 v123 L123 X123 hQ123
      obtain ⟨rfl, M123, K123, F125, F126, F127, F128⟩ := hQ123
      have N123 := Fr.app N79 M123
      refine o4 (fun u j => o76 X123.here hx rfl (hb hby at_134) rfl rfl (l' := #[o0 se, o0 cb, o0 cp, o0 cn, o0 0, o0 1, o0 0, o0 (o9 cb), o0 (o9 cp), o0 (o9 cn), .val .null, o1 nz0_80, .val .null, o1 b90, o5, o5]) rfl (o72 X123.here hx rfl (hb hby at_136) rfl rfl j)) ?_
      have O136 := O124.keep K123 (allS g121 all0)
      refine o17 (o63 X123 hx hZ (y := o181) (z := o181) hown (o2 hw 44 rfl) (o2 hw 45 rfl) (notFace_of_selects (args := #[]) (mvT hZ (o2 hw 47 rfl))) (o2 hw 47 rfl) (o2 hw 46 rfl) (o2 hw 28 rfl) (o2 hw 48 rfl) o313 (o1010 hw hS b90 nz0_80 T123.heap n0 O136 F126 F127 F128) rfl F125 o207 (argsL := []) (rest := []) rfl rfl (g := (mkF m 138 #[o0 se, o0 cb, o0 cp, o0 cn, o0 0, o0 1, o0 0, o0 (o9 cb), o0 (o9 cp), o0 (o9 cn), .val .null, o1 nz0_80, .val .null, o1 b90, o5, o5] [.ref b90])) rfl (by rw [hml]; rfl) rfl (hb hby at_138) (W := 0) rfl) ?_
      intro T135 v135 L135 X135 hQ135
      obtain ⟨rfl, M135, e135⟩ := hQ135
      have N135 := Fr.app N123 M135
      refine o4 (fun u j => o76 X135.here hx rfl (hb hby at_141) rfl rfl (l' := #[o0 se, o0 cb, o0 cp, o0 cn, o0 0, o0 1, o0 0, o0 (o9 cb), o0 (o9 cp), o0 (o9 cn), .val .null, o1 nz0_80, .val .null, o1 b90, o1 nz0_80, o5]) rfl (o8 X135.here hx rfl (hb hby at_143) rfl (o8 X135.here hx rfl (hb hby at_145) rfl (o8 X135.here hx rfl (hb hby at_147) rfl (o8 X135.here hx rfl (hb hby at_149) rfl (o8 X135.here hx rfl (hb hby at_151) rfl j)))))) ?_
      show o11 p e below _ (T135.setTop (mkF m 153 #[o0 se, o0 cb, o0 cp, o0 cn, o0 0, o0 1, o0 0, o0 (o9 cb), o0 (o9 cp), o0 (o9 cn), .val .null, o1 nz0_80, .val .null, o1 b90, o1 nz0_80, o5] [(.int (o9 cp)), (.int (o9 cb)), .int 0, .int 1, .int 0]))
      refine o4 (fun u j => o8 X135.here hx rfl (hb hby at_153) rfl j) ?_
      refine o17 (o78 X135 hx hZ (y := o319) hown (o2 hw 49 rfl) (o2 hw 50 rfl) (o2 hw 51 rfl) (o2 hw 52 rfl) o439 (o921 hw hS (o9 cb) (o9 cp) (o9 cn) T123.heap n0 O136 (o420 _) (o176 _)) e135 o440 (argsL := [.int 0, .int 1, .int 0, (.int (o9 cb)), (.int (o9 cp)), (.int (o9 cn))]) (rest := []) rfl rfl (g := (mkF m 155 #[o0 se, o0 cb, o0 cp, o0 cn, o0 0, o0 1, o0 0, o0 (o9 cb), o0 (o9 cp), o0 (o9 cn), .val .null, o1 nz0_80, .val .null, o1 b90, o1 nz0_80, o5] [(.int (o9 cn)), (.int (o9 cp)), (.int (o9 cb)), .int 0, .int 1, .int 0])) rfl (by rw [hml]; rfl) rfl (hb hby at_155) (W := 0) rfl) ?_
      intro T278 v278 L278 X278 hQ278
      obtain ⟨nz0_279, nz1_280, kz2_281, rfl, M278, K278, z282, z283, F284, F285, F286, F287, F288⟩ := hQ278
      have N278 := Fr.app N135 M278
      refine o4 (fun u j => o76 X278.here hx rfl (hb hby at_158) rfl rfl (l' := #[o0 se, o0 cb, o0 cp, o0 cn, o0 0, o0 1, o0 0, o0 (o9 cb), o0 (o9 cp), o0 (o9 cn), .val .null, o1 nz0_80, .val .null, o1 b90, o1 nz0_80, o1 nz0_279]) rfl (o72 X278.here hx rfl (hb hby at_160) rfl rfl (o72 X278.here hx rfl (hb hby at_162) rfl rfl j))) ?_
      have F315 := (((Exa.ext E90 F85).keep K123).keep K278)
      have ne316 := (Nat.ne_of_lt (Nat.lt_of_lt_of_le F85.lt (Nat.le_of_eq g90.symm)))
      have F317 := (((Fld.ext E90 F86).keep K123 (ninS ne316 nin0)).keep K278 nin0)
      have F318 := (((Fld.ext E90 F87).keep K123 (ninS ne316 nin0)).keep K278 nin0)
      have ne319 := (Nat.ne_of_lt (Nat.lt_of_lt_of_le F88.lt (Nat.le_of_eq g90.symm)))
      have F320 := (((F89.ext E90).keep K123 (ninS ne319 nin0)).keep K278 nin0)
      have ne321 := (Ne.symm (Nat.ne_of_lt (Nat.lt_of_lt_of_le (Nat.lt_of_lt_of_le F85.lt (Nat.le_trans E90.1 K123.1)) z282)))
      have O323 := O136.keep K278 all0
      refine o17 (o63 X278 hx hZ (y := o182) (z := o182) hown (o2 hw 71 rfl) (o2 hw 72 rfl) (notFace_of_selects (args := #[]) (mvT hZ (o2 hw 74 rfl))) (o2 hw 74 rfl) (o2 hw 73 rfl) (o2 hw 2 rfl) (o2 hw 75 rfl) o67 (o923 hw hS nz0_279 nz0_80 nz1_280 nz1_81 kz2_281 ((o9 cp).toInt8.toInt32) kz2_82 T278.heap n0 O323 F285 F286 F315 F317 F318 F288 F320 ne321) rfl F284 o442 (argsL := [.ref nz0_80]) (rest := []) rfl rfl (g := (mkF m 164 #[o0 se, o0 cb, o0 cp, o0 cn, o0 0, o0 1, o0 0, o0 (o9 cb), o0 (o9 cp), o0 (o9 cn), .val .null, o1 nz0_80, .val .null, o1 b90, o1 nz0_80, o1 nz0_279] [.ref nz0_80, .ref nz0_279])) rfl (by rw [hml]; rfl) rfl (hb hby at_164) (W := 0) rfl) ?_
      intro T322 v322 L322 X322 hQ322
      obtain ⟨rfl, M322, e322⟩ := hQ322
      have N322 := Fr.app N278 M322
      have K324 := (Keep.refl h0 []).trans K79 all0
      have K325 := K324.ext E90
      have z327 := Nat.le_trans K79.1 (Nat.le_of_eq g90.symm)
      have K326 := K325.trans K123 (allS (Or.inr z327) all0)
      have K328 := K326.trans K278 all0
      have R329 : CHr Z o23 s.vm h0 s.vm T79.heap := R0.trans (CHr.keep K79 sf0 R0.1)
      have R330 : CHr Z o23 s.vm h0 s.vm h90 := R329.trans (CHr.ext E90 R329.1)
      have sf_332 : Safe Z o23 s.vm h90 b90 := Safe.exa hZ_0.alike A90 o443 o444
      have R331 : CHr Z o23 s.vm h0 s.vm T123.heap := R330.trans (CHr.keep K123 (sfS sf_332 sf0) R330.1)
      have R333 : CHr Z o23 s.vm h0 s.vm T278.heap := R331.trans (CHr.keep K278 sf0 R331.1)
      exact o368 X322 hSi0 (Nat.le_trans (Nat.zero_le _) (Nat.le_trans (Nat.le_trans (Nat.le_trans K79.1 E90.1) K123.1) K278.1)) e322 hZ (o172 hw) hs0 R333 hx hlk hret rfl (Or.inl ⟨rfl, by simp, _, rfl⟩) (hb hby at_167) (by decide) (by decide) (show Qrm0 Z wcs se cb cp cn h0 n0 (some (.int 1)) T322.heap _ from (by rw [e322]; exact ⟨rfl, N322, K328⟩))
    · refine o4 (fun u j => o68 X0.here hx rfl (hb hby at_39) rfl (o65 hc2) (o16 X0.here hx rfl (hb hby at_42) j)) ?_
      show o11 p e below _ (s₁.setTop (mkF m 43 #[o0 se, o0 cb, o0 cp, o0 cn, o0 0, o0 1, o5, o5, o5, o5, o5, o5, o5, o5, o5, o5] [.int 1]))
      refine o4 (fun u j => o15 X0.here hx rfl (pc0 := 43) (pc' := 47) rfl (hb hby at_43) (by decide) (by decide) (o20 X0.here hx rfl (hb hby at_47) rfl (l' := #[o0 se, o0 cb, o0 cp, o0 cn, o0 0, o0 1, o0 1, o5, o5, o5, o5, o5, o5, o5, o5, o5]) rfl (o6 X0.here hx rfl (hb hby at_49) rfl (o33 X0.here hx rfl (hb hby at_50) (o108 X0.here hx rfl (hb hby at_53) rfl (XS.i2c X0.here hx rfl (hb hby at_54) rfl j)))))) ?_
      show o11 p e below _ (s₁.setTop (mkF m 55 #[o0 se, o0 cb, o0 cp, o0 cn, o0 0, o0 1, o0 1, o5, o5, o5, o5, o5, o5, o5, o5, o5] [(.int (o9 cb))]))
      refine o4 (fun u j => o20 X0.here hx rfl (hb hby at_55) rfl (l' := #[o0 se, o0 cb, o0 cp, o0 cn, o0 0, o0 1, o0 1, o0 (o9 cb), o5, o5, o5, o5, o5, o5, o5, o5]) rfl (o6 X0.here hx rfl (hb hby at_57) rfl (o33 X0.here hx rfl (hb hby at_58) (o108 X0.here hx rfl (hb hby at_61) rfl (XS.i2c X0.here hx rfl (hb hby at_62) rfl (o20 X0.here hx rfl (hb hby at_63) rfl (l' := #[o0 se, o0 cb, o0 cp, o0 cn, o0 0, o0 1, o0 1, o0 (o9 cb), o0 (o9 cp), o5, o5, o5, o5, o5, o5, o5]) rfl j)))))) ?_
      show o11 p e below _ (s₁.setTop (mkF m 65 #[o0 se, o0 cb, o0 cp, o0 cn, o0 0, o0 1, o0 1, o0 (o9 cb), o0 (o9 cp), o5, o5, o5, o5, o5, o5, o5] []))
      refine o4 (fun u j => o6 X0.here hx rfl (hb hby at_65) rfl (o33 X0.here hx rfl (hb hby at_66) (o108 X0.here hx rfl (hb hby at_69) rfl (XS.i2c X0.here hx rfl (hb hby at_70) rfl (o20 X0.here hx rfl (hb hby at_71) rfl (l' := #[o0 se, o0 cb, o0 cp, o0 cn, o0 0, o0 1, o0 1, o0 (o9 cb), o0 (o9 cp), o0 (o9 cn), o5, o5, o5, o5, o5, o5]) rfl (o8 X0.here hx rfl (hb hby at_73) rfl j)))))) ?_
      show o11 p e below _ (s₁.setTop (mkF m 75 #[o0 se, o0 cb, o0 cp, o0 cn, o0 0, o0 1, o0 1, o0 (o9 cb), o0 (o9 cp), o0 (o9 cn), o5, o5, o5, o5, o5, o5] [.int 0]))
      refine o4 (fun u j => o88 X0.here hx rfl (pc0 := 75) (pc' := 86) rfl (hb hby at_75) rfl (o165 (by decide)) (by decide) (by decide) (o99 X0.here hx rfl (hb hby at_86) (o76 X0.here hx rfl (hb hby at_87) rfl rfl (l' := #[o0 se, o0 cb, o0 cp, o0 cn, o0 0, o0 1, o0 1, o0 (o9 cb), o0 (o9 cp), o0 (o9 cn), .val .null, o5, o5, o5, o5, o5]) rfl (o8 X0.here hx rfl (hb hby at_89) rfl (o68 X0.here hx rfl (hb hby at_91) rfl (o65 (by decide)) (o8 X0.here hx rfl (hb hby at_94) rfl j)))))) ?_
      show o11 p e below _ (s₁.setTop (mkF m 96 #[o0 se, o0 cb, o0 cp, o0 cn, o0 0, o0 1, o0 1, o0 (o9 cb), o0 (o9 cp), o0 (o9 cn), .val .null, o5, o5, o5, o5, o5] [(.int (o9 cp))]))
      refine o17 (o78 X0 hx hZ (y := o394) hown (o2 hw 0 rfl) (o2 hw 1 rfl) (o2 hw 2 rfl) (o2 hw 3 rfl) o67 (o505 hw hS (o9 cp) h0 n0 O0 (o176 _)) e0 o369 (argsL := [(.int (o9 cp))]) (rest := []) rfl rfl (g := (mkF m 96 #[o0 se, o0 cb, o0 cp, o0 cn, o0 0, o0 1, o0 1, o0 (o9 cb), o0 (o9 cp), o0 (o9 cn), .val .null, o5, o5, o5, o5, o5] [(.int (o9 cp))])) rfl (by rw [hml]; rfl) rfl (hb hby at_96) (W := 0) rfl) ?_
      intro T334 v334 L334 X334 hQ334
      obtain ⟨nz0_335, nz1_336, kz2_337, rfl, M334, K334, z338, z339, F340, F341, F342, F343, F344⟩ := hQ334
      have N334 := Fr.app N0 M334
      refine o4 (fun u j => o15 X334.here hx rfl (pc0 := 99) (pc' := 103) rfl (hb hby at_99) (by decide) (by decide) (o76 X334.here hx rfl (hb hby at_103) rfl rfl (l' := #[o0 se, o0 cb, o0 cp, o0 cn, o0 0, o0 1, o0 1, o0 (o9 cb), o0 (o9 cp), o0 (o9 cn), .val .null, o1 nz0_335, o5, o5, o5, o5]) rfl (o8 X334.here hx rfl (hb hby at_105) rfl (o68 X334.here hx rfl (hb hby at_107) rfl (o65 (by decide)) (o8 X334.here hx rfl (hb hby at_110) rfl j))))) ?_
      have O346 := O0.keep K334 all0
      refine o17 (o78 X334 hx hZ (y := o394) hown (o2 hw 0 rfl) (o2 hw 1 rfl) (o2 hw 2 rfl) (o2 hw 3 rfl) o67 (o505 hw hS (o9 cn) T334.heap n0 O346 (o176 _)) rfl o369 (argsL := [(.int (o9 cn))]) (rest := []) rfl rfl (g := (mkF m 112 #[o0 se, o0 cb, o0 cp, o0 cn, o0 0, o0 1, o0 1, o0 (o9 cb), o0 (o9 cp), o0 (o9 cn), .val .null, o1 nz0_335, o5, o5, o5, o5] [(.int (o9 cn))])) rfl (by rw [hml]; rfl) rfl (hb hby at_112) (W := 0) rfl) ?_
      intro T345 v345 L345 X345 hQ345
      obtain ⟨nz0_347, nz1_348, kz2_349, rfl, M345, K345, z350, z351, F352, F353, F354, F355, F356⟩ := hQ345
      have N345 := Fr.app N334 M345
      refine o4 (fun u j => o15 X345.here hx rfl (pc0 := 115) (pc' := 119) rfl (hb hby at_115) (by decide) (by decide) (o76 X345.here hx rfl (hb hby at_119) rfl rfl (l' := #[o0 se, o0 cb, o0 cp, o0 cn, o0 0, o0 1, o0 1, o0 (o9 cb), o0 (o9 cp), o0 (o9 cn), .val .null, o1 nz0_335, o1 nz0_347, o5, o5, o5]) rfl j)) ?_
      have q_ := newO X345 hx hZ hown (o2 hw 26 rfl) (o2 hw 27 rfl) (o2 hw 28 rfl) rfl (g := (mkF m 121 #[o0 se, o0 cb, o0 cp, o0 cn, o0 0, o0 1, o0 1, o0 (o9 cb), o0 (o9 cp), o0 (o9 cn), .val .null, o1 nz0_335, o1 nz0_347, o5, o5, o5] [])) rfl (hb hby at_121) (by decide) (by decide)
      obtain ⟨T357, h357, X357, e357, E357, A357, D357, U357, st357⟩ := q_
      have q_ : ∃ z, z = T345.heap.size := ⟨_, rfl⟩
      obtain ⟨b357, g357⟩ := q_
      rw [← g357] at A357 D357 U357 st357
      have F357_bean : Fld Z h357 b357 o62 "bean" o71 .null := D357 (Or.inr (o2 hw 39 rfl)) (ty := (.object "java/lang/String")) o82
      have F357_part : Fld Z h357 b357 o62 "part" o71 .null := D357 (Or.inr (o2 hw 41 rfl)) (ty := (.object "java/lang/String")) o82
      have F357_name : Fld Z h357 b357 o62 "name" o71 .null := D357 (Or.inr (o2 hw 43 rfl)) (ty := (.object "java/lang/String")) o82
      refine o4 (fun u j => st357 u j) ?_
      refine o4 (fun u j => o61 X357.here hx rfl (hb hby at_124) rfl rfl (o72 X357.here hx rfl (hb hby at_125) rfl rfl (o72 X357.here hx rfl (hb hby at_127) rfl rfl (o72 X357.here hx rfl (hb hby at_129) rfl rfl j)))) ?_
      have O387 := O346.keep K345 all0
      have g386 := Nat.le_trans (o103 O387) (Nat.le_of_eq g357.symm)
      have O389 := O387.ext E357
      refine o17 (o87 X357 hx hZ (y := o395) rfl hown (o2 hw 29 rfl) (o2 hw 30 rfl) (o2 hw 28 rfl) (o2 hw 31 rfl) o313 (o924 hw hS b357 nz0_335 nz0_347 h357 n0 O389 A357 F357_bean F357_name F357_part g386) e357 o469 (a := b357) (argsL := [.null, .ref nz0_335, .ref nz0_347]) (rest := [.ref b357]) rfl rfl (g := (mkF m 131 #[o0 se, o0 cb, o0 cp, o0 cn, o0 0, o0 1, o0 1, o0 (o9 cb), o0 (o9 cp), o0 (o9 cn), .val .null, o1 nz0_335, o1 nz0_347, o5, o5, o5] [.ref nz0_347, .ref nz0_335, .null, .ref b357, .ref b357])) rfl (by rw [hml]; rfl) rfl (hb hby at_131) (W := 1) rfl) ?_
      intro T388 v388 L388 X388 hQ388
      obtain ⟨rfl, M388, K388, F390, F391, F392, F393⟩ := hQ388
      have N388 := Fr.app N345 M388
      refine o4 (fun u j => o76 X388.here hx rfl (hb hby at_134) rfl rfl (l' := #[o0 se, o0 cb, o0 cp, o0 cn, o0 0, o0 1, o0 1, o0 (o9 cb), o0 (o9 cp), o0 (o9 cn), .val .null, o1 nz0_335, o1 nz0_347, o1 b357, o5, o5]) rfl (o72 X388.here hx rfl (hb hby at_136) rfl rfl j)) ?_
      have F1182 := ((Exa.ext E357 F352).keep K388)
      have ne1183 := (Nat.ne_of_lt (Nat.lt_of_lt_of_le F352.lt (Nat.le_of_eq g357.symm)))
      have F1184 := ((Fld.ext E357 F353).keep K388 (ninS ne1183 nin0))
      have F1185 := ((Fld.ext E357 F354).keep K388 (ninS ne1183 nin0))
      have F1186 := ((Exa.ext E357 (F340.keep K345)).keep K388)
      have ne1187 := (Nat.ne_of_lt (Nat.lt_of_lt_of_le (Nat.lt_of_lt_of_le F340.lt K345.1) (Nat.le_of_eq g357.symm)))
      have F1188 := ((Fld.ext E357 (F341.keep K345 nin0)).keep K388 (ninS ne1187 nin0))
      have F1189 := ((Fld.ext E357 (F342.keep K345 nin0)).keep K388 (ninS ne1187 nin0))
      have F1190 := ((Exa.ext E357 F355).keep K388)
      have ne1191 := (Nat.ne_of_lt (Nat.lt_of_lt_of_le F355.lt (Nat.le_of_eq g357.symm)))
      have F1192 := ((F356.ext E357).keep K388 (ninS ne1191 nin0))
      have F1193 := ((Exa.ext E357 (F343.keep K345)).keep K388)
      have ne1194 := (Nat.ne_of_lt (Nat.lt_of_lt_of_le (Nat.lt_of_lt_of_le F343.lt K345.1) (Nat.le_of_eq g357.symm)))
      have F1195 := (((F344.keep K345 nin0).ext E357).keep K388 (ninS ne1194 nin0))
      have O1197 := O389.keep K388 (allS g386 all0)
      have R1198 : CHr Z o23 s.vm h0 s.vm T334.heap := R0.trans (CHr.keep K334 sf0 R0.1)
      have R1199 : CHr Z o23 s.vm h0 s.vm T345.heap := R1198.trans (CHr.keep K345 sf0 R1198.1)
      have R1200 : CHr Z o23 s.vm h0 s.vm h357 := R1199.trans (CHr.ext E357 R1199.1)
      have sf_1202 : Safe Z o23 s.vm h357 b357 := Safe.exa hZ_0.alike A357 o443 o444
      have R1201 : CHr Z o23 s.vm h0 s.vm T388.heap := R1200.trans (CHr.keep K388 (sfS sf_1202 sf0) R1200.1)
      obtain ⟨T1196, v1196, L1196, X1196, Si1196, hZ1196, hown1196, hQ1196, hr1196, st1196⟩ := o492 X388 hx hZ hSi0 (Nat.le_trans (Nat.zero_le _) (Nat.le_trans (Nat.le_trans (Nat.le_trans K334.1 K345.1) E357.1) K388.1)) (o172 hw) R1201.1 o688 (y := o181) (z := o181) hown (o2 hw 44 rfl) (o2 hw 45 rfl) (notFace_of_selects (args := #[]) (mvT hZ (o2 hw 47 rfl))) (o2 hw 47 rfl) (o2 hw 46 rfl) (o2 hw 28 rfl) (o2 hw 48 rfl) o313 (o944 hw hS b357 nz0_347 nz0_335 nz1_348 nz1_336 kz2_349 ((o9 cn).toInt8.toInt32) kz2_337 ((o9 cp).toInt8.toInt32) T388.heap n0 O1197 F390 F391 F392 F393 F1182 F1184 F1185 F1186 F1188 F1189 F1190 F1192 F1193 F1195) rfl F390 o207 (argsL := []) (rest := []) rfl rfl (g := (mkF m 138 #[o0 se, o0 cb, o0 cp, o0 cn, o0 0, o0 1, o0 1, o0 (o9 cb), o0 (o9 cp), o0 (o9 cn), .val .null, o1 nz0_335, o1 nz0_347, o1 b357, o5, o5] [.ref b357])) rfl (by rw [hml]; rfl) rfl (hb hby at_138) (W := 0) rfl (by decide) (by decide) (by decide) (by decide)
      obtain ⟨nz0_1203, nz1_1204, kz2_1205, rfl, M1196, K1196, z1206, z1207, F1208, F1209, F1210, F1211, F1212⟩ := hQ1196
      have N1196 := Fr.app N388 M1196
      refine o4 (fun u j => st1196 u j) ?_
      refine o4 (fun u j => o76 X1196.here hx rfl (hb hby at_141) rfl rfl (l' := #[o0 se, o0 cb, o0 cp, o0 cn, o0 0, o0 1, o0 1, o0 (o9 cb), o0 (o9 cp), o0 (o9 cn), .val .null, o1 nz0_335, o1 nz0_347, o1 b357, o1 nz0_1203, o5]) rfl (o8 X1196.here hx rfl (hb hby at_143) rfl (o8 X1196.here hx rfl (hb hby at_145) rfl (o8 X1196.here hx rfl (hb hby at_147) rfl (o8 X1196.here hx rfl (hb hby at_149) rfl (o8 X1196.here hx rfl (hb hby at_151) rfl j)))))) ?_
      show o11 p e below _ (T1196.setTop (mkF m 153 #[o0 se, o0 cb, o0 cp, o0 cn, o0 0, o0 1, o0 1, o0 (o9 cb), o0 (o9 cp), o0 (o9 cn), .val .null, o1 nz0_335, o1 nz0_347, o1 b357, o1 nz0_1203, o5] [(.int (o9 cp)), (.int (o9 cb)), .int 1, .int 1, .int 0]))
      refine o4 (fun u j => o8 X1196.here hx rfl (hb hby at_153) rfl j) ?_
      have O1401 := O1197.keep K1196 all0
      refine o17 (o78 X1196 hx hZ1196 (y := o319) hown1196 (o2 hw 49 rfl) (o2 hw 50 rfl) (o2 hw 51 rfl) (o2 hw 52 rfl) o439 (o950 hw hS (o9 cb) (o9 cp) (o9 cn) T1196.heap n0 O1401 (o420 _) (o420 _) (o176 _) (o176 _)) rfl o440 (argsL := [.int 0, .int 1, .int 1, (.int (o9 cb)), (.int (o9 cp)), (.int (o9 cn))]) (rest := []) rfl rfl (g := (mkF m 155 #[o0 se, o0 cb, o0 cp, o0 cn, o0 0, o0 1, o0 1, o0 (o9 cb), o0 (o9 cp), o0 (o9 cn), .val .null, o1 nz0_335, o1 nz0_347, o1 b357, o1 nz0_1203, o5] [(.int (o9 cn)), (.int (o9 cp)), (.int (o9 cb)), .int 1, .int 1, .int 0])) rfl (by rw [hml]; rfl) rfl (hb hby at_155) (W := 0) rfl) ?_
      intro T1400 v1400 L1400 X1400 hQ1400
      obtain ⟨nz0_1402, nz1_1403, kz2_1404, rfl, M1400, K1400, z1405, z1406, F1407, F1408, F1409, F1410, F1411⟩ := hQ1400
      have N1400 := Fr.app N1196 M1400
      refine o4 (fun u j => o76 X1400.here hx rfl (hb hby at_158) rfl rfl (l' := #[o0 se, o0 cb, o0 cp, o0 cn, o0 0, o0 1, o0 1, o0 (o9 cb), o0 (o9 cp), o0 (o9 cn), .val .null, o1 nz0_335, o1 nz0_347, o1 b357, o1 nz0_1203, o1 nz0_1402]) rfl (o72 X1400.here hx rfl (hb hby at_160) rfl rfl (o72 X1400.here hx rfl (hb hby at_162) rfl rfl j))) ?_
      have F1446 := (F1208.keep K1400)
      have F1447 := (F1209.keep K1400 nin0)
      have F1448 := (F1210.keep K1400 nin0)
      have F1449 := (F1212.keep K1400 nin0)
      have ne1450 := (Ne.symm (Nat.ne_of_lt (Nat.lt_of_lt_of_le F1208.lt z1405)))
      have O1452 := O1401.keep K1400 all0
      refine o17 (o63 X1400 hx hZ1196 (y := o182) (z := o182) hown1196 (o2 hw 71 rfl) (o2 hw 72 rfl) (notFace_of_selects (args := #[]) (mvT hZ1196 (o2 hw 74 rfl))) (o2 hw 74 rfl) (o2 hw 73 rfl) (o2 hw 2 rfl) (o2 hw 75 rfl) o67 (o952 hw hS nz0_1402 nz0_1203 nz1_1403 nz1_1204 kz2_1404 ((o9 cp).toInt8.toInt32) ((o9 cn).toInt8.toInt32) kz2_1205 T1400.heap n0 O1452 F1408 F1409 F1446 F1447 F1448 F1411 F1449 ne1450) rfl F1407 o442 (argsL := [.ref nz0_1203]) (rest := []) rfl rfl (g := (mkF m 164 #[o0 se, o0 cb, o0 cp, o0 cn, o0 0, o0 1, o0 1, o0 (o9 cb), o0 (o9 cp), o0 (o9 cn), .val .null, o1 nz0_335, o1 nz0_347, o1 b357, o1 nz0_1203, o1 nz0_1402] [.ref nz0_1203, .ref nz0_1402])) rfl (by rw [hml]; rfl) rfl (hb hby at_164) (W := 0) rfl) ?_
      intro T1451 v1451 L1451 X1451 hQ1451
      obtain ⟨rfl, M1451, e1451⟩ := hQ1451
      have N1451 := Fr.app N1400 M1451
      have K1453 := (Keep.refl h0 []).trans K334 all0
      have K1454 := K1453.trans K345 all0
      have K1455 := K1454.ext E357
      have z1457 := Nat.le_trans (Nat.le_trans K334.1 K345.1) (Nat.le_of_eq g357.symm)
      have K1456 := K1455.trans K388 (allS (Or.inr z1457) all0)
      have K1458 := K1456.trans K1196 all0
      have K1459 := K1458.trans K1400 all0
      have R1460 : CHr Z o23 s.vm h0 T1196.vm T1196.heap := R1201.trans hr1196
      have R1461 : CHr Z o23 s.vm h0 T1196.vm T1400.heap := R1460.trans (CHr.keep K1400 sf0 R1460.1)
      exact o368 X1451 Si1196 (Nat.le_trans (Nat.le_refl _) K1400.1) e1451 hZ1196 (o172 hw) hs0 R1461 hx hlk hret rfl (Or.inl ⟨rfl, by simp, _, rfl⟩) (hb hby at_167) (by decide) (by decide) (show Qrm0 Z wcs se cb cp cn h0 n0 (some (.int 1)) T1451.heap _ from (by rw [e1451]; exact ⟨rfl, N1451, K1459⟩))
  · refine o4 (fun u j => o68 X0.here hx rfl (hb hby at_3) rfl (o65 hc1) (o16 X0.here hx rfl (hb hby at_6) (o15 X0.here hx rfl (pc0 := 7) (pc' := 11) rfl (hb hby at_7) (by decide) (by decide) j))) ?_
    show o11 p e below _ (s₁.setTop (mkF m 11 #[o0 se, o0 cb, o0 cp, o0 cn, o5, o5, o5, o5, o5, o5, o5, o5, o5, o5, o5, o5] [.int 1]))
    refine o4 (fun u j => o20 X0.here hx rfl (hb hby at_11) rfl (l' := #[o0 se, o0 cb, o0 cp, o0 cn, o0 1, o5, o5, o5, o5, o5, o5, o5, o5, o5, o5, o5]) rfl (o8 X0.here hx rfl (hb hby at_13) rfl (o68 X0.here hx rfl (hb hby at_15) rfl (o65 (by decide)) (o6 X0.here hx rfl (hb hby at_18) rfl (o16 X0.here hx rfl (hb hby at_19) (o108 X0.here hx rfl (hb hby at_20) rfl j)))))) ?_
    show o11 p e below _ (s₁.setTop (mkF m 21 #[o0 se, o0 cb, o0 cp, o0 cn, o0 1, o5, o5, o5, o5, o5, o5, o5, o5, o5, o5, o5] [(.int (se &&& (2 : Int32)))]))
    by_cases hc1462 : (se &&& (2 : Int32)) = (0 : Int32)
    · refine o4 (fun u j => o88 X0.here hx rfl (pc0 := 21) (pc' := 28) rfl (hb hby at_21) rfl (o165 hc1462) (by decide) (by decide) (o16 X0.here hx rfl (hb hby at_28) (o20 X0.here hx rfl (hb hby at_29) rfl (l' := #[o0 se, o0 cb, o0 cp, o0 cn, o0 1, o0 0, o5, o5, o5, o5, o5, o5, o5, o5, o5, o5]) rfl (o8 X0.here hx rfl (hb hby at_31) rfl (o88 X0.here hx rfl (pc0 := 33) (pc' := 46) rfl (hb hby at_33) rfl (o165 (by decide)) (by decide) (by decide) (o16 X0.here hx rfl (hb hby at_46) j)))))) ?_
      show o11 p e below _ (s₁.setTop (mkF m 47 #[o0 se, o0 cb, o0 cp, o0 cn, o0 1, o0 0, o5, o5, o5, o5, o5, o5, o5, o5, o5, o5] [.int 0]))
      refine o4 (fun u j => o20 X0.here hx rfl (hb hby at_47) rfl (l' := #[o0 se, o0 cb, o0 cp, o0 cn, o0 1, o0 0, o0 0, o5, o5, o5, o5, o5, o5, o5, o5, o5]) rfl (o6 X0.here hx rfl (hb hby at_49) rfl (o33 X0.here hx rfl (hb hby at_50) (o108 X0.here hx rfl (hb hby at_53) rfl (XS.i2c X0.here hx rfl (hb hby at_54) rfl (o20 X0.here hx rfl (hb hby at_55) rfl (l' := #[o0 se, o0 cb, o0 cp, o0 cn, o0 1, o0 0, o0 0, o0 (o9 cb), o5, o5, o5, o5, o5, o5, o5, o5]) rfl j)))))) ?_
      show o11 p e below _ (s₁.setTop (mkF m 57 #[o0 se, o0 cb, o0 cp, o0 cn, o0 1, o0 0, o0 0, o0 (o9 cb), o5, o5, o5, o5, o5, o5, o5, o5] []))
      refine o4 (fun u j => o6 X0.here hx rfl (hb hby at_57) rfl (o33 X0.here hx rfl (hb hby at_58) (o108 X0.here hx rfl (hb hby at_61) rfl (XS.i2c X0.here hx rfl (hb hby at_62) rfl (o20 X0.here hx rfl (hb hby at_63) rfl (l' := #[o0 se, o0 cb, o0 cp, o0 cn, o0 1, o0 0, o0 0, o0 (o9 cb), o0 (o9 cp), o5, o5, o5, o5, o5, o5, o5]) rfl (o6 X0.here hx rfl (hb hby at_65) rfl j)))))) ?_
      show o11 p e below _ (s₁.setTop (mkF m 66 #[o0 se, o0 cb, o0 cp, o0 cn, o0 1, o0 0, o0 0, o0 (o9 cb), o0 (o9 cp), o5, o5, o5, o5, o5, o5, o5] [.int cn]))
      refine o4 (fun u j => o33 X0.here hx rfl (hb hby at_66) (o108 X0.here hx rfl (hb hby at_69) rfl (XS.i2c X0.here hx rfl (hb hby at_70) rfl (o20 X0.here hx rfl (hb hby at_71) rfl (l' := #[o0 se, o0 cb, o0 cp, o0 cn, o0 1, o0 0, o0 0, o0 (o9 cb), o0 (o9 cp), o0 (o9 cn), o5, o5, o5, o5, o5, o5]) rfl (o8 X0.here hx rfl (hb hby at_73) rfl (o68 X0.here hx rfl (hb hby at_75) rfl (o65 (by decide)) j)))))) ?_
      show o11 p e below _ (s₁.setTop (mkF m 78 #[o0 se, o0 cb, o0 cp, o0 cn, o0 1, o0 0, o0 0, o0 (o9 cb), o0 (o9 cp), o0 (o9 cn), o5, o5, o5, o5, o5, o5] []))
      refine o4 (fun u j => o8 X0.here hx rfl (hb hby at_78) rfl j) ?_
      refine o17 (o78 X0 hx hZ (y := o394) hown (o2 hw 0 rfl) (o2 hw 1 rfl) (o2 hw 2 rfl) (o2 hw 3 rfl) o67 (o505 hw hS (o9 cb) h0 n0 O0 (o176 _)) e0 o369 (argsL := [(.int (o9 cb))]) (rest := []) rfl rfl (g := (mkF m 80 #[o0 se, o0 cb, o0 cp, o0 cn, o0 1, o0 0, o0 0, o0 (o9 cb), o0 (o9 cp), o0 (o9 cn), o5, o5, o5, o5, o5, o5] [(.int (o9 cb))])) rfl (by rw [hml]; rfl) rfl (hb hby at_80) (W := 0) rfl) ?_
      intro T1463 v1463 L1463 X1463 hQ1463
      obtain ⟨nz0_1464, nz1_1465, kz2_1466, rfl, M1463, K1463, z1467, z1468, F1469, F1470, F1471, F1472, F1473⟩ := hQ1463
      have N1463 := Fr.app N0 M1463
      refine o4 (fun u j => o15 X1463.here hx rfl (pc0 := 83) (pc' := 87) rfl (hb hby at_83) (by decide) (by decide) (o76 X1463.here hx rfl (hb hby at_87) rfl rfl (l' := #[o0 se, o0 cb, o0 cp, o0 cn, o0 1, o0 0, o0 0, o0 (o9 cb), o0 (o9 cp), o0 (o9 cn), o1 nz0_1464, o5, o5, o5, o5, o5]) rfl (o8 X1463.here hx rfl (hb hby at_89) rfl (o88 X1463.here hx rfl (pc0 := 91) (pc' := 102) rfl (hb hby at_91) rfl (o165 (by decide)) (by decide) (by decide) (o99 X1463.here hx rfl (hb hby at_102) (o76 X1463.here hx rfl (hb hby at_103) rfl rfl (l' := #[o0 se, o0 cb, o0 cp, o0 cn, o0 1, o0 0, o0 0, o0 (o9 cb), o0 (o9 cp), o0 (o9 cn), o1 nz0_1464, .val .null, o5, o5, o5, o5]) rfl j)))))) ?_
      show o11 p e below _ (T1463.setTop (mkF m 105 #[o0 se, o0 cb, o0 cp, o0 cn, o0 1, o0 0, o0 0, o0 (o9 cb), o0 (o9 cp), o0 (o9 cn), o1 nz0_1464, .val .null, o5, o5, o5, o5] []))
      refine o4 (fun u j => o8 X1463.here hx rfl (hb hby at_105) rfl (o88 X1463.here hx rfl (pc0 := 107) (pc' := 118) rfl (hb hby at_107) rfl (o165 (by decide)) (by decide) (by decide) (o99 X1463.here hx rfl (hb hby at_118) (o76 X1463.here hx rfl (hb hby at_119) rfl rfl (l' := #[o0 se, o0 cb, o0 cp, o0 cn, o0 1, o0 0, o0 0, o0 (o9 cb), o0 (o9 cp), o0 (o9 cn), o1 nz0_1464, .val .null, .val .null, o5, o5, o5]) rfl j)))) ?_
      have q_ := newO X1463 hx hZ hown (o2 hw 26 rfl) (o2 hw 27 rfl) (o2 hw 28 rfl) rfl (g := (mkF m 121 #[o0 se, o0 cb, o0 cp, o0 cn, o0 1, o0 0, o0 0, o0 (o9 cb), o0 (o9 cp), o0 (o9 cn), o1 nz0_1464, .val .null, .val .null, o5, o5, o5] [])) rfl (hb hby at_121) (by decide) (by decide)
      obtain ⟨T1474, h1474, X1474, e1474, E1474, A1474, D1474, U1474, st1474⟩ := q_
      have q_ : ∃ z, z = T1463.heap.size := ⟨_, rfl⟩
      obtain ⟨b1474, g1474⟩ := q_
      rw [← g1474] at A1474 D1474 U1474 st1474
      have F1474_bean : Fld Z h1474 b1474 o62 "bean" o71 .null := D1474 (Or.inr (o2 hw 39 rfl)) (ty := (.object "java/lang/String")) o82
      have F1474_part : Fld Z h1474 b1474 o62 "part" o71 .null := D1474 (Or.inr (o2 hw 41 rfl)) (ty := (.object "java/lang/String")) o82
      have F1474_name : Fld Z h1474 b1474 o62 "name" o71 .null := D1474 (Or.inr (o2 hw 43 rfl)) (ty := (.object "java/lang/String")) o82
      refine o4 (fun u j => st1474 u j) ?_
      refine o4 (fun u j => o61 X1474.here hx rfl (hb hby at_124) rfl rfl (o72 X1474.here hx rfl (hb hby at_125) rfl rfl (o72 X1474.here hx rfl (hb hby at_127) rfl rfl (o72 X1474.here hx rfl (hb hby at_129) rfl rfl j)))) ?_
      have O1504 := O0.keep K1463 all0
      have g1503 := Nat.le_trans (o103 O1504) (Nat.le_of_eq g1474.symm)
      have O1506 := O1504.ext E1474
      refine o17 (o87 X1474 hx hZ (y := o395) rfl hown (o2 hw 29 rfl) (o2 hw 30 rfl) (o2 hw 28 rfl) (o2 hw 31 rfl) o313 (o953 hw hS b1474 nz0_1464 h1474 n0 O1506 A1474 F1474_bean F1474_name F1474_part g1503) e1474 o469 (a := b1474) (argsL := [.ref nz0_1464, .null, .null]) (rest := [.ref b1474]) rfl rfl (g := (mkF m 131 #[o0 se, o0 cb, o0 cp, o0 cn, o0 1, o0 0, o0 0, o0 (o9 cb), o0 (o9 cp), o0 (o9 cn), o1 nz0_1464, .val .null, .val .null, o5, o5, o5] [.null, .null, .ref nz0_1464, .ref b1474, .ref b1474])) rfl (by rw [hml]; rfl) rfl (hb hby at_131) (W := 1) rfl) ?_
      intro T1505 v1505 L1505 X1505 hQ1505
      obtain ⟨rfl, M1505, K1505, F1507, F1508, F1509, F1510⟩ := hQ1505
      have N1505 := Fr.app N1463 M1505
      refine o4 (fun u j => o76 X1505.here hx rfl (hb hby at_134) rfl rfl (l' := #[o0 se, o0 cb, o0 cp, o0 cn, o0 1, o0 0, o0 0, o0 (o9 cb), o0 (o9 cp), o0 (o9 cn), o1 nz0_1464, .val .null, .val .null, o1 b1474, o5, o5]) rfl (o72 X1505.here hx rfl (hb hby at_136) rfl rfl j)) ?_
      have F2093 := ((Exa.ext E1474 F1469).keep K1505)
      have ne2094 := (Nat.ne_of_lt (Nat.lt_of_lt_of_le F1469.lt (Nat.le_of_eq g1474.symm)))
      have F2095 := ((Fld.ext E1474 F1470).keep K1505 (ninS ne2094 nin0))
      have F2096 := ((Fld.ext E1474 F1471).keep K1505 (ninS ne2094 nin0))
      have F2097 := ((Exa.ext E1474 F1472).keep K1505)
      have ne2098 := (Nat.ne_of_lt (Nat.lt_of_lt_of_le F1472.lt (Nat.le_of_eq g1474.symm)))
      have F2099 := ((F1473.ext E1474).keep K1505 (ninS ne2098 nin0))
      have O2101 := O1506.keep K1505 (allS g1503 all0)
      have R2102 : CHr Z o23 s.vm h0 s.vm T1463.heap := R0.trans (CHr.keep K1463 sf0 R0.1)
      have R2103 : CHr Z o23 s.vm h0 s.vm h1474 := R2102.trans (CHr.ext E1474 R2102.1)
      have sf_2105 : Safe Z o23 s.vm h1474 b1474 := Safe.exa hZ_0.alike A1474 o443 o444
      have R2104 : CHr Z o23 s.vm h0 s.vm T1505.heap := R2103.trans (CHr.keep K1505 (sfS sf_2105 sf0) R2103.1)
      obtain ⟨T2100, v2100, L2100, X2100, Si2100, hZ2100, hown2100, hQ2100, hr2100, st2100⟩ := o492 X1505 hx hZ hSi0 (Nat.le_trans (Nat.zero_le _) (Nat.le_trans (Nat.le_trans K1463.1 E1474.1) K1505.1)) (o172 hw) R2104.1 o688 (y := o181) (z := o181) hown (o2 hw 44 rfl) (o2 hw 45 rfl) (notFace_of_selects (args := #[]) (mvT hZ (o2 hw 47 rfl))) (o2 hw 47 rfl) (o2 hw 46 rfl) (o2 hw 28 rfl) (o2 hw 48 rfl) o313 (o970 hw hS b1474 nz0_1464 nz1_1465 kz2_1466 ((o9 cb).toInt8.toInt32) T1505.heap n0 O2101 F1507 F1508 F1509 F1510 F2093 F2095 F2096 F2097 F2099) rfl F1507 o207 (argsL := []) (rest := []) rfl rfl (g := (mkF m 138 #[o0 se, o0 cb, o0 cp, o0 cn, o0 1, o0 0, o0 0, o0 (o9 cb), o0 (o9 cp), o0 (o9 cn), o1 nz0_1464, .val .null, .val .null, o1 b1474, o5, o5] [.ref b1474])) rfl (by rw [hml]; rfl) rfl (hb hby at_138) (W := 0) rfl (by decide) (by decide) (by decide) (by decide)
      obtain ⟨nz0_2106, nz1_2107, kz2_2108, rfl, M2100, K2100, z2109, z2110, F2111, F2112, F2113, F2114, F2115⟩ := hQ2100
      have N2100 := Fr.app N1505 M2100
      refine o4 (fun u j => st2100 u j) ?_
      refine o4 (fun u j => o76 X2100.here hx rfl (hb hby at_141) rfl rfl (l' := #[o0 se, o0 cb, o0 cp, o0 cn, o0 1, o0 0, o0 0, o0 (o9 cb), o0 (o9 cp), o0 (o9 cn), o1 nz0_1464, .val .null, .val .null, o1 b1474, o1 nz0_2106, o5]) rfl (o8 X2100.here hx rfl (hb hby at_143) rfl (o8 X2100.here hx rfl (hb hby at_145) rfl (o8 X2100.here hx rfl (hb hby at_147) rfl (o8 X2100.here hx rfl (hb hby at_149) rfl (o8 X2100.here hx rfl (hb hby at_151) rfl j)))))) ?_
      show o11 p e below _ (T2100.setTop (mkF m 153 #[o0 se, o0 cb, o0 cp, o0 cn, o0 1, o0 0, o0 0, o0 (o9 cb), o0 (o9 cp), o0 (o9 cn), o1 nz0_1464, .val .null, .val .null, o1 b1474, o1 nz0_2106, o5] [(.int (o9 cp)), (.int (o9 cb)), .int 0, .int 0, .int 1]))
      refine o4 (fun u j => o8 X2100.here hx rfl (hb hby at_153) rfl j) ?_
      have O2334 := O2101.keep K2100 all0
      refine o17 (o78 X2100 hx hZ2100 (y := o319) hown2100 (o2 hw 49 rfl) (o2 hw 50 rfl) (o2 hw 51 rfl) (o2 hw 52 rfl) o439 (o976 hw hS (o9 cb) (o9 cp) (o9 cn) T2100.heap n0 O2334 (o420 _) (o176 _)) rfl o440 (argsL := [.int 1, .int 0, .int 0, (.int (o9 cb)), (.int (o9 cp)), (.int (o9 cn))]) (rest := []) rfl rfl (g := (mkF m 155 #[o0 se, o0 cb, o0 cp, o0 cn, o0 1, o0 0, o0 0, o0 (o9 cb), o0 (o9 cp), o0 (o9 cn), o1 nz0_1464, .val .null, .val .null, o1 b1474, o1 nz0_2106, o5] [(.int (o9 cn)), (.int (o9 cp)), (.int (o9 cb)), .int 0, .int 0, .int 1])) rfl (by rw [hml]; rfl) rfl (hb hby at_155) (W := 0) rfl) ?_
      intro T2333 v2333 L2333 X2333 hQ2333
      obtain ⟨nz0_2335, nz1_2336, kz2_2337, rfl, M2333, K2333, z2338, z2339, F2340, F2341, F2342, F2343, F2344⟩ := hQ2333
      have N2333 := Fr.app N2100 M2333
      refine o4 (fun u j => o76 X2333.here hx rfl (hb hby at_158) rfl rfl (l' := #[o0 se, o0 cb, o0 cp, o0 cn, o0 1, o0 0, o0 0, o0 (o9 cb), o0 (o9 cp), o0 (o9 cn), o1 nz0_1464, .val .null, .val .null, o1 b1474, o1 nz0_2106, o1 nz0_2335]) rfl (o72 X2333.here hx rfl (hb hby at_160) rfl rfl (o72 X2333.here hx rfl (hb hby at_162) rfl rfl j))) ?_
      have F2385 := (F2111.keep K2333)
      have F2386 := (F2112.keep K2333 nin0)
      have F2387 := (F2113.keep K2333 nin0)
      have F2388 := (F2115.keep K2333 nin0)
      have ne2389 := (Ne.symm (Nat.ne_of_lt (Nat.lt_of_lt_of_le F2111.lt z2338)))
      have O2391 := O2334.keep K2333 all0
      refine o17 (o63 X2333 hx hZ2100 (y := o182) (z := o182) hown2100 (o2 hw 71 rfl) (o2 hw 72 rfl) (notFace_of_selects (args := #[]) (mvT hZ2100 (o2 hw 74 rfl))) (o2 hw 74 rfl) (o2 hw 73 rfl) (o2 hw 2 rfl) (o2 hw 75 rfl) o67 (o978 hw hS nz0_2335 nz0_2106 nz1_2336 nz1_2107 kz2_2337 ((o9 cb).toInt8.toInt32) kz2_2108 T2333.heap n0 O2391 F2341 F2342 F2385 F2386 F2387 F2344 F2388 ne2389) rfl F2340 o442 (argsL := [.ref nz0_2106]) (rest := []) rfl rfl (g := (mkF m 164 #[o0 se, o0 cb, o0 cp, o0 cn, o0 1, o0 0, o0 0, o0 (o9 cb), o0 (o9 cp), o0 (o9 cn), o1 nz0_1464, .val .null, .val .null, o1 b1474, o1 nz0_2106, o1 nz0_2335] [.ref nz0_2106, .ref nz0_2335])) rfl (by rw [hml]; rfl) rfl (hb hby at_164) (W := 0) rfl) ?_
      intro T2390 v2390 L2390 X2390 hQ2390
      obtain ⟨rfl, M2390, e2390⟩ := hQ2390
      have N2390 := Fr.app N2333 M2390
      have K2392 := (Keep.refl h0 []).trans K1463 all0
      have K2393 := K2392.ext E1474
      have z2395 := Nat.le_trans K1463.1 (Nat.le_of_eq g1474.symm)
      have K2394 := K2393.trans K1505 (allS (Or.inr z2395) all0)
      have K2396 := K2394.trans K2100 all0
      have K2397 := K2396.trans K2333 all0
      have R2398 : CHr Z o23 s.vm h0 T2100.vm T2100.heap := R2104.trans hr2100
      have R2399 : CHr Z o23 s.vm h0 T2100.vm T2333.heap := R2398.trans (CHr.keep K2333 sf0 R2398.1)
      exact o368 X2390 Si2100 (Nat.le_trans (Nat.le_refl _) K2333.1) e2390 hZ2100 (o172 hw) hs0 R2399 hx hlk hret rfl (Or.inl ⟨rfl, by simp, _, rfl⟩) (hb hby at_167) (by decide) (by decide) (show Qrm0 Z wcs se cb cp cn h0 n0 (some (.int 1)) T2390.heap _ from (by rw [e2390]; exact ⟨rfl, N2390, K2397⟩))
    · refine o4 (fun u j => o68 X0.here hx rfl (hb hby at_21) rfl (o65 hc1462) (o16 X0.here hx rfl (hb hby at_24) (o15 X0.here hx rfl (pc0 := 25) (pc' := 29) rfl (hb hby at_25) (by decide) (by decide) (o20 X0.here hx rfl (hb hby at_29) rfl (l' := #[o0 se, o0 cb, o0 cp, o0 cn, o0 1, o0 1, o5, o5, o5, o5, o5, o5, o5, o5, o5, o5]) rfl (o8 X0.here hx rfl (hb hby at_31) rfl (o68 X0.here hx rfl (hb hby at_33) rfl (o65 (by decide)) j)))))) ?_
      show o11 p e below _ (s₁.setTop (mkF m 36 #[o0 se, o0 cb, o0 cp, o0 cn, o0 1, o0 1, o5, o5, o5, o5, o5, o5, o5, o5, o5, o5] []))
      refine o4 (fun u j => o6 X0.here hx rfl (hb hby at_36) rfl (o16 X0.here hx rfl (hb hby at_37) (o108 X0.here hx rfl (hb hby at_38) rfl j))) ?_
      by_cases hc2400 : (se &&& (4 : Int32)) = (0 : Int32)
      · refine o4 (fun u j => o88 X0.here hx rfl (pc0 := 39) (pc' := 46) rfl (hb hby at_39) rfl (o165 hc2400) (by decide) (by decide) (o16 X0.here hx rfl (hb hby at_46) (o20 X0.here hx rfl (hb hby at_47) rfl (l' := #[o0 se, o0 cb, o0 cp, o0 cn, o0 1, o0 1, o0 0, o5, o5, o5, o5, o5, o5, o5, o5, o5]) rfl j))) ?_
        show o11 p e below _ (s₁.setTop (mkF m 49 #[o0 se, o0 cb, o0 cp, o0 cn, o0 1, o0 1, o0 0, o5, o5, o5, o5, o5, o5, o5, o5, o5] []))
        refine o4 (fun u j => o6 X0.here hx rfl (hb hby at_49) rfl (o33 X0.here hx rfl (hb hby at_50) (o108 X0.here hx rfl (hb hby at_53) rfl (XS.i2c X0.here hx rfl (hb hby at_54) rfl (o20 X0.here hx rfl (hb hby at_55) rfl (l' := #[o0 se, o0 cb, o0 cp, o0 cn, o0 1, o0 1, o0 0, o0 (o9 cb), o5, o5, o5, o5, o5, o5, o5, o5]) rfl (o6 X0.here hx rfl (hb hby at_57) rfl j)))))) ?_
        show o11 p e below _ (s₁.setTop (mkF m 58 #[o0 se, o0 cb, o0 cp, o0 cn, o0 1, o0 1, o0 0, o0 (o9 cb), o5, o5, o5, o5, o5, o5, o5, o5] [.int cp]))
        refine o4 (fun u j => o33 X0.here hx rfl (hb hby at_58) (o108 X0.here hx rfl (hb hby at_61) rfl (XS.i2c X0.here hx rfl (hb hby at_62) rfl (o20 X0.here hx rfl (hb hby at_63) rfl (l' := #[o0 se, o0 cb, o0 cp, o0 cn, o0 1, o0 1, o0 0, o0 (o9 cb), o0 (o9 cp), o5, o5, o5, o5, o5, o5, o5]) rfl (o6 X0.here hx rfl (hb hby at_65) rfl (o33 X0.here hx rfl (hb hby at_66) j)))))) ?_
        show o11 p e below _ (s₁.setTop (mkF m 69 #[o0 se, o0 cb, o0 cp, o0 cn, o0 1, o0 1, o0 0, o0 (o9 cb), o0 (o9 cp), o5, o5, o5, o5, o5, o5, o5] [.int 255, .int cn]))
        refine o4 (fun u j => o108 X0.here hx rfl (hb hby at_69) rfl (XS.i2c X0.here hx rfl (hb hby at_70) rfl (o20 X0.here hx rfl (hb hby at_71) rfl (l' := #[o0 se, o0 cb, o0 cp, o0 cn, o0 1, o0 1, o0 0, o0 (o9 cb), o0 (o9 cp), o0 (o9 cn), o5, o5, o5, o5, o5, o5]) rfl (o8 X0.here hx rfl (hb hby at_73) rfl (o68 X0.here hx rfl (hb hby at_75) rfl (o65 (by decide)) (o8 X0.here hx rfl (hb hby at_78) rfl j)))))) ?_
        show o11 p e below _ (s₁.setTop (mkF m 80 #[o0 se, o0 cb, o0 cp, o0 cn, o0 1, o0 1, o0 0, o0 (o9 cb), o0 (o9 cp), o0 (o9 cn), o5, o5, o5, o5, o5, o5] [(.int (o9 cb))]))
        refine o17 (o78 X0 hx hZ (y := o394) hown (o2 hw 0 rfl) (o2 hw 1 rfl) (o2 hw 2 rfl) (o2 hw 3 rfl) o67 (o505 hw hS (o9 cb) h0 n0 O0 (o176 _)) e0 o369 (argsL := [(.int (o9 cb))]) (rest := []) rfl rfl (g := (mkF m 80 #[o0 se, o0 cb, o0 cp, o0 cn, o0 1, o0 1, o0 0, o0 (o9 cb), o0 (o9 cp), o0 (o9 cn), o5, o5, o5, o5, o5, o5] [(.int (o9 cb))])) rfl (by rw [hml]; rfl) rfl (hb hby at_80) (W := 0) rfl) ?_
        intro T2401 v2401 L2401 X2401 hQ2401
        obtain ⟨nz0_2402, nz1_2403, kz2_2404, rfl, M2401, K2401, z2405, z2406, F2407, F2408, F2409, F2410, F2411⟩ := hQ2401
        have N2401 := Fr.app N0 M2401
        refine o4 (fun u j => o15 X2401.here hx rfl (pc0 := 83) (pc' := 87) rfl (hb hby at_83) (by decide) (by decide) (o76 X2401.here hx rfl (hb hby at_87) rfl rfl (l' := #[o0 se, o0 cb, o0 cp, o0 cn, o0 1, o0 1, o0 0, o0 (o9 cb), o0 (o9 cp), o0 (o9 cn), o1 nz0_2402, o5, o5, o5, o5, o5]) rfl (o8 X2401.here hx rfl (hb hby at_89) rfl (o68 X2401.here hx rfl (hb hby at_91) rfl (o65 (by decide)) (o8 X2401.here hx rfl (hb hby at_94) rfl j))))) ?_
        have O2413 := O0.keep K2401 all0
        refine o17 (o78 X2401 hx hZ (y := o394) hown (o2 hw 0 rfl) (o2 hw 1 rfl) (o2 hw 2 rfl) (o2 hw 3 rfl) o67 (o505 hw hS (o9 cp) T2401.heap n0 O2413 (o176 _)) rfl o369 (argsL := [(.int (o9 cp))]) (rest := []) rfl rfl (g := (mkF m 96 #[o0 se, o0 cb, o0 cp, o0 cn, o0 1, o0 1, o0 0, o0 (o9 cb), o0 (o9 cp), o0 (o9 cn), o1 nz0_2402, o5, o5, o5, o5, o5] [(.int (o9 cp))])) rfl (by rw [hml]; rfl) rfl (hb hby at_96) (W := 0) rfl) ?_
        intro T2412 v2412 L2412 X2412 hQ2412
        obtain ⟨nz0_2414, nz1_2415, kz2_2416, rfl, M2412, K2412, z2417, z2418, F2419, F2420, F2421, F2422, F2423⟩ := hQ2412
        have N2412 := Fr.app N2401 M2412
        refine o4 (fun u j => o15 X2412.here hx rfl (pc0 := 99) (pc' := 103) rfl (hb hby at_99) (by decide) (by decide) (o76 X2412.here hx rfl (hb hby at_103) rfl rfl (l' := #[o0 se, o0 cb, o0 cp, o0 cn, o0 1, o0 1, o0 0, o0 (o9 cb), o0 (o9 cp), o0 (o9 cn), o1 nz0_2402, o1 nz0_2414, o5, o5, o5, o5]) rfl (o8 X2412.here hx rfl (hb hby at_105) rfl (o88 X2412.here hx rfl (pc0 := 107) (pc' := 118) rfl (hb hby at_107) rfl (o165 (by decide)) (by decide) (by decide) (o99 X2412.here hx rfl (hb hby at_118) (o76 X2412.here hx rfl (hb hby at_119) rfl rfl (l' := #[o0 se, o0 cb, o0 cp, o0 cn, o0 1, o0 1, o0 0, o0 (o9 cb), o0 (o9 cp), o0 (o9 cn), o1 nz0_2402, o1 nz0_2414, .val .null, o5, o5, o5]) rfl j)))))) ?_
        show o11 p e below _ (T2412.setTop (mkF m 121 #[o0 se, o0 cb, o0 cp, o0 cn, o0 1, o0 1, o0 0, o0 (o9 cb), o0 (o9 cp), o0 (o9 cn), o1 nz0_2402, o1 nz0_2414, .val .null, o5, o5, o5] []))
        have q_ := newO X2412 hx hZ hown (o2 hw 26 rfl) (o2 hw 27 rfl) (o2 hw 28 rfl) rfl (g := (mkF m 121 #[o0 se, o0 cb, o0 cp, o0 cn, o0 1, o0 1, o0 0, o0 (o9 cb), o0 (o9 cp), o0 (o9 cn), o1 nz0_2402, o1 nz0_2414, .val .null, o5, o5, o5] [])) rfl (hb hby at_121) (by decide) (by decide)
        obtain ⟨T2424, h2424, X2424, e2424, E2424, A2424, D2424, U2424, st2424⟩ := q_
        have q_ : ∃ z, z = T2412.heap.size := ⟨_, rfl⟩
        obtain ⟨b2424, g2424⟩ := q_
        rw [← g2424] at A2424 D2424 U2424 st2424
        have F2424_bean : Fld Z h2424 b2424 o62 "bean" o71 .null := D2424 (Or.inr (o2 hw 39 rfl)) (ty := (.object "java/lang/String")) o82
        have F2424_part : Fld Z h2424 b2424 o62 "part" o71 .null := D2424 (Or.inr (o2 hw 41 rfl)) (ty := (.object "java/lang/String")) o82
        have F2424_name : Fld Z h2424 b2424 o62 "name" o71 .null := D2424 (Or.inr (o2 hw 43 rfl)) (ty := (.object "java/lang/String")) o82
        refine o4 (fun u j => st2424 u j) ?_
        refine o4 (fun u j => o61 X2424.here hx rfl (hb hby at_124) rfl rfl (o72 X2424.here hx rfl (hb hby at_125) rfl rfl (o72 X2424.here hx rfl (hb hby at_127) rfl rfl (o72 X2424.here hx rfl (hb hby at_129) rfl rfl j)))) ?_
        have O2454 := O2413.keep K2412 all0
        have g2453 := Nat.le_trans (o103 O2454) (Nat.le_of_eq g2424.symm)
        have O2456 := O2454.ext E2424
        refine o17 (o87 X2424 hx hZ (y := o395) rfl hown (o2 hw 29 rfl) (o2 hw 30 rfl) (o2 hw 28 rfl) (o2 hw 31 rfl) o313 (o979 hw hS b2424 nz0_2402 nz0_2414 h2424 n0 O2456 A2424 F2424_bean F2424_name F2424_part g2453) e2424 o469 (a := b2424) (argsL := [.ref nz0_2402, .ref nz0_2414, .null]) (rest := [.ref b2424]) rfl rfl (g := (mkF m 131 #[o0 se, o0 cb, o0 cp, o0 cn, o0 1, o0 1, o0 0, o0 (o9 cb), o0 (o9 cp), o0 (o9 cn), o1 nz0_2402, o1 nz0_2414, .val .null, o5, o5, o5] [.null, .ref nz0_2414, .ref nz0_2402, .ref b2424, .ref b2424])) rfl (by rw [hml]; rfl) rfl (hb hby at_131) (W := 1) rfl) ?_
        intro T2455 v2455 L2455 X2455 hQ2455
        obtain ⟨rfl, M2455, K2455, F2457, F2458, F2459, F2460⟩ := hQ2455
        have N2455 := Fr.app N2412 M2455
        refine o4 (fun u j => o76 X2455.here hx rfl (hb hby at_134) rfl rfl (l' := #[o0 se, o0 cb, o0 cp, o0 cn, o0 1, o0 1, o0 0, o0 (o9 cb), o0 (o9 cp), o0 (o9 cn), o1 nz0_2402, o1 nz0_2414, .val .null, o1 b2424, o5, o5]) rfl (o72 X2455.here hx rfl (hb hby at_136) rfl rfl j)) ?_
        have F3004 := ((Exa.ext E2424 (F2407.keep K2412)).keep K2455)
        have ne3005 := (Nat.ne_of_lt (Nat.lt_of_lt_of_le (Nat.lt_of_lt_of_le F2407.lt K2412.1) (Nat.le_of_eq g2424.symm)))
        have F3006 := ((Fld.ext E2424 (F2408.keep K2412 nin0)).keep K2455 (ninS ne3005 nin0))
        have F3007 := ((Fld.ext E2424 (F2409.keep K2412 nin0)).keep K2455 (ninS ne3005 nin0))
        have F3008 := ((Exa.ext E2424 F2419).keep K2455)
        have ne3009 := (Nat.ne_of_lt (Nat.lt_of_lt_of_le F2419.lt (Nat.le_of_eq g2424.symm)))
        have F3010 := ((Fld.ext E2424 F2420).keep K2455 (ninS ne3009 nin0))
        have F3011 := ((Fld.ext E2424 F2421).keep K2455 (ninS ne3009 nin0))
        have F3012 := ((Exa.ext E2424 (F2410.keep K2412)).keep K2455)
        have ne3013 := (Nat.ne_of_lt (Nat.lt_of_lt_of_le (Nat.lt_of_lt_of_le F2410.lt K2412.1) (Nat.le_of_eq g2424.symm)))
        have F3014 := (((F2411.keep K2412 nin0).ext E2424).keep K2455 (ninS ne3013 nin0))
        have F3015 := ((Exa.ext E2424 F2422).keep K2455)
        have ne3016 := (Nat.ne_of_lt (Nat.lt_of_lt_of_le F2422.lt (Nat.le_of_eq g2424.symm)))
        have F3017 := ((F2423.ext E2424).keep K2455 (ninS ne3016 nin0))
        have O3019 := O2456.keep K2455 (allS g2453 all0)
        have R3020 : CHr Z o23 s.vm h0 s.vm T2401.heap := R0.trans (CHr.keep K2401 sf0 R0.1)
        have R3021 : CHr Z o23 s.vm h0 s.vm T2412.heap := R3020.trans (CHr.keep K2412 sf0 R3020.1)
        have R3022 : CHr Z o23 s.vm h0 s.vm h2424 := R3021.trans (CHr.ext E2424 R3021.1)
        have sf_3024 : Safe Z o23 s.vm h2424 b2424 := Safe.exa hZ_0.alike A2424 o443 o444
        have R3023 : CHr Z o23 s.vm h0 s.vm T2455.heap := R3022.trans (CHr.keep K2455 (sfS sf_3024 sf0) R3022.1)
        obtain ⟨T3018, v3018, L3018, X3018, Si3018, hZ3018, hown3018, hQ3018, hr3018, st3018⟩ := o492 X2455 hx hZ hSi0 (Nat.le_trans (Nat.zero_le _) (Nat.le_trans (Nat.le_trans (Nat.le_trans K2401.1 K2412.1) E2424.1) K2455.1)) (o172 hw) R3023.1 o688 (y := o181) (z := o181) hown (o2 hw 44 rfl) (o2 hw 45 rfl) (notFace_of_selects (args := #[]) (mvT hZ (o2 hw 47 rfl))) (o2 hw 47 rfl) (o2 hw 46 rfl) (o2 hw 28 rfl) (o2 hw 48 rfl) o313 (o879 hw hS b2424 nz0_2402 nz0_2414 nz1_2403 nz1_2415 kz2_2404 ((o9 cb).toInt8.toInt32) kz2_2416 ((o9 cp).toInt8.toInt32) T2455.heap n0 O3019 F2457 F2458 F2459 F2460 F3004 F3006 F3007 F3008 F3010 F3011 F3012 F3014 F3015 F3017) rfl F2457 o207 (argsL := []) (rest := []) rfl rfl (g := (mkF m 138 #[o0 se, o0 cb, o0 cp, o0 cn, o0 1, o0 1, o0 0, o0 (o9 cb), o0 (o9 cp), o0 (o9 cn), o1 nz0_2402, o1 nz0_2414, .val .null, o1 b2424, o5, o5] [.ref b2424])) rfl (by rw [hml]; rfl) rfl (hb hby at_138) (W := 0) rfl (by decide) (by decide) (by decide) (by decide)
        obtain ⟨nz0_3025, nz1_3026, kz2_3027, rfl, M3018, K3018, z3028, z3029, F3030, F3031, F3032, F3033, F3034⟩ := hQ3018
        have N3018 := Fr.app N2455 M3018
        refine o4 (fun u j => st3018 u j) ?_
        refine o4 (fun u j => o76 X3018.here hx rfl (hb hby at_141) rfl rfl (l' := #[o0 se, o0 cb, o0 cp, o0 cn, o0 1, o0 1, o0 0, o0 (o9 cb), o0 (o9 cp), o0 (o9 cn), o1 nz0_2402, o1 nz0_2414, .val .null, o1 b2424, o1 nz0_3025, o5]) rfl (o8 X3018.here hx rfl (hb hby at_143) rfl (o8 X3018.here hx rfl (hb hby at_145) rfl (o8 X3018.here hx rfl (hb hby at_147) rfl (o8 X3018.here hx rfl (hb hby at_149) rfl (o8 X3018.here hx rfl (hb hby at_151) rfl j)))))) ?_
        show o11 p e below _ (T3018.setTop (mkF m 153 #[o0 se, o0 cb, o0 cp, o0 cn, o0 1, o0 1, o0 0, o0 (o9 cb), o0 (o9 cp), o0 (o9 cn), o1 nz0_2402, o1 nz0_2414, .val .null, o1 b2424, o1 nz0_3025, o5] [(.int (o9 cp)), (.int (o9 cb)), .int 0, .int 1, .int 1]))
        refine o4 (fun u j => o8 X3018.here hx rfl (hb hby at_153) rfl j) ?_
        have O3283 := O3019.keep K3018 all0
        refine o17 (o78 X3018 hx hZ3018 (y := o319) hown3018 (o2 hw 49 rfl) (o2 hw 50 rfl) (o2 hw 51 rfl) (o2 hw 52 rfl) o439 (o885 hw hS (o9 cb) (o9 cp) (o9 cn) T3018.heap n0 O3283 (o420 _) (o420 _) (o176 _) (o176 _)) rfl o440 (argsL := [.int 1, .int 1, .int 0, (.int (o9 cb)), (.int (o9 cp)), (.int (o9 cn))]) (rest := []) rfl rfl (g := (mkF m 155 #[o0 se, o0 cb, o0 cp, o0 cn, o0 1, o0 1, o0 0, o0 (o9 cb), o0 (o9 cp), o0 (o9 cn), o1 nz0_2402, o1 nz0_2414, .val .null, o1 b2424, o1 nz0_3025, o5] [(.int (o9 cn)), (.int (o9 cp)), (.int (o9 cb)), .int 0, .int 1, .int 1])) rfl (by rw [hml]; rfl) rfl (hb hby at_155) (W := 0) rfl) ?_
        intro T3282 v3282 L3282 X3282 hQ3282
        obtain ⟨nz0_3284, nz1_3285, kz2_3286, rfl, M3282, K3282, z3287, z3288, F3289, F3290, F3291, F3292, F3293⟩ := hQ3282
        have N3282 := Fr.app N3018 M3282
        refine o4 (fun u j => o76 X3282.here hx rfl (hb hby at_158) rfl rfl (l' := #[o0 se, o0 cb, o0 cp, o0 cn, o0 1, o0 1, o0 0, o0 (o9 cb), o0 (o9 cp), o0 (o9 cn), o1 nz0_2402, o1 nz0_2414, .val .null, o1 b2424, o1 nz0_3025, o1 nz0_3284]) rfl (o72 X3282.here hx rfl (hb hby at_160) rfl rfl (o72 X3282.here hx rfl (hb hby at_162) rfl rfl j))) ?_
        have F3340 := (F3030.keep K3282)
        have F3341 := (F3031.keep K3282 nin0)
        have F3342 := (F3032.keep K3282 nin0)
        have F3343 := (F3034.keep K3282 nin0)
        have ne3344 := (Ne.symm (Nat.ne_of_lt (Nat.lt_of_lt_of_le F3030.lt z3287)))
        have O3346 := O3283.keep K3282 all0
        refine o17 (o63 X3282 hx hZ3018 (y := o182) (z := o182) hown3018 (o2 hw 71 rfl) (o2 hw 72 rfl) (notFace_of_selects (args := #[]) (mvT hZ3018 (o2 hw 74 rfl))) (o2 hw 74 rfl) (o2 hw 73 rfl) (o2 hw 2 rfl) (o2 hw 75 rfl) o67 (o887 hw hS nz0_3284 nz0_3025 nz1_3285 nz1_3026 kz2_3286 ((o9 cb).toInt8.toInt32) ((o9 cp).toInt8.toInt32) kz2_3027 T3282.heap n0 O3346 F3290 F3291 F3340 F3341 F3342 F3293 F3343 ne3344) rfl F3289 o442 (argsL := [.ref nz0_3025]) (rest := []) rfl rfl (g := (mkF m 164 #[o0 se, o0 cb, o0 cp, o0 cn, o0 1, o0 1, o0 0, o0 (o9 cb), o0 (o9 cp), o0 (o9 cn), o1 nz0_2402, o1 nz0_2414, .val .null, o1 b2424, o1 nz0_3025, o1 nz0_3284] [.ref nz0_3025, .ref nz0_3284])) rfl (by rw [hml]; rfl) rfl (hb hby at_164) (W := 0) rfl) ?_
        intro T3345 v3345 L3345 X3345 hQ3345
        obtain ⟨rfl, M3345, e3345⟩ := hQ3345
        have N3345 := Fr.app N3282 M3345
        have K3347 := (Keep.refl h0 []).trans K2401 all0
        have K3348 := K3347.trans K2412 all0
        have K3349 := K3348.ext E2424
        have z3351 := Nat.le_trans (Nat.le_trans K2401.1 K2412.1) (Nat.le_of_eq g2424.symm)
        have K3350 := K3349.trans K2455 (allS (Or.inr z3351) all0)
        have K3352 := K3350.trans K3018 all0
        have K3353 := K3352.trans K3282 all0
        have R3354 : CHr Z o23 s.vm h0 T3018.vm T3018.heap := R3023.trans hr3018
        have R3355 : CHr Z o23 s.vm h0 T3018.vm T3282.heap := R3354.trans (CHr.keep K3282 sf0 R3354.1)
        exact o368 X3345 Si3018 (Nat.le_trans (Nat.le_refl _) K3282.1) e3345 hZ3018 (o172 hw) hs0 R3355 hx hlk hret rfl (Or.inl ⟨rfl, by simp, _, rfl⟩) (hb hby at_167) (by decide) (by decide) (show Qrm0 Z wcs se cb cp cn h0 n0 (some (.int 1)) T3345.heap _ from (by rw [e3345]; exact ⟨rfl, N3345, K3353⟩))
      · refine o4 (fun u j => o68 X0.here hx rfl (hb hby at_39) rfl (o65 hc2400) (o16 X0.here hx rfl (hb hby at_42) (o15 X0.here hx rfl (pc0 := 43) (pc' := 47) rfl (hb hby at_43) (by decide) (by decide) j))) ?_
        show o11 p e below _ (s₁.setTop (mkF m 47 #[o0 se, o0 cb, o0 cp, o0 cn, o0 1, o0 1, o5, o5, o5, o5, o5, o5, o5, o5, o5, o5] [.int 1]))
        refine o4 (fun u j => o20 X0.here hx rfl (hb hby at_47) rfl (l' := #[o0 se, o0 cb, o0 cp, o0 cn, o0 1, o0 1, o0 1, o5, o5, o5, o5, o5, o5, o5, o5, o5]) rfl (o6 X0.here hx rfl (hb hby at_49) rfl (o33 X0.here hx rfl (hb hby at_50) (o108 X0.here hx rfl (hb hby at_53) rfl (XS.i2c X0.here hx rfl (hb hby at_54) rfl (o20 X0.here hx rfl (hb hby at_55) rfl (l' := #[o0 se, o0 cb, o0 cp, o0 cn, o0 1, o0 1, o0 1, o0 (o9 cb), o5, o5, o5, o5, o5, o5, o5, o5]) rfl j)))))) ?_
        show o11 p e below _ (s₁.setTop (mkF m 57 #[o0 se, o0 cb, o0 cp, o0 cn, o0 1, o0 1, o0 1, o0 (o9 cb), o5, o5, o5, o5, o5, o5, o5, o5] []))
        refine o4 (fun u j => o6 X0.here hx rfl (hb hby at_57) rfl (o33 X0.here hx rfl (hb hby at_58) (o108 X0.here hx rfl (hb hby at_61) rfl (XS.i2c X0.here hx rfl (hb hby at_62) rfl (o20 X0.here hx rfl (hb hby at_63) rfl (l' := #[o0 se, o0 cb, o0 cp, o0 cn, o0 1, o0 1, o0 1, o0 (o9 cb), o0 (o9 cp), o5, o5, o5, o5, o5, o5, o5]) rfl (o6 X0.here hx rfl (hb hby at_65) rfl j)))))) ?_
        show o11 p e below _ (s₁.setTop (mkF m 66 #[o0 se, o0 cb, o0 cp, o0 cn, o0 1, o0 1, o0 1, o0 (o9 cb), o0 (o9 cp), o5, o5, o5, o5, o5, o5, o5] [.int cn]))
        refine o4 (fun u j => o33 X0.here hx rfl (hb hby at_66) (o108 X0.here hx rfl (hb hby at_69) rfl (XS.i2c X0.here hx rfl (hb hby at_70) rfl (o20 X0.here hx rfl (hb hby at_71) rfl (l' := #[o0 se, o0 cb, o0 cp, o0 cn, o0 1, o0 1, o0 1, o0 (o9 cb), o0 (o9 cp), o0 (o9 cn), o5, o5, o5, o5, o5, o5]) rfl (o8 X0.here hx rfl (hb hby at_73) rfl (o68 X0.here hx rfl (hb hby at_75) rfl (o65 (by decide)) j)))))) ?_
        show o11 p e below _ (s₁.setTop (mkF m 78 #[o0 se, o0 cb, o0 cp, o0 cn, o0 1, o0 1, o0 1, o0 (o9 cb), o0 (o9 cp), o0 (o9 cn), o5, o5, o5, o5, o5, o5] []))
        refine o4 (fun u j => o8 X0.here hx rfl (hb hby at_78) rfl j) ?_
        refine o17 (o78 X0 hx hZ (y := o394) hown (o2 hw 0 rfl) (o2 hw 1 rfl) (o2 hw 2 rfl) (o2 hw 3 rfl) o67 (o505 hw hS (o9 cb) h0 n0 O0 (o176 _)) e0 o369 (argsL := [(.int (o9 cb))]) (rest := []) rfl rfl (g := (mkF m 80 #[o0 se, o0 cb, o0 cp, o0 cn, o0 1, o0 1, o0 1, o0 (o9 cb), o0 (o9 cp), o0 (o9 cn), o5, o5, o5, o5, o5, o5] [(.int (o9 cb))])) rfl (by rw [hml]; rfl) rfl (hb hby at_80) (W := 0) rfl) ?_
        intro T3356 v3356 L3356 X3356 hQ3356
        obtain ⟨nz0_3357, nz1_3358, kz2_3359, rfl, M3356, K3356, z3360, z3361, F3362, F3363, F3364, F3365, F3366⟩ := hQ3356
        have N3356 := Fr.app N0 M3356
        refine o4 (fun u j => o15 X3356.here hx rfl (pc0 := 83) (pc' := 87) rfl (hb hby at_83) (by decide) (by decide) (o76 X3356.here hx rfl (hb hby at_87) rfl rfl (l' := #[o0 se, o0 cb, o0 cp, o0 cn, o0 1, o0 1, o0 1, o0 (o9 cb), o0 (o9 cp), o0 (o9 cn), o1 nz0_3357, o5, o5, o5, o5, o5]) rfl (o8 X3356.here hx rfl (hb hby at_89) rfl (o68 X3356.here hx rfl (hb hby at_91) rfl (o65 (by decide)) (o8 X3356.here hx rfl (hb hby at_94) rfl j))))) ?_
        have O3368 := O0.keep K3356 all0
        refine o17 (o78 X3356 hx hZ (y := o394) hown (o2 hw 0 rfl) (o2 hw 1 rfl) (o2 hw 2 rfl) (o2 hw 3 rfl) o67 (o505 hw hS (o9 cp) T3356.heap n0 O3368 (o176 _)) rfl o369 (argsL := [(.int (o9 cp))]) (rest := []) rfl rfl (g := (mkF m 96 #[o0 se, o0 cb, o0 cp, o0 cn, o0 1, o0 1, o0 1, o0 (o9 cb), o0 (o9 cp), o0 (o9 cn), o1 nz0_3357, o5, o5, o5, o5, o5] [(.int (o9 cp))])) rfl (by rw [hml]; rfl) rfl (hb hby at_96) (W := 0) rfl) ?_
        intro T3367 v3367 L3367 X3367 hQ3367
        obtain ⟨nz0_3369, nz1_3370, kz2_3371, rfl, M3367, K3367, z3372, z3373, F3374, F3375, F3376, F3377, F3378⟩ := hQ3367
        have N3367 := Fr.app N3356 M3367
        refine o4 (fun u j => o15 X3367.here hx rfl (pc0 := 99) (pc' := 103) rfl (hb hby at_99) (by decide) (by decide) (o76 X3367.here hx rfl (hb hby at_103) rfl rfl (l' := #[o0 se, o0 cb, o0 cp, o0 cn, o0 1, o0 1, o0 1, o0 (o9 cb), o0 (o9 cp), o0 (o9 cn), o1 nz0_3357, o1 nz0_3369, o5, o5, o5, o5]) rfl (o8 X3367.here hx rfl (hb hby at_105) rfl (o68 X3367.here hx rfl (hb hby at_107) rfl (o65 (by decide)) (o8 X3367.here hx rfl (hb hby at_110) rfl j))))) ?_
        have O3380 := O3368.keep K3367 all0
        refine o17 (o78 X3367 hx hZ (y := o394) hown (o2 hw 0 rfl) (o2 hw 1 rfl) (o2 hw 2 rfl) (o2 hw 3 rfl) o67 (o505 hw hS (o9 cn) T3367.heap n0 O3380 (o176 _)) rfl o369 (argsL := [(.int (o9 cn))]) (rest := []) rfl rfl (g := (mkF m 112 #[o0 se, o0 cb, o0 cp, o0 cn, o0 1, o0 1, o0 1, o0 (o9 cb), o0 (o9 cp), o0 (o9 cn), o1 nz0_3357, o1 nz0_3369, o5, o5, o5, o5] [(.int (o9 cn))])) rfl (by rw [hml]; rfl) rfl (hb hby at_112) (W := 0) rfl) ?_
        intro T3379 v3379 L3379 X3379 hQ3379
        obtain ⟨nz0_3381, nz1_3382, kz2_3383, rfl, M3379, K3379, z3384, z3385, F3386, F3387, F3388, F3389, F3390⟩ := hQ3379
        have N3379 := Fr.app N3367 M3379
        refine o4 (fun u j => o15 X3379.here hx rfl (pc0 := 115) (pc' := 119) rfl (hb hby at_115) (by decide) (by decide) (o76 X3379.here hx rfl (hb hby at_119) rfl rfl (l' := #[o0 se, o0 cb, o0 cp, o0 cn, o0 1, o0 1, o0 1, o0 (o9 cb), o0 (o9 cp), o0 (o9 cn), o1 nz0_3357, o1 nz0_3369, o1 nz0_3381, o5, o5, o5]) rfl j)) ?_
        have q_ := newO X3379 hx hZ hown (o2 hw 26 rfl) (o2 hw 27 rfl) (o2 hw 28 rfl) rfl (g := (mkF m 121 #[o0 se, o0 cb, o0 cp, o0 cn, o0 1, o0 1, o0 1, o0 (o9 cb), o0 (o9 cp), o0 (o9 cn), o1 nz0_3357, o1 nz0_3369, o1 nz0_3381, o5, o5, o5] [])) rfl (hb hby at_121) (by decide) (by decide)
        obtain ⟨T3391, h3391, X3391, e3391, E3391, A3391, D3391, U3391, st3391⟩ := q_
        have q_ : ∃ z, z = T3379.heap.size := ⟨_, rfl⟩
        obtain ⟨b3391, g3391⟩ := q_
        rw [← g3391] at A3391 D3391 U3391 st3391
        have F3391_bean : Fld Z h3391 b3391 o62 "bean" o71 .null := D3391 (Or.inr (o2 hw 39 rfl)) (ty := (.object "java/lang/String")) o82
        have F3391_part : Fld Z h3391 b3391 o62 "part" o71 .null := D3391 (Or.inr (o2 hw 41 rfl)) (ty := (.object "java/lang/String")) o82
        have F3391_name : Fld Z h3391 b3391 o62 "name" o71 .null := D3391 (Or.inr (o2 hw 43 rfl)) (ty := (.object "java/lang/String")) o82
        refine o4 (fun u j => st3391 u j) ?_
        refine o4 (fun u j => o61 X3391.here hx rfl (hb hby at_124) rfl rfl (o72 X3391.here hx rfl (hb hby at_125) rfl rfl (o72 X3391.here hx rfl (hb hby at_127) rfl rfl (o72 X3391.here hx rfl (hb hby at_129) rfl rfl j)))) ?_
        have O3421 := O3380.keep K3379 all0
        have g3420 := Nat.le_trans (o103 O3421) (Nat.le_of_eq g3391.symm)
        have O3423 := O3421.ext E3391
        refine o17 (o87 X3391 hx hZ (y := o395) rfl hown (o2 hw 29 rfl) (o2 hw 30 rfl) (o2 hw 28 rfl) (o2 hw 31 rfl) o313 (o888 hw hS b3391 nz0_3357 nz0_3369 nz0_3381 h3391 n0 O3423 A3391 F3391_bean F3391_name F3391_part g3420) e3391 o469 (a := b3391) (argsL := [.ref nz0_3357, .ref nz0_3369, .ref nz0_3381]) (rest := [.ref b3391]) rfl rfl (g := (mkF m 131 #[o0 se, o0 cb, o0 cp, o0 cn, o0 1, o0 1, o0 1, o0 (o9 cb), o0 (o9 cp), o0 (o9 cn), o1 nz0_3357, o1 nz0_3369, o1 nz0_3381, o5, o5, o5] [.ref nz0_3381, .ref nz0_3369, .ref nz0_3357, .ref b3391, .ref b3391])) rfl (by rw [hml]; rfl) rfl (hb hby at_131) (W := 1) rfl) ?_
        intro T3422 v3422 L3422 X3422 hQ3422
        obtain ⟨rfl, M3422, K3422, F3424, F3425, F3426, F3427⟩ := hQ3422
        have N3422 := Fr.app N3379 M3422
        refine o4 (fun u j => o76 X3422.here hx rfl (hb hby at_134) rfl rfl (l' := #[o0 se, o0 cb, o0 cp, o0 cn, o0 1, o0 1, o0 1, o0 (o9 cb), o0 (o9 cp), o0 (o9 cn), o1 nz0_3357, o1 nz0_3369, o1 nz0_3381, o1 b3391, o5, o5]) rfl (o72 X3422.here hx rfl (hb hby at_136) rfl rfl j)) ?_
        have F4149 := ((Exa.ext E3391 ((F3362.keep K3367).keep K3379)).keep K3422)
        have ne4150 := (Nat.ne_of_lt (Nat.lt_of_lt_of_le (Nat.lt_of_lt_of_le F3362.lt (Nat.le_trans K3367.1 K3379.1)) (Nat.le_of_eq g3391.symm)))
        have F4151 := ((Fld.ext E3391 ((F3363.keep K3367 nin0).keep K3379 nin0)).keep K3422 (ninS ne4150 nin0))
        have F4152 := ((Fld.ext E3391 ((F3364.keep K3367 nin0).keep K3379 nin0)).keep K3422 (ninS ne4150 nin0))
        have F4153 := ((Exa.ext E3391 F3386).keep K3422)
        have ne4154 := (Nat.ne_of_lt (Nat.lt_of_lt_of_le F3386.lt (Nat.le_of_eq g3391.symm)))
        have F4155 := ((Fld.ext E3391 F3387).keep K3422 (ninS ne4154 nin0))
        have F4156 := ((Fld.ext E3391 F3388).keep K3422 (ninS ne4154 nin0))
        have F4157 := ((Exa.ext E3391 (F3374.keep K3379)).keep K3422)
        have ne4158 := (Nat.ne_of_lt (Nat.lt_of_lt_of_le (Nat.lt_of_lt_of_le F3374.lt K3379.1) (Nat.le_of_eq g3391.symm)))
        have F4159 := ((Fld.ext E3391 (F3375.keep K3379 nin0)).keep K3422 (ninS ne4158 nin0))
        have F4160 := ((Fld.ext E3391 (F3376.keep K3379 nin0)).keep K3422 (ninS ne4158 nin0))
        have F4161 := ((Exa.ext E3391 ((F3365.keep K3367).keep K3379)).keep K3422)
        have ne4162 := (Nat.ne_of_lt (Nat.lt_of_lt_of_le (Nat.lt_of_lt_of_le F3365.lt (Nat.le_trans K3367.1 K3379.1)) (Nat.le_of_eq g3391.symm)))
        have F4163 := ((((F3366.keep K3367 nin0).keep K3379 nin0).ext E3391).keep K3422 (ninS ne4162 nin0))
        have F4164 := ((Exa.ext E3391 F3389).keep K3422)
        have ne4165 := (Nat.ne_of_lt (Nat.lt_of_lt_of_le F3389.lt (Nat.le_of_eq g3391.symm)))
        have F4166 := ((F3390.ext E3391).keep K3422 (ninS ne4165 nin0))
        have F4167 := ((Exa.ext E3391 (F3377.keep K3379)).keep K3422)
        have ne4168 := (Nat.ne_of_lt (Nat.lt_of_lt_of_le (Nat.lt_of_lt_of_le F3377.lt K3379.1) (Nat.le_of_eq g3391.symm)))
        have F4169 := (((F3378.keep K3379 nin0).ext E3391).keep K3422 (ninS ne4168 nin0))
        have O4171 := O3423.keep K3422 (allS g3420 all0)
        have R4172 : CHr Z o23 s.vm h0 s.vm T3356.heap := R0.trans (CHr.keep K3356 sf0 R0.1)
        have R4173 : CHr Z o23 s.vm h0 s.vm T3367.heap := R4172.trans (CHr.keep K3367 sf0 R4172.1)
        have R4174 : CHr Z o23 s.vm h0 s.vm T3379.heap := R4173.trans (CHr.keep K3379 sf0 R4173.1)
        have R4175 : CHr Z o23 s.vm h0 s.vm h3391 := R4174.trans (CHr.ext E3391 R4174.1)
        have sf_4177 : Safe Z o23 s.vm h3391 b3391 := Safe.exa hZ_0.alike A3391 o443 o444
        have R4176 : CHr Z o23 s.vm h0 s.vm T3422.heap := R4175.trans (CHr.keep K3422 (sfS sf_4177 sf0) R4175.1)
        obtain ⟨T4170, v4170, L4170, X4170, Si4170, hZ4170, hown4170, hQ4170, hr4170, st4170⟩ := o492 X3422 hx hZ hSi0 (Nat.le_trans (Nat.zero_le _) (Nat.le_trans (Nat.le_trans (Nat.le_trans (Nat.le_trans K3356.1 K3367.1) K3379.1) E3391.1) K3422.1)) (o172 hw) R4176.1 o688 (y := o181) (z := o181) hown (o2 hw 44 rfl) (o2 hw 45 rfl) (notFace_of_selects (args := #[]) (mvT hZ (o2 hw 47 rfl))) (o2 hw 47 rfl) (o2 hw 46 rfl) (o2 hw 28 rfl) (o2 hw 48 rfl) o313 (o899 hw hS b3391 nz0_3357 nz0_3381 nz0_3369 nz1_3358 nz1_3382 nz1_3370 kz2_3359 ((o9 cb).toInt8.toInt32) kz2_3383 ((o9 cn).toInt8.toInt32) kz2_3371 ((o9 cp).toInt8.toInt32) T3422.heap n0 O4171 F3424 F3425 F3426 F3427 F4149 F4151 F4152 F4153 F4155 F4156 F4157 F4159 F4160 F4161 F4163 F4164 F4166 F4167 F4169) rfl F3424 o207 (argsL := []) (rest := []) rfl rfl (g := (mkF m 138 #[o0 se, o0 cb, o0 cp, o0 cn, o0 1, o0 1, o0 1, o0 (o9 cb), o0 (o9 cp), o0 (o9 cn), o1 nz0_3357, o1 nz0_3369, o1 nz0_3381, o1 b3391, o5, o5] [.ref b3391])) rfl (by rw [hml]; rfl) rfl (hb hby at_138) (W := 0) rfl (by decide) (by decide) (by decide) (by decide)
        obtain ⟨nz0_4178, nz1_4179, kz2_4180, rfl, M4170, K4170, z4181, z4182, F4183, F4184, F4185, F4186, F4187⟩ := hQ4170
        have N4170 := Fr.app N3422 M4170
        refine o4 (fun u j => st4170 u j) ?_
        refine o4 (fun u j => o76 X4170.here hx rfl (hb hby at_141) rfl rfl (l' := #[o0 se, o0 cb, o0 cp, o0 cn, o0 1, o0 1, o0 1, o0 (o9 cb), o0 (o9 cp), o0 (o9 cn), o1 nz0_3357, o1 nz0_3369, o1 nz0_3381, o1 b3391, o1 nz0_4178, o5]) rfl (o8 X4170.here hx rfl (hb hby at_143) rfl (o8 X4170.here hx rfl (hb hby at_145) rfl (o8 X4170.here hx rfl (hb hby at_147) rfl (o8 X4170.here hx rfl (hb hby at_149) rfl (o8 X4170.here hx rfl (hb hby at_151) rfl j)))))) ?_
        show o11 p e below _ (T4170.setTop (mkF m 153 #[o0 se, o0 cb, o0 cp, o0 cn, o0 1, o0 1, o0 1, o0 (o9 cb), o0 (o9 cp), o0 (o9 cn), o1 nz0_3357, o1 nz0_3369, o1 nz0_3381, o1 b3391, o1 nz0_4178, o5] [(.int (o9 cp)), (.int (o9 cb)), .int 1, .int 1, .int 1]))
        refine o4 (fun u j => o8 X4170.here hx rfl (hb hby at_153) rfl j) ?_
        have O4476 := O4171.keep K4170 all0
        refine o17 (o78 X4170 hx hZ4170 (y := o319) hown4170 (o2 hw 49 rfl) (o2 hw 50 rfl) (o2 hw 51 rfl) (o2 hw 52 rfl) o439 (o905 hw hS (o9 cb) (o9 cp) (o9 cn) T4170.heap n0 O4476 (o420 _) (o420 _) (o420 _) (o176 _) (o176 _) (o176 _)) rfl o440 (argsL := [.int 1, .int 1, .int 1, (.int (o9 cb)), (.int (o9 cp)), (.int (o9 cn))]) (rest := []) rfl rfl (g := (mkF m 155 #[o0 se, o0 cb, o0 cp, o0 cn, o0 1, o0 1, o0 1, o0 (o9 cb), o0 (o9 cp), o0 (o9 cn), o1 nz0_3357, o1 nz0_3369, o1 nz0_3381, o1 b3391, o1 nz0_4178, o5] [(.int (o9 cn)), (.int (o9 cp)), (.int (o9 cb)), .int 1, .int 1, .int 1])) rfl (by rw [hml]; rfl) rfl (hb hby at_155) (W := 0) rfl) ?_
        intro T4475 v4475 L4475 X4475 hQ4475
        obtain ⟨nz0_4477, nz1_4478, kz2_4479, rfl, M4475, K4475, z4480, z4481, F4482, F4483, F4484, F4485, F4486⟩ := hQ4475
        have N4475 := Fr.app N4170 M4475
        refine o4 (fun u j => o76 X4475.here hx rfl (hb hby at_158) rfl rfl (l' := #[o0 se, o0 cb, o0 cp, o0 cn, o0 1, o0 1, o0 1, o0 (o9 cb), o0 (o9 cp), o0 (o9 cn), o1 nz0_3357, o1 nz0_3369, o1 nz0_3381, o1 b3391, o1 nz0_4178, o1 nz0_4477]) rfl (o72 X4475.here hx rfl (hb hby at_160) rfl rfl (o72 X4475.here hx rfl (hb hby at_162) rfl rfl j))) ?_
        have F4541 := (F4183.keep K4475)
        have F4542 := (F4184.keep K4475 nin0)
        have F4543 := (F4185.keep K4475 nin0)
        have F4544 := (F4187.keep K4475 nin0)
        have ne4545 := (Ne.symm (Nat.ne_of_lt (Nat.lt_of_lt_of_le F4183.lt z4480)))
        have O4547 := O4476.keep K4475 all0
        refine o17 (o63 X4475 hx hZ4170 (y := o182) (z := o182) hown4170 (o2 hw 71 rfl) (o2 hw 72 rfl) (notFace_of_selects (args := #[]) (mvT hZ4170 (o2 hw 74 rfl))) (o2 hw 74 rfl) (o2 hw 73 rfl) (o2 hw 2 rfl) (o2 hw 75 rfl) o67 (o907 hw hS nz0_4477 nz0_4178 nz1_4478 nz1_4179 kz2_4479 ((o9 cb).toInt8.toInt32) ((o9 cp).toInt8.toInt32) ((o9 cn).toInt8.toInt32) kz2_4180 T4475.heap n0 O4547 F4483 F4484 F4541 F4542 F4543 F4486 F4544 ne4545) rfl F4482 o442 (argsL := [.ref nz0_4178]) (rest := []) rfl rfl (g := (mkF m 164 #[o0 se, o0 cb, o0 cp, o0 cn, o0 1, o0 1, o0 1, o0 (o9 cb), o0 (o9 cp), o0 (o9 cn), o1 nz0_3357, o1 nz0_3369, o1 nz0_3381, o1 b3391, o1 nz0_4178, o1 nz0_4477] [.ref nz0_4178, .ref nz0_4477])) rfl (by rw [hml]; rfl) rfl (hb hby at_164) (W := 0) rfl) ?_
        intro T4546 v4546 L4546 X4546 hQ4546
        obtain ⟨rfl, M4546, e4546⟩ := hQ4546
        have N4546 := Fr.app N4475 M4546
        have K4548 := (Keep.refl h0 []).trans K3356 all0
        have K4549 := K4548.trans K3367 all0
        have K4550 := K4549.trans K3379 all0
        have K4551 := K4550.ext E3391
        have z4553 := Nat.le_trans (Nat.le_trans (Nat.le_trans K3356.1 K3367.1) K3379.1) (Nat.le_of_eq g3391.symm)
        have K4552 := K4551.trans K3422 (allS (Or.inr z4553) all0)
        have K4554 := K4552.trans K4170 all0
        have K4555 := K4554.trans K4475 all0
        have R4556 : CHr Z o23 s.vm h0 T4170.vm T4170.heap := R4176.trans hr4170
        have R4557 : CHr Z o23 s.vm h0 T4170.vm T4475.heap := R4556.trans (CHr.keep K4475 sf0 R4556.1)
        exact o368 X4546 Si4170 (Nat.le_trans (Nat.le_refl _) K4475.1) e4546 hZ4170 (o172 hw) hs0 R4557 hx hlk hret rfl (Or.inl ⟨rfl, by simp, _, rfl⟩) (hb hby at_167) (by decide) (by decide) (show Qrm0 Z wcs se cb cp cn h0 n0 (some (.int 1)) T4546.heap _ from (by rw [e4546]; exact ⟨rfl, N4546, K4555⟩))
theorem comes_1 {Post : Tables → Env → Array Value → State → Outcome → State → Prop} (hpost : ∀ tb e args s v u, (limb_1_1.after args s (.returned v) u = true ∧ limb_1_2.after args s (.returned v) u = true ∧ True) → ReturnedEndW s (.returned v) u (Jvm.fieldLocs frame_1_writes args s ++ Jvm.arrayLocs frame_1_arrays args s ++ Jvm.staticLocs frame_1_statics s) 56 4416 → Post tb e args s (.returned v) u) :
    ArmFor flags0 classFile x code maxLocals ret World_1 tables_1 room_1 Calls_1 rest_1 Pre_1 Post := by
  intro l hfl _ _ p e ha hc hk s m args below hf hA hF happ hP
  obtain ⟨hcalls, hrest, hpre⟩ := hP
  obtain ⟨-, -, -, hnamed, -, -, -, hat⟩ := (Spec.applies_iff hf).mp happ
  obtain ⟨hg, hn⟩ := and_e (Cond.before_iff.mp (show (Jvm.Cond.and given_1 narrow_1).before args s = true from hpre))
  obtain ⟨hcount, hr0⟩ := and_e hg
  obtain ⟨ha0, hr1⟩ := and_e hr0
  obtain ⟨ha1, hr2⟩ := and_e hr1
  obtain ⟨ha2, hr3⟩ := and_e hr2
  have ha3 := hr3
  obtain ⟨w_0, w_1, w_2, w_3, rfl⟩ : ∃ w_0 w_1 w_2 w_3 : Value, args = #[w_0, w_1, w_2, w_3] := by
    have hs : args.size = 4 := by simpa [Cond.value, given_1] using hcount
    obtain ⟨L⟩ := args
    match L, hs with
    | [w_0, w_1, w_2, w_3], _ => exact ⟨w_0, w_1, w_2, w_3, rfl⟩
  have hw := fun d (hd : d ∈ tables_1) => atoms_spec (ws := Jvm.Cond.code x code maxLocals ret :: tables_1) hat d (List.mem_cons_of_mem _ hd)
  have hfit : Fit s := fun {y c} hc i hi => by
    obtain ⟨ha, rfl⟩ := Array.getElem?_eq_some_iff.mp hc
    have q := List.all_eq_true.mp ((Array.all_eq_true_iff_forall_mem.mp hF) _ (Array.getElem_mem ha)) i (List.mem_range.mpr hi)
    simpa [Array.getElem?_eq_getElem hi] using q
  obtain ⟨i_0, ei_0⟩ := is_v ha0
  obtain rfl : w_0 = (.int i_0) := Option.some.inj ei_0
  obtain ⟨i_1, ei_1⟩ := is_v ha1
  obtain rfl : w_1 = (.int i_1) := Option.some.inj ei_1
  obtain ⟨i_2, ei_2⟩ := is_v ha2
  obtain rfl : w_2 = (.int i_2) := Option.some.inj ei_2
  obtain ⟨i_3, ei_3⟩ := is_v ha3
  obtain rfl : w_3 = (.int i_3) := Option.some.inj ei_3
  obtain ⟨hsets, hown0⟩ := atoms_of _ (rest_1_c_eq ▸ (show rest_1_c.before _ s = true from hrest))
  obtain ⟨wcs, ecs⟩ := is_v (Cond.before_iff.mp (hsets _ (List.mem_of_getElem? (i := 1) rfl)))
  have hcs := o867 ecs (Cond.before_iff.mp (hsets _ (List.mem_of_getElem? (i := 2) rfl)))
  have hCH : CHv s o23 s.vm s.heap := CHv.start (o172 hw) (fun p hp => hcalls.1 p hp) (hsets _ (List.mem_of_getElem? (i := 2) rfl)) (o2 hw 14 rfl) (o2 hw 10 rfl)
  have hS : o64 s wcs := ⟨(Sta.start ecs (Or.inl (hsets _ (List.mem_of_getElem? (i := 0) rfl)))), hcs⟩
  obtain ⟨n, o, h1, h2, h3, _, L, rfl, ⟨rfl, N, _⟩, -, hq⟩ := rm0 l s _ hw tables_1 wcs hS i_0 i_1 i_2 i_3 s.heap s.heap.size (Old.start s) p e ha hc hk s m _ below hf ((Spec.applies_iff_loose hf).mp happ).1 ⟨rfl, State.Warmed39.refl s, rfl, hCH, sf0⟩ trivial
  refine ⟨n, _, h1, h2, h3, hpost _ _ _ _ _ _ ⟨Cond.after_iff.mpr rfl, Cond.after_iff.mpr (eq_i res_at (Term.int_eval (1)) rfl), trivial⟩ ⟨hq.1, hq.2.1, hq.2.2.1, (hq.2.2.2.sift fun y hy => Or.inr (N y hy)).mono (by decide) (by decide)⟩⟩
theorem main_1_1 : Claimed_1_1 := comes_1 fun _ _ _ _ _ _ h hF => ⟨h.1, hF⟩
theorem main_1_2 : Claimed_1_2 := comes_1 fun _ _ _ _ _ _ h hF => ⟨h.2.1, hF⟩
end Jvm.Pilot.@@N@@
namespace Jvm.Pilot.@@N@@
open Jvm Jvm.ClassFile Sem Op Lib Jvm.Free Jvm.Stand Jvm.Pilot.@@N@@.Jvm.D
/-! MADE BY PROGRAM (witnessworld.py) out of the Statement's table words and the real class files: 25 classes; the members and pool entries that the words name. The judged class is class 1, her method 1. -/
namespace start1
open Jvm.ClassFile
def u (s : String) : CpInfo := .utf8 (stringToUtf16 s)
/-- a pool by its gaps: so many unusable entries, then the entry; so many at the end -/
def gap : Nat → List CpInfo → List CpInfo
  | 0, r => r
  | n + 1, r => .unusable :: gap n r
def poolList (es : List (Nat × CpInfo)) (last : Nat) : List CpInfo := es.foldr (fun e r => gap e.1 (e.2 :: r)) (gap last [])
def pool (es : List (Nat × CpInfo)) (last : Nat) : Array CpInfo := ⟨poolList es last⟩
def fileOf (pool : Array CpInfo) (this : Nat) (attrs : Array Attribute := #[]) (ms : Array MethodInfo := #[]) (fl : Nat := 33) (sup : Nat := 0) (ifs : Array Nat := #[]) (fds : Array FieldInfo := #[]) : ClassFile where
  minorVersion := 0
  majorVersion := 65
  constantPool := pool
  accessFlags := fl
  thisClass := this
  superClass := sup
  interfaces := ifs
  fields := fds
  methods := ms
  attributes := attrs
def plain (name : String) (sup : Option ClassId) : Class where
  name := name
  kind := .ordinary
  loader := none
  accessFlags := 33
  super := sup
  interfaces := #[]
  cf := none
  fields := #[]
  methods := #[]
  instanceTypes := #[]
  staticTypes := #[]
  resolved := #[]
  callSites := []
  init := .initialized
  statics := none
  mirror := none

def pool0 : Array CpInfo := pool [(5, u "<init>"), (0, u "()V"), (1, .class_ 10), (1, u "java/lang/Object")] 113

def k0c0 : Code := { maxStack := 0, maxLocals := 1, code := object_method_1_code, exceptionTable := #[], attributes := #[] }
def k0m0 : Method := { name := "<init>", desc := "()V", sig := { parameters := [], returnType := none }, accessFlags := 1, code := some k0c0 }
/-- java/lang/Object -/
def k0 : Class := { plain "java/lang/Object" none with
  accessFlags := 33
  interfaces := #[]
  cf := some (fileOf pool0 8 #[] #[{ accessFlags := 1, nameIndex := 5, descriptorIndex := 6, attributes := #[] }] 33 0 #[] #[])
  fields := #[]
  methods := #[k0m0]
  instanceTypes := #[]
  staticTypes := #[]
  resolved := Array.replicate 124 none
  statics := none }

def pool1 : Array CpInfo := pool [(2, .class_ 4), (1, u "java/lang/Object"), (0, u "<init>"), (0, u "()V"), (0, .methodref 8 9), (0, .class_ 10), (0, .nameAndType 11 12), (0, u "java/lang/String"), (0, u "valueOf"), (0, u "(C)Ljava/lang/String;"), (0, .class_ 14), (0, u "com/example/forgewire/forgewire/xml/DefinitionReader$Subject"), (0, .methodref 13 16), (0, .nameAndType 5 17), (0, u "(Ljava/lang/String;Ljava/lang/String;Ljava/lang/String;)V"), (0, .methodref 13 19), (0, .nameAndType 20 21), (0, u "toString"), (0, u "()Ljava/lang/String;"), (0, .methodref 23 24), (0, .class_ 25), (0, .nameAndType 26 27), (0, u "com/example/forgewire/forgewire/xml/SubjectToStringPinLaw"), (0, u "expected"), (0, u "(ZZZCCC)Ljava/lang/String;"), (0, .methodref 8 29), (0, .nameAndType 30 31), (0, u "equals"), (0, u "(Ljava/lang/Object;)Z"), (0, .methodref 8 33), (0, .nameAndType 5 34), (0, u "([C)V"), (2, u "law"), (0, u "(IIII)Z")] 7

def k1m0 : Method := { name := "<init>", desc := "()V", sig := { parameters := [], returnType := none }, accessFlags := 1, code := none }
def k1c1 : Code := { maxStack := 6, maxLocals := 16, code := code, exceptionTable := #[], attributes := #[] }
def k1m1 : Method := { name := "law", desc := "(IIII)Z", sig := { parameters := [.int, .int, .int, .int], returnType := some .boolean }, accessFlags := 9, code := some k1c1 }
def k1c2 : Code := { maxStack := 6, maxLocals := 6, code := method_3_code, exceptionTable := #[], attributes := #[] }
def k1m2 : Method := { name := "expected", desc := "(ZZZCCC)Ljava/lang/String;", sig := { parameters := [.boolean, .boolean, .boolean, .char, .char, .char], returnType := some (.object "java/lang/String") }, accessFlags := 10, code := some k1c2 }
/-- com/example/forgewire/forgewire/xml/SubjectToStringPinLaw -/
def k1 : Class := { plain "com/example/forgewire/forgewire/xml/SubjectToStringPinLaw" (some 0) with
  accessFlags := 49
  interfaces := #[]
  cf := some (fileOf pool1 23 #[] #[{ accessFlags := 1, nameIndex := 5, descriptorIndex := 6, attributes := #[] }, { accessFlags := 9, nameIndex := 37, descriptorIndex := 38, attributes := #[] }, { accessFlags := 10, nameIndex := 26, descriptorIndex := 27, attributes := #[] }] 49 2 #[] #[])
  fields := #[]
  methods := #[k1m0, k1m1, k1m2]
  instanceTypes := #[]
  staticTypes := #[]
  resolved := Array.replicate 46 none
  statics := none }

def pool2 : Array CpInfo := pool [(1, .class_ 2), (0, u "java/io/Serializable"), (0, .class_ 4), (0, u "java/lang/Object")] 2

/-- java/io/Serializable -/
def k2 : Class := { plain "java/io/Serializable" (some 0) with
  accessFlags := 1537
  interfaces := #[]
  cf := some (fileOf pool2 1 #[] #[] 1537 3 #[] #[])
  fields := #[]
  methods := #[]
  instanceTypes := #[]
  staticTypes := #[]
  resolved := Array.replicate 7 none
  statics := none }

def pool3 : Array CpInfo := pool [(1, .class_ 2), (0, u "java/lang/Comparable"), (0, .class_ 4), (0, u "java/lang/Object")] 7

/-- java/lang/Comparable -/
def k3 : Class := { plain "java/lang/Comparable" (some 0) with
  accessFlags := 1537
  interfaces := #[]
  cf := some (fileOf pool3 1 #[] #[] 1537 3 #[] #[])
  fields := #[]
  methods := #[]
  instanceTypes := #[]
  staticTypes := #[]
  resolved := Array.replicate 12 none
  statics := none }

def pool4 : Array CpInfo := pool [(2, .class_ 4), (1, u "java/lang/CharSequence"), (42, .class_ 48), (0, u "java/lang/CharSequence$1CodePointIterator"), (10, .class_ 60), (0, u "java/lang/CharSequence$1CharIterator"), (5, .class_ 67), (0, u "java/lang/Object")] 63

/-- java/lang/CharSequence -/
def k4 : Class := { plain "java/lang/CharSequence" (some 0) with
  accessFlags := 1537
  interfaces := #[]
  cf := some (fileOf pool4 2 #[.nestMembers #[47, 59]] #[] 1537 66 #[] #[])
  fields := #[]
  methods := #[]
  instanceTypes := #[]
  staticTypes := #[]
  resolved := Array.replicate 131 none
  statics := none }

def pool5 : Array CpInfo := pool [(1, .class_ 2), (0, u "java/lang/constant/Constable"), (0, .class_ 4), (0, u "java/lang/Object")] 6

/-- java/lang/constant/Constable -/
def k5 : Class := { plain "java/lang/constant/Constable" (some 0) with
  accessFlags := 1537
  interfaces := #[]
  cf := some (fileOf pool5 1 #[] #[] 1537 3 #[] #[])
  fields := #[]
  methods := #[]
  instanceTypes := #[]
  staticTypes := #[]
  resolved := Array.replicate 11 none
  statics := none }

def pool6 : Array CpInfo := pool [(1, .class_ 2), (0, u "java/lang/constant/ConstantDesc"), (0, .class_ 4), (0, u "java/lang/Object")] 32

/-- java/lang/constant/ConstantDesc -/
def k6 : Class := { plain "java/lang/constant/ConstantDesc" (some 0) with
  accessFlags := 1537
  interfaces := #[]
  cf := some (fileOf pool6 1 #[] #[] 1537 3 #[] #[])
  fields := #[]
  methods := #[]
  instanceTypes := #[]
  staticTypes := #[]
  resolved := Array.replicate 37 none
  statics := none }

def pool7 : Array CpInfo := pool [(1, .methodref 2 3), (0, .class_ 4), (0, .nameAndType 5 6), (0, u "java/lang/Object"), (0, u "<init>"), (0, u "()V"), (2, .fieldref 10 11), (0, .class_ 12), (0, .nameAndType 13 14), (0, u "java/lang/String"), (0, u "value"), (0, u "[B"), (0, .fieldref 10 16), (0, .nameAndType 17 18), (0, u "coder"), (0, u "B"), (2, u "hash"), (0, u "I"), (2, u "hashIsZero"), (0, u "Z"), (0, .methodref 10 28), (0, .nameAndType 5 29), (0, u "([CIILjava/lang/Void;)V"), (8, .fieldref 10 39), (0, .nameAndType 40 26), (0, u "COMPACT_STRINGS"), (1, .class_ 44), (1, u "java/lang/StringUTF16"), (0, u "compress"), (1, .methodref 42 48), (0, .nameAndType 49 50), (0, u "coderFromArrayLen"), (0, u "([BI)B"), (2, u "toBytes"), (0, .methodref 55 56), (0, .class_ 57), (0, .nameAndType 58 59), (0, u "java/util/Arrays"), (0, u "copyOfRange"), (0, u "([BII)[B"), (47, .class_ 109), (1, u "java/lang/StringLatin1"), (32, u "()Z"), (34, .methodref 42 178), (0, .nameAndType 45 179), (0, u "([CII)[B"), (13, .class_ 195), (1, u "java/lang/System"), (13, .methodref 10 210), (0, .nameAndType 5 211), (0, u "([BB)V"), (0, .methodref 193 213), (0, .nameAndType 214 215), (0, u "arraycopy"), (0, u "(Ljava/lang/Object;ILjava/lang/Object;II)V"), (118, u "()I"), (0, .methodref 10 336), (0, .nameAndType 17 337), (0, u "()B"), (2, u "()[B"), (28, u "(C)Z"), (119, .methodref 10 490), (0, .nameAndType 5 491), (0, u "(Ljava/lang/AbstractStringBuilder;Ljava/lang/Void;)V"), (1, .nameAndType 494 142), (0, u "isLatin1"), (11, .nameAndType 507 334), (0, u "length"), (24, u "getBytes"), (8, .methodref 107 542), (0, .nameAndType 543 544), (0, u "equals"), (0, u "([B[B)Z"), (4, .methodref 550 506), (0, .class_ 551), (0, u "java/lang/AbstractStringBuilder"), (0, .methodref 550 553), (0, .nameAndType 554 340), (0, u "getValue"), (18, u "(Ljava/lang/Object;)Z"), (1, .class_ 576), (0, u "java/lang/CharSequence"), (22, u "CASE_INSENSITIVE_ORDER"), (0, u "Ljava/util/Comparator;"), (181, u "valueOf"), (0, u "(C)Ljava/lang/String;"), (37, u "([BIB)V"), (188, u "([C)V"), (4, .methodref 107 1016), (0, .nameAndType 1017 369), (0, u "canEncode"), (0, .methodref 107 1019), (0, .nameAndType 53 1020), (0, u "(C)[B"), (26, .methodref 550 493), (53, u "serialPersistentFields"), (0, u "[Ljava/io/ObjectStreamField;"), (0, .class_ 1104), (0, u "java/lang/String$CaseInsensitiveComparator"), (1, .class_ 1107), (0, u "java/io/Serializable"), (0, .class_ 1109), (0, u "java/lang/Comparable"), (0, .class_ 1111), (0, u "java/lang/constant/Constable"), (0, .class_ 1113), (0, u "java/lang/constant/ConstantDesc"), (2, u "serialVersionUID"), (0, u "J"), (3, u "REPL"), (0, u "C"), (2, u "LATIN1"), (1, u "UTF16"), (105, u "(Ljava/lang/StringBuilder;)V")] 217

def k7m0 : Method := { name := "<init>", desc := "()V", sig := { parameters := [], returnType := none }, accessFlags := 1, code := none }
def k7c1 : Code := { maxStack := 5, maxLocals := 2, code := jdk_42_method_3_code, exceptionTable := #[], attributes := #[] }
def k7m1 : Method := { name := "<init>", desc := "([C)V", sig := { parameters := [(.array .char)], returnType := none }, accessFlags := 1, code := some k7c1 }
def k7c2 : Code := { maxStack := 3, maxLocals := 2, code := jdk_42_method_53_code, exceptionTable := #[], attributes := #[] }
def k7m2 : Method := { name := "<init>", desc := "(Ljava/lang/StringBuilder;)V", sig := { parameters := [(.object "java/lang/StringBuilder")], returnType := none }, accessFlags := 1, code := some k7c2 }
def k7c3 : Code := { maxStack := 2, maxLocals := 1, code := jdk_42_method_54_code, exceptionTable := #[], attributes := #[] }
def k7m3 : Method := { name := "length", desc := "()I", sig := { parameters := [], returnType := some .int }, accessFlags := 1, code := some k7c3 }
def k7c4 : Code := { maxStack := 2, maxLocals := 3, code := jdk_42_method_66_code, exceptionTable := #[], attributes := #[] }
def k7m4 : Method := { name := "equals", desc := "(Ljava/lang/Object;)Z", sig := { parameters := [(.object "java/lang/Object")], returnType := some .boolean }, accessFlags := 1, code := some k7c4 }
def k7c5 : Code := { maxStack := 4, maxLocals := 1, code := jdk_42_method_139_code, exceptionTable := #[], attributes := #[] }
def k7m5 : Method := { name := "valueOf", desc := "(C)Ljava/lang/String;", sig := { parameters := [.char], returnType := some (.object "java/lang/String") }, accessFlags := 9, code := some k7c5 }
def k7c6 : Code := { maxStack := 5, maxLocals := 4, code := jdk_42_method_147_code, exceptionTable := #[], attributes := #[] }
def k7m6 : Method := { name := "getBytes", desc := "([BIB)V", sig := { parameters := [(.array .byte), .int, .byte], returnType := none }, accessFlags := 0, code := some k7c6 }
def k7c7 : Code := { maxStack := 4, maxLocals := 6, code := jdk_42_method_149_code, exceptionTable := #[], attributes := #[] }
def k7m7 : Method := { name := "<init>", desc := "([CIILjava/lang/Void;)V", sig := { parameters := [(.array .char), .int, .int, (.object "java/lang/Void")], returnType := none }, accessFlags := 2, code := some k7c7 }
def k7c8 : Code := { maxStack := 5, maxLocals := 5, code := jdk_42_method_150_code, exceptionTable := #[], attributes := #[] }
def k7m8 : Method := { name := "<init>", desc := "(Ljava/lang/AbstractStringBuilder;Ljava/lang/Void;)V", sig := { parameters := [(.object "java/lang/AbstractStringBuilder"), (.object "java/lang/Void")], returnType := none }, accessFlags := 0, code := some k7c8 }
def k7c9 : Code := { maxStack := 2, maxLocals := 3, code := jdk_42_method_151_code, exceptionTable := #[], attributes := #[] }
def k7m9 : Method := { name := "<init>", desc := "([BB)V", sig := { parameters := [(.array .byte), .byte], returnType := none }, accessFlags := 0, code := some k7c9 }
def k7c10 : Code := { maxStack := 1, maxLocals := 1, code := jdk_42_method_152_code, exceptionTable := #[], attributes := #[] }
def k7m10 : Method := { name := "coder", desc := "()B", sig := { parameters := [], returnType := some .byte }, accessFlags := 0, code := some k7c10 }
/-- java/lang/String -/
def k7 : Class := { plain "java/lang/String" (some 0) with
  accessFlags := 49
  interfaces := #[2, 3, 4, 5, 6]
  cf := some (fileOf pool7 10 #[.nestMembers #[1103]] #[{ accessFlags := 1, nameIndex := 5, descriptorIndex := 6, attributes := #[] }, { accessFlags := 1, nameIndex := 5, descriptorIndex := 1010, attributes := #[] }, { accessFlags := 1, nameIndex := 5, descriptorIndex := 1233, attributes := #[] }, { accessFlags := 1, nameIndex := 507, descriptorIndex := 334, attributes := #[] }, { accessFlags := 1, nameIndex := 543, descriptorIndex := 573, attributes := #[] }, { accessFlags := 9, nameIndex := 782, descriptorIndex := 783, attributes := #[] }, { accessFlags := 0, nameIndex := 532, descriptorIndex := 821, attributes := #[] }, { accessFlags := 2, nameIndex := 5, descriptorIndex := 29, attributes := #[] }, { accessFlags := 0, nameIndex := 5, descriptorIndex := 491, attributes := #[] }, { accessFlags := 0, nameIndex := 5, descriptorIndex := 211, attributes := #[] }, { accessFlags := 0, nameIndex := 17, descriptorIndex := 337, attributes := #[] }] 49 2 #[1106, 1108, 575, 1110, 1112] #[{ accessFlags := 18, nameIndex := 13, descriptorIndex := 14, attributes := #[] }, { accessFlags := 18, nameIndex := 17, descriptorIndex := 18, attributes := #[] }, { accessFlags := 2, nameIndex := 21, descriptorIndex := 22, attributes := #[] }, { accessFlags := 2, nameIndex := 25, descriptorIndex := 26, attributes := #[] }, { accessFlags := 26, nameIndex := 1116, descriptorIndex := 1117, attributes := #[] }, { accessFlags := 24, nameIndex := 40, descriptorIndex := 26, attributes := #[] }, { accessFlags := 26, nameIndex := 1101, descriptorIndex := 1102, attributes := #[] }, { accessFlags := 26, nameIndex := 1121, descriptorIndex := 1122, attributes := #[] }, { accessFlags := 25, nameIndex := 599, descriptorIndex := 600, attributes := #[] }, { accessFlags := 24, nameIndex := 1125, descriptorIndex := 18, attributes := #[] }, { accessFlags := 24, nameIndex := 1127, descriptorIndex := 18, attributes := #[] }])
  fields := #[{ name := "value", type := (.array .byte), accessFlags := 18, slot := 0, constantValue := 0 }, { name := "coder", type := .byte, accessFlags := 18, slot := 1, constantValue := 0 }, { name := "hash", type := .int, accessFlags := 2, slot := 2, constantValue := 0 }, { name := "hashIsZero", type := .boolean, accessFlags := 2, slot := 3, constantValue := 0 }, { name := "serialVersionUID", type := .long, accessFlags := 26, slot := 0, constantValue := 0 }, { name := "COMPACT_STRINGS", type := .boolean, accessFlags := 24, slot := 1, constantValue := 0 }, { name := "serialPersistentFields", type := (.array (.object "java/io/ObjectStreamField")), accessFlags := 26, slot := 2, constantValue := 0 }, { name := "REPL", type := .char, accessFlags := 26, slot := 3, constantValue := 0 }, { name := "CASE_INSENSITIVE_ORDER", type := (.object "java/util/Comparator"), accessFlags := 25, slot := 4, constantValue := 0 }, { name := "LATIN1", type := .byte, accessFlags := 24, slot := 5, constantValue := 0 }, { name := "UTF16", type := .byte, accessFlags := 24, slot := 6, constantValue := 0 }]
  methods := #[k7m0, k7m1, k7m2, k7m3, k7m4, k7m5, k7m6, k7m7, k7m8, k7m9, k7m10]
  instanceTypes := #[(.array .byte), .byte, .int, .boolean]
  staticTypes := #[.long, .boolean, (.array (.object "java/io/ObjectStreamField")), .char, (.object "java/util/Comparator"), .byte, .byte]
  resolved := Array.replicate 1451 none
  statics := some 0 }

def pool8 : Array CpInfo := pool [(4, .class_ 6), (1, u "java/lang/Object"), (0, u "<init>"), (0, u "()V"), (5, .class_ 16), (1, u "java/lang/StringLatin1"), (73, u "canEncode"), (14, u "(C)Z"), (15, u "$assertionsDisabled"), (0, u "Z"), (98, .class_ 223), (1, u "java/lang/StringLatin1$LinesSpliterator"), (57, u "equals"), (0, u "([B[B)Z"), (97, u "toBytes"), (1, u "(C)[B"), (7, .class_ 391), (0, u "java/lang/StringLatin1$CharsSpliterator")] 3

def k8m0 : Method := { name := "<init>", desc := "()V", sig := { parameters := [], returnType := none }, accessFlags := 0, code := none }
def k8c1 : Code := { maxStack := 2, maxLocals := 1, code := jdk_43_method_3_code, exceptionTable := #[], attributes := #[] }
def k8m1 : Method := { name := "canEncode", desc := "(C)Z", sig := { parameters := [.char], returnType := some .boolean }, accessFlags := 9, code := some k8c1 }
def k8c2 : Code := { maxStack := 3, maxLocals := 3, code := jdk_43_method_13_code, exceptionTable := #[], attributes := #[] }
def k8m2 : Method := { name := "equals", desc := "([B[B)Z", sig := { parameters := [(.array .byte), (.array .byte)], returnType := some .boolean }, accessFlags := 9, code := some k8c2 }
def k8c3 : Code := { maxStack := 4, maxLocals := 1, code := jdk_43_method_46_code, exceptionTable := #[], attributes := #[] }
def k8m3 : Method := { name := "toBytes", desc := "(C)[B", sig := { parameters := [.char], returnType := some (.array .byte) }, accessFlags := 9, code := some k8c3 }
/-- java/lang/StringLatin1 -/
def k8 : Class := { plain "java/lang/StringLatin1" (some 0) with
  accessFlags := 48
  interfaces := #[]
  cf := some (fileOf pool8 14 #[.nestMembers #[390, 221]] #[{ accessFlags := 0, nameIndex := 7, descriptorIndex := 8, attributes := #[] }, { accessFlags := 9, nameIndex := 90, descriptorIndex := 105, attributes := #[] }, { accessFlags := 9, nameIndex := 281, descriptorIndex := 282, attributes := #[] }, { accessFlags := 9, nameIndex := 380, descriptorIndex := 382, attributes := #[] }] 48 4 #[] #[{ accessFlags := 4120, nameIndex := 121, descriptorIndex := 122, attributes := #[] }])
  fields := #[{ name := "$assertionsDisabled", type := .boolean, accessFlags := 4120, slot := 0, constantValue := 0 }]
  methods := #[k8m0, k8m1, k8m2, k8m3]
  instanceTypes := #[]
  staticTypes := #[.boolean]
  resolved := Array.replicate 395 none
  statics := none }

def pool9 : Array CpInfo := pool [(1, .methodref 2 3), (0, .class_ 4), (0, .nameAndType 5 6), (0, u "java/lang/Object"), (0, u "<init>"), (0, u "()V"), (0, .class_ 8), (0, u "java/lang/Record")] 13

def k9c0 : Code := { maxStack := 1, maxLocals := 1, code := jdk_30_method_1_code, exceptionTable := #[], attributes := #[] }
def k9m0 : Method := { name := "<init>", desc := "()V", sig := { parameters := [], returnType := none }, accessFlags := 4, code := some k9c0 }
/-- java/lang/Record -/
def k9 : Class := { plain "java/lang/Record" (some 0) with
  accessFlags := 1057
  interfaces := #[]
  cf := some (fileOf pool9 7 #[] #[{ accessFlags := 4, nameIndex := 5, descriptorIndex := 6, attributes := #[] }] 1057 2 #[] #[])
  fields := #[]
  methods := #[k9m0]
  instanceTypes := #[]
  staticTypes := #[]
  resolved := Array.replicate 22 none
  statics := none }

def pool10 : Array CpInfo := pool [(1, .methodref 2 3), (0, .class_ 4), (0, .nameAndType 5 6), (0, u "java/lang/Record"), (0, u "<init>"), (0, u "()V"), (0, .fieldref 8 9), (0, .class_ 10), (0, .nameAndType 11 12), (0, u "com/example/forgewire/forgewire/xml/DefinitionReader$Subject"), (0, u "bean"), (0, u "Ljava/lang/String;"), (0, .fieldref 8 14), (0, .nameAndType 15 12), (0, u "part"), (0, .fieldref 8 17), (0, .nameAndType 18 12), (0, u "name"), (2, u "(Ljava/lang/String;Ljava/lang/String;Ljava/lang/String;)V"), (0, .class_ 23), (0, u "java/lang/StringBuilder"), (0, .methodref 22 3), (0, .methodref 22 26), (0, .nameAndType 27 28), (0, u "append"), (0, u "(Ljava/lang/String;)Ljava/lang/StringBuilder;"), (0, .string 30), (0, u " '"), (0, .string 32), (0, u "'"), (0, .methodref 22 34), (0, .nameAndType 35 36), (0, u "toString"), (0, u "()Ljava/lang/String;"), (0, .string 38), (0, u "bean '"), (0, .string 40), (0, u "': "), (22, .class_ 64), (0, u "com/example/forgewire/forgewire/xml/DefinitionReader")] 21

def k10c0 : Code := { maxStack := 2, maxLocals := 4, code := prog_89_method_1_code, exceptionTable := #[], attributes := #[] }
def k10m0 : Method := { name := "<init>", desc := "(Ljava/lang/String;Ljava/lang/String;Ljava/lang/String;)V", sig := { parameters := [(.object "java/lang/String"), (.object "java/lang/String"), (.object "java/lang/String")], returnType := none }, accessFlags := 0, code := some k10c0 }
def k10c1 : Code := { maxStack := 2, maxLocals := 3, code := prog_89_method_5_code, exceptionTable := #[], attributes := #[] }
def k10m1 : Method := { name := "toString", desc := "()Ljava/lang/String;", sig := { parameters := [], returnType := some (.object "java/lang/String") }, accessFlags := 1, code := some k10c1 }
/-- com/example/forgewire/forgewire/xml/DefinitionReader$Subject -/
def k10 : Class := { plain "com/example/forgewire/forgewire/xml/DefinitionReader$Subject" (some 9) with
  accessFlags := 48
  interfaces := #[]
  cf := some (fileOf pool10 8 #[.nestHost 63] #[{ accessFlags := 0, nameIndex := 5, descriptorIndex := 21, attributes := #[] }, { accessFlags := 1, nameIndex := 35, descriptorIndex := 36, attributes := #[] }] 48 2 #[] #[{ accessFlags := 18, nameIndex := 11, descriptorIndex := 12, attributes := #[] }, { accessFlags := 18, nameIndex := 15, descriptorIndex := 12, attributes := #[] }, { accessFlags := 18, nameIndex := 18, descriptorIndex := 12, attributes := #[] }])
  fields := #[{ name := "bean", type := (.object "java/lang/String"), accessFlags := 18, slot := 0, constantValue := 0 }, { name := "part", type := (.object "java/lang/String"), accessFlags := 18, slot := 1, constantValue := 0 }, { name := "name", type := (.object "java/lang/String"), accessFlags := 18, slot := 2, constantValue := 0 }]
  methods := #[k10m0, k10m1]
  instanceTypes := #[(.object "java/lang/String"), (.object "java/lang/String"), (.object "java/lang/String")]
  staticTypes := #[]
  resolved := Array.replicate 86 none
  statics := none }

def pool11 : Array CpInfo := pool [(6, .class_ 8), (1, u "java/lang/Object"), (0, u "<init>"), (0, u "()V"), (1, .class_ 14), (1, u "java/lang/StringUTF16"), (31, u "$assertionsDisabled"), (0, u "Z"), (13, u "HI_BYTE_SHIFT"), (0, u "I"), (2, u "LO_BYTE_SHIFT"), (49, .methodref 12 116), (0, .nameAndType 117 118), (0, u "compress"), (0, u "([CI[BII)I"), (3, u "([CII)[B"), (138, u "coderFromArrayLen"), (0, u "([BI)B"), (106, .class_ 371), (1, u "java/lang/StringUTF16$LinesSpliterator"), (58, u "MAX_LENGTH"), (196, .class_ 628), (0, u "java/lang/StringUTF16$CodePointsSpliterator"), (0, .class_ 630), (0, u "java/lang/StringUTF16$CharsSpliterator")] 4

def k11m0 : Method := { name := "<init>", desc := "()V", sig := { parameters := [], returnType := none }, accessFlags := 0, code := none }
def k11c1 : Code := { maxStack := 2, maxLocals := 2, code := jdk_52_method_15_code, exceptionTable := #[], attributes := #[] }
def k11m1 : Method := { name := "coderFromArrayLen", desc := "([BI)B", sig := { parameters := [(.array .byte), .int], returnType := some .byte }, accessFlags := 8, code := some k11c1 }
def k11c2 : Code := { maxStack := 5, maxLocals := 6, code := jdk_52_method_16_code, exceptionTable := #[], attributes := #[] }
def k11m2 : Method := { name := "compress", desc := "([CII)[B", sig := { parameters := [(.array .char), .int, .int], returnType := some (.array .byte) }, accessFlags := 9, code := some k11c2 }
def k11c3 : Code := { maxStack := 3, maxLocals := 7, code := jdk_52_method_21_code, exceptionTable := #[], attributes := #[] }
def k11m3 : Method := { name := "compress", desc := "([CI[BII)I", sig := { parameters := [(.array .char), .int, (.array .byte), .int, .int], returnType := some .int }, accessFlags := 9, code := some k11c3 }
/-- java/lang/StringUTF16 -/
def k11 : Class := { plain "java/lang/StringUTF16" (some 0) with
  accessFlags := 48
  interfaces := #[]
  cf := some (fileOf pool11 12 #[.nestMembers #[627, 629, 369]] #[{ accessFlags := 0, nameIndex := 9, descriptorIndex := 10, attributes := #[] }, { accessFlags := 8, nameIndex := 261, descriptorIndex := 262, attributes := #[] }, { accessFlags := 9, nameIndex := 117, descriptorIndex := 122, attributes := #[] }, { accessFlags := 9, nameIndex := 117, descriptorIndex := 118, attributes := #[] }] 48 6 #[] #[{ accessFlags := 26, nameIndex := 61, descriptorIndex := 62, attributes := #[] }, { accessFlags := 26, nameIndex := 65, descriptorIndex := 62, attributes := #[] }, { accessFlags := 24, nameIndex := 430, descriptorIndex := 62, attributes := #[] }, { accessFlags := 4120, nameIndex := 46, descriptorIndex := 47, attributes := #[] }])
  fields := #[{ name := "HI_BYTE_SHIFT", type := .int, accessFlags := 26, slot := 0, constantValue := 0 }, { name := "LO_BYTE_SHIFT", type := .int, accessFlags := 26, slot := 1, constantValue := 0 }, { name := "MAX_LENGTH", type := .int, accessFlags := 24, slot := 2, constantValue := 0 }, { name := "$assertionsDisabled", type := .boolean, accessFlags := 4120, slot := 3, constantValue := 0 }]
  methods := #[k11m0, k11m1, k11m2, k11m3]
  instanceTypes := #[]
  staticTypes := #[.int, .int, .int, .boolean]
  resolved := Array.replicate 635 none
  statics := none }

def pool12 : Array CpInfo := pool [(1, .class_ 2), (0, u "java/lang/Appendable"), (0, .class_ 4), (0, u "java/lang/Object")] 9

/-- java/lang/Appendable -/
def k12 : Class := { plain "java/lang/Appendable" (some 0) with
  accessFlags := 1537
  interfaces := #[]
  cf := some (fileOf pool12 1 #[] #[] 1537 3 #[] #[])
  fields := #[]
  methods := #[]
  instanceTypes := #[]
  staticTypes := #[]
  resolved := Array.replicate 14 none
  statics := none }

def pool13 : Array CpInfo := pool [(1, .class_ 2), (0, u "java/lang/String"), (0, .methodref 4 5), (0, .class_ 6), (0, .nameAndType 7 8), (0, u "java/lang/Object"), (0, u "<init>"), (0, u "()V"), (1, .class_ 12), (1, u "java/lang/AbstractStringBuilder"), (0, u "EMPTYVALUE"), (0, u "[B"), (0, .fieldref 10 16), (0, .nameAndType 17 14), (0, u "value"), (0, .fieldref 1 19), (0, .nameAndType 20 21), (0, u "COMPACT_STRINGS"), (0, u "Z"), (0, .fieldref 10 23), (0, .nameAndType 24 25), (0, u "coder"), (0, u "B"), (6, .methodref 1 33), (0, .nameAndType 34 35), (0, u "length"), (0, u "()I"), (4, .methodref 1 41), (0, .nameAndType 24 42), (0, u "()B"), (2, u "append"), (0, u "(Ljava/lang/String;)Ljava/lang/AbstractStringBuilder;"), (1, .class_ 49), (0, u "java/lang/CharSequence"), (19, u "(Ljava/lang/String;)V"), (5, u "maybeLatin1"), (3, .fieldref 10 80), (0, .nameAndType 81 82), (0, u "count"), (0, u "I"), (2, u "isLatin1"), (0, u "()Z"), (13, .methodref 10 101), (0, .nameAndType 102 103), (0, u "ensureCapacityInternal"), (0, u "(I)V"), (104, .methodref 10 209), (0, .nameAndType 210 211), (0, u "putStringAt"), (0, u "(ILjava/lang/String;)V"), (5, u "inflateIfNeededFor"), (2, .nameAndType 221 222), (0, u "getBytes"), (0, u "([BIB)V"), (174, .methodref 10 398), (0, .nameAndType 217 69), (0, .methodref 1 220), (3, u "()[B"), (40, .class_ 445), (0, u "java/lang/Appendable"), (106, u "getValue")] 56

def k13m0 : Method := { name := "<init>", desc := "()V", sig := { parameters := [], returnType := none }, accessFlags := 0, code := none }
def k13c1 : Code := { maxStack := 2, maxLocals := 2, code := jdk_68_method_2_code, exceptionTable := #[], attributes := #[] }
def k13m1 : Method := { name := "<init>", desc := "(I)V", sig := { parameters := [.int], returnType := none }, accessFlags := 0, code := some k13c1 }
def k13c2 : Code := { maxStack := 1, maxLocals := 1, code := jdk_68_method_6_code, exceptionTable := #[], attributes := #[] }
def k13m2 : Method := { name := "length", desc := "()I", sig := { parameters := [], returnType := some .int }, accessFlags := 1, code := some k13c2 }
def k13c3 : Code := { maxStack := 4, maxLocals := 3, code := jdk_68_method_9_code, exceptionTable := #[], attributes := #[] }
def k13m3 : Method := { name := "ensureCapacityInternal", desc := "(I)V", sig := { parameters := [.int], returnType := none }, accessFlags := 2, code := some k13c3 }
def k13c4 : Code := { maxStack := 3, maxLocals := 3, code := jdk_68_method_22_code, exceptionTable := #[], attributes := #[] }
def k13m4 : Method := { name := "append", desc := "(Ljava/lang/String;)Ljava/lang/AbstractStringBuilder;", sig := { parameters := [(.object "java/lang/String")], returnType := some (.object "java/lang/AbstractStringBuilder") }, accessFlags := 1, code := some k13c4 }
def k13c5 : Code := { maxStack := 1, maxLocals := 1, code := jdk_68_method_64_code, exceptionTable := #[], attributes := #[] }
def k13m5 : Method := { name := "getValue", desc := "()[B", sig := { parameters := [], returnType := some (.array .byte) }, accessFlags := 16, code := some k13c5 }
def k13c6 : Code := { maxStack := 1, maxLocals := 1, code := jdk_68_method_68_code, exceptionTable := #[], attributes := #[] }
def k13m6 : Method := { name := "isLatin1", desc := "()Z", sig := { parameters := [], returnType := some .boolean }, accessFlags := 16, code := some k13c6 }
def k13c7 : Code := { maxStack := 2, maxLocals := 2, code := jdk_68_method_71_code, exceptionTable := #[], attributes := #[] }
def k13m7 : Method := { name := "inflateIfNeededFor", desc := "(Ljava/lang/String;)V", sig := { parameters := [(.object "java/lang/String")], returnType := none }, accessFlags := 2, code := some k13c7 }
def k13c8 : Code := { maxStack := 4, maxLocals := 3, code := jdk_68_method_73_code, exceptionTable := #[], attributes := #[] }
def k13m8 : Method := { name := "putStringAt", desc := "(ILjava/lang/String;)V", sig := { parameters := [.int, (.object "java/lang/String")], returnType := none }, accessFlags := 2, code := some k13c8 }
/-- java/lang/AbstractStringBuilder -/
def k13 : Class := { plain "java/lang/AbstractStringBuilder" (some 0) with
  accessFlags := 1056
  interfaces := #[12, 4]
  cf := some (fileOf pool13 10 #[] #[{ accessFlags := 0, nameIndex := 7, descriptorIndex := 8, attributes := #[] }, { accessFlags := 0, nameIndex := 7, descriptorIndex := 103, attributes := #[] }, { accessFlags := 1, nameIndex := 34, descriptorIndex := 35, attributes := #[] }, { accessFlags := 2, nameIndex := 102, descriptorIndex := 103, attributes := #[] }, { accessFlags := 1, nameIndex := 45, descriptorIndex := 46, attributes := #[] }, { accessFlags := 16, nameIndex := 552, descriptorIndex := 403, attributes := #[] }, { accessFlags := 16, nameIndex := 85, descriptorIndex := 86, attributes := #[] }, { accessFlags := 2, nameIndex := 217, descriptorIndex := 69, attributes := #[] }, { accessFlags := 2, nameIndex := 210, descriptorIndex := 211, attributes := #[] }] 1056 4 #[444, 48] #[{ accessFlags := 0, nameIndex := 17, descriptorIndex := 14, attributes := #[] }, { accessFlags := 0, nameIndex := 24, descriptorIndex := 25, attributes := #[] }, { accessFlags := 0, nameIndex := 75, descriptorIndex := 21, attributes := #[] }, { accessFlags := 0, nameIndex := 81, descriptorIndex := 82, attributes := #[] }, { accessFlags := 26, nameIndex := 13, descriptorIndex := 14, attributes := #[] }])
  fields := #[{ name := "value", type := (.array .byte), accessFlags := 0, slot := 0, constantValue := 0 }, { name := "coder", type := .byte, accessFlags := 0, slot := 1, constantValue := 0 }, { name := "maybeLatin1", type := .boolean, accessFlags := 0, slot := 2, constantValue := 0 }, { name := "count", type := .int, accessFlags := 0, slot := 3, constantValue := 0 }, { name := "EMPTYVALUE", type := (.array .byte), accessFlags := 26, slot := 0, constantValue := 0 }]
  methods := #[k13m0, k13m1, k13m2, k13m3, k13m4, k13m5, k13m6, k13m7, k13m8]
  instanceTypes := #[(.array .byte), .byte, .boolean, .int]
  staticTypes := #[(.array .byte)]
  resolved := Array.replicate 609 none
  statics := none }

def pool14 : Array CpInfo := pool [(1, .methodref 2 3), (0, .class_ 4), (0, .nameAndType 5 6), (0, u "java/lang/AbstractStringBuilder"), (0, u "<init>"), (0, u "(I)V"), (11, .class_ 20), (1, u "java/lang/String"), (3, .class_ 26), (1, u "java/lang/StringBuilder"), (0, u "append"), (0, u "(Ljava/lang/String;)Ljava/lang/StringBuilder;"), (0, .methodref 2 30), (0, .nameAndType 27 31), (0, u "(Ljava/lang/String;)Ljava/lang/AbstractStringBuilder;"), (105, .methodref 18 138), (0, .nameAndType 5 139), (0, u "(Ljava/lang/StringBuilder;)V"), (5, u "()V"), (10, u "()I"), (186, .methodref 2 344), (0, .nameAndType 345 156), (0, u "length"), (3, .class_ 350), (0, u "java/lang/Appendable"), (0, .class_ 352), (0, u "java/io/Serializable"), (0, .class_ 354), (0, u "java/lang/Comparable"), (0, .class_ 356), (0, u "java/lang/CharSequence"), (0, u "serialVersionUID"), (0, u "J"), (40, u "toString"), (0, u "()Ljava/lang/String;")] 21

def k14c0 : Code := { maxStack := 2, maxLocals := 1, code := jdk_67_method_1_code, exceptionTable := #[], attributes := #[] }
def k14m0 : Method := { name := "<init>", desc := "()V", sig := { parameters := [], returnType := none }, accessFlags := 1, code := some k14c0 }
def k14c1 : Code := { maxStack := 2, maxLocals := 2, code := jdk_67_method_7_code, exceptionTable := #[], attributes := #[] }
def k14m1 : Method := { name := "append", desc := "(Ljava/lang/String;)Ljava/lang/StringBuilder;", sig := { parameters := [(.object "java/lang/String")], returnType := some (.object "java/lang/StringBuilder") }, accessFlags := 1, code := some k14c1 }
def k14c2 : Code := { maxStack := 3, maxLocals := 1, code := jdk_67_method_42_code, exceptionTable := #[], attributes := #[] }
def k14m2 : Method := { name := "toString", desc := "()Ljava/lang/String;", sig := { parameters := [], returnType := some (.object "java/lang/String") }, accessFlags := 1, code := some k14c2 }
def k14c3 : Code := { maxStack := 1, maxLocals := 1, code := jdk_67_method_93_code, exceptionTable := #[], attributes := #[] }
def k14m3 : Method := { name := "length", desc := "()I", sig := { parameters := [], returnType := some .int }, accessFlags := 4161, code := some k14c3 }
/-- java/lang/StringBuilder -/
def k14 : Class := { plain "java/lang/StringBuilder" (some 13) with
  accessFlags := 49
  interfaces := #[12, 2, 3, 4]
  cf := some (fileOf pool14 24 #[] #[{ accessFlags := 1, nameIndex := 5, descriptorIndex := 145, attributes := #[] }, { accessFlags := 1, nameIndex := 27, descriptorIndex := 28, attributes := #[] }, { accessFlags := 1, nameIndex := 399, descriptorIndex := 400, attributes := #[] }, { accessFlags := 4161, nameIndex := 345, descriptorIndex := 156, attributes := #[] }] 49 2 #[349, 351, 353, 355] #[{ accessFlags := 24, nameIndex := 357, descriptorIndex := 358, attributes := #[] }])
  fields := #[{ name := "serialVersionUID", type := .long, accessFlags := 24, slot := 0, constantValue := 0 }]
  methods := #[k14m0, k14m1, k14m2, k14m3]
  instanceTypes := #[(.array .byte), .byte, .boolean, .int]
  staticTypes := #[.long]
  resolved := Array.replicate 422 none
  statics := none }

def pool15 : Array CpInfo := pool [(2, .class_ 4), (1, u "java/lang/Object"), (0, u "<init>"), (0, u "()V"), (1, .class_ 10), (1, u "java/lang/System"), (0, u "allowSecurityManager"), (0, u "I"), (16, u "cons"), (0, u "Ljava/io/Console;"), (77, .class_ 110), (1, u "java/lang/System$CallersHolder"), (43, u "initialErrStream"), (0, u "Ljava/io/PrintStream;"), (19, u "security"), (0, u "Ljava/lang/SecurityManager;"), (31, .class_ 209), (0, u "java/lang/System$1"), (7, u "props"), (0, u "Ljava/util/Properties;"), (2, u "lineSeparator"), (0, u "Ljava/lang/String;"), (96, .class_ 321), (1, u "java/lang/System$LoggerFinder"), (5, .class_ 328), (0, u "java/lang/System$Logger"), (67, u "err"), (2, u "out"), (91, u "notSupportedJnuEncoding"), (15, u "in"), (17, u "initialIn"), (0, u "Ljava/io/InputStream;"), (35, u "bootLayer"), (0, u "Ljava/lang/ModuleLayer;"), (99, .class_ 664), (0, u "java/lang/System$2"), (9, u "NEVER"), (2, u "MAYBE"), (49, u "arraycopy"), (0, u "(Ljava/lang/Object;ILjava/lang/Object;II)V"), (72, .class_ 802), (0, u "java/lang/System$Logger$Level")] 31

def k15m0 : Method := { name := "<init>", desc := "()V", sig := { parameters := [], returnType := none }, accessFlags := 2, code := none }
def k15m1 : Method := { name := "arraycopy", desc := "(Ljava/lang/Object;ILjava/lang/Object;II)V", sig := { parameters := [(.object "java/lang/Object"), .int, (.object "java/lang/Object"), .int, .int], returnType := none }, accessFlags := 265, code := none }
/-- java/lang/System -/
def k15 : Class := { plain "java/lang/System" (some 0) with
  accessFlags := 49
  interfaces := #[]
  cf := some (fileOf pool15 8 #[.nestMembers #[319, 327, 801, 108, 663, 208]] #[{ accessFlags := 2, nameIndex := 5, descriptorIndex := 6, attributes := #[] }, { accessFlags := 265, nameIndex := 727, descriptorIndex := 728, attributes := #[] }] 49 2 #[] #[{ accessFlags := 25, nameIndex := 507, descriptorIndex := 526, attributes := #[] }, { accessFlags := 25, nameIndex := 399, descriptorIndex := 155, attributes := #[] }, { accessFlags := 25, nameIndex := 396, descriptorIndex := 155, attributes := #[] }, { accessFlags := 10, nameIndex := 525, descriptorIndex := 526, attributes := #[] }, { accessFlags := 26, nameIndex := 674, descriptorIndex := 12, attributes := #[] }, { accessFlags := 26, nameIndex := 677, descriptorIndex := 12, attributes := #[] }, { accessFlags := 10, nameIndex := 11, descriptorIndex := 12, attributes := #[] }, { accessFlags := 74, nameIndex := 175, descriptorIndex := 176, attributes := #[] }, { accessFlags := 10, nameIndex := 491, descriptorIndex := 222, attributes := #[] }, { accessFlags := 74, nameIndex := 29, descriptorIndex := 30, attributes := #[] }, { accessFlags := 74, nameIndex := 154, descriptorIndex := 155, attributes := #[] }, { accessFlags := 10, nameIndex := 217, descriptorIndex := 218, attributes := #[] }, { accessFlags := 10, nameIndex := 221, descriptorIndex := 222, attributes := #[] }, { accessFlags := 8, nameIndex := 562, descriptorIndex := 563, attributes := #[] }])
  fields := #[{ name := "in", type := (.object "java/io/InputStream"), accessFlags := 25, slot := 0, constantValue := 0 }, { name := "out", type := (.object "java/io/PrintStream"), accessFlags := 25, slot := 1, constantValue := 0 }, { name := "err", type := (.object "java/io/PrintStream"), accessFlags := 25, slot := 2, constantValue := 0 }, { name := "initialIn", type := (.object "java/io/InputStream"), accessFlags := 10, slot := 3, constantValue := 0 }, { name := "NEVER", type := .int, accessFlags := 26, slot := 4, constantValue := 0 }, { name := "MAYBE", type := .int, accessFlags := 26, slot := 5, constantValue := 0 }, { name := "allowSecurityManager", type := .int, accessFlags := 10, slot := 6, constantValue := 0 }, { name := "security", type := (.object "java/lang/SecurityManager"), accessFlags := 74, slot := 7, constantValue := 0 }, { name := "notSupportedJnuEncoding", type := (.object "java/lang/String"), accessFlags := 10, slot := 8, constantValue := 0 }, { name := "cons", type := (.object "java/io/Console"), accessFlags := 74, slot := 9, constantValue := 0 }, { name := "initialErrStream", type := (.object "java/io/PrintStream"), accessFlags := 74, slot := 10, constantValue := 0 }, { name := "props", type := (.object "java/util/Properties"), accessFlags := 10, slot := 11, constantValue := 0 }, { name := "lineSeparator", type := (.object "java/lang/String"), accessFlags := 10, slot := 12, constantValue := 0 }, { name := "bootLayer", type := (.object "java/lang/ModuleLayer"), accessFlags := 8, slot := 13, constantValue := 0 }]
  methods := #[k15m0, k15m1]
  instanceTypes := #[]
  staticTypes := #[(.object "java/io/InputStream"), (.object "java/io/PrintStream"), (.object "java/io/PrintStream"), (.object "java/io/InputStream"), .int, .int, .int, (.object "java/lang/SecurityManager"), (.object "java/lang/String"), (.object "java/io/Console"), (.object "java/io/PrintStream"), (.object "java/util/Properties"), (.object "java/lang/String"), (.object "java/lang/ModuleLayer")]
  resolved := Array.replicate 834 none
  statics := none }

def pool16 : Array CpInfo := pool [(2, .class_ 4), (1, u "java/lang/Object"), (0, u "<init>"), (0, u "()V"), (7, .class_ 16), (1, u "java/util/Arrays"), (57, .class_ 76), (1, u "java/util/Arrays$NaturalOrder"), (36, .class_ 115), (1, u "java/util/Arrays$LegacyMergeSort"), (1, u "Z"), (21, u "copyOfRange"), (10, .methodref 151 152), (0, .class_ 153), (0, .nameAndType 154 155), (0, u "java/lang/System"), (0, u "arraycopy"), (0, u "(Ljava/lang/Object;ILjava/lang/Object;II)V"), (148, .methodref 305 306), (0, .class_ 307), (0, .nameAndType 308 309), (0, u "java/lang/Math"), (0, u "min"), (0, u "(II)I"), (29, .methodref 14 340), (0, .nameAndType 341 342), (0, u "copyOfRangeByte"), (0, u "([BII)[B"), (0, .methodref 14 344), (0, .nameAndType 345 346), (0, u "checkLength"), (0, u "(II)V"), (28, .class_ 376), (0, u "java/util/Arrays$ArrayList"), (68, u "$assertionsDisabled"), (269, u "MIN_ARRAY_SORT_GRAN"), (0, u "I"), (2, u "INSERTIONSORT_THRESHOLD"), (255, .class_ 976), (0, u "java/util/Arrays$ArrayItr")] 52

def k16m0 : Method := { name := "<init>", desc := "()V", sig := { parameters := [], returnType := none }, accessFlags := 2, code := none }
def k16c1 : Code := { maxStack := 4, maxLocals := 2, code := jdk_65_method_131_code, exceptionTable := #[], attributes := #[] }
def k16m1 : Method := { name := "checkLength", desc := "(II)V", sig := { parameters := [.int, .int], returnType := none }, accessFlags := 10, code := some k16c1 }
def k16c2 : Code := { maxStack := 3, maxLocals := 3, code := jdk_65_method_132_code, exceptionTable := #[], attributes := #[] }
def k16m2 : Method := { name := "copyOfRange", desc := "([BII)[B", sig := { parameters := [(.array .byte), .int, .int], returnType := some (.array .byte) }, accessFlags := 9, code := some k16c2 }
def k16c3 : Code := { maxStack := 6, maxLocals := 5, code := jdk_65_method_133_code, exceptionTable := #[], attributes := #[] }
def k16m3 : Method := { name := "copyOfRangeByte", desc := "([BII)[B", sig := { parameters := [(.array .byte), .int, .int], returnType := some (.array .byte) }, accessFlags := 10, code := some k16c3 }
/-- java/util/Arrays -/
def k16 : Class := { plain "java/util/Arrays" (some 0) with
  accessFlags := 49
  interfaces := #[]
  cf := some (fileOf pool16 14 #[.nestMembers #[975, 375, 113, 74]] #[{ accessFlags := 2, nameIndex := 5, descriptorIndex := 6, attributes := #[] }, { accessFlags := 10, nameIndex := 345, descriptorIndex := 346, attributes := #[] }, { accessFlags := 9, nameIndex := 139, descriptorIndex := 342, attributes := #[] }, { accessFlags := 10, nameIndex := 341, descriptorIndex := 342, attributes := #[] }] 49 2 #[] #[{ accessFlags := 26, nameIndex := 715, descriptorIndex := 716, attributes := #[] }, { accessFlags := 26, nameIndex := 719, descriptorIndex := 716, attributes := #[] }, { accessFlags := 4120, nameIndex := 445, descriptorIndex := 117, attributes := #[] }])
  fields := #[{ name := "MIN_ARRAY_SORT_GRAN", type := .int, accessFlags := 26, slot := 0, constantValue := 0 }, { name := "INSERTIONSORT_THRESHOLD", type := .int, accessFlags := 26, slot := 1, constantValue := 0 }, { name := "$assertionsDisabled", type := .boolean, accessFlags := 4120, slot := 2, constantValue := 0 }]
  methods := #[k16m0, k16m1, k16m2, k16m3]
  instanceTypes := #[]
  staticTypes := #[.int, .int, .boolean]
  resolved := Array.replicate 1029 none
  statics := none }

def pool17 : Array CpInfo := pool [(1, .class_ 2), (0, u "java/lang/Math"), (1, .class_ 6), (1, u "java/lang/Object"), (0, u "<init>"), (0, u "()V"), (89, .class_ 100), (1, u "java/lang/Math$RandomNumberGeneratorHolder"), (71, u "negativeZeroFloatBits"), (0, u "J"), (2, u "negativeZeroDoubleBits"), (24, u "min"), (43, u "$assertionsDisabled"), (0, u "Z"), (88, u "(II)I"), (2, u "twoToTheDoubleScaleDown"), (0, u "D"), (4, u "twoToTheDoubleScaleUp"), (9, u "E"), (3, u "PI"), (2, u "TAU"), (2, u "DEGREES_TO_RADIANS"), (0, u "RADIANS_TO_DEGREES")] 94

def k17m0 : Method := { name := "<init>", desc := "()V", sig := { parameters := [], returnType := none }, accessFlags := 2, code := none }
def k17c1 : Code := { maxStack := 2, maxLocals := 2, code := jdk_29_method_69_code, exceptionTable := #[], attributes := #[] }
def k17m1 : Method := { name := "min", desc := "(II)I", sig := { parameters := [.int, .int], returnType := some .int }, accessFlags := 9, code := some k17c1 }
/-- java/lang/Math -/
def k17 : Class := { plain "java/lang/Math" (some 0) with
  accessFlags := 49
  interfaces := #[]
  cf := some (fileOf pool17 1 #[.nestMembers #[98]] #[{ accessFlags := 2, nameIndex := 7, descriptorIndex := 8, attributes := #[] }, { accessFlags := 9, nameIndex := 201, descriptorIndex := 335, attributes := #[] }] 49 4 #[] #[{ accessFlags := 25, nameIndex := 354, descriptorIndex := 339, attributes := #[] }, { accessFlags := 25, nameIndex := 358, descriptorIndex := 339, attributes := #[] }, { accessFlags := 25, nameIndex := 361, descriptorIndex := 339, attributes := #[] }, { accessFlags := 26, nameIndex := 364, descriptorIndex := 339, attributes := #[] }, { accessFlags := 26, nameIndex := 365, descriptorIndex := 339, attributes := #[] }, { accessFlags := 26, nameIndex := 172, descriptorIndex := 173, attributes := #[] }, { accessFlags := 26, nameIndex := 176, descriptorIndex := 173, attributes := #[] }, { accessFlags := 8, nameIndex := 344, descriptorIndex := 339, attributes := #[] }, { accessFlags := 8, nameIndex := 338, descriptorIndex := 339, attributes := #[] }, { accessFlags := 4120, nameIndex := 245, descriptorIndex := 246, attributes := #[] }])
  fields := #[{ name := "E", type := .double, accessFlags := 25, slot := 0, constantValue := 0 }, { name := "PI", type := .double, accessFlags := 25, slot := 1, constantValue := 0 }, { name := "TAU", type := .double, accessFlags := 25, slot := 2, constantValue := 0 }, { name := "DEGREES_TO_RADIANS", type := .double, accessFlags := 26, slot := 3, constantValue := 0 }, { name := "RADIANS_TO_DEGREES", type := .double, accessFlags := 26, slot := 4, constantValue := 0 }, { name := "negativeZeroFloatBits", type := .long, accessFlags := 26, slot := 5, constantValue := 0 }, { name := "negativeZeroDoubleBits", type := .long, accessFlags := 26, slot := 6, constantValue := 0 }, { name := "twoToTheDoubleScaleUp", type := .double, accessFlags := 8, slot := 7, constantValue := 0 }, { name := "twoToTheDoubleScaleDown", type := .double, accessFlags := 8, slot := 8, constantValue := 0 }, { name := "$assertionsDisabled", type := .boolean, accessFlags := 4120, slot := 9, constantValue := 0 }]
  methods := #[k17m0, k17m1]
  instanceTypes := #[]
  staticTypes := #[.double, .double, .double, .double, .double, .long, .long, .double, .double, .boolean]
  resolved := Array.replicate 460 none
  statics := none }

def pool18 : Array CpInfo := pool [(2, .class_ 4), (1, u "java/lang/Object"), (0, u "<init>"), (0, u "()V"), (17, .class_ 26), (1, u "jdk/internal/util/Preconditions"), (28, .class_ 56), (0, u "jdk/internal/util/Preconditions$4"), (57, .class_ 115), (0, u "jdk/internal/util/Preconditions$1"), (7, u "SIOOBE_FORMATTER"), (0, u "Ljava/util/function/BiFunction;"), (0, .class_ 126), (0, u "jdk/internal/util/Preconditions$2"), (3, u "AIOOBE_FORMATTER"), (0, .class_ 132), (0, u "jdk/internal/util/Preconditions$3"), (3, u "IOOBE_FORMATTER")] 57

def k18m0 : Method := { name := "<init>", desc := "()V", sig := { parameters := [], returnType := none }, accessFlags := 1, code := none }
/-- jdk/internal/util/Preconditions -/
def k18 : Class := { plain "jdk/internal/util/Preconditions" (some 0) with
  accessFlags := 33
  interfaces := #[]
  cf := some (fileOf pool18 24 #[.nestMembers #[55, 131, 125, 114]] #[{ accessFlags := 1, nameIndex := 5, descriptorIndex := 6, attributes := #[] }] 33 2 #[] #[{ accessFlags := 25, nameIndex := 123, descriptorIndex := 124, attributes := #[] }, { accessFlags := 25, nameIndex := 130, descriptorIndex := 124, attributes := #[] }, { accessFlags := 25, nameIndex := 136, descriptorIndex := 124, attributes := #[] }])
  fields := #[{ name := "SIOOBE_FORMATTER", type := (.object "java/util/function/BiFunction"), accessFlags := 25, slot := 0, constantValue := 0 }, { name := "AIOOBE_FORMATTER", type := (.object "java/util/function/BiFunction"), accessFlags := 25, slot := 1, constantValue := 0 }, { name := "IOOBE_FORMATTER", type := (.object "java/util/function/BiFunction"), accessFlags := 25, slot := 2, constantValue := 0 }]
  methods := #[k18m0]
  instanceTypes := #[]
  staticTypes := #[(.object "java/util/function/BiFunction"), (.object "java/util/function/BiFunction"), (.object "java/util/function/BiFunction")]
  resolved := Array.replicate 194 none
  statics := some 1 }

def pool19 : Array CpInfo := pool [(9, u "<init>"), (6, .class_ 18), (1, u "java/lang/Object"), (0, u "()V"), (1, .class_ 23), (1, u "jdk/internal/util/ArraysSupport"), (0, u "LOG2_ARRAY_LONG_INDEX_SCALE"), (0, u "I"), (2, u "U"), (0, u "Ljdk/internal/misc/Unsafe;"), (8, u "BIG_ENDIAN"), (0, u "Z"), (8, u "LOG2_BYTE_BIT_SIZE"), (4, u "LOG2_ARRAY_INT_INDEX_SCALE"), (54, u "JLA"), (0, u "Ljdk/internal/access/JavaLangAccess;"), (11, u "LOG2_ARRAY_BOOLEAN_INDEX_SCALE"), (9, u "LOG2_ARRAY_BYTE_INDEX_SCALE"), (5, u "LOG2_ARRAY_CHAR_INDEX_SCALE"), (5, u "LOG2_ARRAY_SHORT_INDEX_SCALE"), (18, u "LOG2_ARRAY_FLOAT_INDEX_SCALE"), (24, u "LOG2_ARRAY_DOUBLE_INDEX_SCALE"), (89, u "T_BOOLEAN"), (2, u "T_CHAR"), (1, u "T_FLOAT"), (1, u "T_DOUBLE"), (1, u "T_BYTE"), (1, u "T_SHORT"), (1, u "T_INT"), (1, u "T_LONG"), (1, u "SOFT_MAX_ARRAY_LENGTH")] 83

def k19m0 : Method := { name := "<init>", desc := "()V", sig := { parameters := [], returnType := none }, accessFlags := 2, code := none }
/-- jdk/internal/util/ArraysSupport -/
def k19 : Class := { plain "jdk/internal/util/ArraysSupport" (some 0) with
  accessFlags := 33
  interfaces := #[]
  cf := some (fileOf pool19 21 #[] #[{ accessFlags := 2, nameIndex := 9, descriptorIndex := 19, attributes := #[] }] 33 16 #[] #[{ accessFlags := 24, nameIndex := 28, descriptorIndex := 29, attributes := #[] }, { accessFlags := 26, nameIndex := 38, descriptorIndex := 39, attributes := #[] }, { accessFlags := 25, nameIndex := 121, descriptorIndex := 25, attributes := #[] }, { accessFlags := 25, nameIndex := 131, descriptorIndex := 25, attributes := #[] }, { accessFlags := 25, nameIndex := 137, descriptorIndex := 25, attributes := #[] }, { accessFlags := 25, nameIndex := 143, descriptorIndex := 25, attributes := #[] }, { accessFlags := 25, nameIndex := 53, descriptorIndex := 25, attributes := #[] }, { accessFlags := 25, nameIndex := 24, descriptorIndex := 25, attributes := #[] }, { accessFlags := 25, nameIndex := 162, descriptorIndex := 25, attributes := #[] }, { accessFlags := 25, nameIndex := 187, descriptorIndex := 25, attributes := #[] }, { accessFlags := 26, nameIndex := 48, descriptorIndex := 25, attributes := #[] }, { accessFlags := 25, nameIndex := 277, descriptorIndex := 25, attributes := #[] }, { accessFlags := 25, nameIndex := 280, descriptorIndex := 25, attributes := #[] }, { accessFlags := 25, nameIndex := 282, descriptorIndex := 25, attributes := #[] }, { accessFlags := 25, nameIndex := 284, descriptorIndex := 25, attributes := #[] }, { accessFlags := 25, nameIndex := 286, descriptorIndex := 25, attributes := #[] }, { accessFlags := 25, nameIndex := 288, descriptorIndex := 25, attributes := #[] }, { accessFlags := 25, nameIndex := 290, descriptorIndex := 25, attributes := #[] }, { accessFlags := 25, nameIndex := 292, descriptorIndex := 25, attributes := #[] }, { accessFlags := 26, nameIndex := 108, descriptorIndex := 109, attributes := #[] }, { accessFlags := 25, nameIndex := 294, descriptorIndex := 25, attributes := #[] }])
  fields := #[{ name := "U", type := (.object "jdk/internal/misc/Unsafe"), accessFlags := 24, slot := 0, constantValue := 0 }, { name := "BIG_ENDIAN", type := .boolean, accessFlags := 26, slot := 1, constantValue := 0 }, { name := "LOG2_ARRAY_BOOLEAN_INDEX_SCALE", type := .int, accessFlags := 25, slot := 2, constantValue := 0 }, { name := "LOG2_ARRAY_BYTE_INDEX_SCALE", type := .int, accessFlags := 25, slot := 3, constantValue := 0 }, { name := "LOG2_ARRAY_CHAR_INDEX_SCALE", type := .int, accessFlags := 25, slot := 4, constantValue := 0 }, { name := "LOG2_ARRAY_SHORT_INDEX_SCALE", type := .int, accessFlags := 25, slot := 5, constantValue := 0 }, { name := "LOG2_ARRAY_INT_INDEX_SCALE", type := .int, accessFlags := 25, slot := 6, constantValue := 0 }, { name := "LOG2_ARRAY_LONG_INDEX_SCALE", type := .int, accessFlags := 25, slot := 7, constantValue := 0 }, { name := "LOG2_ARRAY_FLOAT_INDEX_SCALE", type := .int, accessFlags := 25, slot := 8, constantValue := 0 }, { name := "LOG2_ARRAY_DOUBLE_INDEX_SCALE", type := .int, accessFlags := 25, slot := 9, constantValue := 0 }, { name := "LOG2_BYTE_BIT_SIZE", type := .int, accessFlags := 26, slot := 10, constantValue := 0 }, { name := "T_BOOLEAN", type := .int, accessFlags := 25, slot := 11, constantValue := 0 }, { name := "T_CHAR", type := .int, accessFlags := 25, slot := 12, constantValue := 0 }, { name := "T_FLOAT", type := .int, accessFlags := 25, slot := 13, constantValue := 0 }, { name := "T_DOUBLE", type := .int, accessFlags := 25, slot := 14, constantValue := 0 }, { name := "T_BYTE", type := .int, accessFlags := 25, slot := 15, constantValue := 0 }, { name := "T_SHORT", type := .int, accessFlags := 25, slot := 16, constantValue := 0 }, { name := "T_INT", type := .int, accessFlags := 25, slot := 17, constantValue := 0 }, { name := "T_LONG", type := .int, accessFlags := 25, slot := 18, constantValue := 0 }, { name := "JLA", type := (.object "jdk/internal/access/JavaLangAccess"), accessFlags := 26, slot := 19, constantValue := 0 }, { name := "SOFT_MAX_ARRAY_LENGTH", type := .int, accessFlags := 25, slot := 20, constantValue := 0 }]
  methods := #[k19m0]
  instanceTypes := #[]
  staticTypes := #[(.object "jdk/internal/misc/Unsafe"), .boolean, .int, .int, .int, .int, .int, .int, .int, .int, .int, .int, .int, .int, .int, .int, .int, .int, .int, (.object "jdk/internal/access/JavaLangAccess"), .int]
  resolved := Array.replicate 378 none
  statics := none }

def pool20 : Array CpInfo := pool [(1, u "java/lang/Cloneable"), (0, .class_ 1), (0, u "java/lang/Object"), (0, .class_ 3)] 3

/-- java/lang/Cloneable -/
def k20 : Class := { plain "java/lang/Cloneable" (some 0) with
  accessFlags := 1537
  interfaces := #[]
  cf := some (fileOf pool20 2 #[] #[] 1537 4 #[] #[])
  fields := #[]
  methods := #[]
  instanceTypes := #[]
  staticTypes := #[]
  resolved := Array.replicate 8 none
  statics := none }

/-- the primitive byte -/
def k21 : Class := { plain "byte" none with kind := .primitive 'B', accessFlags := 0x411 }
/-- [B -/
def k22 : Class := { plain "[B" (some 0) with kind := .array 21 .byte, interfaces := #[20, 2], accessFlags := 1041 }

/-- the primitive char -/
def k23 : Class := { plain "char" none with kind := .primitive 'C', accessFlags := 0x411 }
/-- [C -/
def k24 : Class := { plain "[C" (some 0) with kind := .array 23 .char, interfaces := #[20, 2], accessFlags := 1041 }

def heap : Heap := #[{ cls := 7, slots := #[.long 0, .int 1, .null, .int 0, .null, .int 0, .int 0], vm := .statics 7 },
  { cls := 18, slots := #[.null, .null, .null], vm := .statics 18 }]
def classes : Array Class := #[k0, k1, k2, k3, k4, k5, k6, k7, k8, k9, k10, k11, k12, k13, k14, k15, k16, k17, k18, k19, k20, k21, k22, k23, k24]
def interned : List (Array UInt16 × Addr) := []
def slotsUsed : Nat := 10
def theMethod : MethodId := ⟨1, 1⟩
def args0 : Array Value := #[.int 7, .int 65, .int 66, .int 67]
def aboutOver (below : List Frame) : State where
  vm := { classes := classes, interned := interned.toArray }
  heap := heap
  slotsUsed := slotsUsed
  threads := #[{ frames := .invoking theMethod args0 :: below }]
def below0 : List Frame := [.native { method := ⟨0, 0⟩, args := #[] }]
def about1 : State := aboutOver below0
def p0 : Program := .bare "" "" ""
def e0 : Env := launch0.env 0 0 0
theorem w_frames : about1.frames = Frame.invoking theMethod args0 :: below0 := rfl
set_option maxRecDepth 65536 in
theorem w_args : argsFit about1.vm theMethod args0 = true := by decide +kernel
set_option maxRecDepth 65536 in
theorem w_heap : heapFits about1 = true := by decide +kernel
set_option maxRecDepth 65536 in
theorem w_runnable : about1.curStatus? = some .runnable := by decide +kernel
set_option maxRecDepth 65536 in
theorem w_alone : about1.alone = true := by decide +kernel
set_option maxRecDepth 65536 in
theorem w_named : about1.methodNamed? x = some theMethod := by decide +kernel
set_option maxRecDepth 65536 in
theorem w_hears : about1.hears theMethod below0 = true := by decide +kernel
set_option maxRecDepth 65536 in
theorem w_ripe : about1.ripe theMethod args0 below0 = true := by decide +kernel
theorem w_running : about1.status = .running := rfl
set_option maxRecDepth 65536 in
theorem w_room : about1.hasRoom e0.platform room_1 = true :=
  launch0.hasRoom_least _ room_1 (by decide +kernel) (by decide +kernel) (by decide +kernel) (by decide +kernel) (by decide +kernel) (by decide +kernel)
theorem allAtoms_all (ts : List Jvm.Cond) (a : Array Jvm.Value) (st : Jvm.State) : (allAtoms ts).before a st = ts.all (fun c => c.before a st) := by
  induction ts with
  | nil => rfl
  | cons c t ih =>
    show (Jvm.Cond.and c (allAtoms t)).before a st = _
    rw [Jvm.Cond.before_and, ih, List.all_cons]
def words1 : List Jvm.Cond := Jvm.Cond.code x code maxLocals ret :: tables_1
/-- a 'code' word, met by the world's own term for the bytes: nothing is compared byte by byte -/
theorem code_word {y : MethodName} {bytes : ByteArray} {mx : Nat} {rt : Option FieldType} {a : Array Value} {s : State} {m : MethodId} {meth : Method} {c : Code} (h1 : s.methodNamed? y = some m) (h2 : s.vm.method? m = some meth) (h3 : meth.code = some c) (h4 : c.code = bytes)
    (h5 : (c.maxLocals == mx && c.exceptionTable.isEmpty && decide (c.maxStack ≤ mostOperands) && decide (meth.sig.returnType = rt) && !meth.locks && decide (parseMethodDescriptor y.desc = some meth.sig)) = true) : (Jvm.Cond.code y bytes mx rt).before a s = true := by
  simp only [Bool.and_eq_true, beq_iff_eq, Bool.not_eq_true', decide_eq_true_eq] at h5
  obtain ⟨⟨⟨⟨⟨g1, g2⟩, g3⟩, g4⟩, g5⟩, g6⟩ := h5
  simp [Cond.before, Cond.holds, Cond.value, h1, h2, h3, h4, g1, g2, g3, g4, g5, g6]
def isCode : Jvm.Cond → Bool
  | .code _ _ _ _ => true
  | _ => false
theorem all_split {L : List Jvm.Cond} {P : Jvm.Cond → Bool} (h1 : L.all (fun c => isCode c || P c) = true) (h2 : ∀ c ∈ L.filter isCode, P c = true) : L.all P = true := by
  refine List.all_eq_true.mpr fun c hc => ?_
  have h := List.all_eq_true.mp h1 c hc
  rcases Bool.eq_false_or_eq_true (isCode c) with hi | hi
  · exact h2 c (List.mem_filter.mpr ⟨hc, hi⟩)
  · simpa [hi] using h
set_option maxRecDepth 65536 in
theorem w_c0 : (Jvm.Cond.code x code maxLocals ret).before args0 about1 = true := code_word (m := ⟨1, 1⟩) (meth := k1m1) (c := k1c1) (by decide +kernel) rfl rfl rfl (by decide +kernel)
set_option maxRecDepth 65536 in
theorem w_c1 : (Jvm.Cond.code ({ cls := "java/lang/String", name := "valueOf", desc := "(C)Ljava/lang/String;" } : Jvm.MethodName) jdk_42_method_139_code (1 : Nat) (Option.some (Jvm.ClassFile.FieldType.object "java/lang/String"))).before args0 about1 = true := code_word (m := ⟨7, 5⟩) (meth := k7m5) (c := k7c5) (by decide +kernel) rfl rfl rfl (by decide +kernel)
set_option maxRecDepth 65536 in
theorem w_c2 : (Jvm.Cond.code ({ cls := "java/lang/StringLatin1", name := "canEncode", desc := "(C)Z" } : Jvm.MethodName) jdk_43_method_3_code (1 : Nat) (Option.some Jvm.ClassFile.FieldType.boolean)).before args0 about1 = true := code_word (m := ⟨8, 1⟩) (meth := k8m1) (c := k8c1) (by decide +kernel) rfl rfl rfl (by decide +kernel)
set_option maxRecDepth 65536 in
theorem w_c3 : (Jvm.Cond.code ({ cls := "java/lang/StringLatin1", name := "toBytes", desc := "(C)[B" } : Jvm.MethodName) jdk_43_method_46_code (1 : Nat) (Option.some (Jvm.ClassFile.FieldType.array Jvm.ClassFile.FieldType.byte))).before args0 about1 = true := code_word (m := ⟨8, 3⟩) (meth := k8m3) (c := k8c3) (by decide +kernel) rfl rfl rfl (by decide +kernel)
set_option maxRecDepth 65536 in
theorem w_c4 : (Jvm.Cond.code ({ cls := "java/lang/String", name := "<init>", desc := "([BB)V" } : Jvm.MethodName) jdk_42_method_151_code (3 : Nat) (Option.none : Option Jvm.ClassFile.FieldType)).before args0 about1 = true := code_word (m := ⟨7, 9⟩) (meth := k7m9) (c := k7c9) (by decide +kernel) rfl rfl rfl (by decide +kernel)
set_option maxRecDepth 65536 in
theorem w_c5 : (Jvm.Cond.code ({ cls := "java/lang/Object", name := "<init>", desc := "()V" } : Jvm.MethodName) object_method_1_code (1 : Nat) (Option.none : Option Jvm.ClassFile.FieldType)).before args0 about1 = true := code_word (m := ⟨0, 0⟩) (meth := k0m0) (c := k0c0) (by decide +kernel) rfl rfl rfl (by decide +kernel)
set_option maxRecDepth 65536 in
theorem w_c6 : (Jvm.Cond.code ({ cls := "com/example/forgewire/forgewire/xml/DefinitionReader$Subject", name := "<init>", desc := "(Ljava/lang/String;Ljava/lang/String;Ljava/lang/String;)V" } : Jvm.MethodName) prog_89_method_1_code (4 : Nat) (Option.none : Option Jvm.ClassFile.FieldType)).before args0 about1 = true := code_word (m := ⟨10, 0⟩) (meth := k10m0) (c := k10c0) (by decide +kernel) rfl rfl rfl (by decide +kernel)
set_option maxRecDepth 65536 in
theorem w_c7 : (Jvm.Cond.code ({ cls := "java/lang/Record", name := "<init>", desc := "()V" } : Jvm.MethodName) jdk_30_method_1_code (1 : Nat) (Option.none : Option Jvm.ClassFile.FieldType)).before args0 about1 = true := code_word (m := ⟨9, 0⟩) (meth := k9m0) (c := k9c0) (by decide +kernel) rfl rfl rfl (by decide +kernel)
set_option maxRecDepth 65536 in
theorem w_c8 : (Jvm.Cond.code ({ cls := "com/example/forgewire/forgewire/xml/DefinitionReader$Subject", name := "toString", desc := "()Ljava/lang/String;" } : Jvm.MethodName) prog_89_method_5_code (3 : Nat) (Option.some (Jvm.ClassFile.FieldType.object "java/lang/String"))).before args0 about1 = true := code_word (m := ⟨10, 1⟩) (meth := k10m1) (c := k10c1) (by decide +kernel) rfl rfl rfl (by decide +kernel)
set_option maxRecDepth 65536 in
theorem w_c9 : (Jvm.Cond.code ({ cls := "com/example/forgewire/forgewire/xml/SubjectToStringPinLaw", name := "expected", desc := "(ZZZCCC)Ljava/lang/String;" } : Jvm.MethodName) method_3_code (6 : Nat) (Option.some (Jvm.ClassFile.FieldType.object "java/lang/String"))).before args0 about1 = true := code_word (m := ⟨1, 2⟩) (meth := k1m2) (c := k1c2) (by decide +kernel) rfl rfl rfl (by decide +kernel)
set_option maxRecDepth 65536 in
theorem w_c10 : (Jvm.Cond.code ({ cls := "java/lang/String", name := "<init>", desc := "([C)V" } : Jvm.MethodName) jdk_42_method_3_code (2 : Nat) (Option.none : Option Jvm.ClassFile.FieldType)).before args0 about1 = true := code_word (m := ⟨7, 1⟩) (meth := k7m1) (c := k7c1) (by decide +kernel) rfl rfl rfl (by decide +kernel)
set_option maxRecDepth 65536 in
theorem w_c11 : (Jvm.Cond.code ({ cls := "java/lang/String", name := "<init>", desc := "([CIILjava/lang/Void;)V" } : Jvm.MethodName) jdk_42_method_149_code (6 : Nat) (Option.none : Option Jvm.ClassFile.FieldType)).before args0 about1 = true := code_word (m := ⟨7, 7⟩) (meth := k7m7) (c := k7c7) (by decide +kernel) rfl rfl rfl (by decide +kernel)
set_option maxRecDepth 65536 in
theorem w_c12 : (Jvm.Cond.code ({ cls := "java/lang/StringUTF16", name := "compress", desc := "([CII)[B" } : Jvm.MethodName) jdk_52_method_16_code (6 : Nat) (Option.some (Jvm.ClassFile.FieldType.array Jvm.ClassFile.FieldType.byte))).before args0 about1 = true := code_word (m := ⟨11, 2⟩) (meth := k11m2) (c := k11c2) (by decide +kernel) rfl rfl rfl (by decide +kernel)
set_option maxRecDepth 65536 in
theorem w_c13 : (Jvm.Cond.code ({ cls := "java/lang/StringUTF16", name := "compress", desc := "([CI[BII)I" } : Jvm.MethodName) jdk_52_method_21_code (7 : Nat) (Option.some Jvm.ClassFile.FieldType.int)).before args0 about1 = true := code_word (m := ⟨11, 3⟩) (meth := k11m3) (c := k11c3) (by decide +kernel) rfl rfl rfl (by decide +kernel)
set_option maxRecDepth 65536 in
theorem w_c14 : (Jvm.Cond.code ({ cls := "java/lang/StringUTF16", name := "coderFromArrayLen", desc := "([BI)B" } : Jvm.MethodName) jdk_52_method_15_code (2 : Nat) (Option.some Jvm.ClassFile.FieldType.byte)).before args0 about1 = true := code_word (m := ⟨11, 1⟩) (meth := k11m1) (c := k11c1) (by decide +kernel) rfl rfl rfl (by decide +kernel)
set_option maxRecDepth 65536 in
theorem w_c15 : (Jvm.Cond.code ({ cls := "java/lang/String", name := "equals", desc := "(Ljava/lang/Object;)Z" } : Jvm.MethodName) jdk_42_method_66_code (3 : Nat) (Option.some Jvm.ClassFile.FieldType.boolean)).before args0 about1 = true := code_word (m := ⟨7, 4⟩) (meth := k7m4) (c := k7c4) (by decide +kernel) rfl rfl rfl (by decide +kernel)
set_option maxRecDepth 65536 in
theorem w_c16 : (Jvm.Cond.code ({ cls := "java/lang/StringLatin1", name := "equals", desc := "([B[B)Z" } : Jvm.MethodName) jdk_43_method_13_code (3 : Nat) (Option.some Jvm.ClassFile.FieldType.boolean)).before args0 about1 = true := code_word (m := ⟨8, 2⟩) (meth := k8m2) (c := k8c2) (by decide +kernel) rfl rfl rfl (by decide +kernel)
set_option maxRecDepth 65536 in
theorem w_c17 : (Jvm.Cond.code ({ cls := "java/lang/StringBuilder", name := "<init>", desc := "()V" } : Jvm.MethodName) jdk_67_method_1_code (1 : Nat) (Option.none : Option Jvm.ClassFile.FieldType)).before args0 about1 = true := code_word (m := ⟨14, 0⟩) (meth := k14m0) (c := k14c0) (by decide +kernel) rfl rfl rfl (by decide +kernel)
set_option maxRecDepth 65536 in
theorem w_c18 : (Jvm.Cond.code ({ cls := "java/lang/AbstractStringBuilder", name := "<init>", desc := "(I)V" } : Jvm.MethodName) jdk_68_method_2_code (2 : Nat) (Option.none : Option Jvm.ClassFile.FieldType)).before args0 about1 = true := code_word (m := ⟨13, 1⟩) (meth := k13m1) (c := k13c1) (by decide +kernel) rfl rfl rfl (by decide +kernel)
set_option maxRecDepth 65536 in
theorem w_c19 : (Jvm.Cond.code ({ cls := "java/lang/StringBuilder", name := "append", desc := "(Ljava/lang/String;)Ljava/lang/StringBuilder;" } : Jvm.MethodName) jdk_67_method_7_code (2 : Nat) (Option.some (Jvm.ClassFile.FieldType.object "java/lang/StringBuilder"))).before args0 about1 = true := code_word (m := ⟨14, 1⟩) (meth := k14m1) (c := k14c1) (by decide +kernel) rfl rfl rfl (by decide +kernel)
set_option maxRecDepth 65536 in
theorem w_c20 : (Jvm.Cond.code ({ cls := "java/lang/AbstractStringBuilder", name := "append", desc := "(Ljava/lang/String;)Ljava/lang/AbstractStringBuilder;" } : Jvm.MethodName) jdk_68_method_22_code (3 : Nat) (Option.some (Jvm.ClassFile.FieldType.object "java/lang/AbstractStringBuilder"))).before args0 about1 = true := code_word (m := ⟨13, 4⟩) (meth := k13m4) (c := k13c4) (by decide +kernel) rfl rfl rfl (by decide +kernel)
set_option maxRecDepth 65536 in
theorem w_c21 : (Jvm.Cond.code ({ cls := "java/lang/String", name := "length", desc := "()I" } : Jvm.MethodName) jdk_42_method_54_code (1 : Nat) (Option.some Jvm.ClassFile.FieldType.int)).before args0 about1 = true := code_word (m := ⟨7, 3⟩) (meth := k7m3) (c := k7c3) (by decide +kernel) rfl rfl rfl (by decide +kernel)
set_option maxRecDepth 65536 in
theorem w_c22 : (Jvm.Cond.code ({ cls := "java/lang/String", name := "coder", desc := "()B" } : Jvm.MethodName) jdk_42_method_152_code (1 : Nat) (Option.some Jvm.ClassFile.FieldType.byte)).before args0 about1 = true := code_word (m := ⟨7, 10⟩) (meth := k7m10) (c := k7c10) (by decide +kernel) rfl rfl rfl (by decide +kernel)
set_option maxRecDepth 65536 in
theorem w_c23 : (Jvm.Cond.code ({ cls := "java/lang/AbstractStringBuilder", name := "ensureCapacityInternal", desc := "(I)V" } : Jvm.MethodName) jdk_68_method_9_code (3 : Nat) (Option.none : Option Jvm.ClassFile.FieldType)).before args0 about1 = true := code_word (m := ⟨13, 3⟩) (meth := k13m3) (c := k13c3) (by decide +kernel) rfl rfl rfl (by decide +kernel)
set_option maxRecDepth 65536 in
theorem w_c24 : (Jvm.Cond.code ({ cls := "java/lang/AbstractStringBuilder", name := "putStringAt", desc := "(ILjava/lang/String;)V" } : Jvm.MethodName) jdk_68_method_73_code (3 : Nat) (Option.none : Option Jvm.ClassFile.FieldType)).before args0 about1 = true := code_word (m := ⟨13, 8⟩) (meth := k13m8) (c := k13c8) (by decide +kernel) rfl rfl rfl (by decide +kernel)
set_option maxRecDepth 65536 in
theorem w_c25 : (Jvm.Cond.code ({ cls := "java/lang/AbstractStringBuilder", name := "inflateIfNeededFor", desc := "(Ljava/lang/String;)V" } : Jvm.MethodName) jdk_68_method_71_code (2 : Nat) (Option.none : Option Jvm.ClassFile.FieldType)).before args0 about1 = true := code_word (m := ⟨13, 7⟩) (meth := k13m7) (c := k13c7) (by decide +kernel) rfl rfl rfl (by decide +kernel)
set_option maxRecDepth 65536 in
theorem w_c26 : (Jvm.Cond.code ({ cls := "java/lang/String", name := "getBytes", desc := "([BIB)V" } : Jvm.MethodName) jdk_42_method_147_code (4 : Nat) (Option.none : Option Jvm.ClassFile.FieldType)).before args0 about1 = true := code_word (m := ⟨7, 6⟩) (meth := k7m6) (c := k7c6) (by decide +kernel) rfl rfl rfl (by decide +kernel)
set_option maxRecDepth 65536 in
theorem w_c27 : (Jvm.Cond.code ({ cls := "java/lang/StringBuilder", name := "toString", desc := "()Ljava/lang/String;" } : Jvm.MethodName) jdk_67_method_42_code (1 : Nat) (Option.some (Jvm.ClassFile.FieldType.object "java/lang/String"))).before args0 about1 = true := code_word (m := ⟨14, 2⟩) (meth := k14m2) (c := k14c2) (by decide +kernel) rfl rfl rfl (by decide +kernel)
set_option maxRecDepth 65536 in
theorem w_c28 : (Jvm.Cond.code ({ cls := "java/lang/String", name := "<init>", desc := "(Ljava/lang/StringBuilder;)V" } : Jvm.MethodName) jdk_42_method_53_code (2 : Nat) (Option.none : Option Jvm.ClassFile.FieldType)).before args0 about1 = true := code_word (m := ⟨7, 2⟩) (meth := k7m2) (c := k7c2) (by decide +kernel) rfl rfl rfl (by decide +kernel)
set_option maxRecDepth 65536 in
theorem w_c29 : (Jvm.Cond.code ({ cls := "java/lang/String", name := "<init>", desc := "(Ljava/lang/AbstractStringBuilder;Ljava/lang/Void;)V" } : Jvm.MethodName) jdk_42_method_150_code (5 : Nat) (Option.none : Option Jvm.ClassFile.FieldType)).before args0 about1 = true := code_word (m := ⟨7, 8⟩) (meth := k7m8) (c := k7c8) (by decide +kernel) rfl rfl rfl (by decide +kernel)
set_option maxRecDepth 65536 in
theorem w_c30 : (Jvm.Cond.code ({ cls := "java/lang/AbstractStringBuilder", name := "getValue", desc := "()[B" } : Jvm.MethodName) jdk_68_method_64_code (1 : Nat) (Option.some (Jvm.ClassFile.FieldType.array Jvm.ClassFile.FieldType.byte))).before args0 about1 = true := code_word (m := ⟨13, 5⟩) (meth := k13m5) (c := k13c5) (by decide +kernel) rfl rfl rfl (by decide +kernel)
set_option maxRecDepth 65536 in
theorem w_c31 : (Jvm.Cond.code ({ cls := "java/lang/StringBuilder", name := "length", desc := "()I" } : Jvm.MethodName) jdk_67_method_93_code (1 : Nat) (Option.some Jvm.ClassFile.FieldType.int)).before args0 about1 = true := code_word (m := ⟨14, 3⟩) (meth := k14m3) (c := k14c3) (by decide +kernel) rfl rfl rfl (by decide +kernel)
set_option maxRecDepth 65536 in
theorem w_c32 : (Jvm.Cond.code ({ cls := "java/lang/AbstractStringBuilder", name := "length", desc := "()I" } : Jvm.MethodName) jdk_68_method_6_code (1 : Nat) (Option.some Jvm.ClassFile.FieldType.int)).before args0 about1 = true := code_word (m := ⟨13, 2⟩) (meth := k13m2) (c := k13c2) (by decide +kernel) rfl rfl rfl (by decide +kernel)
set_option maxRecDepth 65536 in
theorem w_c33 : (Jvm.Cond.code ({ cls := "java/lang/AbstractStringBuilder", name := "isLatin1", desc := "()Z" } : Jvm.MethodName) jdk_68_method_68_code (1 : Nat) (Option.some Jvm.ClassFile.FieldType.boolean)).before args0 about1 = true := code_word (m := ⟨13, 6⟩) (meth := k13m6) (c := k13c6) (by decide +kernel) rfl rfl rfl (by decide +kernel)
set_option maxRecDepth 65536 in
theorem w_c34 : (Jvm.Cond.code ({ cls := "java/util/Arrays", name := "copyOfRange", desc := "([BII)[B" } : Jvm.MethodName) jdk_65_method_132_code (3 : Nat) (Option.some (Jvm.ClassFile.FieldType.array Jvm.ClassFile.FieldType.byte))).before args0 about1 = true := code_word (m := ⟨16, 2⟩) (meth := k16m2) (c := k16c2) (by decide +kernel) rfl rfl rfl (by decide +kernel)
set_option maxRecDepth 65536 in
theorem w_c35 : (Jvm.Cond.code ({ cls := "java/util/Arrays", name := "copyOfRangeByte", desc := "([BII)[B" } : Jvm.MethodName) jdk_65_method_133_code (5 : Nat) (Option.some (Jvm.ClassFile.FieldType.array Jvm.ClassFile.FieldType.byte))).before args0 about1 = true := code_word (m := ⟨16, 3⟩) (meth := k16m3) (c := k16c3) (by decide +kernel) rfl rfl rfl (by decide +kernel)
set_option maxRecDepth 65536 in
theorem w_c36 : (Jvm.Cond.code ({ cls := "java/util/Arrays", name := "checkLength", desc := "(II)V" } : Jvm.MethodName) jdk_65_method_131_code (2 : Nat) (Option.none : Option Jvm.ClassFile.FieldType)).before args0 about1 = true := code_word (m := ⟨16, 1⟩) (meth := k16m1) (c := k16c1) (by decide +kernel) rfl rfl rfl (by decide +kernel)
set_option maxRecDepth 65536 in
theorem w_c37 : (Jvm.Cond.code ({ cls := "java/lang/Math", name := "min", desc := "(II)I" } : Jvm.MethodName) jdk_29_method_69_code (2 : Nat) (Option.some Jvm.ClassFile.FieldType.int)).before args0 about1 = true := code_word (m := ⟨17, 1⟩) (meth := k17m1) (c := k17c1) (by decide +kernel) rfl rfl rfl (by decide +kernel)
def codes1 : List Jvm.Cond := [Jvm.Cond.code x code maxLocals ret, Jvm.Cond.code ({ cls := "java/lang/String", name := "valueOf", desc := "(C)Ljava/lang/String;" } : Jvm.MethodName) jdk_42_method_139_code (1 : Nat) (Option.some (Jvm.ClassFile.FieldType.object "java/lang/String")), Jvm.Cond.code ({ cls := "java/lang/StringLatin1", name := "canEncode", desc := "(C)Z" } : Jvm.MethodName) jdk_43_method_3_code (1 : Nat) (Option.some Jvm.ClassFile.FieldType.boolean), Jvm.Cond.code ({ cls := "java/lang/StringLatin1", name := "toBytes", desc := "(C)[B" } : Jvm.MethodName) jdk_43_method_46_code (1 : Nat) (Option.some (Jvm.ClassFile.FieldType.array Jvm.ClassFile.FieldType.byte)), Jvm.Cond.code ({ cls := "java/lang/String", name := "<init>", desc := "([BB)V" } : Jvm.MethodName) jdk_42_method_151_code (3 : Nat) (Option.none : Option Jvm.ClassFile.FieldType), Jvm.Cond.code ({ cls := "java/lang/Object", name := "<init>", desc := "()V" } : Jvm.MethodName) object_method_1_code (1 : Nat) (Option.none : Option Jvm.ClassFile.FieldType), Jvm.Cond.code ({ cls := "com/example/forgewire/forgewire/xml/DefinitionReader$Subject", name := "<init>", desc := "(Ljava/lang/String;Ljava/lang/String;Ljava/lang/String;)V" } : Jvm.MethodName) prog_89_method_1_code (4 : Nat) (Option.none : Option Jvm.ClassFile.FieldType), Jvm.Cond.code ({ cls := "java/lang/Record", name := "<init>", desc := "()V" } : Jvm.MethodName) jdk_30_method_1_code (1 : Nat) (Option.none : Option Jvm.ClassFile.FieldType), Jvm.Cond.code ({ cls := "com/example/forgewire/forgewire/xml/DefinitionReader$Subject", name := "toString", desc := "()Ljava/lang/String;" } : Jvm.MethodName) prog_89_method_5_code (3 : Nat) (Option.some (Jvm.ClassFile.FieldType.object "java/lang/String")), Jvm.Cond.code ({ cls := "com/example/forgewire/forgewire/xml/SubjectToStringPinLaw", name := "expected", desc := "(ZZZCCC)Ljava/lang/String;" } : Jvm.MethodName) method_3_code (6 : Nat) (Option.some (Jvm.ClassFile.FieldType.object "java/lang/String")), Jvm.Cond.code ({ cls := "java/lang/String", name := "<init>", desc := "([C)V" } : Jvm.MethodName) jdk_42_method_3_code (2 : Nat) (Option.none : Option Jvm.ClassFile.FieldType), Jvm.Cond.code ({ cls := "java/lang/String", name := "<init>", desc := "([CIILjava/lang/Void;)V" } : Jvm.MethodName) jdk_42_method_149_code (6 : Nat) (Option.none : Option Jvm.ClassFile.FieldType), Jvm.Cond.code ({ cls := "java/lang/StringUTF16", name := "compress", desc := "([CII)[B" } : Jvm.MethodName) jdk_52_method_16_code (6 : Nat) (Option.some (Jvm.ClassFile.FieldType.array Jvm.ClassFile.FieldType.byte)), Jvm.Cond.code ({ cls := "java/lang/StringUTF16", name := "compress", desc := "([CI[BII)I" } : Jvm.MethodName) jdk_52_method_21_code (7 : Nat) (Option.some Jvm.ClassFile.FieldType.int), Jvm.Cond.code ({ cls := "java/lang/StringUTF16", name := "coderFromArrayLen", desc := "([BI)B" } : Jvm.MethodName) jdk_52_method_15_code (2 : Nat) (Option.some Jvm.ClassFile.FieldType.byte), Jvm.Cond.code ({ cls := "java/lang/String", name := "equals", desc := "(Ljava/lang/Object;)Z" } : Jvm.MethodName) jdk_42_method_66_code (3 : Nat) (Option.some Jvm.ClassFile.FieldType.boolean), Jvm.Cond.code ({ cls := "java/lang/StringLatin1", name := "equals", desc := "([B[B)Z" } : Jvm.MethodName) jdk_43_method_13_code (3 : Nat) (Option.some Jvm.ClassFile.FieldType.boolean), Jvm.Cond.code ({ cls := "java/lang/StringBuilder", name := "<init>", desc := "()V" } : Jvm.MethodName) jdk_67_method_1_code (1 : Nat) (Option.none : Option Jvm.ClassFile.FieldType), Jvm.Cond.code ({ cls := "java/lang/AbstractStringBuilder", name := "<init>", desc := "(I)V" } : Jvm.MethodName) jdk_68_method_2_code (2 : Nat) (Option.none : Option Jvm.ClassFile.FieldType), Jvm.Cond.code ({ cls := "java/lang/StringBuilder", name := "append", desc := "(Ljava/lang/String;)Ljava/lang/StringBuilder;" } : Jvm.MethodName) jdk_67_method_7_code (2 : Nat) (Option.some (Jvm.ClassFile.FieldType.object "java/lang/StringBuilder")), Jvm.Cond.code ({ cls := "java/lang/AbstractStringBuilder", name := "append", desc := "(Ljava/lang/String;)Ljava/lang/AbstractStringBuilder;" } : Jvm.MethodName) jdk_68_method_22_code (3 : Nat) (Option.some (Jvm.ClassFile.FieldType.object "java/lang/AbstractStringBuilder")), Jvm.Cond.code ({ cls := "java/lang/String", name := "length", desc := "()I" } : Jvm.MethodName) jdk_42_method_54_code (1 : Nat) (Option.some Jvm.ClassFile.FieldType.int), Jvm.Cond.code ({ cls := "java/lang/String", name := "coder", desc := "()B" } : Jvm.MethodName) jdk_42_method_152_code (1 : Nat) (Option.some Jvm.ClassFile.FieldType.byte), Jvm.Cond.code ({ cls := "java/lang/AbstractStringBuilder", name := "ensureCapacityInternal", desc := "(I)V" } : Jvm.MethodName) jdk_68_method_9_code (3 : Nat) (Option.none : Option Jvm.ClassFile.FieldType), Jvm.Cond.code ({ cls := "java/lang/AbstractStringBuilder", name := "putStringAt", desc := "(ILjava/lang/String;)V" } : Jvm.MethodName) jdk_68_method_73_code (3 : Nat) (Option.none : Option Jvm.ClassFile.FieldType), Jvm.Cond.code ({ cls := "java/lang/AbstractStringBuilder", name := "inflateIfNeededFor", desc := "(Ljava/lang/String;)V" } : Jvm.MethodName) jdk_68_method_71_code (2 : Nat) (Option.none : Option Jvm.ClassFile.FieldType), Jvm.Cond.code ({ cls := "java/lang/String", name := "getBytes", desc := "([BIB)V" } : Jvm.MethodName) jdk_42_method_147_code (4 : Nat) (Option.none : Option Jvm.ClassFile.FieldType), Jvm.Cond.code ({ cls := "java/lang/StringBuilder", name := "toString", desc := "()Ljava/lang/String;" } : Jvm.MethodName) jdk_67_method_42_code (1 : Nat) (Option.some (Jvm.ClassFile.FieldType.object "java/lang/String")), Jvm.Cond.code ({ cls := "java/lang/String", name := "<init>", desc := "(Ljava/lang/StringBuilder;)V" } : Jvm.MethodName) jdk_42_method_53_code (2 : Nat) (Option.none : Option Jvm.ClassFile.FieldType), Jvm.Cond.code ({ cls := "java/lang/String", name := "<init>", desc := "(Ljava/lang/AbstractStringBuilder;Ljava/lang/Void;)V" } : Jvm.MethodName) jdk_42_method_150_code (5 : Nat) (Option.none : Option Jvm.ClassFile.FieldType), Jvm.Cond.code ({ cls := "java/lang/AbstractStringBuilder", name := "getValue", desc := "()[B" } : Jvm.MethodName) jdk_68_method_64_code (1 : Nat) (Option.some (Jvm.ClassFile.FieldType.array Jvm.ClassFile.FieldType.byte)), Jvm.Cond.code ({ cls := "java/lang/StringBuilder", name := "length", desc := "()I" } : Jvm.MethodName) jdk_67_method_93_code (1 : Nat) (Option.some Jvm.ClassFile.FieldType.int), Jvm.Cond.code ({ cls := "java/lang/AbstractStringBuilder", name := "length", desc := "()I" } : Jvm.MethodName) jdk_68_method_6_code (1 : Nat) (Option.some Jvm.ClassFile.FieldType.int), Jvm.Cond.code ({ cls := "java/lang/AbstractStringBuilder", name := "isLatin1", desc := "()Z" } : Jvm.MethodName) jdk_68_method_68_code (1 : Nat) (Option.some Jvm.ClassFile.FieldType.boolean), Jvm.Cond.code ({ cls := "java/util/Arrays", name := "copyOfRange", desc := "([BII)[B" } : Jvm.MethodName) jdk_65_method_132_code (3 : Nat) (Option.some (Jvm.ClassFile.FieldType.array Jvm.ClassFile.FieldType.byte)), Jvm.Cond.code ({ cls := "java/util/Arrays", name := "copyOfRangeByte", desc := "([BII)[B" } : Jvm.MethodName) jdk_65_method_133_code (5 : Nat) (Option.some (Jvm.ClassFile.FieldType.array Jvm.ClassFile.FieldType.byte)), Jvm.Cond.code ({ cls := "java/util/Arrays", name := "checkLength", desc := "(II)V" } : Jvm.MethodName) jdk_65_method_131_code (2 : Nat) (Option.none : Option Jvm.ClassFile.FieldType), Jvm.Cond.code ({ cls := "java/lang/Math", name := "min", desc := "(II)I" } : Jvm.MethodName) jdk_29_method_69_code (2 : Nat) (Option.some Jvm.ClassFile.FieldType.int)]
set_option maxRecDepth 65536 in
theorem codes_eq : words1.filter isCode = codes1 := rfl
theorem w_codes : ∀ c ∈ words1.filter isCode, c.before args0 about1 = true := by
  rw [codes_eq]
  intro c hc
  simp only [codes1, List.mem_cons, List.not_mem_nil, or_false] at hc
  rcases hc with rfl | rfl | rfl | rfl | rfl | rfl | rfl | rfl | rfl | rfl | rfl | rfl | rfl | rfl | rfl | rfl | rfl | rfl | rfl | rfl | rfl | rfl | rfl | rfl | rfl | rfl | rfl | rfl | rfl | rfl | rfl | rfl | rfl | rfl | rfl | rfl | rfl | rfl
  · exact w_c0
  · exact w_c1
  · exact w_c2
  · exact w_c3
  · exact w_c4
  · exact w_c5
  · exact w_c6
  · exact w_c7
  · exact w_c8
  · exact w_c9
  · exact w_c10
  · exact w_c11
  · exact w_c12
  · exact w_c13
  · exact w_c14
  · exact w_c15
  · exact w_c16
  · exact w_c17
  · exact w_c18
  · exact w_c19
  · exact w_c20
  · exact w_c21
  · exact w_c22
  · exact w_c23
  · exact w_c24
  · exact w_c25
  · exact w_c26
  · exact w_c27
  · exact w_c28
  · exact w_c29
  · exact w_c30
  · exact w_c31
  · exact w_c32
  · exact w_c33
  · exact w_c34
  · exact w_c35
  · exact w_c36
  · exact w_c37
set_option maxRecDepth 65536 in
theorem w_t1 : (words1.take 24).all (fun c => isCode c || c.before args0 about1) = true := by decide +kernel
set_option maxRecDepth 65536 in
theorem w_t2 : ((words1.drop 24).take 24).all (fun c => isCode c || c.before args0 about1) = true := by decide +kernel
set_option maxRecDepth 65536 in
theorem w_t3 : (((words1.drop 24).drop 24).take 24).all (fun c => isCode c || c.before args0 about1) = true := by decide +kernel
set_option maxRecDepth 65536 in
theorem w_t4 : ((((words1.drop 24).drop 24).drop 24).take 24).all (fun c => isCode c || c.before args0 about1) = true := by decide +kernel
set_option maxRecDepth 65536 in
theorem w_t5 : (((((words1.drop 24).drop 24).drop 24).drop 24).take 24).all (fun c => isCode c || c.before args0 about1) = true := by decide +kernel
set_option maxRecDepth 65536 in
theorem w_t6 : ((((((words1.drop 24).drop 24).drop 24).drop 24).drop 24).take 24).all (fun c => isCode c || c.before args0 about1) = true := by decide +kernel
set_option maxRecDepth 65536 in
theorem w_t7 : (((((((words1.drop 24).drop 24).drop 24).drop 24).drop 24).drop 24).take 24).all (fun c => isCode c || c.before args0 about1) = true := by decide +kernel
set_option maxRecDepth 65536 in
theorem w_t8 : ((((((((words1.drop 24).drop 24).drop 24).drop 24).drop 24).drop 24).drop 24).take 24).all (fun c => isCode c || c.before args0 about1) = true := by decide +kernel
set_option maxRecDepth 65536 in
theorem w_t9 : ((((((((words1.drop 24).drop 24).drop 24).drop 24).drop 24).drop 24).drop 24).drop 24).all (fun c => isCode c || c.before args0 about1) = true := by decide +kernel
theorem w_tables : (allAtoms (Jvm.Cond.code x code maxLocals ret :: tables_1)).before args0 about1 = true := by
  rw [allAtoms_all]
  show words1.all (fun c => c.before args0 about1) = true
  refine all_split ?_ w_codes
  rw [← List.take_append_drop 24 words1, List.all_append, w_t1, ← List.take_append_drop 24 (words1.drop 24), List.all_append, w_t2, ← List.take_append_drop 24 ((words1.drop 24).drop 24), List.all_append, w_t3, ← List.take_append_drop 24 (((words1.drop 24).drop 24).drop 24), List.all_append, w_t4, ← List.take_append_drop 24 ((((words1.drop 24).drop 24).drop 24).drop 24), List.all_append, w_t5, ← List.take_append_drop 24 (((((words1.drop 24).drop 24).drop 24).drop 24).drop 24), List.all_append, w_t6, ← List.take_append_drop 24 ((((((words1.drop 24).drop 24).drop 24).drop 24).drop 24).drop 24), List.all_append, w_t7, ← List.take_append_drop 24 (((((((words1.drop 24).drop 24).drop 24).drop 24).drop 24).drop 24).drop 24), List.all_append, w_t8, w_t9]
  rfl
set_option maxRecDepth 65536 in
theorem w_rest : rest_1_c.before args0 about1 = true := by decide +kernel
set_option maxRecDepth 65536 in
theorem w_case : (Jvm.Cond.and given_1 narrow_1).before args0 about1 = true := by decide +kernel
set_option maxRecDepth 65536 in
theorem w_consts : constsHeld consts_1 about1 := Jvm.Lit.constsHeldB_iff.mp (by decide +kernel)
theorem w_applies : (headSpec (Jvm.Cond.code x code maxLocals ret :: tables_1) room_1).applies x e0.platform about1 = true :=
  (Spec.applies_iff w_frames).mpr ⟨w_running, w_runnable, w_alone, w_named, w_hears, w_ripe, w_room, w_tables⟩
theorem atStart : AtStart classFile x code maxLocals ret World_1 tables_1 room_1 Calls_1 rest_1 Pre_1 launch0 p0 e0 about1 theMethod args0 below0 :=
  ⟨lists_1, trivial, launch0.admits_env _ _ _, launch0.least_env, fairChoices_fair.cas, fairChoices_fair.clock, w_frames, w_args, w_heap, w_applies, ⟨w_consts, trivial⟩, w_rest, w_case⟩
end start1
theorem witness_1 : WitnessClaimed_1 := ⟨start1.p0, start1.e0, start1.about1, start1.theMethod, start1.args0, start1.below0, start1.atStart⟩
end Jvm.Pilot.@@N@@
