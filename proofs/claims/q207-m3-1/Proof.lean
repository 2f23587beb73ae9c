import JvmDerived
import JvmDerived.Pilot.@@N@@Statement
import JvmDerived.Pilot.@@N@@Code
set_option linter.unusedVariables false
set_option linter.unusedSimpArgs false
namespace Jvm.Pilot.@@N@@
open Jvm Jvm.ClassFile Sem Op Lib Jvm.Free Jvm.Stand Jvm.LawKit Jvm.RoadKit Bundle Jvm.Pilot.@@N@@.Jvm.D
set_option maxRecDepth 65536
set_option maxHeartbeats 40000000
abbrev o21 (a0 : Array Value) (Z : State) : Prop := ∀ d ∈ tables_1, d.before a0 Z = true
theorem o0 {a0 : Array Value} {Z : State} (hw : ∀ d ∈ tables_1, d.before a0 Z = true) (i : Nat) {d : Jvm.Cond} (h : tables_1[i]? = some d) : d.before a0 Z = true := hw _ (List.mem_of_getElem? h)
section Own
variable {p : Program} {l : Launch} {e : Env} {R : Room} {s : State} {m : MethodId} {args : Array Value} {below : List Frame} {meth : Method} {c : Code} {T : State} {locs : List Loc} {cells slots : Nat} {Z : State} {a0 : Array Value} {h : Heap}
def o17 (p : Program) (e : Env) (below : List Frame) (P : Outcome → State → Prop) (U : State) : Prop := ∃ s₂ o, Steps p.tables e below U s₂ ∧ s₂.status = .running ∧ Ended s₂ below o ∧ P o s₂
theorem o2 {P : Outcome → State → Prop} {U V : State} (k : ∀ t, Steps p.tables e below U t → Steps p.tables e below V t) (h : o17 p e below P U) : o17 p e below P V := by
  obtain ⟨a, b, c, d⟩ := h; exact ⟨a, b, k _ c, d⟩
def o796 (s : State) (Q : Option Value → Heap → List Loc → Prop) (rc rs : Nat) (o : Outcome) (U : State) : Prop := ∃ v L, o = .returned v ∧ Q v U.heap L ∧ FrameEnd s o U L rc rs
theorem o837 (X : Stand p l e R s m args below meth c T locs cells slots) {Q : Option Value → Heap → List Loc → Prop} {rc rs : Nat} {g : JFrame} {v : Option Value} (hlk : meth.locks = false) (hv : meth.sig.returnType = none → v = none) (hq : Q v T.heap locs) (hc : cells ≤ rc) (hl : slots ≤ rs)
    (k : ∀ fs, (∀ (f : JFrame) (acts : List Action), f.method = m → f.locked = none → f.entered = [] → (doReturn e (T.setTop f) acts v).1 = T.setFrames fs) → Steps p.tables e below (T.setTop g) (T.setFrames fs)) : o17 p e below (o796 s Q rc rs) (T.setTop g) := by
  obtain ⟨fs, hr, hrun, hended, hW, hsame⟩ := X.leave (v := v) hv hlk
  exact ⟨_, _, k fs hr, hrun, hended, _, _, rfl, hq, ⟨_, rfl⟩, hW, hsame.mono hc hl⟩
theorem o48 (X : Stand p l e R s m args below meth c T locs cells slots) (hx : p.tables.exec = Jvm.exec) {Q : Option Value → Heap → List Loc → Prop} {rc rs pc : Nat} {Ls : Array Slot} (hlk : meth.locks = false) (hret : meth.sig.returnType = none) (hd : decode c.code pc = .ok (.return_, 1)) (hc : cells ≤ rc) (hl : slots ≤ rs) (hq : Q none T.heap locs) : o17 p e below (o796 s Q rc rs) (T.setTop (mkF m pc Ls [])) :=
  o837 X hlk (fun _ => rfl) hq hc hl fun _ hr => X.returnOut hx hret hd hr
theorem o20 (X : Stand p l e R s m args below meth c T locs cells slots) (hx : p.tables.exec = Jvm.exec) {Q : Option Value → Heap → List Loc → Prop} {rc rs pc : Nat} {Ls : Array Slot} {w : Value} {t : FieldType} {i : Instr} {rest : List Value} (hlk : meth.locks = false) (hret : meth.sig.returnType = some t) (hn : narrow t w = w)
    (hi : (i = .ireturn ∧ (t = .int ∨ t = .boolean ∨ t = .byte ∨ t = .char ∨ t = .short) ∧ ∃ z, w = .int z) ∨ (i = .lreturn ∧ t = .long ∧ ∃ z, w = .long z) ∨ (i = .dreturn ∧ t = .double ∧ ∃ z, w = .double z) ∨ (i = .freturn ∧ t = .float ∧ ∃ z, w = .float z) ∨ (i = .areturn ∧ t.isReference = true ∧ w.isRef = true))
    (hd : decode c.code pc = .ok (i, 1)) (hc : cells ≤ rc) (hl : slots ≤ rs) (hq : Q (some w) T.heap locs) : o17 p e below (o796 s Q rc rs) (T.setTop (mkF m pc Ls (w :: rest))) :=
  o837 X hlk (fun q => by rw [hret] at q; cases q) hq hc hl fun _ hr => retOut X hx hret hn hi hd hr
theorem o81 {y : MethodName} {bytes : ByteArray} {maxL : Nat} {ret : Option FieldType} {rm : Room} {ws : List Cond} {as' : Array Value} {Q : Option Value → Heap → List Loc → Prop} (hn : plainFor y = true)
    (b : ∀ (p : Program) (e : Env) (s : State) (m : MethodId) (below : List Frame) (meth : Method) (c : Code) (s₁ : State), p.tables.exec = Jvm.exec → c.code = bytes → c.maxLocals = maxL → s.vm.findClass y.cls = some m.cls → meth.name = y.name → meth.sig.returnType = ret → meth.locks = false → Z.Warmed39 s.vm → s₁.heap = h → Stand p l e rm s m as' below meth c s₁ [] 0 0 →
      o17 p e below (o796 s Q rm.cells rm.slots) (s₁.setTop (entryFrame m as' maxL))) :
    MetFree l y (head1 (Cond.code y bytes maxL ret :: ws) rm) (fun a U => a = as' ∧ Z.Warmed39 U.vm ∧ U.heap = h) (fun _ _ _ _ _ => True) (fun _ U o U' => ∃ v L, o = .returned v ∧ Q v U'.heap L ∧ FrameEnd U o U' L rm.cells rm.slots) := by
  refine MetFree.of_bodySF hn hisR ?_
  intro p e s m args below meth c s₁ Bd hml0 hP hK
  obtain ⟨rfl, hZ, hh⟩ := hP
  exact b p e s m below meth c s₁ Bd.exec Bd.bytes hml0 (findClass_of_methodNamed Bd.named) (name_of_methodNamed Bd.named Bd.method).1 Bd.returns Bd.notSynchronized hZ (by rw [← hh, Bd.state]; rfl) (Stand.of_body Bd)
abbrev o16 (l : Launch) (y : MethodName) (bytes : ByteArray) (maxL : Nat) (ret : Option FieldType) (ws : List Cond) (rm : Room) (Z : State) (h : Heap) (as' : Array Value) (Q : Option Value → Heap → List Loc → Prop) : Prop :=
  MetFree l y (head1 (Cond.code y bytes maxL ret :: ws) rm) (fun a U => a = as' ∧ Z.Warmed39 U.vm ∧ U.heap = h) (fun _ _ _ _ _ => True) (fun _ U o U' => ∃ v L, o = .returned v ∧ Q v U'.heap L ∧ FrameEnd U o U' L rm.cells rm.slots)
abbrev o412 (p : Program) (l : Launch) (e : Env) (R : Room) (s : State) (m : MethodId) (args : Array Value) (below : List Frame) (meth : Method) (c : Code) (T : State) (locs : List Loc) (cells slots : Nat) (g : JFrame) (len : Nat) (rest : List Value) (Q : Option Value → Heap → List Loc → Prop) : Prop :=
  ∃ (T' : State) (v : Option Value) (L : List Loc), Stand p l e R s m args below meth c T' (locs ++ L) cells slots ∧ Q v T'.heap L ∧ ∀ t, Steps p.tables e below (T'.setTop { g with pc := g.pc + len, stack := v.toList ++ rest }) t → Steps p.tables e below (T.setTop g) t
theorem o25 (X : Stand p l e R s m args below meth c T locs cells slots) (hx : p.tables.exec = Jvm.exec) (hZ : Z.Warmed39 s.vm) {own : String} {index : Nat} {y : MethodName} {bytes : ByteArray} {maxL : Nat} {ret : Option FieldType} {rm : Room} {as' : Array Value} {Q : Option Value → Heap → List Loc → Prop}
    (hown : s.vm.findClass own = some m.cls) (w1 : (Cond.methodLink own index y).before a0 Z = true) (w2 : (Cond.static y).before a0 Z = true) (w3 : (Cond.initialized y.cls).before a0 Z = true) (w4 : (Cond.code y bytes maxL ret).before a0 Z = true)
    (hy : y.cls ≠ "java/lang/invoke/MethodHandle" ∧ y.cls ≠ "java/lang/invoke/VarHandle") (hM : o16 l y bytes maxL ret [] rm Z h as' Q) (eT : T.heap = h) {ps : List FieldType} {r : Option FieldType} (hd : parseMethodDescriptor y.desc = some ⟨ps, r⟩) {argsL rest : List Value} (hl : argsL.length = ps.length) (ha : argsL.toArray = as')
    {g : JFrame} (hg : g.method = m) (hsize : g.locals.size = c.maxLocals) (hstack : g.stack = argsL.reverse ++ rest) (hdg : decode c.code g.pc = .ok (.invokestatic index, 3)) {W : Nat} (hW : 2 * g.monitorRoom + (rest.map fun v => v.category).sum = W) (h1 : rm.frames + 1 ≤ R.frames) (h2 : W + (maxL + 11) + rm.locals ≤ R.locals) (h3 : cells + rm.cells ≤ R.cells) (h4 : slots + rm.slots ≤ R.slots) :
    o412 p l e R s m args below meth c T locs (cells + rm.cells) (slots + rm.slots) g 3 rest Q := by
  obtain ⟨v, _, ⟨T', L', k', n'⟩, -, X', ⟨Lc, hQ, l1, y1, z1⟩, st⟩ := Jvm.LawKit.callS X hx (y := y) hown (mvT hZ w1) (mvT hZ w2) (mvT hZ w3) (mvT hZ w4) hy (backOf (W := W) hM hZ w4 w3 h1 h2) (g := g) hg hsize (argsL := argsL) (rest := rest) (lenOf hd hl) hstack (Nat.le_of_eq hW) hdg (fun _ _ => ⟨ha, eT, h3, h4⟩)
  dsimp only [Pt.U, Pt.locs, Pt.cells, Pt.slots] at X' l1 y1 z1 st hQ
  subst l1 y1 z1
  exact ⟨T', v, Lc, X', hQ, st⟩
theorem o50 (X : Stand p l e R s m args below meth c T locs cells slots) (hx : p.tables.exec = Jvm.exec) (hZ : Z.Warmed39 s.vm) {own : String} {index : Nat} {y : MethodName} {bytes : ByteArray} {maxL : Nat} {rm : Room} {as' : Array Value} {Q : Option Value → Heap → List Loc → Prop} (hy1 : y.name = "<init>")
    (hown : s.vm.findClass own = some m.cls) (w1 : (Cond.methodLink own index y).before a0 Z = true) (w2 : (Cond.instanceMethod y).before a0 Z = true) (w3 : (Cond.initialized y.cls).before a0 Z = true) (w4 : (Cond.code y bytes maxL none).before a0 Z = true)
    (hy : y.cls ≠ "java/lang/invoke/MethodHandle" ∧ y.cls ≠ "java/lang/invoke/VarHandle") (hM : o16 l y bytes maxL none [] rm Z h as' Q) (eT : T.heap = h) {ps : List FieldType} {r : Option FieldType} (hd : parseMethodDescriptor y.desc = some ⟨ps, r⟩) {a : Addr} {argsL rest : List Value} (hl : argsL.length = ps.length) (ha : (.ref a :: argsL).toArray = as')
    {g : JFrame} (hg : g.method = m) (hsize : g.locals.size = c.maxLocals) (hstack : g.stack = argsL.reverse ++ .ref a :: rest) (hdg : decode c.code g.pc = .ok (.invokespecial index, 3)) {W : Nat} (hW : 2 * g.monitorRoom + (rest.map fun v => v.category).sum = W) (h1 : rm.frames + 1 ≤ R.frames) (h2 : W + (maxL + 11) + rm.locals ≤ R.locals) (h3 : cells + rm.cells ≤ R.cells) (h4 : slots + rm.slots ≤ R.slots) :
    o412 p l e R s m args below meth c T locs (cells + rm.cells) (slots + rm.slots) g 3 rest Q := by
  obtain ⟨v, _, ⟨T', L', k', n'⟩, -, X', ⟨Lc, hQ, l1, y1, z1⟩, st⟩ := X.specialBack hx (y := y) hy1 hown (mvT hZ w1) (mvT hZ w2) (mvT hZ w4) hy (backOf (W := W) hM hZ w4 w3 h1 h2) (g := g) hg hsize (Steps.refl _) (a := a) (argsL := argsL) (rest := rest) (lenOf hd hl) hstack (Nat.le_of_eq hW) hdg (fun _ _ => ⟨ha, eT, h3, h4⟩)
  dsimp only [Pt.U, Pt.locs, Pt.cells, Pt.slots] at X' l1 y1 z1 st hQ
  subst l1 y1 z1
  exact ⟨T', v, Lc, X', hQ, fun _ k => st.trans k⟩
theorem o26 (X : Stand p l e R s m args below meth c T locs cells slots) (hx : p.tables.exec = Jvm.exec) (hZ : Z.Warmed39 s.vm) {own C : String} {index : Nat} {y z : MethodName} {bytes : ByteArray} {maxL : Nat} {ret : Option FieldType} {rm : Room} {as' : Array Value} {Q : Option Value → Heap → List Loc → Prop}
    (hown : s.vm.findClass own = some m.cls) (w1 : (Cond.methodLink own index y).before a0 Z = true) (w2 : (Cond.declares y).before a0 Z = true) (hnf : NotFace s y) (w5 : (Cond.selects C y z).before a0 Z = true) (w6 : (Cond.instanceMethod z).before a0 Z = true) (w3 : (Cond.initialized z.cls).before a0 Z = true) (w4 : (Cond.code z bytes maxL ret).before a0 Z = true)
    (hy : y.cls ≠ "java/lang/invoke/MethodHandle" ∧ y.cls ≠ "java/lang/invoke/VarHandle") (hM : o16 l z bytes maxL ret [] rm Z h as' Q) (eT : T.heap = h) {a : Addr} (E : Exa Z h a C) {ps : List FieldType} {r : Option FieldType} (hd : parseMethodDescriptor y.desc = some ⟨ps, r⟩) {argsL rest : List Value} (hl : argsL.length = ps.length) (ha : (.ref a :: argsL).toArray = as')
    {g : JFrame} (hg : g.method = m) (hsize : g.locals.size = c.maxLocals) (hstack : g.stack = argsL.reverse ++ .ref a :: rest) (hdg : decode c.code g.pc = .ok (.invokevirtual index, 3)) {W : Nat} (hW : 2 * g.monitorRoom + (rest.map fun v => v.category).sum = W) (h1 : rm.frames + 1 ≤ R.frames) (h2 : W + (maxL + 11) + rm.locals ≤ R.locals) (h3 : cells + rm.cells ≤ R.cells) (h4 : slots + rm.slots ≤ R.slots) :
    o412 p l e R s m args below meth c T locs (cells + rm.cells) (slots + rm.slots) g 3 rest Q := by
  obtain ⟨cq, kq, qa, qb, qc⟩ := isOf hZ eT E
  obtain ⟨v, _, ⟨T', L', k', n'⟩, -, X', ⟨Lc, hQ, l1, y1, z1⟩, st⟩ := X.virtualBack hx (y := y) (z := z) hown (mvT hZ w1) (mvT hZ w2) hnf (mvT hZ w5) (mvT hZ w6) hy (backOf (W := W) hM hZ w4 w3 h1 h2) qa qc (g := g) hg hsize (Steps.refl _) (argsL := argsL) (rest := rest) (lenOf hd hl) hstack (Nat.le_of_eq hW) hdg (fun _ _ => ⟨ha, eT, h3, h4⟩)
  dsimp only [Pt.U, Pt.locs, Pt.cells, Pt.slots] at X' l1 y1 z1 st hQ
  subst l1 y1 z1
  exact ⟨T', v, Lc, X', hQ, fun _ k => st.trans k⟩
theorem o994 (X : Stand p l e R s m args below meth c T locs cells slots) (hx : p.tables.exec = Jvm.exec) (hZ : Z.Warmed39 s.vm) {own C owner : String} {index : Nat} {y z : MethodName} {bytes : ByteArray} {maxL : Nat} {ret : Option FieldType} {rm : Room} {as' : Array Value} {Q : Option Value → Heap → List Loc → Prop}
    (hown : s.vm.findClass own = some m.cls) (w1 : (Cond.methodLink own index y).before a0 Z = true) (w7 : (Cond.sameMethod y.cls owner y.name y.desc).before a0 Z = true) (w2 : (Cond.declares ⟨owner, y.name, y.desc⟩).before a0 Z = true) (w5 : (Cond.selects C y z).before a0 Z = true) (w6 : (Cond.instanceMethod z).before a0 Z = true) (w3 : (Cond.initialized z.cls).before a0 Z = true) (w4 : (Cond.code z bytes maxL ret).before a0 Z = true)
    (hy : owner ≠ "java/lang/invoke/MethodHandle" ∧ owner ≠ "java/lang/invoke/VarHandle") (hM : o16 l z bytes maxL ret [] rm Z h as' Q) (eT : T.heap = h) {a : Addr} (E : Exa Z h a C) {ps : List FieldType} {r : Option FieldType} (hd : parseMethodDescriptor y.desc = some ⟨ps, r⟩) {argsL rest : List Value} (hl : argsL.length = ps.length) (ha : (.ref a :: argsL).toArray = as')
    {g : JFrame} (hg : g.method = m) (hsize : g.locals.size = c.maxLocals) (hstack : g.stack = argsL.reverse ++ .ref a :: rest) (hdg : decode c.code g.pc = .ok (.invokevirtual index, 3)) {W : Nat} (hW : 2 * g.monitorRoom + (rest.map fun v => v.category).sum = W) (h1 : rm.frames + 1 ≤ R.frames) (h2 : W + (maxL + 11) + rm.locals ≤ R.locals) (h3 : cells + rm.cells ≤ R.cells) (h4 : slots + rm.slots ≤ R.slots) :
    o412 p l e R s m args below meth c T locs (cells + rm.cells) (slots + rm.slots) g 3 rest Q := by
  obtain ⟨cq, kq, qa, qb, qc⟩ := isOf hZ eT E
  obtain ⟨v, _, ⟨T', L', k', n'⟩, -, X', ⟨Lc, hQ, l1, y1, z1⟩, st⟩ := X.virtualBackUp hx (x := y) (y := z) hown (mvT hZ w1) (mvT hZ w7) (mvT hZ w2) hy (mvT hZ w5) (mvT hZ w6) (backOf (W := W) hM hZ w4 w3 h1 h2) qa qc (g := g) hg hsize (Steps.refl _) (argsL := argsL) (rest := rest) (lenOf hd hl) hstack (Nat.le_of_eq hW) hdg (fun _ _ => ⟨ha, eT, h3, h4⟩)
  dsimp only [Pt.U, Pt.locs, Pt.cells, Pt.slots] at X' l1 y1 z1 st hQ
  subst l1 y1 z1
  exact ⟨T', v, Lc, X', hQ, fun _ k => st.trans k⟩
theorem o29 (X : Stand p l e R s m args below meth c T locs cells slots) (hx : p.tables.exec = Jvm.exec) (hZ : Z.Warmed39 s.vm) {own C : String} {index count : Nat} {y z : MethodName} {bytes : ByteArray} {maxL : Nat} {ret : Option FieldType} {rm : Room} {as' : Array Value} {Q : Option Value → Heap → List Loc → Prop}
    (hown : s.vm.findClass own = some m.cls) (w1 : (Cond.methodLink own index y).before a0 Z = true) (w2 : (Cond.declares y).before a0 Z = true) (w7 : (Cond.interfaceMethod y.cls y.cls y.name y.desc).before args s = true) (w5 : (Cond.selects C y z).before a0 Z = true) (w6 : (Cond.instanceMethod z).before a0 Z = true) (w8 : (Cond.publicMethod z).before a0 Z = true) (w9 : (Cond.unhidden C y.name y.desc).before a0 Z = true) (w10 : (Cond.castable C y.cls).before a0 Z = true) (w3 : (Cond.initialized z.cls).before a0 Z = true) (w4 : (Cond.code z bytes maxL ret).before a0 Z = true)
    (hy : y.cls ≠ "java/lang/invoke/MethodHandle" ∧ y.cls ≠ "java/lang/invoke/VarHandle") (hM : o16 l z bytes maxL ret [] rm Z h as' Q) (eT : T.heap = h) {a : Addr} (E : Exa Z h a C) {ps : List FieldType} {r : Option FieldType} (hd : parseMethodDescriptor y.desc = some ⟨ps, r⟩) {argsL rest : List Value} (hl : argsL.length = ps.length) (ha : (.ref a :: argsL).toArray = as')
    {g : JFrame} (hg : g.method = m) (hsize : g.locals.size = c.maxLocals) (hstack : g.stack = argsL.reverse ++ .ref a :: rest) (hdg : decode c.code g.pc = .ok (.invokeinterface index count, 5)) {W : Nat} (hW : 2 * g.monitorRoom + (rest.map fun v => v.category).sum = W) (h1 : rm.frames + 1 ≤ R.frames) (h2 : W + (maxL + 11) + rm.locals ≤ R.locals) (h3 : cells + rm.cells ≤ R.cells) (h4 : slots + rm.slots ≤ R.slots) :
    o412 p l e R s m args below meth c T locs (cells + rm.cells) (slots + rm.slots) g 5 rest Q := by
  obtain ⟨cq, kq, qa, qb, qc⟩ := isOf hZ eT E
  obtain ⟨v, _, ⟨T', L', k', n'⟩, -, X', ⟨Lc, hQ, l1, y1, z1⟩, st⟩ := X.interfaceBack hx (xi := y) (y := z) hown (mvT hZ w1) (mvT hZ w2) w7 (mvT hZ w5) (mvT hZ w6) (mvT hZ w8) (mvT hZ w9) (mvT hZ w10) hy (backOf (W := W) hM hZ w4 w3 h1 h2) qa qb qc (g := g) hg hsize (Steps.refl _) (argsL := argsL) (rest := rest) (lenOf hd hl) hstack (Nat.le_of_eq hW) hdg (fun _ _ => ⟨ha, eT, h3, h4⟩)
  dsimp only [Pt.U, Pt.locs, Pt.cells, Pt.slots] at X' l1 y1 z1 st hQ
  subst l1 y1 z1
  exact ⟨T', v, Lc, X', hQ, fun _ k => st.trans k⟩
theorem o996 (hZ : Z.Warmed39 s.vm) {y : MethodName} {n : Nat} (w1 : (Cond.instantiable y.cls n).before a0 Z = true) (w2 : (Cond.privateMethod y).before a0 Z = true) (w3 : (Cond.instanceMethod y).before a0 Z = true) (hy : y.cls ≠ "java/lang/invoke/MethodHandle" ∧ y.cls ≠ "java/lang/invoke/VarHandle") : (Cond.selects y.cls y y).before args s = true := by
  obtain ⟨c, k, h1, h2, -, h3, -⟩ := Cond.instantiable_spec (mvT hZ w1 (args := args))
  exact Jvm.Stand.selects_self_of_private h1 h2 (by simp at h3; exact h3.1) (Cond.privateMethod_at (mvP hZ w2 (args := args))) (mvT hZ w3) hy
theorem o62 (X : Stand p l e R s m args below meth c T locs cells slots) (hx : p.tables.exec = Jvm.exec) (hZ : Z.Warmed39 s.vm) {own : String} {index : Nat} {y : MethodName} {bytes : ByteArray} {maxL : Nat} {ret : Option FieldType} {rm : Room} {as' : Array Value} {Q : Option Value → Heap → List Loc → Prop}
    (hown : s.vm.findClass own = some m.cls) (w1 : (Cond.methodLink own index y).before a0 Z = true) (w6 : (Cond.instanceMethod y).before a0 Z = true) (w5 : (Cond.selects y.cls y y).before args s = true) (w7 : (Cond.privateMethod y).before a0 Z = true) (w3 : (Cond.initialized y.cls).before a0 Z = true) (w4 : (Cond.code y bytes maxL ret).before a0 Z = true)
    (hy : y.cls ≠ "java/lang/invoke/MethodHandle" ∧ y.cls ≠ "java/lang/invoke/VarHandle") (hM : o16 l y bytes maxL ret [] rm Z h as' Q) (eT : T.heap = h) {a : Addr} {C : String} (E : Exa Z h a C) {ps : List FieldType} {r : Option FieldType} (hd : parseMethodDescriptor y.desc = some ⟨ps, r⟩) {argsL rest : List Value} (hl : argsL.length = ps.length) (ha : (.ref a :: argsL).toArray = as')
    {g : JFrame} (hg : g.method = m) (hsize : g.locals.size = c.maxLocals) (hstack : g.stack = argsL.reverse ++ .ref a :: rest) (hdg : decode c.code g.pc = .ok (.invokevirtual index, 3)) {W : Nat} (hW : 2 * g.monitorRoom + (rest.map fun v => v.category).sum = W) (h1 : rm.frames + 1 ≤ R.frames) (h2 : W + (maxL + 11) + rm.locals ≤ R.locals) (h3 : cells + rm.cells ≤ R.cells) (h4 : slots + rm.slots ≤ R.slots) :
    o412 p l e R s m args below meth c T locs (cells + rm.cells) (slots + rm.slots) g 3 rest Q := by
  obtain ⟨cq, q, q'⟩ := E.cell
  obtain ⟨v, _, ⟨T', L', k', n'⟩, -, X', ⟨Lc, hQ, l1, y1, z1⟩, st⟩ := X.privateBack hx (y := y) hown (mvT hZ w1) (mvT hZ w6) w5 (Cond.privateMethod_at (mvP hZ w7 (args := #[]))) (mvT hZ w4) hy (backOf (W := W) hM hZ w4 w3 h1 h2) (g := g) hg hsize (Steps.refl _) (a := a) (by rw [eT]; exact q) q' (argsL := argsL) (rest := rest) (lenOf hd hl) hstack (Nat.le_of_eq hW) hdg (fun _ _ => ⟨ha, eT, h3, h4⟩)
  dsimp only [Pt.U, Pt.locs, Pt.cells, Pt.slots] at X' l1 y1 z1 st hQ
  subst l1 y1 z1
  exact ⟨T', v, Lc, X', hQ, fun _ k => st.trans k⟩
theorem o52 {n0 : Nat} {Z : State} (O : Old Z n0 h) : n0 ≤ h.size := O.1 ▸ O.2.1
theorem o1011 {x : Bool} (h : x = true) : x = true := h
end Own
section Own2
variable {args : Array Value} {Z : State} {a : Addr} {O f d : String} {k : Int32} {t : Term} {v : Value} {ty : FieldType}
theorem o997 (ht : t.eval args Z none [] Z = some (.ref a)) (h : (Cond.eq (.field t O f d) (.int k)).value args Z none Z [] = some true) : Fld Z Z.heap a O f d (.int k) := by
  obtain ⟨x, y, ea, eb, -, k2⟩ := cmp_v (Or.inl h)
  obtain rfl : y = .int k := (Option.some.inj (eb.symm.trans (Term.int_eval k)))
  obtain ⟨z, rfl⟩ := k2
  obtain rfl : z = k := by simpa [Cond.value, ea, eb] using h
  rw [fld_at ht] at ea
  exact Fld.start ea
theorem o893 {c : Cell} (ht : t.eval args Z none [] Z = some (.ref a)) (A : Arr Z Z.heap a c ty) (h : (Cond.eq (.length t) (.int k)).value args Z none Z [] = some true) : c.slots.size < 2 ^ 31 ∧ c.slots.size.toInt32 = k := by
  obtain ⟨x, y, ea, eb, -, k2⟩ := cmp_v (Or.inl h)
  obtain rfl : y = .int k := (Option.some.inj (eb.symm.trans (Term.int_eval k)))
  obtain ⟨z, rfl⟩ := k2
  obtain rfl : z = k := by simpa [Cond.value, ea, eb] using h
  have hc := Arr.fin (State.Warmed39.refl Z).alike A
  simp only [Term.eval, ht, Option.bind_eq_bind, Option.bind_some, hc] at ea
  split at ea
  · rename_i hl
    exact ⟨by simpa using hl, by simpa using ea⟩
  · cases ea
theorem o998 {n : Nat} {k : Int32} (h : n < 2 ^ 31) (e : n.toInt32 = k) : n = k.toNatClampNeg := by
  subst e
  have := len_toInt h
  simp [Int32.toNatClampNeg, this]
theorem o999 {c : Cell} {i : Int32} (ht : t.eval args Z none [] Z = some (.ref a)) (A : Arr Z Z.heap a c ty) (h : (Cond.eq (.elem t (.int i)) (.int k)).value args Z none Z [] = some true) : c.slots[i.toNatClampNeg]? = some (.int k) := by
  obtain ⟨x, y, ea, eb, -, k2⟩ := cmp_v (Or.inl h)
  obtain rfl : y = .int k := (Option.some.inj (eb.symm.trans (Term.int_eval k)))
  obtain ⟨z, rfl⟩ := k2
  obtain rfl : z = k := by simpa [Cond.value, ea, eb] using h
  exact (elem_in ea ht (Term.int_eval i) A.1).2
theorem o643 (x : Int32) : nar .byte x.toInt8.toInt32 = x.toInt8.toInt32 := by simp [nar]
theorem o1000 (h : v.isRef = true) : narrow ty v = v := by cases v <;> first | rfl | (cases ty <;> rfl) | simp [Value.isRef] at h
theorem o1001 (h : v.isRef = true) (ht : ty.isReference = true := by rfl) : fits ty v = true := by cases v <;> cases ty <;> simp_all [Value.isRef, fits, FieldType.isReference]
theorem o832 (x : Int32) : narrow .char (.int x.toUInt32.toUInt16.toUInt32.toInt32) = .int x.toUInt32.toUInt16.toUInt32.toInt32 := by
  have : x.toUInt32.toUInt16.toUInt32.toInt32.toUInt32.toUInt16.toUInt32.toInt32 = x.toUInt32.toUInt16.toUInt32.toInt32 := by
    apply Int32.toBitVec_inj.1
    apply BitVec.eq_of_toNat_eq
    simp
  show Value.int _ = _
  exact congrArg Value.int this
theorem o1002 (x : Int32) : narrow .byte (.int x.toInt8.toInt32) = .int x.toInt8.toInt32 := by
  have : x.toInt8.toInt32.toInt8.toInt32 = x.toInt8.toInt32 := by simp
  show Value.int _ = _
  exact congrArg Value.int this
end Own2
def o5 := @XS.iconst
def o30 := @XS.istore
def o10 := @XS.iload
def o28 := @XS.icmpNo
def o53 := @XT.ii_ge_f
def o1 := @XS.aloadN
def o4 := @XS.iloadN
def o80 := @XS.sipush
def o23 := @XS.icmpYes
def o82 := @XT.ii_le_t
def o51 := @XS.iinc
def o35 := @XS.goto
def o31 := @XS.astoreN
def o38 := @XS.isub
def o43 := @XS.ifYes
def o138 := @XT.i0_ne_t
def o34 := @XS.ifNo
def o33 := @XT.i0_eq_f
def o37 := @XS.astore
def o12 := @XS.aload
def o49 := @XS.aconstNull
def o55 := @XS.pop
def o40 := @XS.dup
def o60 := @XS.ifnonnullYes
def o45 := @XS.istoreN
def o36 := @XS.iadd
def o83 := @XT.ii_ne_f
def o139 := @XT.ii_ne_t
def o97 := @XT.acmpNo
def o84 := @XT.aa_ne_f
def o140 := @XT.i0_ge_t
section OwnK
variable {p : Program} {e : Env} {below : List Frame} {P : Outcome → State → Prop} {V : State} {α β γ : Type}
theorem o19 {A B : α → Prop} {U : α → State} (h : ∃ x, A x ∧ B x ∧ ∀ t, Steps p.tables e below (U x) t → Steps p.tables e below V t) (k : ∀ x, A x → B x → o17 p e below P (U x)) : o17 p e below P V := by
  obtain ⟨x, a, b, s⟩ := h; exact o2 s (k x a b)
theorem o32 {A B C : α → β → Prop} {U : α → β → State} (h : ∃ x y, A x y ∧ B x y ∧ C x y ∧ ∀ t, Steps p.tables e below (U x y) t → Steps p.tables e below V t) (k : ∀ x y, A x y → B x y → C x y → o17 p e below P (U x y)) : o17 p e below P V := by
  obtain ⟨x, y, a, b, c, s⟩ := h; exact o2 s (k x y a b c)
theorem o1012 {A B C D E F : α → β → Prop} {U : α → β → State} (h : ∃ x y, A x y ∧ B x y ∧ C x y ∧ D x y ∧ E x y ∧ F x y ∧ ∀ t, Steps p.tables e below (U x y) t → Steps p.tables e below V t) (k : ∀ x y, A x y → B x y → C x y → D x y → E x y → F x y → o17 p e below P (U x y)) : o17 p e below P V := by
  obtain ⟨x, y, a, b, c, d, e, f, s⟩ := h; exact o2 s (k x y a b c d e f)
theorem o1013 {A B C D E : α → β → γ → Prop} {U : α → β → γ → State} (h : ∃ x y z, A x y z ∧ B x y z ∧ C x y z ∧ D x y z ∧ E x y z ∧ ∀ t, Steps p.tables e below (U x y z) t → Steps p.tables e below V t) (k : ∀ x y z, A x y z → B x y z → C x y z → D x y z → E x y z → o17 p e below P (U x y z)) : o17 p e below P V := by
  obtain ⟨x, y, z, a, b, c, d, f, s⟩ := h; exact o2 s (k x y z a b c d f)
theorem o1014 {A B C D E F : α → β → γ → Prop} {U : α → β → γ → State} (h : ∃ x y z, A x y z ∧ B x y z ∧ C x y z ∧ D x y z ∧ E x y z ∧ F x y z ∧ ∀ t, Steps p.tables e below (U x y z) t → Steps p.tables e below V t) (k : ∀ x y z, A x y z → B x y z → C x y z → D x y z → E x y z → F x y z → o17 p e below P (U x y z)) : o17 p e below P V := by
  obtain ⟨x, y, z, a, b, c, d, f, g, s⟩ := h; exact o2 s (k x y z a b c d f g)
end OwnK
section OwnK2
variable {p : Program} {l : Launch} {e : Env} {R : Room} {s : State} {m : MethodId} {args : Array Value} {below : List Frame} {meth : Method} {c : Code} {T : State} {locs : List Loc} {cells slots : Nat} {P : Outcome → State → Prop} {g : JFrame} {len : Nat} {rest : List Value} {Q : Option Value → Heap → List Loc → Prop}
theorem o11 (h : o412 p l e R s m args below meth c T locs cells slots g len rest Q) (k : ∀ (T' : State) (v : Option Value) (L : List Loc), Stand p l e R s m args below meth c T' (locs ++ L) cells slots → Q v T'.heap L → o17 p e below P (T'.setTop { g with pc := g.pc + len, stack := v.toList ++ rest })) : o17 p e below P (T.setTop g) := by
  obtain ⟨x, y, z, a, b, s⟩ := h; exact o2 s (k x y z a b)
end OwnK2
section OwnK3
variable {l : Launch} {Z : State} {h : Heap}
theorem o15 {y : MethodName} {bytes : ByteArray} {maxL : Nat} {ret : Option FieldType} {rm : Room} {ws : List Cond} {as' : Array Value} {Q : Option Value → Heap → List Loc → Prop} (hn : plainFor y = true)
    (b : ∀ (p : Program) (e : Env) (s : State) (m : MethodId) (below : List Frame) (meth : Method) (c : Code) (s₁ : State), p.tables.exec = Jvm.exec → c.code = bytes → c.maxLocals = maxL → s.vm.findClass y.cls = some m.cls → meth.name = y.name → meth.sig.returnType = ret → meth.locks = false → Z.Warmed39 s.vm → s₁.heap = h → Stand p l e rm s m as' below meth c s₁ [] 0 0 →
      o17 p e below (o796 s Q rm.cells rm.slots) (s₁.setTop (entryFrame m as' maxL))) :
 o16 l y bytes maxL ret ws rm Z h as' Q := o81 hn b
end OwnK3
section OwnL
variable {p : Program} {l : Launch} {e : Env} {R : Room} {s : State} {m : MethodId} {args : Array Value} {below : List Frame} {meth : Method} {c : Code} {T : State} {locs : List Loc} {cells slots : Nat} {Z : State} {a0 : Array Value} {h h' : Heap} {a : Addr} {k : ClassId} {n j x : Int32} {vs : List Value} {dv v : Value} {ty : FieldType} {g : JFrame} {rest : List Value} {t : State}
theorem o1015 (X : Stand p l e R s m args below meth c T locs cells slots) (hx : p.tables.exec = Jvm.exec) (hZ : Z.Warmed39 s.vm) (eT : T.heap = h) (F : Arv Z h a k .byte n vs dv) (hj : ¬ j < 0 ∧ j < n) (hv : vs.getD j.toNatClampNeg dv = v) (hg : g.method = m) (hs : g.stack = .int j :: .ref a :: rest) (hd : decode c.code g.pc = .ok (.baload, 1))
    (q : Steps p.tables e below (T.setTop { g with pc := g.pc + 1, stack := v :: rest }) t) : Steps p.tables e below (T.setTop g) t := by
  obtain ⟨cc, Ar, -, S, N, H, -⟩ := F
  exact X.baloadBytes hx (by rw [eT]; exact Ar.1) (State.isArrayOf_alike hZ.alike Ar.2.1) Ar.2.2 (inb_of S hj) (H.at (inb_of S hj) hv) hg hs hd t q
theorem o644 (X : Stand p l e R s m args below meth c T locs cells slots) (hx : p.tables.exec = Jvm.exec) (hZ : Z.Warmed39 s.vm) (eT : T.heap = h) (F : Arv Z h a k .char n vs dv) (hj : ¬ j < 0 ∧ j < n) (hv : vs.getD j.toNatClampNeg dv = v) (hg : g.method = m) (hs : g.stack = .int j :: .ref a :: rest) (hd : decode c.code g.pc = .ok (.caload, 1))
    (q : Steps p.tables e below (T.setTop { g with pc := g.pc + 1, stack := v :: rest }) t) : Steps p.tables e below (T.setTop g) t := by
  obtain ⟨cc, Ar, -, S, N, H, -⟩ := F
  exact X.caload hx (by rw [eT]; exact Ar.1) (State.isArrayOf_alike hZ.alike Ar.2.1) Ar.2.2 (inb_of S hj) (H.at (inb_of S hj) hv) hg hs hd t q
theorem o413 {C : String} (X : Stand p l e R s m args below meth c T locs cells slots) (hx : p.tables.exec = Jvm.exec) (hZ : Z.Warmed39 s.vm) (eT : T.heap = h) (F : Arv Z h a k (.object C) n vs dv) (hj : ¬ j < 0 ∧ j < n) (hv : vs.getD j.toNatClampNeg dv = v) (hg : g.method = m) (hs : g.stack = .int j :: .ref a :: rest) (hd : decode c.code g.pc = .ok (.aaload, 1))
    (q : Steps p.tables e below (T.setTop { g with pc := g.pc + 1, stack := v :: rest }) t) : Steps p.tables e below (T.setTop g) t := by
  obtain ⟨cc, Ar, -, S, N, H, -⟩ := F
  exact X.aaload hx (by rw [eT]; exact Ar.1) (State.isArrayOf_alike hZ.alike Ar.2.1) rfl Ar.2.2 (inb_of S hj) (H.at (inb_of S hj) hv) hg hs hd t q
theorem o65 (X : Stand p l e R s m args below meth c T locs cells slots) (hx : p.tables.exec = Jvm.exec) (hZ : Z.Warmed39 s.vm) (eT : T.heap = h) (F : Arv Z h a k ty n vs dv) (hg : g.method = m) (hs : g.stack = .ref a :: rest) (hd : decode c.code g.pc = .ok (.arraylength, 1))
    (q : Steps p.tables e below (T.setTop { g with pc := g.pc + 1, stack := .int n :: rest }) t) : Steps p.tables e below (T.setTop g) t := by
  obtain ⟨cc, Ar, -, S, N, H, -⟩ := F
  refine X.arraylength hx (by rw [eT]; exact Ar.1) (State.isArrayOf_alike hZ.alike Ar.2.1) hg hs hd t ?_
  rw [len_of S N]; exact q
theorem o645 (X : Stand p l e R s m args below meth c T locs cells slots) (hx : p.tables.exec = Jvm.exec) (hZ : Z.Warmed39 s.vm) (eT : T.heap = h) (F : Arv Z h a k .char n vs dv) (hj : ¬ j < 0 ∧ j < n) (hg : g.method = m) (hs : g.stack = .int x :: .int j :: .ref a :: rest) (hd : decode c.code g.pc = .ok (.castore, 1)) :
    ∃ T' h', Stand p l e R s m args below meth c T' (locs ++ [⟨a, j.toNatClampNeg⟩]) cells slots ∧ T'.heap = h' ∧ Wr h h' a j.toNatClampNeg (.int (nar .char x)) ∧ ∀ t, Steps p.tables e below (T'.setTop { g with pc := g.pc + 1, stack := rest }) t → Steps p.tables e below (T.setTop g) t := by
  obtain ⟨cc, Ar, -, S, -⟩ := F
  exact stC X hx hZ eT Ar (inb_of S hj) hg hs hd
theorem o646 (X : Stand p l e R s m args below meth c T locs cells slots) (hx : p.tables.exec = Jvm.exec) (hZ : Z.Warmed39 s.vm) (eT : T.heap = h) (F : Arv Z h a k .byte n vs dv) (hj : ¬ j < 0 ∧ j < n) (hg : g.method = m) (hs : g.stack = .int x :: .int j :: .ref a :: rest) (hd : decode c.code g.pc = .ok (.bastore, 1)) :
    ∃ T' h', Stand p l e R s m args below meth c T' (locs ++ [⟨a, j.toNatClampNeg⟩]) cells slots ∧ T'.heap = h' ∧ Wr h h' a j.toNatClampNeg (.int (nar .byte x)) ∧ ∀ t, Steps p.tables e below (T'.setTop { g with pc := g.pc + 1, stack := rest }) t → Steps p.tables e below (T.setTop g) t := by
  obtain ⟨cc, Ar, -, S, -⟩ := F
  exact stB X hx hZ eT Ar (inb_of S hj) hg hs hd
theorem o236 (F : Arv Z h a k ty n vs dv) (hv : fits ty v = true) (W : Wr h h' a j.toNatClampNeg v) (i : Nat) (hj : j.toNatClampNeg = i) (hi : i < vs.length) : Arv Z h' a k ty n (vs.set i v) dv := by
  obtain ⟨cc, Ar, q, S, N, H, G⟩ := F
  exact Arv.set Ar q S N H G hv W i hj hi
end OwnL
section OwnM
variable {p : Program} {l : Launch} {e : Env} {R : Room} {s : State} {m : MethodId} {args : Array Value} {below : List Frame} {meth : Method} {c : Code} {T : State} {locs : List Loc} {cells slots : Nat} {Z : State} {a0 : Array Value} {h : Heap} {a : Addr}
theorem o647 {a b : Addr} (h : a ≠ b) : ¬ (Value.ref a = Value.ref b) := fun q => h (by cases q; rfl)
theorem o564 (X : Stand p l e R s m args below meth c T locs cells slots) (hx : p.tables.exec = Jvm.exec) (hZ : Z.Warmed39 s.vm) {own C : String} {index : Nat} (hown : s.vm.findClass own = some m.cls)
    (w1 : (Cond.methodLink own index ⟨"java/lang/Object", "getClass", "()Ljava/lang/Class;"⟩).before a0 Z = true) (w2 : (Cond.declares ⟨"java/lang/Object", "getClass", "()Ljava/lang/Class;"⟩).before a0 Z = true) (w4 : (Cond.selects C ⟨"java/lang/Object", "getClass", "()Ljava/lang/Class;"⟩ ⟨"java/lang/Object", "getClass", "()Ljava/lang/Class;"⟩).before a0 Z = true)
    (w5 : (Cond.instanceMethod ⟨"java/lang/Object", "getClass", "()Ljava/lang/Class;"⟩).before a0 Z = true) (w6 : (Cond.native ⟨"java/lang/Object", "getClass", "()Ljava/lang/Class;"⟩).before a0 Z = true) (eT : T.heap = h) (E : Exa Z h a C) {mr : Addr} (M : Mir Z C mr)
    {g : JFrame} (hg : g.method = m) (hsize : g.locals.size = c.maxLocals) {rest : List Value} (hs : g.stack = .ref a :: rest) (hd : decode c.code g.pc = .ok (.invokevirtual index, 3)) (hf : 1 ≤ R.frames) {W : Nat} (hW : 2 * g.monitorRoom + (rest.map fun v => v.category).sum ≤ W) (hl : W + (nativeFrameWords "java/lang/Object" "getClass" 1 + 11) ≤ R.locals) :
    ∃ T', Stand p l e R s m args below meth c T' locs cells slots ∧ T'.heap = h ∧ ∀ target, Steps p.tables e below (T'.setTop { g with pc := g.pc + 3, stack := .ref mr :: rest }) target → Steps p.tables e below (T.setTop g) target := by
  obtain ⟨cB, kB, i1, i2, i3⟩ := isOf hZ eT E
  obtain ⟨cc, kc, m1, m2, m3, -⟩ := M
  rw [hZ.alike.findClass] at i1
  cases i1.symm.trans m1
  obtain ⟨k', q, ek⟩ := hZ.alike.2.2 _ _ m2
  obtain ⟨vm', X', st⟩ := X.getClassOf hx hown (mvT hZ w1) (mvT hZ w2) (notFace_of_selects (args := #[]) (mvT hZ w4)) (mvT hZ w4) (mvT hZ w5) (mvT hZ w6) (by rw [hZ.alike.findClass]; exact m1) i3 q (by rw [ek]; exact m3) hg hsize hs hd hf (by omega)
  exact ⟨_, X', eT, st⟩
theorem o711 {r o n d : String} (hZ : Z.Warmed39 s.vm) (w : (Cond.interfaceMethod r o n d).before a0 Z = true) : (Cond.interfaceMethod r o n d).before args s = true := Jvm.Free.ULB.iface_rides hZ.alike w
theorem o637 (X : Stand p l e R s m args below meth c T locs cells slots) (hx : p.tables.exec = Jvm.exec) (hZ : Z.Warmed39 s.vm) {own C : String} {index count : Nat} {xi : MethodName} (hown : s.vm.findClass own = some m.cls)
    (w1 : (Cond.methodLink own index xi).before a0 Z = true) (w2 : (Cond.declares ⟨"java/lang/Object", "getClass", "()Ljava/lang/Class;"⟩).before a0 Z = true) (w3 : (Cond.interfaceMethod xi.cls "java/lang/Object" xi.name xi.desc).before args s = true) (w4 : (Cond.selects C xi ⟨"java/lang/Object", "getClass", "()Ljava/lang/Class;"⟩).before a0 Z = true)
    (w5 : (Cond.instanceMethod ⟨"java/lang/Object", "getClass", "()Ljava/lang/Class;"⟩).before a0 Z = true) (w7 : (Cond.publicMethod ⟨"java/lang/Object", "getClass", "()Ljava/lang/Class;"⟩).before a0 Z = true) (w8 : (Cond.unhidden C xi.name xi.desc).before a0 Z = true) (w9 : (Cond.castable C xi.cls).before a0 Z = true) (w6 : (Cond.native ⟨"java/lang/Object", "getClass", "()Ljava/lang/Class;"⟩).before a0 Z = true)
    (hy : xi.cls ≠ "java/lang/invoke/MethodHandle" ∧ xi.cls ≠ "java/lang/invoke/VarHandle") (hxo : xi.cls ≠ "java/lang/Object") (hname : xi.name = "getClass") (hdesc : xi.desc = "()Ljava/lang/Class;") (eT : T.heap = h) (E : Exa Z h a C) {mr : Addr} (M : Mir Z C mr)
    {g : JFrame} (hg : g.method = m) (hsize : g.locals.size = c.maxLocals) {rest : List Value} (hs : g.stack = .ref a :: rest) (hd : decode c.code g.pc = .ok (.invokeinterface index count, 5)) (hf : 1 ≤ R.frames) {W : Nat} (hW : 2 * g.monitorRoom + (rest.map fun v => v.category).sum ≤ W) (hl : W + (nativeFrameWords "java/lang/Object" "getClass" 1 + 11) ≤ R.locals) :
    ∃ T', Stand p l e R s m args below meth c T' locs cells slots ∧ T'.heap = h ∧ ∀ target, Steps p.tables e below (T'.setTop { g with pc := g.pc + 5, stack := .ref mr :: rest }) target → Steps p.tables e below (T.setTop g) target := by
  obtain ⟨cB, kB, i1, i2, i3⟩ := isOf hZ eT E
  obtain ⟨cc, kc, m1, m2, m3, -⟩ := M
  have i1' := i1
  rw [hZ.alike.findClass] at i1'
  cases i1'.symm.trans m1
  obtain ⟨k', q, ek⟩ := hZ.alike.2.2 _ _ m2
  cases i2.symm.trans q
  obtain ⟨vm', X', st⟩ := X.getClassOfI hx hown (mvT hZ w1) (mvT hZ w2) w3 (mvT hZ w4) (mvT hZ w5) (mvT hZ w7) (mvT hZ w8) (mvT hZ w9) (mvT hZ w6) hy hxo hname hdesc i1 i2 i3 (by rw [ek]; exact m3) hg hsize hs hd hf (by omega)
  exact ⟨_, X', eT, st⟩
theorem o114 (X : Stand p l e R s m args below meth c T locs cells slots) (hx : p.tables.exec = Jvm.exec) (hZ : Z.Warmed39 s.vm) {own C : String} {index : Nat} (hown : s.vm.findClass own = some m.cls) (w : (Cond.classLink own index C).before a0 Z = true) (eT : T.heap = h) {mr : Addr} (M : Mir Z C mr)
    {g : JFrame} (hg : g.method = m) (hd : decode c.code g.pc = .ok (.ldc index, 2)) :
    ∃ T', Stand p l e R s m args below meth c T' locs cells slots ∧ T'.heap = h ∧ ∀ target, Steps p.tables e below (T'.setTop { g with pc := g.pc + 2, stack := .ref mr :: g.stack }) target → Steps p.tables e below (T.setTop g) target := by
  obtain ⟨cc, kc, m1, m2, m3, -⟩ := M
  obtain ⟨k', q, ek⟩ := hZ.alike.2.2 _ _ m2
  have m1' : s.vm.findClass C = some cc := by rw [hZ.alike.findClass]; exact m1
  have m3' : k'.mirror = some mr := by rw [ek]; exact m3
  obtain ⟨vm', X', st⟩ := X.ldcMirror hx hown (mvT hZ w) (a := mr) (by simp [Term.eval, m1', q, m3']) hg hd
  exact ⟨_, X', eT, st⟩
end OwnM
theorem o878 {t : Term} {k j : Int32} {args : Array Value} {Z : State} (ht : t.eval args Z none [] Z = some (.int j)) (h : (Cond.not (Cond.eq t (.int k))).value args Z none Z [] = some true) : ¬ j = k := by
  have h2 := not_v h
  simpa [Cond.value, ht, Term.int_eval] using h2
theorem o1003 {t : Term} {k : Int32} {args : Array Value} {Z : State} (h : (Cond.eq t (.int k)).value args Z none Z [] = some true) : t.eval args Z none [] Z = some (.int k) := by
  obtain ⟨x, y, ea, eb, -, k2⟩ := cmp_v (Or.inl h)
  obtain rfl : y = .int k := (Option.some.inj (eb.symm.trans (Term.int_eval k)))
  obtain ⟨z, rfl⟩ := k2
  obtain rfl : z = k := by simpa [Cond.value, ea, eb] using h
  exact ea
def o712 (v : Int32) : Prop := v.toUInt32.toUInt16.toUInt32.toInt32 = v
theorem o1010 (x : Int32) : o712 (nar .char x) := by
  unfold o712 nar
  apply Int32.toBitVec_inj.1
  apply BitVec.eq_of_toNat_eq
  simp
theorem o894 (x : BitVec 32) : x % 65536#32 = x &&& 65535#32 := by
  apply BitVec.eq_of_toNat_eq
  simp only [BitVec.toNat_umod, BitVec.toNat_and]
  exact (Nat.and_two_pow_sub_one_eq_mod _ 16).symm
theorem o905 (i : Nat) : (255#32).getLsbD i = decide (i < 8) := by
  rw [show (255#32) = BitVec.ofNat 32 (2^8-1) from rfl, BitVec.getLsbD_ofNat, Nat.testBit_two_pow_sub_one]
  by_cases h : i < 8
  · simp [h]; omega
  · simp [h]
theorem o895 (i : Nat) : (65535#32).getLsbD i = decide (i < 16) := by
  rw [show (65535#32) = BitVec.ofNat 32 (2^16-1) from rfl, BitVec.getLsbD_ofNat, Nat.testBit_two_pow_sub_one]
  by_cases h : i < 16
  · simp [h]; omega
  · simp [h]
theorem o1016 (c : Int32) (h : o712 c) : (((((c >>> ((0 : Int32) &&& 31)).toInt8.toInt32) &&& (255 : Int32)) <<< ((0 : Int32) &&& 31)) ||| ((((c >>> ((8 : Int32) &&& 31)).toInt8.toInt32) &&& (255 : Int32)) <<< ((8 : Int32) &&& 31))).toUInt32.toUInt16.toUInt32.toInt32 = c := by
  unfold o712 at h
  conv => rhs; rw [← h]
  apply Int32.toBitVec_inj.1
  simp
  simp only [o894]
  apply BitVec.eq_of_getLsbD_eq
  intro i hi
  simp only [BitVec.getLsbD_or, BitVec.getLsbD_and, BitVec.getLsbD_shiftLeft, o905, o895, BitVec.getLsbD_signExtend, BitVec.getLsbD_sshiftRight]
  by_cases h8 : i < 8
  · have h16 : i < 16 := by omega
    simp [h8, h16, hi]
  · by_cases h16 : i < 16
    · have e : 8 + (i - 8) = i := by omega
      have a1 : i - 8 < 8 := by omega
      have a2 : i - 8 < 32 := by omega
      simp [h8, h16, hi, e, a1, a2]
    · simp [h8, h16]
theorem o565 (x : Int32) : ¬ (255 : Int32) < (x &&& (255 : Int32)).toUInt32.toUInt16.toUInt32.toInt32 := by
  rw [i2c_mask, Int32.lt_iff_toInt_lt]
  have h1 := c_and x 255 (by decide)
  omega
theorem o995 (x : Int32) : ¬ (255 : Int32) < nar .char (x &&& (255 : Int32)).toUInt32.toUInt16.toUInt32.toInt32 := by
  have h : nar .char (x &&& (255 : Int32)).toUInt32.toUInt16.toUInt32.toInt32 = (x &&& (255 : Int32)).toUInt32.toUInt16.toUInt32.toInt32 := Value.int.inj (o832 _)
  rw [h]; exact o565 x
theorem o237 (x : Int32) : nar .char x.toUInt32.toUInt16.toUInt32.toInt32 = x.toUInt32.toUInt16.toUInt32.toInt32 := Value.int.inj (o832 x)
theorem o585 {x : Int32} (h : nar .char x = x) : fits .char (.int x) = true := by rw [← h]; exact fits_nar_char _
theorem o574 {args : Array Value} {s : State} {C : String} {x y z : MethodName} (hsel : (Cond.selects C x z).before args s = true) (hc : z.cls = y.cls) : NotFace s y := fun r0 h0 => by
  obtain ⟨c2, r2, m2, q1, q2, q3, q4, kP, hkP, hkPi⟩ := Cond.selects_spec hsel
  have a := findClass_of_methodNamed h0
  have b := findClass_of_methodNamed q3
  rw [hc] at b
  have e := Option.some.inj (a.symm.trans b)
  exact ⟨kP, by rw [e]; exact hkP, hkPi⟩
theorem o906 (k : Int32) : ((k &&& (2147483647 : Int32)) % (3 : Int32)) + (1 : Int32) = (1 : Int32) ∨ ((k &&& (2147483647 : Int32)) % (3 : Int32)) + (1 : Int32) = (2 : Int32) ∨ ((k &&& (2147483647 : Int32)) % (3 : Int32)) + (1 : Int32) = (3 : Int32) := by
  have h := c_and k 2147483647 (by decide)
  have e : ((k &&& (2147483647 : Int32)) % (3 : Int32)).toInt = (k &&& (2147483647 : Int32)).toInt.tmod 3 := Int32.toInt_mod _ _
  have a : (k &&& (2147483647 : Int32)).toInt.tmod 3 = (k &&& (2147483647 : Int32)).toInt % 3 := Int.tmod_eq_emod_of_nonneg (by omega)
  rw [a] at e
  have b : ((k &&& (2147483647 : Int32)) % (3 : Int32)).toInt = 0 ∨ ((k &&& (2147483647 : Int32)) % (3 : Int32)).toInt = 1 ∨ ((k &&& (2147483647 : Int32)) % (3 : Int32)).toInt = 2 := by omega
  rcases b with b | b | b
  · left; rw [show (k &&& (2147483647 : Int32)) % (3 : Int32) = 0 from Int32.toInt_inj.mp b]; rfl
  · right; left; rw [show (k &&& (2147483647 : Int32)) % (3 : Int32) = 1 from Int32.toInt_inj.mp b]; rfl
  · right; right; rw [show (k &&& (2147483647 : Int32)) % (3 : Int32) = 2 from Int32.toInt_inj.mp b]; rfl
section OwnSU
variable {p : Program} {l : Launch} {e : Env} {R : Room} {s : State} {m : MethodId} {args : Array Value} {below : List Frame} {meth : Method} {c : Code} {T : State} {locs : List Loc} {cells slots : Nat} {Z : State} {a0 : Array Value} {h : Heap} {a : Addr}
theorem o603 (X : Stand p l e R s m args below meth c T locs cells slots) (hx : p.tables.exec = Jvm.exec) (hZ : Z.Warmed39 s.vm) {own owner : String} {index : Nat} {y : MethodName} {bytes : ByteArray} {maxL : Nat} {ret : Option FieldType} {rm : Room} {as' : Array Value} {Q : Option Value → Heap → List Loc → Prop}
    (hown : s.vm.findClass own = some m.cls) (w1 : (Cond.methodLink own index y).before a0 Z = true) (w7 : (Cond.sameMethod y.cls owner y.name y.desc).before a0 Z = true) (w2 : (Cond.static ⟨owner, y.name, y.desc⟩).before a0 Z = true) (w3 : (Cond.initialized owner).before a0 Z = true) (w4 : (Cond.code ⟨owner, y.name, y.desc⟩ bytes maxL ret).before a0 Z = true)
    (hy : owner ≠ "java/lang/invoke/MethodHandle" ∧ owner ≠ "java/lang/invoke/VarHandle") (hM : o16 l ⟨owner, y.name, y.desc⟩ bytes maxL ret [] rm Z h as' Q) (eT : T.heap = h) {ps : List FieldType} {r : Option FieldType} (hd : parseMethodDescriptor y.desc = some ⟨ps, r⟩) {argsL rest : List Value} (hl : argsL.length = ps.length) (ha : argsL.toArray = as')
    {g : JFrame} (hg : g.method = m) (hsize : g.locals.size = c.maxLocals) (hstack : g.stack = argsL.reverse ++ rest) (hdg : decode c.code g.pc = .ok (.invokestatic index, 3)) {W : Nat} (hW : 2 * g.monitorRoom + (rest.map fun v => v.category).sum = W) (h1 : rm.frames + 1 ≤ R.frames) (h2 : W + (maxL + 11) + rm.locals ≤ R.locals) (h3 : cells + rm.cells ≤ R.cells) (h4 : slots + rm.slots ≤ R.slots) :
    o412 p l e R s m args below meth c T locs (cells + rm.cells) (slots + rm.slots) g 3 rest Q := by
  have hc := mvT (args := args) hZ w4
  obtain ⟨mk, hnamed⟩ := Cond.code_named hc
  obtain ⟨methM, cM, hmethM, -, -, -, -, -, -, hsigM⟩ := Cond.code_spec hnamed hc
  obtain ⟨v, _, ⟨T', L', k', n'⟩, -, X', ⟨Lc, hQ, l1, y1, z1⟩, st⟩ := X.staticBackUp hx (x := y) hown (mvT hZ w1) (mvT hZ w7) (mvT hZ w2) (mvT hZ w3) hnamed hmethM hsigM hy (backOf (W := W) hM hZ w4 w3 h1 h2) (g := g) hg hsize (Steps.refl _) (argsL := argsL) (rest := rest) (lenOf hd hl) hstack (Nat.le_of_eq hW) hdg (fun _ _ => ⟨ha, eT, h3, h4⟩)
  dsimp only [Pt.U, Pt.locs, Pt.cells, Pt.slots] at X' l1 y1 z1 st hQ
  subst l1 y1 z1
  exact ⟨T', v, Lc, X', hQ, fun _ k => st.trans k⟩
end OwnSU
abbrev o7 : String := "[Ljava/lang/Object;"
def o22 (Z : State) (wcs : Int32) (wd mOA mSL mAL : Addr) (kd : ClassId) : Prop := Sta Z Z.heap "java/lang/String" "COMPACT_STRINGS" "Z" (.int wcs) ∧ ¬ wcs = (0 : Int32) ∧ Sta Z Z.heap "java/util/ArrayList" "DEFAULTCAPACITY_EMPTY_ELEMENTDATA" "[Ljava/lang/Object;" (.ref wd) ∧ Exa Z Z.heap wd o7 ∧ Arv Z Z.heap wd kd (.object "java/lang/Object") (0 : Int32) [] .null ∧ Mir Z "[Ljava/lang/Object;" mOA ∧ Mir Z "java/util/ArrayList$SubList" mSL ∧ Mir Z "java/util/ArrayList" mAL
theorem o472 : decode jdk_52_method_21_code 0 = .ok (.iconst 0, 1) := by decide +kernel
theorem o473 : decode jdk_52_method_21_code 1 = .ok (.istore 5, 2) := by decide +kernel
theorem o73 : decode jdk_52_method_21_code 3 = .ok (.iload 5, 2) := by decide +kernel
theorem o74 : decode jdk_52_method_21_code 5 = .ok (.iload 4, 2) := by decide +kernel
theorem o75 : decode jdk_52_method_21_code 7 = .ok (.if_icmp .ge 37, 3) := by decide +kernel
theorem o170 : decode jdk_52_method_21_code 10 = .ok (.aload_n 0, 1) := by decide +kernel
theorem o171 : decode jdk_52_method_21_code 11 = .ok (.iload_n 1, 1) := by decide +kernel
theorem o172 : decode jdk_52_method_21_code 12 = .ok (.caload, 1) := by decide +kernel
theorem o173 : decode jdk_52_method_21_code 13 = .ok (.istore 6, 2) := by decide +kernel
theorem o174 : decode jdk_52_method_21_code 15 = .ok (.iload 6, 2) := by decide +kernel
theorem o175 : decode jdk_52_method_21_code 17 = .ok (.sipush 255, 3) := by decide +kernel
theorem o176 : decode jdk_52_method_21_code 20 = .ok (.if_icmp .le 6, 3) := by decide +kernel
theorem o177 : decode jdk_52_method_21_code 26 = .ok (.aload_n 2, 1) := by decide +kernel
theorem o178 : decode jdk_52_method_21_code 27 = .ok (.iload_n 3, 1) := by decide +kernel
theorem o179 : decode jdk_52_method_21_code 28 = .ok (.iload 6, 2) := by decide +kernel
theorem o180 : decode jdk_52_method_21_code 30 = .ok (.i2b, 1) := by decide +kernel
theorem o181 : decode jdk_52_method_21_code 31 = .ok (.bastore, 1) := by decide +kernel
theorem o182 : decode jdk_52_method_21_code 32 = .ok (.iinc 1 1, 3) := by decide +kernel
theorem o183 : decode jdk_52_method_21_code 35 = .ok (.iinc 3 1, 3) := by decide +kernel
theorem o184 : decode jdk_52_method_21_code 38 = .ok (.iinc 5 1, 3) := by decide +kernel
theorem o185 : decode jdk_52_method_21_code 41 = .ok (.goto (-38), 3) := by decide +kernel
theorem o414 : decode jdk_52_method_21_code 44 = .ok (.iload 4, 2) := by decide +kernel
theorem o415 : decode jdk_52_method_21_code 46 = .ok (.ireturn, 1) := by decide +kernel
abbrev o586 : MethodName := ⟨"java/lang/StringUTF16", "compress", "([CI[BII)I"⟩
theorem o238 : plainName "java/lang/StringUTF16" = true := by first | (simp [plainName, overriddenIn]; done) | decide +kernel
theorem o807 (m : MethodId) (a b : Addr)  : entryFrame m #[.ref a, .int 0, .ref b, .int 0, .int 1] 7 = mkF m 0 #[.val (.ref a), .val (.int 0), .val (.ref b), .val (.int 0), .val (.int 1), .unset, .unset] [] := by first | (simp [entryFrame, mkF, argsToLocals, Value.category, maxLocals]; done) | rfl
def QrmCp1_1 (Z : State) (wcs : Int32) (wd mOA mSL mAL : Addr) (kd : ClassId) (a : Addr) (ka : ClassId) (b : Addr) (kb : ClassId) (v0 : Int32) (h0 : Heap) (n0 : Nat) (v : Option Value) (h : Heap) (L : List Loc) : Prop := v = some (.int 1) ∧ Fr n0 L ∧ Keep h0 h [b] ∧ Exa Z h b "[B" ∧ Arv Z h b kb .byte 1 [(.int (v0.toInt8.toInt32))] (.int 0)
theorem o896 (l : Launch) (Z : State) (a0 : Array Value) (hw : o21 a0 Z) (ws : List Jvm.Cond) (wcs : Int32) (wd mOA mSL mAL : Addr) (kd : ClassId) (hS : o22 Z wcs wd mOA mSL mAL kd) (a : Addr) (ka : ClassId) (b : Addr) (kb : ClassId) (v0 : Int32) (h0 : Heap) (n0 : Nat) (O0 : Old Z n0 h0) (Ea : Exa Z h0 a "[C") (Eb : Exa Z h0 b "[B") (gb : n0 ≤ b) (A1 : Arv Z h0 a ka .char 1 [.int v0] (.int 0)) (A2 : Arv Z h0 b kb .byte 1 [.int 0] (.int 0)) (hq0 : ¬ (255 : Int32) < v0) :
    o16 l o586 jdk_52_method_21_code 7 (some .int) ws ⟨0, 0, 0, 0⟩ Z h0 #[.ref a, .int 0, .ref b, .int 0, .int 1] (QrmCp1_1 Z wcs wd mOA mSL mAL kd a ka b kb v0 h0 n0) := by
  refine o81 (plainFor_of_name o238) ?_
  intro p e s m below meth c s₁ hx hby hml hown hnm hret hlk hZ e0 X0
  have N0 := Fr.nil n0
  refine o2 (fun u j => castTop (o807 m a b) j) ?_
  show o17 p e below _ (s₁.setTop (mkF m 0 #[.val (.ref a), .val (.int 0), .val (.ref b), .val (.int 0), .val (.int 1), .unset, .unset] []))
  refine o2 (fun u j => o5 X0.here hx rfl (hb hby o472) (o30 X0.here hx rfl (hb hby o473) rfl (l' := #[.val (.ref a), .val (.int 0), .val (.ref b), .val (.int 0), .val (.int 1), .val (.int 0), .unset]) rfl (o10 X0.here hx rfl (hb hby o73) rfl (o10 X0.here hx rfl (hb hby o74) rfl (o28 X0.here hx rfl (hb hby o75) rfl (o53 (by decide)) (o1 X0.here hx rfl (hb hby o170) rfl rfl j)))))) ?_
  show o17 p e below _ (s₁.setTop (mkF m 11 #[.val (.ref a), .val (.int 0), .val (.ref b), .val (.int 0), .val (.int 1), .val (.int 0), .unset] [.ref a]))
  refine o2 (fun u j => o4 X0.here hx rfl (hb hby o171) rfl (o644 X0 hx hZ e0 A1 (j := (0 : Int32)) (v := (.int v0)) ⟨by decide, by decide⟩ rfl rfl rfl (hb hby o172) (o30 X0.here hx rfl (hb hby o173) rfl (l' := #[.val (.ref a), .val (.int 0), .val (.ref b), .val (.int 0), .val (.int 1), .val (.int 0), .val (.int v0)]) rfl (o10 X0.here hx rfl (hb hby o174) rfl (o80 X0.here hx rfl (hb hby o175) (o23 X0.here hx rfl (pc0 := 20) (pc' := 26) rfl (hb hby o176) rfl (o82 hq0) (by decide) (by decide) j)))))) ?_
  show o17 p e below _ (s₁.setTop (mkF m 26 #[.val (.ref a), .val (.int 0), .val (.ref b), .val (.int 0), .val (.int 1), .val (.int 0), .val (.int v0)] []))
  refine o2 (fun u j => o1 X0.here hx rfl (hb hby o177) rfl rfl (o4 X0.here hx rfl (hb hby o178) rfl (o10 X0.here hx rfl (hb hby o179) rfl (XS.i2b X0.here hx rfl (hb hby o180) rfl j)))) ?_
  refine o32 (o646 X0 hx hZ e0 A2 (j := (0 : Int32)) ⟨by decide, by decide⟩ rfl rfl (hb hby o181)) ?_
  intro T1 h1 X1 e1 W1
  rw [o643] at W1
  have N1 := Fr.snoc X1 N0 gb
  have V1 : Arv Z h1 b kb .byte 1 [(.int (v0.toInt8.toInt32))] (.int 0) := o236 A2 (fits_nar_byte _) W1 0 rfl (Nat.le_of_ble_eq_true rfl)
  refine o2 (fun u j => o51 X1.here hx rfl (hb hby o182) rfl (l' := #[.val (.ref a), .val (.int 1), .val (.ref b), .val (.int 0), .val (.int 1), .val (.int 0), .val (.int v0)]) rfl (o51 X1.here hx rfl (hb hby o183) rfl (l' := #[.val (.ref a), .val (.int 1), .val (.ref b), .val (.int 1), .val (.int 1), .val (.int 0), .val (.int v0)]) rfl (o51 X1.here hx rfl (hb hby o184) rfl (l' := #[.val (.ref a), .val (.int 1), .val (.ref b), .val (.int 1), .val (.int 1), .val (.int 1), .val (.int v0)]) rfl (o35 X1.here hx rfl (pc0 := 41) (pc' := 3) rfl (hb hby o185) (by decide) (by decide) (o10 X1.here hx rfl (hb hby o73) rfl (o10 X1.here hx rfl (hb hby o74) rfl j)))))) ?_
  show o17 p e below _ (T1.setTop (mkF m 7 #[.val (.ref a), .val (.int 1), .val (.ref b), .val (.int 1), .val (.int 1), .val (.int 1), .val (.int v0)] [.int 1, .int 1]))
  refine o2 (fun u j => o23 X1.here hx rfl (pc0 := 7) (pc' := 44) rfl (hb hby o75) rfl (XT.ii_ge_t (by decide)) (by decide) (by decide) (o10 X1.here hx rfl (hb hby o414) rfl j)) ?_
  have K2 := (Keep.refl h0 [b]).wr W1 (Or.inl (List.mem_of_getElem? (i := 0) rfl))
  have F3 := (Exa.wr W1 Eb)
  exact o20 X1 hx hlk hret rfl (Or.inl ⟨rfl, by simp, _, rfl⟩) (hb hby o415) (by decide) (by decide) (show QrmCp1_1 Z wcs wd mOA mSL mAL kd a ka b kb v0 h0 n0 (some (.int 1)) T1.heap _ from (by rw [e1]; exact ⟨rfl, N1, K2, F3, V1⟩))
theorem o474 : decode jdk_52_method_16_code 0 = .ok (.iload_n 2, 1) := by decide +kernel
theorem o475 : decode jdk_52_method_16_code 1 = .ok (.newarray .byte, 2) := by decide +kernel
theorem o660 : "[" ++ (newarray.typeOf .byte).toString = "[B" := by decide +kernel
theorem o476 : decode jdk_52_method_16_code 3 = .ok (.astore_n 3, 1) := by decide +kernel
theorem o477 : decode jdk_52_method_16_code 4 = .ok (.aload_n 0, 1) := by decide +kernel
theorem o478 : decode jdk_52_method_16_code 5 = .ok (.iload_n 1, 1) := by decide +kernel
theorem o479 : decode jdk_52_method_16_code 6 = .ok (.aload_n 3, 1) := by decide +kernel
theorem o480 : decode jdk_52_method_16_code 7 = .ok (.iconst 0, 1) := by decide +kernel
theorem o481 : decode jdk_52_method_16_code 8 = .ok (.iload_n 2, 1) := by decide +kernel
theorem o482 : decode jdk_52_method_16_code 9 = .ok (.invokestatic 115, 3) := by decide +kernel
theorem o239 : ("java/lang/StringUTF16" : String) ≠ "java/lang/invoke/MethodHandle" ∧ ("java/lang/StringUTF16" : String) ≠ "java/lang/invoke/VarHandle" := by decide +kernel
theorem o661 : parseMethodDescriptor "([CI[BII)I" = some ⟨[(.array .char), .int, (.array .byte), .int, .int], some .int⟩ := by decide +kernel
theorem o416 : decode jdk_52_method_16_code 12 = .ok (.istore 4, 2) := by decide +kernel
theorem o417 : decode jdk_52_method_16_code 14 = .ok (.iload 4, 2) := by decide +kernel
theorem o418 : decode jdk_52_method_16_code 16 = .ok (.iload_n 2, 1) := by decide +kernel
theorem o419 : decode jdk_52_method_16_code 17 = .ok (.if_icmp .eq 40, 3) := by decide +kernel
theorem o420 : decode jdk_52_method_16_code 57 = .ok (.aload_n 3, 1) := by decide +kernel
theorem o421 : decode jdk_52_method_16_code 58 = .ok (.areturn, 1) := by decide +kernel
abbrev o587 : MethodName := ⟨"java/lang/StringUTF16", "compress", "([CII)[B"⟩
theorem o808 (m : MethodId) (a : Addr)  : entryFrame m #[.ref a, .int 0, .int 1] 6 = mkF m 0 #[.val (.ref a), .val (.int 0), .val (.int 1), .unset, .unset, .unset] [] := by first | (simp [entryFrame, mkF, argsToLocals, Value.category, maxLocals]; done) | rfl
def QrmCq1_1 (Z : State) (wcs : Int32) (wd mOA mSL mAL : Addr) (kd : ClassId) (a : Addr) (ka : ClassId) (v0 : Int32) (h0 : Heap) (n0 : Nat) (v : Option Value) (h : Heap) (L : List Loc) : Prop := ∃ r : Addr, ∃ kr : ClassId, v = some (.ref r) ∧ Fr n0 L ∧ Keep h0 h [] ∧ h0.size ≤ r ∧ Exa Z h r "[B" ∧ Arv Z h r kr .byte 1 [(.int (v0.toInt8.toInt32))] (.int 0)
theorem o897 (l : Launch) (Z : State) (a0 : Array Value) (hw : o21 a0 Z) (ws : List Jvm.Cond) (wcs : Int32) (wd mOA mSL mAL : Addr) (kd : ClassId) (hS : o22 Z wcs wd mOA mSL mAL kd) (a : Addr) (ka : ClassId) (v0 : Int32) (h0 : Heap) (n0 : Nat) (O0 : Old Z n0 h0) (Ea : Exa Z h0 a "[C") (A1 : Arv Z h0 a ka .char 1 [.int v0] (.int 0)) (hq0 : ¬ (255 : Int32) < v0) :
    o16 l o587 jdk_52_method_16_code 6 (some (.array .byte)) ws ⟨1, 1, 1, 18⟩ Z h0 #[.ref a, .int 0, .int 1] (QrmCq1_1 Z wcs wd mOA mSL mAL kd a ka v0 h0 n0) := by
  refine o81 (plainFor_of_name o238) ?_
  intro p e s m below meth c s₁ hx hby hml hown hnm hret hlk hZ e0 X0
  have N0 := Fr.nil n0
  refine o2 (fun u j => castTop (o808 m a) j) ?_
  show o17 p e below _ (s₁.setTop (mkF m 0 #[.val (.ref a), .val (.int 0), .val (.int 1), .unset, .unset, .unset] []))
  refine o2 (fun u j => o4 X0.here hx rfl (hb hby o474) rfl j) ?_
  have q_ := newPE X0 hx hZ (o0 hw 19 rfl) e0 (g := (mkF m 1 #[.val (.ref a), .val (.int 0), .val (.int 1), .unset, .unset, .unset] [.int 1])) rfl (hb hby o475) rfl (by decide) (cap := 1) (by decide) (by decide) (by decide) (by decide) (ad := "[B") o660
  obtain ⟨T4, h4, k4, X4, e4, E4, A4, Y4, st4⟩ := q_
  have q_ : ∃ z, z = h0.size := ⟨_, rfl⟩
  obtain ⟨b4, g4⟩ := q_
  rw [← g4] at A4 Y4 st4
  have V4 : Arv Z h4 b4 k4 .byte 1 [.int 0] (.int 0) := (Arv.new A4 (by decide)).pad (pad_rep [] (.int 0) 1)
  refine o2 (fun u j => st4 u j) ?_
  refine o2 (fun u j => o31 X4.here hx rfl (hb hby o476) rfl rfl (l' := #[.val (.ref a), .val (.int 0), .val (.int 1), .val (.ref b4), .unset, .unset]) rfl (o1 X4.here hx rfl (hb hby o477) rfl rfl (o4 X4.here hx rfl (hb hby o478) rfl (o1 X4.here hx rfl (hb hby o479) rfl rfl (o5 X4.here hx rfl (hb hby o480) (o4 X4.here hx rfl (hb hby o481) rfl j)))))) ?_
  show o17 p e below _ (T4.setTop (mkF m 9 #[.val (.ref a), .val (.int 0), .val (.int 1), .val (.ref b4), .unset, .unset] [.int 1, .int 0, .ref b4, .int 0, .ref a]))
  have F5 := (Exa.ext E4 Ea)
  have g6 := Nat.le_trans (o52 O0) (Nat.le_of_eq g4.symm)
  have F7 := (A1.ext E4)
  have O9 := O0.ext E4
  refine o11 (o25 X4 hx hZ (y := o586) hown (o0 hw 20 rfl) (o0 hw 21 rfl) (o0 hw 17 rfl) (o0 hw 22 rfl) o239 (o896 l Z a0 hw [] wcs wd mOA mSL mAL kd hS a ka b4 k4 v0 h4 n0 O9 F5 Y4 g6 F7 V4 (by assumption)) e4 o661 (argsL := [.ref a, .int 0, .ref b4, .int 0, .int 1]) (rest := []) rfl rfl (g := (mkF m 9 #[.val (.ref a), .val (.int 0), .val (.int 1), .val (.ref b4), .unset, .unset] [.int 1, .int 0, .ref b4, .int 0, .ref a])) rfl (by rw [hml]; rfl) rfl (hb hby o482) (W := 0) rfl (by decide) (by decide) (by decide) (by decide)) ?_
  intro T8 v8 L8 X8 hQ8
  obtain ⟨rfl, M8, K8, F10, F11⟩ := hQ8
  have N8 := Fr.app N0 M8
  refine o2 (fun u j => o30 X8.here hx rfl (hb hby o416) rfl (l' := #[.val (.ref a), .val (.int 0), .val (.int 1), .val (.ref b4), .val (.int 1), .unset]) rfl (o10 X8.here hx rfl (hb hby o417) rfl (o4 X8.here hx rfl (hb hby o418) rfl (o23 X8.here hx rfl (pc0 := 17) (pc' := 57) rfl (hb hby o419) rfl (XT.ii_eq_t (by decide)) (by decide) (by decide) (o1 X8.here hx rfl (hb hby o420) rfl rfl j))))) ?_
  have K12 := (Keep.refl h0 []).ext E4
  have z14 := Nat.le_trans (Nat.le_refl _) (Nat.le_of_eq g4.symm)
  have K13 := K12.trans K8 (allS (Or.inr z14) all0)
  exact o20 X8 hx hlk hret rfl (Or.inr (Or.inr (Or.inr (Or.inr ⟨rfl, rfl, rfl⟩)))) (hb hby o421) (by decide) (by decide) (show QrmCq1_1 Z wcs wd mOA mSL mAL kd a ka v0 h0 n0 (some (.ref b4)) T8.heap _ from (by exact ⟨b4, k4, rfl, N8, K13, z14, F10, F11⟩))
theorem o483 : decode jdk_52_method_15_code 0 = .ok (.iload_n 1, 1) := by decide +kernel
theorem o484 : decode jdk_52_method_15_code 1 = .ok (.aload_n 0, 1) := by decide +kernel
theorem o485 : decode jdk_52_method_15_code 2 = .ok (.arraylength, 1) := by decide +kernel
theorem o486 : decode jdk_52_method_15_code 3 = .ok (.isub, 1) := by decide +kernel
theorem o487 : decode jdk_52_method_15_code 4 = .ok (.bipush 31, 2) := by decide +kernel
theorem o488 : decode jdk_52_method_15_code 6 = .ok (.iushr, 1) := by decide +kernel
theorem o489 : decode jdk_52_method_15_code 7 = .ok (.i2b, 1) := by decide +kernel
theorem o490 : decode jdk_52_method_15_code 8 = .ok (.ireturn, 1) := by decide +kernel
abbrev o588 : MethodName := ⟨"java/lang/StringUTF16", "coderFromArrayLen", "([BI)B"⟩
theorem o809 (m : MethodId) (b : Addr)  : entryFrame m #[.ref b, .int 1] 2 = mkF m 0 #[.val (.ref b), .val (.int 1)] [] := by first | (simp [entryFrame, mkF, argsToLocals, Value.category, maxLocals]; done) | rfl
def QrmCo1_1 (Z : State) (wcs : Int32) (wd mOA mSL mAL : Addr) (kd : ClassId) (b : Addr) (kb : ClassId) (vs : List Value) (h0 : Heap) (n0 : Nat) (v : Option Value) (h : Heap) (L : List Loc) : Prop := v = some (.int 0) ∧ Fr n0 L ∧ h = h0
theorem o898 (l : Launch) (Z : State) (a0 : Array Value) (hw : o21 a0 Z) (ws : List Jvm.Cond) (wcs : Int32) (wd mOA mSL mAL : Addr) (kd : ClassId) (hS : o22 Z wcs wd mOA mSL mAL kd) (b : Addr) (kb : ClassId) (vs : List Value) (h0 : Heap) (n0 : Nat) (O0 : Old Z n0 h0) (A2 : Arv Z h0 b kb .byte 1 vs (.int 0)) :
    o16 l o588 jdk_52_method_15_code 2 (some .byte) ws ⟨0, 0, 0, 0⟩ Z h0 #[.ref b, .int 1] (QrmCo1_1 Z wcs wd mOA mSL mAL kd b kb vs h0 n0) := by
  refine o81 (plainFor_of_name o238) ?_
  intro p e s m below meth c s₁ hx hby hml hown hnm hret hlk hZ e0 X0
  have N0 := Fr.nil n0
  refine o2 (fun u j => castTop (o809 m b) j) ?_
  show o17 p e below _ (s₁.setTop (mkF m 0 #[.val (.ref b), .val (.int 1)] []))
  refine o2 (fun u j => o4 X0.here hx rfl (hb hby o483) rfl (o1 X0.here hx rfl (hb hby o484) rfl rfl (o65 X0 hx hZ e0 A2 rfl rfl (hb hby o485) (o38 X0.here hx rfl (hb hby o486) rfl (XS.bipush X0.here hx rfl (hb hby o487) (XS.iushr X0.here hx rfl (hb hby o488) rfl j)))))) ?_
  show o17 p e below _ (s₁.setTop (mkF m 7 #[.val (.ref b), .val (.int 1)] [.int 0]))
  refine o2 (fun u j => XS.i2b X0.here hx rfl (hb hby o489) rfl j) ?_
  exact o20 X0 hx hlk hret rfl (Or.inl ⟨rfl, by simp, _, rfl⟩) (hb hby o490) (by decide) (by decide) (show QrmCo1_1 Z wcs wd mOA mSL mAL kd b kb vs h0 n0 (some (.int 0)) s₁.heap _ from (by rw [e0]; exact ⟨rfl, N0, rfl⟩))
theorem o422 : decode jdk_42_method_149_code 0 = .ok (.aload_n 0, 1) := by decide +kernel
theorem o423 : decode jdk_42_method_149_code 1 = .ok (.invokespecial 1, 3) := by decide +kernel
theorem o424 : decode jdk_42_method_149_code 4 = .ok (.iload_n 3, 1) := by decide +kernel
theorem o425 : decode jdk_42_method_149_code 5 = .ok (.ifCond .ne 22, 3) := by decide +kernel
theorem o396 : decode jdk_42_method_149_code 27 = .ok (.getstatic 38, 3) := by decide +kernel
theorem o397 : decode jdk_42_method_149_code 30 = .ok (.ifCond .eq 28, 3) := by decide +kernel
theorem o398 : decode jdk_42_method_149_code 33 = .ok (.aload_n 1, 1) := by decide +kernel
theorem o399 : decode jdk_42_method_149_code 34 = .ok (.iload_n 2, 1) := by decide +kernel
theorem o400 : decode jdk_42_method_149_code 35 = .ok (.iload_n 3, 1) := by decide +kernel
theorem o401 : decode jdk_42_method_149_code 36 = .ok (.invokestatic 177, 3) := by decide +kernel
theorem o662 : parseMethodDescriptor "([CII)[B" = some ⟨[(.array .char), .int, .int], some (.array .byte)⟩ := by decide +kernel
theorem o402 : decode jdk_42_method_149_code 39 = .ok (.astore 5, 2) := by decide +kernel
theorem o403 : decode jdk_42_method_149_code 41 = .ok (.aload_n 0, 1) := by decide +kernel
theorem o404 : decode jdk_42_method_149_code 42 = .ok (.aload 5, 2) := by decide +kernel
theorem o405 : decode jdk_42_method_149_code 44 = .ok (.iload_n 3, 1) := by decide +kernel
theorem o406 : decode jdk_42_method_149_code 45 = .ok (.invokestatic 47, 3) := by decide +kernel
theorem o663 : parseMethodDescriptor "([BI)B" = some ⟨[(.array .byte), .int], some .byte⟩ := by decide +kernel
theorem o407 : decode jdk_42_method_149_code 48 = .ok (.putfield 15, 3) := by decide +kernel
theorem o361 : parseFieldDescriptor "B" = some .byte := by decide +kernel
abbrev o6 : String := "java/lang/String"
theorem o408 : decode jdk_42_method_149_code 51 = .ok (.aload_n 0, 1) := by decide +kernel
theorem o409 : decode jdk_42_method_149_code 52 = .ok (.aload 5, 2) := by decide +kernel
theorem o410 : decode jdk_42_method_149_code 54 = .ok (.putfield 9, 3) := by decide +kernel
theorem o875 : ("value" : String) ≠ "coder" := by decide +kernel
theorem o362 : parseFieldDescriptor "[B" = some (.array .byte) := by decide +kernel
def o664 {Z : State} {a0 : Array Value} (hw : o21 a0 Z) := slot_ne (Or.inr (o0 hw 29 rfl)) (Or.inr (o0 hw 27 rfl)) o875 (t := (.array .byte)) (t' := .byte) o362 o361
theorem o411 : decode jdk_42_method_149_code 57 = .ok (.return_, 1) := by decide +kernel
theorem o876 : ("coder" : String) ≠ "value" := by decide +kernel
def o665 {Z : State} {a0 : Array Value} (hw : o21 a0 Z) := slot_ne (Or.inr (o0 hw 27 rfl)) (Or.inr (o0 hw 29 rfl)) o876 (t := .byte) (t' := (.array .byte)) o361 o362
abbrev o589 : MethodName := ⟨"java/lang/String", "<init>", "([CIILjava/lang/Void;)V"⟩
theorem o363 : plainName "java/lang/String" = true := by first | (simp [plainName, overriddenIn]; done) | decide +kernel
theorem o797 (m : MethodId) (a b : Addr)  : entryFrame m #[.ref a, .ref b, .int 0, .int 1, .null] 6 = mkF m 0 #[.val (.ref a), .val (.ref b), .val (.int 0), .val (.int 1), .val .null, .unset] [] := by first | (simp [entryFrame, mkF, argsToLocals, Value.category, maxLocals]; done) | rfl
def o816 (Z : State) (wcs : Int32) (wd mOA mSL mAL : Addr) (kd : ClassId) (a b : Addr) (kb : ClassId) (v0 : Int32) (h0 : Heap) (n0 : Nat) (v : Option Value) (h : Heap) (L : List Loc) : Prop := ∃ r : Addr, ∃ kr : ClassId, v = none ∧ Fr n0 L ∧ Keep h0 h [a] ∧ h0.size ≤ r ∧ Exa Z h a o6 ∧ Fld Z h a o6 "value" "[B" (.ref r) ∧ Fld Z h a o6 "coder" "B" (.int 0) ∧ Exa Z h r "[B" ∧ Arv Z h r kr .byte 1 [(.int (v0.toInt8.toInt32))] (.int 0)
theorem o879 (l : Launch) (Z : State) (a0 : Array Value) (hw : o21 a0 Z) (ws : List Jvm.Cond) (wcs : Int32) (wd mOA mSL mAL : Addr) (kd : ClassId) (hS : o22 Z wcs wd mOA mSL mAL kd) (a b : Addr) (kb : ClassId) (v0 : Int32) (h0 : Heap) (n0 : Nat) (O0 : Old Z n0 h0) (E : Exa Z h0 a o6) (Ea : Exa Z h0 b "[C") (ga : n0 ≤ a) (F1 : Fld Z h0 a o6 "value" "[B" .null) (F2 : Fld Z h0 a o6 "coder" "B" (.int 0)) (A1 : Arv Z h0 b kb .char 1 [.int v0] (.int 0)) (hq0 : ¬ (255 : Int32) < v0) :
    o16 l o589 jdk_42_method_149_code 6 none ws ⟨2, 1, 1, 35⟩ Z h0 #[.ref a, .ref b, .int 0, .int 1, .null] (o816 Z wcs wd mOA mSL mAL kd a b kb v0 h0 n0) := by
  refine o81 (plainFor_of_name o363) ?_
  intro p e s m below meth c s₁ hx hby hml hown hnm hret hlk hZ e0 X0
  have N0 := Fr.nil n0
  refine o2 (fun u j => castTop (o797 m a b) j) ?_
  show o17 p e below _ (s₁.setTop (mkF m 0 #[.val (.ref a), .val (.ref b), .val (.int 0), .val (.int 1), .val .null, .unset] []))
  refine o2 (fun u j => o1 X0.here hx rfl (hb hby o422) rfl rfl j) ?_
  refine o19 (initO X0 hx hZ hown (o0 hw 11 rfl) (o0 hw 12 rfl) (o0 hw 13 rfl) e0 rfl (by rw [hml]; rfl) rfl (hb hby o423) (by decide) (W := 0) (by show 2 * 0 + _ ≤ _; exact Nat.le_of_eq rfl) (by decide)) ?_
  intro T16 X16 e16
  refine o2 (fun u j => o4 X16.here hx rfl (hb hby o424) rfl (o43 X16.here hx rfl (pc0 := 5) (pc' := 27) rfl (hb hby o425) rfl (o138 (by decide)) (by decide) (by decide) j)) ?_
  have F17 := Sta.ext O0.2 hS.1
  refine o19 (getS2 X16 hx hZ hown (host := "") (Or.inl (o0 hw 14 rfl)) Via.refl e16 F17 rfl (hb hby o396)) ?_
  intro T18 X18 e18
  refine o2 (fun u j => o34 X18.here hx rfl (hb hby o397) rfl (o33 hS.2.1) (o1 X18.here hx rfl (hb hby o398) rfl rfl (o4 X18.here hx rfl (hb hby o399) rfl (o4 X18.here hx rfl (hb hby o400) rfl j)))) ?_
  refine o11 (o25 X18 hx hZ (y := o587) hown (o0 hw 15 rfl) (o0 hw 16 rfl) (o0 hw 17 rfl) (o0 hw 18 rfl) o239 (o897 l Z a0 hw [] wcs wd mOA mSL mAL kd hS b kb v0 h0 n0 O0 Ea A1 (by assumption)) e18 o662 (argsL := [.ref b, .int 0, .int 1]) (rest := []) rfl rfl (g := (mkF m 36 #[.val (.ref a), .val (.ref b), .val (.int 0), .val (.int 1), .val .null, .unset] [.int 1, .int 0, .ref b])) rfl (by rw [hml]; rfl) rfl (hb hby o401) (W := 0) rfl (by decide) (by decide) (by decide) (by decide)) ?_
  intro T19 v19 L19 X19 hQ19
  obtain ⟨r_20, kr_21, rfl, M19, K19, z22, F23, F24⟩ := hQ19
  have N19 := Fr.app N0 M19
  refine o2 (fun u j => o37 X19.here hx rfl (hb hby o402) rfl rfl (l' := #[.val (.ref a), .val (.ref b), .val (.int 0), .val (.int 1), .val .null, .val (.ref r_20)]) rfl (o1 X19.here hx rfl (hb hby o403) rfl rfl (o12 X19.here hx rfl (hb hby o404) rfl rfl (o4 X19.here hx rfl (hb hby o405) rfl j)))) ?_
  have O26 := O0.keep K19 all0
  refine o11 (o25 X19 hx hZ (y := o588) hown (o0 hw 23 rfl) (o0 hw 24 rfl) (o0 hw 17 rfl) (o0 hw 25 rfl) o239 (o898 l Z a0 hw [] wcs wd mOA mSL mAL kd hS r_20 kr_21 [(.int (v0.toInt8.toInt32))] T19.heap n0 O26 F24) rfl o663 (argsL := [.ref r_20, .int 1]) (rest := [.ref a]) rfl rfl (g := (mkF m 45 #[.val (.ref a), .val (.ref b), .val (.int 0), .val (.int 1), .val .null, .val (.ref r_20)] [.int 1, .ref r_20, .ref a])) rfl (by rw [hml]; rfl) rfl (hb hby o406) (W := 1) rfl (by decide) (by decide) (by decide) (by decide)) ?_
  intro T25 v25 L25 X25 hQ25
  obtain ⟨rfl, M25, e25⟩ := hQ25
  have N25 := Fr.app N19 M25
  have F27 := (E.keep K19)
  have F28 := (F2.keep K19 nin0)
  refine o32 (putF X25 hx hZ hown (host := "") (Or.inl (o0 hw 26 rfl)) Via.refl e25 F28 F27 (Or.inr ⟨(o0 hw 27 rfl), rfl, hnm⟩) (o0 hw 2 rfl) (ty := .byte) o361 rfl rfl rfl rfl (hb hby o407)) ?_
  intro T29 h29 X29 e29 W29
  have N29 := Fr.snoc X29 N25 ga
  have F30 : Fld Z h29 a o6 "coder" "B" (.int 0) := Fld.same W29 F28
  refine o2 (fun u j => o1 X29.here hx rfl (hb hby o408) rfl rfl (o12 X29.here hx rfl (hb hby o409) rfl rfl j)) ?_
  have F31 := (Exa.wr W29 F27)
  have F32 := (Fld.other W29 (F1.keep K19 nin0) (Or.inr (o664 hw)))
  refine o32 (putF X29 hx hZ hown (host := "") (Or.inl (o0 hw 28 rfl)) Via.refl e29 F32 F31 (Or.inr ⟨(o0 hw 29 rfl), rfl, hnm⟩) (o0 hw 2 rfl) (ty := (.array .byte)) o362 rfl rfl rfl rfl (hb hby o410)) ?_
  intro T33 h33 X33 e33 W33
  have N33 := Fr.snoc X33 N29 ga
  have F34 : Fld Z h33 a o6 "value" "[B" (.ref r_20) := Fld.same W33 F32
  have K35 := (Keep.refl h0 [a]).trans K19 all0
  have K36 := K35.wr W29 (Or.inl (List.mem_of_getElem? (i := 0) rfl))
  have K37 := K36.wr W33 (Or.inl (List.mem_of_getElem? (i := 0) rfl))
  have z38 := Nat.le_trans (Nat.le_refl _) z22
  have F39 := (Exa.wr W33 F31)
  have F40 := (Fld.other W33 F30 (Or.inr (o665 hw)))
  have F41 := (Exa.wr W33 (Exa.wr W29 F23))
  have ne42 := (Ne.symm (Nat.ne_of_lt (Nat.lt_of_lt_of_le E.lt z22)))
  have F43 := ((F24.other W29 ne42).other W33 ne42)
  exact o48 X33 hx hlk hret (hb hby o411) (by decide) (by decide) (show o816 Z wcs wd mOA mSL mAL kd a b kb v0 h0 n0 none T33.heap _ from (by rw [e33]; exact ⟨r_20, kr_21, rfl, N33, K37, z38, F39, F34, F40, F41, F43⟩))
theorem o566 : decode jdk_42_method_3_code 0 = .ok (.aload_n 0, 1) := by decide +kernel
theorem o567 : decode jdk_42_method_3_code 1 = .ok (.aload_n 1, 1) := by decide +kernel
theorem o568 : decode jdk_42_method_3_code 2 = .ok (.iconst 0, 1) := by decide +kernel
theorem o569 : decode jdk_42_method_3_code 3 = .ok (.aload_n 1, 1) := by decide +kernel
theorem o570 : decode jdk_42_method_3_code 4 = .ok (.arraylength, 1) := by decide +kernel
theorem o571 : decode jdk_42_method_3_code 5 = .ok (.aconst_null, 1) := by decide +kernel
theorem o572 : decode jdk_42_method_3_code 6 = .ok (.invokespecial 27, 3) := by decide +kernel
theorem o70 : ("java/lang/String" : String) ≠ "java/lang/invoke/MethodHandle" ∧ ("java/lang/String" : String) ≠ "java/lang/invoke/VarHandle" := by decide +kernel
theorem o666 : parseMethodDescriptor "([CIILjava/lang/Void;)V" = some ⟨[(.array .char), .int, .int, (.object "java/lang/Void")], none⟩ := by decide +kernel
theorem o573 : decode jdk_42_method_3_code 9 = .ok (.return_, 1) := by decide +kernel
abbrev o590 : MethodName := ⟨"java/lang/String", "<init>", "([C)V"⟩
theorem o798 (m : MethodId) (a b : Addr)  : entryFrame m #[.ref a, .ref b] 2 = mkF m 0 #[.val (.ref a), .val (.ref b)] [] := by first | (simp [entryFrame, mkF, argsToLocals, Value.category, maxLocals]; done) | rfl
def o817 (Z : State) (wcs : Int32) (wd mOA mSL mAL : Addr) (kd : ClassId) (a b : Addr) (kb : ClassId) (v0 : Int32) (h0 : Heap) (n0 : Nat) (v : Option Value) (h : Heap) (L : List Loc) : Prop := ∃ r : Addr, ∃ kr : ClassId, v = none ∧ Fr n0 L ∧ Keep h0 h [a] ∧ h0.size ≤ r ∧ Exa Z h a o6 ∧ Fld Z h a o6 "value" "[B" (.ref r) ∧ Fld Z h a o6 "coder" "B" (.int 0) ∧ Exa Z h r "[B" ∧ Arv Z h r kr .byte 1 [(.int (v0.toInt8.toInt32))] (.int 0)
theorem o880 (l : Launch) (Z : State) (a0 : Array Value) (hw : o21 a0 Z) (ws : List Jvm.Cond) (wcs : Int32) (wd mOA mSL mAL : Addr) (kd : ClassId) (hS : o22 Z wcs wd mOA mSL mAL kd) (a b : Addr) (kb : ClassId) (v0 : Int32) (h0 : Heap) (n0 : Nat) (O0 : Old Z n0 h0) (E : Exa Z h0 a o6) (Ea : Exa Z h0 b "[C") (ga : n0 ≤ a) (F1 : Fld Z h0 a o6 "value" "[B" .null) (F2 : Fld Z h0 a o6 "coder" "B" (.int 0)) (A1 : Arv Z h0 b kb .char 1 [.int v0] (.int 0)) (hq0 : ¬ (255 : Int32) < v0) :
    o16 l o590 jdk_42_method_3_code 2 none ws ⟨3, 1, 1, 52⟩ Z h0 #[.ref a, .ref b] (o817 Z wcs wd mOA mSL mAL kd a b kb v0 h0 n0) := by
  refine o81 (plainFor_of_name o363) ?_
  intro p e s m below meth c s₁ hx hby hml hown hnm hret hlk hZ e0 X0
  have N0 := Fr.nil n0
  refine o2 (fun u j => castTop (o798 m a b) j) ?_
  show o17 p e below _ (s₁.setTop (mkF m 0 #[.val (.ref a), .val (.ref b)] []))
  refine o2 (fun u j => o1 X0.here hx rfl (hb hby o566) rfl rfl (o1 X0.here hx rfl (hb hby o567) rfl rfl (o5 X0.here hx rfl (hb hby o568) (o1 X0.here hx rfl (hb hby o569) rfl rfl (o65 X0 hx hZ e0 A1 rfl rfl (hb hby o570) (o49 X0.here hx rfl (hb hby o571) j)))))) ?_
  show o17 p e below _ (s₁.setTop (mkF m 6 #[.val (.ref a), .val (.ref b)] [.null, .int 1, .int 0, .ref b, .ref a]))
  refine o11 (o50 X0 hx hZ (y := o589) rfl hown (o0 hw 7 rfl) (o0 hw 8 rfl) (o0 hw 3 rfl) (o0 hw 10 rfl) o70 (o879 l Z a0 hw [] wcs wd mOA mSL mAL kd hS a b kb v0 h0 n0 O0 E Ea ga F1 F2 A1 (by assumption)) e0 o666 (a := a) (argsL := [.ref b, .int 0, .int 1, .null]) (rest := []) rfl rfl (g := (mkF m 6 #[.val (.ref a), .val (.ref b)] [.null, .int 1, .int 0, .ref b, .ref a])) rfl (by rw [hml]; rfl) rfl (hb hby o572) (W := 0) rfl (by decide) (by decide) (by decide) (by decide)) ?_
  intro T45 v45 L45 X45 hQ45
  obtain ⟨r_46, kr_47, rfl, M45, K45, z48, F49, F50, F51, F52, F53⟩ := hQ45
  have N45 := Fr.app N0 M45
  have K54 := (Keep.refl h0 [a]).trans K45 (allS (Or.inl (List.mem_of_getElem? (i := 0) rfl)) all0)
  have z55 := Nat.le_trans (Nat.le_refl _) z48
  exact o48 X45 hx hlk hret (hb hby o573) (by decide) (by decide) (show o817 Z wcs wd mOA mSL mAL kd a b kb v0 h0 n0 none T45.heap _ from (by exact ⟨r_46, kr_47, rfl, N45, K54, z55, F49, F50, F51, F52, F53⟩))
theorem o818 : ("[C" : String) ≠ "[B" := by decide +kernel
theorem o810 (m : MethodId) (a b : Addr)  : entryFrame m #[.ref a, .int 0, .ref b, .int 0, .int 2] 7 = mkF m 0 #[.val (.ref a), .val (.int 0), .val (.ref b), .val (.int 0), .val (.int 2), .unset, .unset] [] := by first | (simp [entryFrame, mkF, argsToLocals, Value.category, maxLocals]; done) | rfl
def QrmCp2_2 (Z : State) (wcs : Int32) (wd mOA mSL mAL : Addr) (kd : ClassId) (a : Addr) (ka : ClassId) (b : Addr) (kb : ClassId) (v0 v1 : Int32) (h0 : Heap) (n0 : Nat) (v : Option Value) (h : Heap) (L : List Loc) : Prop := v = some (.int 2) ∧ Fr n0 L ∧ Keep h0 h [b] ∧ Exa Z h b "[B" ∧ Arv Z h b kb .byte 2 [(.int (v0.toInt8.toInt32)), (.int (v1.toInt8.toInt32))] (.int 0)
theorem o899 (l : Launch) (Z : State) (a0 : Array Value) (hw : o21 a0 Z) (ws : List Jvm.Cond) (wcs : Int32) (wd mOA mSL mAL : Addr) (kd : ClassId) (hS : o22 Z wcs wd mOA mSL mAL kd) (a : Addr) (ka : ClassId) (b : Addr) (kb : ClassId) (v0 v1 : Int32) (h0 : Heap) (n0 : Nat) (O0 : Old Z n0 h0) (Ea : Exa Z h0 a "[C") (Eb : Exa Z h0 b "[B") (gb : n0 ≤ b) (A1 : Arv Z h0 a ka .char 2 [.int v0, .int v1] (.int 0)) (A2 : Arv Z h0 b kb .byte 2 [.int 0, .int 0] (.int 0)) (hq0 : ¬ (255 : Int32) < v0) (hq1 : ¬ (255 : Int32) < v1) :
    o16 l o586 jdk_52_method_21_code 7 (some .int) ws ⟨0, 0, 0, 0⟩ Z h0 #[.ref a, .int 0, .ref b, .int 0, .int 2] (QrmCp2_2 Z wcs wd mOA mSL mAL kd a ka b kb v0 v1 h0 n0) := by
  refine o81 (plainFor_of_name o238) ?_
  intro p e s m below meth c s₁ hx hby hml hown hnm hret hlk hZ e0 X0
  have N0 := Fr.nil n0
  refine o2 (fun u j => castTop (o810 m a b) j) ?_
  show o17 p e below _ (s₁.setTop (mkF m 0 #[.val (.ref a), .val (.int 0), .val (.ref b), .val (.int 0), .val (.int 2), .unset, .unset] []))
  refine o2 (fun u j => o5 X0.here hx rfl (hb hby o472) (o30 X0.here hx rfl (hb hby o473) rfl (l' := #[.val (.ref a), .val (.int 0), .val (.ref b), .val (.int 0), .val (.int 2), .val (.int 0), .unset]) rfl (o10 X0.here hx rfl (hb hby o73) rfl (o10 X0.here hx rfl (hb hby o74) rfl (o28 X0.here hx rfl (hb hby o75) rfl (o53 (by decide)) (o1 X0.here hx rfl (hb hby o170) rfl rfl j)))))) ?_
  show o17 p e below _ (s₁.setTop (mkF m 11 #[.val (.ref a), .val (.int 0), .val (.ref b), .val (.int 0), .val (.int 2), .val (.int 0), .unset] [.ref a]))
  refine o2 (fun u j => o4 X0.here hx rfl (hb hby o171) rfl (o644 X0 hx hZ e0 A1 (j := (0 : Int32)) (v := (.int v0)) ⟨by decide, by decide⟩ rfl rfl rfl (hb hby o172) (o30 X0.here hx rfl (hb hby o173) rfl (l' := #[.val (.ref a), .val (.int 0), .val (.ref b), .val (.int 0), .val (.int 2), .val (.int 0), .val (.int v0)]) rfl (o10 X0.here hx rfl (hb hby o174) rfl (o80 X0.here hx rfl (hb hby o175) (o23 X0.here hx rfl (pc0 := 20) (pc' := 26) rfl (hb hby o176) rfl (o82 hq0) (by decide) (by decide) j)))))) ?_
  show o17 p e below _ (s₁.setTop (mkF m 26 #[.val (.ref a), .val (.int 0), .val (.ref b), .val (.int 0), .val (.int 2), .val (.int 0), .val (.int v0)] []))
  refine o2 (fun u j => o1 X0.here hx rfl (hb hby o177) rfl rfl (o4 X0.here hx rfl (hb hby o178) rfl (o10 X0.here hx rfl (hb hby o179) rfl (XS.i2b X0.here hx rfl (hb hby o180) rfl j)))) ?_
  refine o32 (o646 X0 hx hZ e0 A2 (j := (0 : Int32)) ⟨by decide, by decide⟩ rfl rfl (hb hby o181)) ?_
  intro T56 h56 X56 e56 W56
  rw [o643] at W56
  have N56 := Fr.snoc X56 N0 gb
  have V56 : Arv Z h56 b kb .byte 2 [(.int (v0.toInt8.toInt32)), .int 0] (.int 0) := o236 A2 (fits_nar_byte _) W56 0 rfl (Nat.le_of_ble_eq_true rfl)
  refine o2 (fun u j => o51 X56.here hx rfl (hb hby o182) rfl (l' := #[.val (.ref a), .val (.int 1), .val (.ref b), .val (.int 0), .val (.int 2), .val (.int 0), .val (.int v0)]) rfl (o51 X56.here hx rfl (hb hby o183) rfl (l' := #[.val (.ref a), .val (.int 1), .val (.ref b), .val (.int 1), .val (.int 2), .val (.int 0), .val (.int v0)]) rfl (o51 X56.here hx rfl (hb hby o184) rfl (l' := #[.val (.ref a), .val (.int 1), .val (.ref b), .val (.int 1), .val (.int 2), .val (.int 1), .val (.int v0)]) rfl (o35 X56.here hx rfl (pc0 := 41) (pc' := 3) rfl (hb hby o185) (by decide) (by decide) (o10 X56.here hx rfl (hb hby o73) rfl (o10 X56.here hx rfl (hb hby o74) rfl j)))))) ?_
  show o17 p e below _ (T56.setTop (mkF m 7 #[.val (.ref a), .val (.int 1), .val (.ref b), .val (.int 1), .val (.int 2), .val (.int 1), .val (.int v0)] [.int 2, .int 1]))
  refine o2 (fun u j => o28 X56.here hx rfl (hb hby o75) rfl (o53 (by decide)) (o1 X56.here hx rfl (hb hby o170) rfl rfl (o4 X56.here hx rfl (hb hby o171) rfl j))) ?_
  have ne57 := (ne_exa Ea Eb o818)
  have F58 := (A1.other W56 ne57)
  refine o2 (fun u j => o644 X56 hx hZ e56 F58 (j := (1 : Int32)) (v := (.int v1)) ⟨by decide, by decide⟩ rfl rfl rfl (hb hby o172) (o30 X56.here hx rfl (hb hby o173) rfl (l' := #[.val (.ref a), .val (.int 1), .val (.ref b), .val (.int 1), .val (.int 2), .val (.int 1), .val (.int v1)]) rfl (o10 X56.here hx rfl (hb hby o174) rfl j))) ?_
  show o17 p e below _ (T56.setTop (mkF m 17 #[.val (.ref a), .val (.int 1), .val (.ref b), .val (.int 1), .val (.int 2), .val (.int 1), .val (.int v1)] [.int v1]))
  refine o2 (fun u j => o80 X56.here hx rfl (hb hby o175) (o23 X56.here hx rfl (pc0 := 20) (pc' := 26) rfl (hb hby o176) rfl (o82 hq1) (by decide) (by decide) (o1 X56.here hx rfl (hb hby o177) rfl rfl (o4 X56.here hx rfl (hb hby o178) rfl (o10 X56.here hx rfl (hb hby o179) rfl (XS.i2b X56.here hx rfl (hb hby o180) rfl j)))))) ?_
  show o17 p e below _ (T56.setTop (mkF m 31 #[.val (.ref a), .val (.int 1), .val (.ref b), .val (.int 1), .val (.int 2), .val (.int 1), .val (.int v1)] [(.int (v1.toInt8.toInt32)), .int 1, .ref b]))
  refine o32 (o646 X56 hx hZ e56 V56 (j := (1 : Int32)) ⟨by decide, by decide⟩ rfl rfl (hb hby o181)) ?_
  intro T59 h59 X59 e59 W59
  rw [o643] at W59
  have N59 := Fr.snoc X59 N56 gb
  have V59 : Arv Z h59 b kb .byte 2 [(.int (v0.toInt8.toInt32)), (.int (v1.toInt8.toInt32))] (.int 0) := o236 V56 (fits_nar_byte _) W59 1 rfl (Nat.le_of_ble_eq_true rfl)
  refine o2 (fun u j => o51 X59.here hx rfl (hb hby o182) rfl (l' := #[.val (.ref a), .val (.int 2), .val (.ref b), .val (.int 1), .val (.int 2), .val (.int 1), .val (.int v1)]) rfl (o51 X59.here hx rfl (hb hby o183) rfl (l' := #[.val (.ref a), .val (.int 2), .val (.ref b), .val (.int 2), .val (.int 2), .val (.int 1), .val (.int v1)]) rfl (o51 X59.here hx rfl (hb hby o184) rfl (l' := #[.val (.ref a), .val (.int 2), .val (.ref b), .val (.int 2), .val (.int 2), .val (.int 2), .val (.int v1)]) rfl (o35 X59.here hx rfl (pc0 := 41) (pc' := 3) rfl (hb hby o185) (by decide) (by decide) (o10 X59.here hx rfl (hb hby o73) rfl (o10 X59.here hx rfl (hb hby o74) rfl j)))))) ?_
  show o17 p e below _ (T59.setTop (mkF m 7 #[.val (.ref a), .val (.int 2), .val (.ref b), .val (.int 2), .val (.int 2), .val (.int 2), .val (.int v1)] [.int 2, .int 2]))
  refine o2 (fun u j => o23 X59.here hx rfl (pc0 := 7) (pc' := 44) rfl (hb hby o75) rfl (XT.ii_ge_t (by decide)) (by decide) (by decide) (o10 X59.here hx rfl (hb hby o414) rfl j)) ?_
  have K60 := (Keep.refl h0 [b]).wr W56 (Or.inl (List.mem_of_getElem? (i := 0) rfl))
  have K61 := K60.wr W59 (Or.inl (List.mem_of_getElem? (i := 0) rfl))
  have F62 := (Exa.wr W59 (Exa.wr W56 Eb))
  exact o20 X59 hx hlk hret rfl (Or.inl ⟨rfl, by simp, _, rfl⟩) (hb hby o415) (by decide) (by decide) (show QrmCp2_2 Z wcs wd mOA mSL mAL kd a ka b kb v0 v1 h0 n0 (some (.int 2)) T59.heap _ from (by rw [e59]; exact ⟨rfl, N59, K61, F62, V59⟩))
theorem o811 (m : MethodId) (a : Addr)  : entryFrame m #[.ref a, .int 0, .int 2] 6 = mkF m 0 #[.val (.ref a), .val (.int 0), .val (.int 2), .unset, .unset, .unset] [] := by first | (simp [entryFrame, mkF, argsToLocals, Value.category, maxLocals]; done) | rfl
def QrmCq2_2 (Z : State) (wcs : Int32) (wd mOA mSL mAL : Addr) (kd : ClassId) (a : Addr) (ka : ClassId) (v0 v1 : Int32) (h0 : Heap) (n0 : Nat) (v : Option Value) (h : Heap) (L : List Loc) : Prop := ∃ r : Addr, ∃ kr : ClassId, v = some (.ref r) ∧ Fr n0 L ∧ Keep h0 h [] ∧ h0.size ≤ r ∧ Exa Z h r "[B" ∧ Arv Z h r kr .byte 2 [(.int (v0.toInt8.toInt32)), (.int (v1.toInt8.toInt32))] (.int 0)
theorem o900 (l : Launch) (Z : State) (a0 : Array Value) (hw : o21 a0 Z) (ws : List Jvm.Cond) (wcs : Int32) (wd mOA mSL mAL : Addr) (kd : ClassId) (hS : o22 Z wcs wd mOA mSL mAL kd) (a : Addr) (ka : ClassId) (v0 v1 : Int32) (h0 : Heap) (n0 : Nat) (O0 : Old Z n0 h0) (Ea : Exa Z h0 a "[C") (A1 : Arv Z h0 a ka .char 2 [.int v0, .int v1] (.int 0)) (hq0 : ¬ (255 : Int32) < v0) (hq1 : ¬ (255 : Int32) < v1) :
    o16 l o587 jdk_52_method_16_code 6 (some (.array .byte)) ws ⟨1, 1, 2, 18⟩ Z h0 #[.ref a, .int 0, .int 2] (QrmCq2_2 Z wcs wd mOA mSL mAL kd a ka v0 v1 h0 n0) := by
  refine o81 (plainFor_of_name o238) ?_
  intro p e s m below meth c s₁ hx hby hml hown hnm hret hlk hZ e0 X0
  have N0 := Fr.nil n0
  refine o2 (fun u j => castTop (o811 m a) j) ?_
  show o17 p e below _ (s₁.setTop (mkF m 0 #[.val (.ref a), .val (.int 0), .val (.int 2), .unset, .unset, .unset] []))
  refine o2 (fun u j => o4 X0.here hx rfl (hb hby o474) rfl j) ?_
  have q_ := newPE X0 hx hZ (o0 hw 19 rfl) e0 (g := (mkF m 1 #[.val (.ref a), .val (.int 0), .val (.int 2), .unset, .unset, .unset] [.int 2])) rfl (hb hby o475) rfl (by decide) (cap := 2) (by decide) (by decide) (by decide) (by decide) (ad := "[B") o660
  obtain ⟨T63, h63, k63, X63, e63, E63, A63, Y63, st63⟩ := q_
  have q_ : ∃ z, z = h0.size := ⟨_, rfl⟩
  obtain ⟨b63, g63⟩ := q_
  rw [← g63] at A63 Y63 st63
  have V63 : Arv Z h63 b63 k63 .byte 2 [.int 0, .int 0] (.int 0) := (Arv.new A63 (by decide)).pad (pad_rep [] (.int 0) 2)
  refine o2 (fun u j => st63 u j) ?_
  refine o2 (fun u j => o31 X63.here hx rfl (hb hby o476) rfl rfl (l' := #[.val (.ref a), .val (.int 0), .val (.int 2), .val (.ref b63), .unset, .unset]) rfl (o1 X63.here hx rfl (hb hby o477) rfl rfl (o4 X63.here hx rfl (hb hby o478) rfl (o1 X63.here hx rfl (hb hby o479) rfl rfl (o5 X63.here hx rfl (hb hby o480) (o4 X63.here hx rfl (hb hby o481) rfl j)))))) ?_
  show o17 p e below _ (T63.setTop (mkF m 9 #[.val (.ref a), .val (.int 0), .val (.int 2), .val (.ref b63), .unset, .unset] [.int 2, .int 0, .ref b63, .int 0, .ref a]))
  have F64 := (Exa.ext E63 Ea)
  have g65 := Nat.le_trans (o52 O0) (Nat.le_of_eq g63.symm)
  have F66 := (A1.ext E63)
  have O68 := O0.ext E63
  refine o11 (o25 X63 hx hZ (y := o586) hown (o0 hw 20 rfl) (o0 hw 21 rfl) (o0 hw 17 rfl) (o0 hw 22 rfl) o239 (o899 l Z a0 hw [] wcs wd mOA mSL mAL kd hS a ka b63 k63 v0 v1 h63 n0 O68 F64 Y63 g65 F66 V63 (by assumption) (by assumption)) e63 o661 (argsL := [.ref a, .int 0, .ref b63, .int 0, .int 2]) (rest := []) rfl rfl (g := (mkF m 9 #[.val (.ref a), .val (.int 0), .val (.int 2), .val (.ref b63), .unset, .unset] [.int 2, .int 0, .ref b63, .int 0, .ref a])) rfl (by rw [hml]; rfl) rfl (hb hby o482) (W := 0) rfl (by decide) (by decide) (by decide) (by decide)) ?_
  intro T67 v67 L67 X67 hQ67
  obtain ⟨rfl, M67, K67, F69, F70⟩ := hQ67
  have N67 := Fr.app N0 M67
  refine o2 (fun u j => o30 X67.here hx rfl (hb hby o416) rfl (l' := #[.val (.ref a), .val (.int 0), .val (.int 2), .val (.ref b63), .val (.int 2), .unset]) rfl (o10 X67.here hx rfl (hb hby o417) rfl (o4 X67.here hx rfl (hb hby o418) rfl (o23 X67.here hx rfl (pc0 := 17) (pc' := 57) rfl (hb hby o419) rfl (XT.ii_eq_t (by decide)) (by decide) (by decide) (o1 X67.here hx rfl (hb hby o420) rfl rfl j))))) ?_
  have K71 := (Keep.refl h0 []).ext E63
  have z73 := Nat.le_trans (Nat.le_refl _) (Nat.le_of_eq g63.symm)
  have K72 := K71.trans K67 (allS (Or.inr z73) all0)
  exact o20 X67 hx hlk hret rfl (Or.inr (Or.inr (Or.inr (Or.inr ⟨rfl, rfl, rfl⟩)))) (hb hby o421) (by decide) (by decide) (show QrmCq2_2 Z wcs wd mOA mSL mAL kd a ka v0 v1 h0 n0 (some (.ref b63)) T67.heap _ from (by exact ⟨b63, k63, rfl, N67, K72, z73, F69, F70⟩))
theorem o812 (m : MethodId) (b : Addr)  : entryFrame m #[.ref b, .int 2] 2 = mkF m 0 #[.val (.ref b), .val (.int 2)] [] := by first | (simp [entryFrame, mkF, argsToLocals, Value.category, maxLocals]; done) | rfl
def QrmCo2_2 (Z : State) (wcs : Int32) (wd mOA mSL mAL : Addr) (kd : ClassId) (b : Addr) (kb : ClassId) (vs : List Value) (h0 : Heap) (n0 : Nat) (v : Option Value) (h : Heap) (L : List Loc) : Prop := v = some (.int 0) ∧ Fr n0 L ∧ h = h0
theorem o901 (l : Launch) (Z : State) (a0 : Array Value) (hw : o21 a0 Z) (ws : List Jvm.Cond) (wcs : Int32) (wd mOA mSL mAL : Addr) (kd : ClassId) (hS : o22 Z wcs wd mOA mSL mAL kd) (b : Addr) (kb : ClassId) (vs : List Value) (h0 : Heap) (n0 : Nat) (O0 : Old Z n0 h0) (A2 : Arv Z h0 b kb .byte 2 vs (.int 0)) :
    o16 l o588 jdk_52_method_15_code 2 (some .byte) ws ⟨0, 0, 0, 0⟩ Z h0 #[.ref b, .int 2] (QrmCo2_2 Z wcs wd mOA mSL mAL kd b kb vs h0 n0) := by
  refine o81 (plainFor_of_name o238) ?_
  intro p e s m below meth c s₁ hx hby hml hown hnm hret hlk hZ e0 X0
  have N0 := Fr.nil n0
  refine o2 (fun u j => castTop (o812 m b) j) ?_
  show o17 p e below _ (s₁.setTop (mkF m 0 #[.val (.ref b), .val (.int 2)] []))
  refine o2 (fun u j => o4 X0.here hx rfl (hb hby o483) rfl (o1 X0.here hx rfl (hb hby o484) rfl rfl (o65 X0 hx hZ e0 A2 rfl rfl (hb hby o485) (o38 X0.here hx rfl (hb hby o486) rfl (XS.bipush X0.here hx rfl (hb hby o487) (XS.iushr X0.here hx rfl (hb hby o488) rfl j)))))) ?_
  show o17 p e below _ (s₁.setTop (mkF m 7 #[.val (.ref b), .val (.int 2)] [.int 0]))
  refine o2 (fun u j => XS.i2b X0.here hx rfl (hb hby o489) rfl j) ?_
  exact o20 X0 hx hlk hret rfl (Or.inl ⟨rfl, by simp, _, rfl⟩) (hb hby o490) (by decide) (by decide) (show QrmCo2_2 Z wcs wd mOA mSL mAL kd b kb vs h0 n0 (some (.int 0)) s₁.heap _ from (by rw [e0]; exact ⟨rfl, N0, rfl⟩))
theorem o799 (m : MethodId) (a b : Addr)  : entryFrame m #[.ref a, .ref b, .int 0, .int 2, .null] 6 = mkF m 0 #[.val (.ref a), .val (.ref b), .val (.int 0), .val (.int 2), .val .null, .unset] [] := by first | (simp [entryFrame, mkF, argsToLocals, Value.category, maxLocals]; done) | rfl
def o819 (Z : State) (wcs : Int32) (wd mOA mSL mAL : Addr) (kd : ClassId) (a b : Addr) (kb : ClassId) (v0 v1 : Int32) (h0 : Heap) (n0 : Nat) (v : Option Value) (h : Heap) (L : List Loc) : Prop := ∃ r : Addr, ∃ kr : ClassId, v = none ∧ Fr n0 L ∧ Keep h0 h [a] ∧ h0.size ≤ r ∧ Exa Z h a o6 ∧ Fld Z h a o6 "value" "[B" (.ref r) ∧ Fld Z h a o6 "coder" "B" (.int 0) ∧ Exa Z h r "[B" ∧ Arv Z h r kr .byte 2 [(.int (v0.toInt8.toInt32)), (.int (v1.toInt8.toInt32))] (.int 0)
theorem o881 (l : Launch) (Z : State) (a0 : Array Value) (hw : o21 a0 Z) (ws : List Jvm.Cond) (wcs : Int32) (wd mOA mSL mAL : Addr) (kd : ClassId) (hS : o22 Z wcs wd mOA mSL mAL kd) (a b : Addr) (kb : ClassId) (v0 v1 : Int32) (h0 : Heap) (n0 : Nat) (O0 : Old Z n0 h0) (E : Exa Z h0 a o6) (Ea : Exa Z h0 b "[C") (ga : n0 ≤ a) (F1 : Fld Z h0 a o6 "value" "[B" .null) (F2 : Fld Z h0 a o6 "coder" "B" (.int 0)) (A1 : Arv Z h0 b kb .char 2 [.int v0, .int v1] (.int 0)) (hq0 : ¬ (255 : Int32) < v0) (hq1 : ¬ (255 : Int32) < v1) :
    o16 l o589 jdk_42_method_149_code 6 none ws ⟨2, 1, 2, 35⟩ Z h0 #[.ref a, .ref b, .int 0, .int 2, .null] (o819 Z wcs wd mOA mSL mAL kd a b kb v0 v1 h0 n0) := by
  refine o81 (plainFor_of_name o363) ?_
  intro p e s m below meth c s₁ hx hby hml hown hnm hret hlk hZ e0 X0
  have N0 := Fr.nil n0
  refine o2 (fun u j => castTop (o799 m a b) j) ?_
  show o17 p e below _ (s₁.setTop (mkF m 0 #[.val (.ref a), .val (.ref b), .val (.int 0), .val (.int 2), .val .null, .unset] []))
  refine o2 (fun u j => o1 X0.here hx rfl (hb hby o422) rfl rfl j) ?_
  refine o19 (initO X0 hx hZ hown (o0 hw 11 rfl) (o0 hw 12 rfl) (o0 hw 13 rfl) e0 rfl (by rw [hml]; rfl) rfl (hb hby o423) (by decide) (W := 0) (by show 2 * 0 + _ ≤ _; exact Nat.le_of_eq rfl) (by decide)) ?_
  intro T75 X75 e75
  refine o2 (fun u j => o4 X75.here hx rfl (hb hby o424) rfl (o43 X75.here hx rfl (pc0 := 5) (pc' := 27) rfl (hb hby o425) rfl (o138 (by decide)) (by decide) (by decide) j)) ?_
  have F76 := Sta.ext O0.2 hS.1
  refine o19 (getS2 X75 hx hZ hown (host := "") (Or.inl (o0 hw 14 rfl)) Via.refl e75 F76 rfl (hb hby o396)) ?_
  intro T77 X77 e77
  refine o2 (fun u j => o34 X77.here hx rfl (hb hby o397) rfl (o33 hS.2.1) (o1 X77.here hx rfl (hb hby o398) rfl rfl (o4 X77.here hx rfl (hb hby o399) rfl (o4 X77.here hx rfl (hb hby o400) rfl j)))) ?_
  refine o11 (o25 X77 hx hZ (y := o587) hown (o0 hw 15 rfl) (o0 hw 16 rfl) (o0 hw 17 rfl) (o0 hw 18 rfl) o239 (o900 l Z a0 hw [] wcs wd mOA mSL mAL kd hS b kb v0 v1 h0 n0 O0 Ea A1 (by assumption) (by assumption)) e77 o662 (argsL := [.ref b, .int 0, .int 2]) (rest := []) rfl rfl (g := (mkF m 36 #[.val (.ref a), .val (.ref b), .val (.int 0), .val (.int 2), .val .null, .unset] [.int 2, .int 0, .ref b])) rfl (by rw [hml]; rfl) rfl (hb hby o401) (W := 0) rfl (by decide) (by decide) (by decide) (by decide)) ?_
  intro T78 v78 L78 X78 hQ78
  obtain ⟨r_79, kr_80, rfl, M78, K78, z81, F82, F83⟩ := hQ78
  have N78 := Fr.app N0 M78
  refine o2 (fun u j => o37 X78.here hx rfl (hb hby o402) rfl rfl (l' := #[.val (.ref a), .val (.ref b), .val (.int 0), .val (.int 2), .val .null, .val (.ref r_79)]) rfl (o1 X78.here hx rfl (hb hby o403) rfl rfl (o12 X78.here hx rfl (hb hby o404) rfl rfl (o4 X78.here hx rfl (hb hby o405) rfl j)))) ?_
  have O85 := O0.keep K78 all0
  refine o11 (o25 X78 hx hZ (y := o588) hown (o0 hw 23 rfl) (o0 hw 24 rfl) (o0 hw 17 rfl) (o0 hw 25 rfl) o239 (o901 l Z a0 hw [] wcs wd mOA mSL mAL kd hS r_79 kr_80 [(.int (v0.toInt8.toInt32)), (.int (v1.toInt8.toInt32))] T78.heap n0 O85 F83) rfl o663 (argsL := [.ref r_79, .int 2]) (rest := [.ref a]) rfl rfl (g := (mkF m 45 #[.val (.ref a), .val (.ref b), .val (.int 0), .val (.int 2), .val .null, .val (.ref r_79)] [.int 2, .ref r_79, .ref a])) rfl (by rw [hml]; rfl) rfl (hb hby o406) (W := 1) rfl (by decide) (by decide) (by decide) (by decide)) ?_
  intro T84 v84 L84 X84 hQ84
  obtain ⟨rfl, M84, e84⟩ := hQ84
  have N84 := Fr.app N78 M84
  have F86 := (E.keep K78)
  have F87 := (F2.keep K78 nin0)
  refine o32 (putF X84 hx hZ hown (host := "") (Or.inl (o0 hw 26 rfl)) Via.refl e84 F87 F86 (Or.inr ⟨(o0 hw 27 rfl), rfl, hnm⟩) (o0 hw 2 rfl) (ty := .byte) o361 rfl rfl rfl rfl (hb hby o407)) ?_
  intro T88 h88 X88 e88 W88
  have N88 := Fr.snoc X88 N84 ga
  have F89 : Fld Z h88 a o6 "coder" "B" (.int 0) := Fld.same W88 F87
  refine o2 (fun u j => o1 X88.here hx rfl (hb hby o408) rfl rfl (o12 X88.here hx rfl (hb hby o409) rfl rfl j)) ?_
  have F90 := (Exa.wr W88 F86)
  have F91 := (Fld.other W88 (F1.keep K78 nin0) (Or.inr (o664 hw)))
  refine o32 (putF X88 hx hZ hown (host := "") (Or.inl (o0 hw 28 rfl)) Via.refl e88 F91 F90 (Or.inr ⟨(o0 hw 29 rfl), rfl, hnm⟩) (o0 hw 2 rfl) (ty := (.array .byte)) o362 rfl rfl rfl rfl (hb hby o410)) ?_
  intro T92 h92 X92 e92 W92
  have N92 := Fr.snoc X92 N88 ga
  have F93 : Fld Z h92 a o6 "value" "[B" (.ref r_79) := Fld.same W92 F91
  have K94 := (Keep.refl h0 [a]).trans K78 all0
  have K95 := K94.wr W88 (Or.inl (List.mem_of_getElem? (i := 0) rfl))
  have K96 := K95.wr W92 (Or.inl (List.mem_of_getElem? (i := 0) rfl))
  have z97 := Nat.le_trans (Nat.le_refl _) z81
  have F98 := (Exa.wr W92 F90)
  have F99 := (Fld.other W92 F89 (Or.inr (o665 hw)))
  have F100 := (Exa.wr W92 (Exa.wr W88 F82))
  have ne101 := (Ne.symm (Nat.ne_of_lt (Nat.lt_of_lt_of_le E.lt z81)))
  have F102 := ((F83.other W88 ne101).other W92 ne101)
  exact o48 X92 hx hlk hret (hb hby o411) (by decide) (by decide) (show o819 Z wcs wd mOA mSL mAL kd a b kb v0 v1 h0 n0 none T92.heap _ from (by rw [e92]; exact ⟨r_79, kr_80, rfl, N92, K96, z97, F98, F93, F99, F100, F102⟩))
theorem o800 (m : MethodId) (a b : Addr)  : entryFrame m #[.ref a, .ref b] 2 = mkF m 0 #[.val (.ref a), .val (.ref b)] [] := by first | (simp [entryFrame, mkF, argsToLocals, Value.category, maxLocals]; done) | rfl
def o820 (Z : State) (wcs : Int32) (wd mOA mSL mAL : Addr) (kd : ClassId) (a b : Addr) (kb : ClassId) (v0 v1 : Int32) (h0 : Heap) (n0 : Nat) (v : Option Value) (h : Heap) (L : List Loc) : Prop := ∃ r : Addr, ∃ kr : ClassId, v = none ∧ Fr n0 L ∧ Keep h0 h [a] ∧ h0.size ≤ r ∧ Exa Z h a o6 ∧ Fld Z h a o6 "value" "[B" (.ref r) ∧ Fld Z h a o6 "coder" "B" (.int 0) ∧ Exa Z h r "[B" ∧ Arv Z h r kr .byte 2 [(.int (v0.toInt8.toInt32)), (.int (v1.toInt8.toInt32))] (.int 0)
theorem o882 (l : Launch) (Z : State) (a0 : Array Value) (hw : o21 a0 Z) (ws : List Jvm.Cond) (wcs : Int32) (wd mOA mSL mAL : Addr) (kd : ClassId) (hS : o22 Z wcs wd mOA mSL mAL kd) (a b : Addr) (kb : ClassId) (v0 v1 : Int32) (h0 : Heap) (n0 : Nat) (O0 : Old Z n0 h0) (E : Exa Z h0 a o6) (Ea : Exa Z h0 b "[C") (ga : n0 ≤ a) (F1 : Fld Z h0 a o6 "value" "[B" .null) (F2 : Fld Z h0 a o6 "coder" "B" (.int 0)) (A1 : Arv Z h0 b kb .char 2 [.int v0, .int v1] (.int 0)) (hq0 : ¬ (255 : Int32) < v0) (hq1 : ¬ (255 : Int32) < v1) :
    o16 l o590 jdk_42_method_3_code 2 none ws ⟨3, 1, 2, 52⟩ Z h0 #[.ref a, .ref b] (o820 Z wcs wd mOA mSL mAL kd a b kb v0 v1 h0 n0) := by
  refine o81 (plainFor_of_name o363) ?_
  intro p e s m below meth c s₁ hx hby hml hown hnm hret hlk hZ e0 X0
  have N0 := Fr.nil n0
  refine o2 (fun u j => castTop (o800 m a b) j) ?_
  show o17 p e below _ (s₁.setTop (mkF m 0 #[.val (.ref a), .val (.ref b)] []))
  refine o2 (fun u j => o1 X0.here hx rfl (hb hby o566) rfl rfl (o1 X0.here hx rfl (hb hby o567) rfl rfl (o5 X0.here hx rfl (hb hby o568) (o1 X0.here hx rfl (hb hby o569) rfl rfl (o65 X0 hx hZ e0 A1 rfl rfl (hb hby o570) (o49 X0.here hx rfl (hb hby o571) j)))))) ?_
  show o17 p e below _ (s₁.setTop (mkF m 6 #[.val (.ref a), .val (.ref b)] [.null, .int 2, .int 0, .ref b, .ref a]))
  refine o11 (o50 X0 hx hZ (y := o589) rfl hown (o0 hw 7 rfl) (o0 hw 8 rfl) (o0 hw 3 rfl) (o0 hw 10 rfl) o70 (o881 l Z a0 hw [] wcs wd mOA mSL mAL kd hS a b kb v0 v1 h0 n0 O0 E Ea ga F1 F2 A1 (by assumption) (by assumption)) e0 o666 (a := a) (argsL := [.ref b, .int 0, .int 2, .null]) (rest := []) rfl rfl (g := (mkF m 6 #[.val (.ref a), .val (.ref b)] [.null, .int 2, .int 0, .ref b, .ref a])) rfl (by rw [hml]; rfl) rfl (hb hby o572) (W := 0) rfl (by decide) (by decide) (by decide) (by decide)) ?_
  intro T104 v104 L104 X104 hQ104
  obtain ⟨r_105, kr_106, rfl, M104, K104, z107, F108, F109, F110, F111, F112⟩ := hQ104
  have N104 := Fr.app N0 M104
  have K113 := (Keep.refl h0 [a]).trans K104 (allS (Or.inl (List.mem_of_getElem? (i := 0) rfl)) all0)
  have z114 := Nat.le_trans (Nat.le_refl _) z107
  exact o48 X104 hx hlk hret (hb hby o573) (by decide) (by decide) (show o820 Z wcs wd mOA mSL mAL kd a b kb v0 v1 h0 n0 none T104.heap _ from (by exact ⟨r_105, kr_106, rfl, N104, K113, z114, F108, F109, F110, F111, F112⟩))
theorem o813 (m : MethodId) (a b : Addr)  : entryFrame m #[.ref a, .int 0, .ref b, .int 0, .int 3] 7 = mkF m 0 #[.val (.ref a), .val (.int 0), .val (.ref b), .val (.int 0), .val (.int 3), .unset, .unset] [] := by first | (simp [entryFrame, mkF, argsToLocals, Value.category, maxLocals]; done) | rfl
def QrmCp3_3 (Z : State) (wcs : Int32) (wd mOA mSL mAL : Addr) (kd : ClassId) (a : Addr) (ka : ClassId) (b : Addr) (kb : ClassId) (v0 v1 v2 : Int32) (h0 : Heap) (n0 : Nat) (v : Option Value) (h : Heap) (L : List Loc) : Prop := v = some (.int 3) ∧ Fr n0 L ∧ Keep h0 h [b] ∧ Exa Z h b "[B" ∧ Arv Z h b kb .byte 3 [(.int (v0.toInt8.toInt32)), (.int (v1.toInt8.toInt32)), (.int (v2.toInt8.toInt32))] (.int 0)
theorem o902 (l : Launch) (Z : State) (a0 : Array Value) (hw : o21 a0 Z) (ws : List Jvm.Cond) (wcs : Int32) (wd mOA mSL mAL : Addr) (kd : ClassId) (hS : o22 Z wcs wd mOA mSL mAL kd) (a : Addr) (ka : ClassId) (b : Addr) (kb : ClassId) (v0 v1 v2 : Int32) (h0 : Heap) (n0 : Nat) (O0 : Old Z n0 h0) (Ea : Exa Z h0 a "[C") (Eb : Exa Z h0 b "[B") (gb : n0 ≤ b) (A1 : Arv Z h0 a ka .char 3 [.int v0, .int v1, .int v2] (.int 0)) (A2 : Arv Z h0 b kb .byte 3 [.int 0, .int 0, .int 0] (.int 0)) (hq0 : ¬ (255 : Int32) < v0) (hq1 : ¬ (255 : Int32) < v1) (hq2 : ¬ (255 : Int32) < v2) :
    o16 l o586 jdk_52_method_21_code 7 (some .int) ws ⟨0, 0, 0, 0⟩ Z h0 #[.ref a, .int 0, .ref b, .int 0, .int 3] (QrmCp3_3 Z wcs wd mOA mSL mAL kd a ka b kb v0 v1 v2 h0 n0) := by
  refine o81 (plainFor_of_name o238) ?_
  intro p e s m below meth c s₁ hx hby hml hown hnm hret hlk hZ e0 X0
  have N0 := Fr.nil n0
  refine o2 (fun u j => castTop (o813 m a b) j) ?_
  show o17 p e below _ (s₁.setTop (mkF m 0 #[.val (.ref a), .val (.int 0), .val (.ref b), .val (.int 0), .val (.int 3), .unset, .unset] []))
  refine o2 (fun u j => o5 X0.here hx rfl (hb hby o472) (o30 X0.here hx rfl (hb hby o473) rfl (l' := #[.val (.ref a), .val (.int 0), .val (.ref b), .val (.int 0), .val (.int 3), .val (.int 0), .unset]) rfl (o10 X0.here hx rfl (hb hby o73) rfl (o10 X0.here hx rfl (hb hby o74) rfl (o28 X0.here hx rfl (hb hby o75) rfl (o53 (by decide)) (o1 X0.here hx rfl (hb hby o170) rfl rfl j)))))) ?_
  show o17 p e below _ (s₁.setTop (mkF m 11 #[.val (.ref a), .val (.int 0), .val (.ref b), .val (.int 0), .val (.int 3), .val (.int 0), .unset] [.ref a]))
  refine o2 (fun u j => o4 X0.here hx rfl (hb hby o171) rfl (o644 X0 hx hZ e0 A1 (j := (0 : Int32)) (v := (.int v0)) ⟨by decide, by decide⟩ rfl rfl rfl (hb hby o172) (o30 X0.here hx rfl (hb hby o173) rfl (l' := #[.val (.ref a), .val (.int 0), .val (.ref b), .val (.int 0), .val (.int 3), .val (.int 0), .val (.int v0)]) rfl (o10 X0.here hx rfl (hb hby o174) rfl (o80 X0.here hx rfl (hb hby o175) (o23 X0.here hx rfl (pc0 := 20) (pc' := 26) rfl (hb hby o176) rfl (o82 hq0) (by decide) (by decide) j)))))) ?_
  show o17 p e below _ (s₁.setTop (mkF m 26 #[.val (.ref a), .val (.int 0), .val (.ref b), .val (.int 0), .val (.int 3), .val (.int 0), .val (.int v0)] []))
  refine o2 (fun u j => o1 X0.here hx rfl (hb hby o177) rfl rfl (o4 X0.here hx rfl (hb hby o178) rfl (o10 X0.here hx rfl (hb hby o179) rfl (XS.i2b X0.here hx rfl (hb hby o180) rfl j)))) ?_
  refine o32 (o646 X0 hx hZ e0 A2 (j := (0 : Int32)) ⟨by decide, by decide⟩ rfl rfl (hb hby o181)) ?_
  intro T115 h115 X115 e115 W115
  rw [o643] at W115
  have N115 := Fr.snoc X115 N0 gb
  have V115 : Arv Z h115 b kb .byte 3 [(.int (v0.toInt8.toInt32)), .int 0, .int 0] (.int 0) := o236 A2 (fits_nar_byte _) W115 0 rfl (Nat.le_of_ble_eq_true rfl)
  refine o2 (fun u j => o51 X115.here hx rfl (hb hby o182) rfl (l' := #[.val (.ref a), .val (.int 1), .val (.ref b), .val (.int 0), .val (.int 3), .val (.int 0), .val (.int v0)]) rfl (o51 X115.here hx rfl (hb hby o183) rfl (l' := #[.val (.ref a), .val (.int 1), .val (.ref b), .val (.int 1), .val (.int 3), .val (.int 0), .val (.int v0)]) rfl (o51 X115.here hx rfl (hb hby o184) rfl (l' := #[.val (.ref a), .val (.int 1), .val (.ref b), .val (.int 1), .val (.int 3), .val (.int 1), .val (.int v0)]) rfl (o35 X115.here hx rfl (pc0 := 41) (pc' := 3) rfl (hb hby o185) (by decide) (by decide) (o10 X115.here hx rfl (hb hby o73) rfl (o10 X115.here hx rfl (hb hby o74) rfl j)))))) ?_
  show o17 p e below _ (T115.setTop (mkF m 7 #[.val (.ref a), .val (.int 1), .val (.ref b), .val (.int 1), .val (.int 3), .val (.int 1), .val (.int v0)] [.int 3, .int 1]))
  refine o2 (fun u j => o28 X115.here hx rfl (hb hby o75) rfl (o53 (by decide)) (o1 X115.here hx rfl (hb hby o170) rfl rfl (o4 X115.here hx rfl (hb hby o171) rfl j))) ?_
  have ne116 := (ne_exa Ea Eb o818)
  have F117 := (A1.other W115 ne116)
  refine o2 (fun u j => o644 X115 hx hZ e115 F117 (j := (1 : Int32)) (v := (.int v1)) ⟨by decide, by decide⟩ rfl rfl rfl (hb hby o172) (o30 X115.here hx rfl (hb hby o173) rfl (l' := #[.val (.ref a), .val (.int 1), .val (.ref b), .val (.int 1), .val (.int 3), .val (.int 1), .val (.int v1)]) rfl (o10 X115.here hx rfl (hb hby o174) rfl j))) ?_
  show o17 p e below _ (T115.setTop (mkF m 17 #[.val (.ref a), .val (.int 1), .val (.ref b), .val (.int 1), .val (.int 3), .val (.int 1), .val (.int v1)] [.int v1]))
  refine o2 (fun u j => o80 X115.here hx rfl (hb hby o175) (o23 X115.here hx rfl (pc0 := 20) (pc' := 26) rfl (hb hby o176) rfl (o82 hq1) (by decide) (by decide) (o1 X115.here hx rfl (hb hby o177) rfl rfl (o4 X115.here hx rfl (hb hby o178) rfl (o10 X115.here hx rfl (hb hby o179) rfl (XS.i2b X115.here hx rfl (hb hby o180) rfl j)))))) ?_
  show o17 p e below _ (T115.setTop (mkF m 31 #[.val (.ref a), .val (.int 1), .val (.ref b), .val (.int 1), .val (.int 3), .val (.int 1), .val (.int v1)] [(.int (v1.toInt8.toInt32)), .int 1, .ref b]))
  refine o32 (o646 X115 hx hZ e115 V115 (j := (1 : Int32)) ⟨by decide, by decide⟩ rfl rfl (hb hby o181)) ?_
  intro T118 h118 X118 e118 W118
  rw [o643] at W118
  have N118 := Fr.snoc X118 N115 gb
  have V118 : Arv Z h118 b kb .byte 3 [(.int (v0.toInt8.toInt32)), (.int (v1.toInt8.toInt32)), .int 0] (.int 0) := o236 V115 (fits_nar_byte _) W118 1 rfl (Nat.le_of_ble_eq_true rfl)
  refine o2 (fun u j => o51 X118.here hx rfl (hb hby o182) rfl (l' := #[.val (.ref a), .val (.int 2), .val (.ref b), .val (.int 1), .val (.int 3), .val (.int 1), .val (.int v1)]) rfl (o51 X118.here hx rfl (hb hby o183) rfl (l' := #[.val (.ref a), .val (.int 2), .val (.ref b), .val (.int 2), .val (.int 3), .val (.int 1), .val (.int v1)]) rfl (o51 X118.here hx rfl (hb hby o184) rfl (l' := #[.val (.ref a), .val (.int 2), .val (.ref b), .val (.int 2), .val (.int 3), .val (.int 2), .val (.int v1)]) rfl (o35 X118.here hx rfl (pc0 := 41) (pc' := 3) rfl (hb hby o185) (by decide) (by decide) (o10 X118.here hx rfl (hb hby o73) rfl (o10 X118.here hx rfl (hb hby o74) rfl j)))))) ?_
  show o17 p e below _ (T118.setTop (mkF m 7 #[.val (.ref a), .val (.int 2), .val (.ref b), .val (.int 2), .val (.int 3), .val (.int 2), .val (.int v1)] [.int 3, .int 2]))
  refine o2 (fun u j => o28 X118.here hx rfl (hb hby o75) rfl (o53 (by decide)) (o1 X118.here hx rfl (hb hby o170) rfl rfl (o4 X118.here hx rfl (hb hby o171) rfl j))) ?_
  have F119 := (F117.other W118 ne116)
  refine o2 (fun u j => o644 X118 hx hZ e118 F119 (j := (2 : Int32)) (v := (.int v2)) ⟨by decide, by decide⟩ rfl rfl rfl (hb hby o172) (o30 X118.here hx rfl (hb hby o173) rfl (l' := #[.val (.ref a), .val (.int 2), .val (.ref b), .val (.int 2), .val (.int 3), .val (.int 2), .val (.int v2)]) rfl (o10 X118.here hx rfl (hb hby o174) rfl j))) ?_
  show o17 p e below _ (T118.setTop (mkF m 17 #[.val (.ref a), .val (.int 2), .val (.ref b), .val (.int 2), .val (.int 3), .val (.int 2), .val (.int v2)] [.int v2]))
  refine o2 (fun u j => o80 X118.here hx rfl (hb hby o175) (o23 X118.here hx rfl (pc0 := 20) (pc' := 26) rfl (hb hby o176) rfl (o82 hq2) (by decide) (by decide) (o1 X118.here hx rfl (hb hby o177) rfl rfl (o4 X118.here hx rfl (hb hby o178) rfl (o10 X118.here hx rfl (hb hby o179) rfl (XS.i2b X118.here hx rfl (hb hby o180) rfl j)))))) ?_
  show o17 p e below _ (T118.setTop (mkF m 31 #[.val (.ref a), .val (.int 2), .val (.ref b), .val (.int 2), .val (.int 3), .val (.int 2), .val (.int v2)] [(.int (v2.toInt8.toInt32)), .int 2, .ref b]))
  refine o32 (o646 X118 hx hZ e118 V118 (j := (2 : Int32)) ⟨by decide, by decide⟩ rfl rfl (hb hby o181)) ?_
  intro T120 h120 X120 e120 W120
  rw [o643] at W120
  have N120 := Fr.snoc X120 N118 gb
  have V120 : Arv Z h120 b kb .byte 3 [(.int (v0.toInt8.toInt32)), (.int (v1.toInt8.toInt32)), (.int (v2.toInt8.toInt32))] (.int 0) := o236 V118 (fits_nar_byte _) W120 2 rfl (Nat.le_of_ble_eq_true rfl)
  refine o2 (fun u j => o51 X120.here hx rfl (hb hby o182) rfl (l' := #[.val (.ref a), .val (.int 3), .val (.ref b), .val (.int 2), .val (.int 3), .val (.int 2), .val (.int v2)]) rfl (o51 X120.here hx rfl (hb hby o183) rfl (l' := #[.val (.ref a), .val (.int 3), .val (.ref b), .val (.int 3), .val (.int 3), .val (.int 2), .val (.int v2)]) rfl (o51 X120.here hx rfl (hb hby o184) rfl (l' := #[.val (.ref a), .val (.int 3), .val (.ref b), .val (.int 3), .val (.int 3), .val (.int 3), .val (.int v2)]) rfl (o35 X120.here hx rfl (pc0 := 41) (pc' := 3) rfl (hb hby o185) (by decide) (by decide) (o10 X120.here hx rfl (hb hby o73) rfl (o10 X120.here hx rfl (hb hby o74) rfl j)))))) ?_
  show o17 p e below _ (T120.setTop (mkF m 7 #[.val (.ref a), .val (.int 3), .val (.ref b), .val (.int 3), .val (.int 3), .val (.int 3), .val (.int v2)] [.int 3, .int 3]))
  refine o2 (fun u j => o23 X120.here hx rfl (pc0 := 7) (pc' := 44) rfl (hb hby o75) rfl (XT.ii_ge_t (by decide)) (by decide) (by decide) (o10 X120.here hx rfl (hb hby o414) rfl j)) ?_
  have K121 := (Keep.refl h0 [b]).wr W115 (Or.inl (List.mem_of_getElem? (i := 0) rfl))
  have K122 := K121.wr W118 (Or.inl (List.mem_of_getElem? (i := 0) rfl))
  have K123 := K122.wr W120 (Or.inl (List.mem_of_getElem? (i := 0) rfl))
  have F124 := (Exa.wr W120 (Exa.wr W118 (Exa.wr W115 Eb)))
  exact o20 X120 hx hlk hret rfl (Or.inl ⟨rfl, by simp, _, rfl⟩) (hb hby o415) (by decide) (by decide) (show QrmCp3_3 Z wcs wd mOA mSL mAL kd a ka b kb v0 v1 v2 h0 n0 (some (.int 3)) T120.heap _ from (by rw [e120]; exact ⟨rfl, N120, K123, F124, V120⟩))
theorem o814 (m : MethodId) (a : Addr)  : entryFrame m #[.ref a, .int 0, .int 3] 6 = mkF m 0 #[.val (.ref a), .val (.int 0), .val (.int 3), .unset, .unset, .unset] [] := by first | (simp [entryFrame, mkF, argsToLocals, Value.category, maxLocals]; done) | rfl
def QrmCq3_3 (Z : State) (wcs : Int32) (wd mOA mSL mAL : Addr) (kd : ClassId) (a : Addr) (ka : ClassId) (v0 v1 v2 : Int32) (h0 : Heap) (n0 : Nat) (v : Option Value) (h : Heap) (L : List Loc) : Prop := ∃ r : Addr, ∃ kr : ClassId, v = some (.ref r) ∧ Fr n0 L ∧ Keep h0 h [] ∧ h0.size ≤ r ∧ Exa Z h r "[B" ∧ Arv Z h r kr .byte 3 [(.int (v0.toInt8.toInt32)), (.int (v1.toInt8.toInt32)), (.int (v2.toInt8.toInt32))] (.int 0)
theorem o903 (l : Launch) (Z : State) (a0 : Array Value) (hw : o21 a0 Z) (ws : List Jvm.Cond) (wcs : Int32) (wd mOA mSL mAL : Addr) (kd : ClassId) (hS : o22 Z wcs wd mOA mSL mAL kd) (a : Addr) (ka : ClassId) (v0 v1 v2 : Int32) (h0 : Heap) (n0 : Nat) (O0 : Old Z n0 h0) (Ea : Exa Z h0 a "[C") (A1 : Arv Z h0 a ka .char 3 [.int v0, .int v1, .int v2] (.int 0)) (hq0 : ¬ (255 : Int32) < v0) (hq1 : ¬ (255 : Int32) < v1) (hq2 : ¬ (255 : Int32) < v2) :
    o16 l o587 jdk_52_method_16_code 6 (some (.array .byte)) ws ⟨1, 1, 3, 18⟩ Z h0 #[.ref a, .int 0, .int 3] (QrmCq3_3 Z wcs wd mOA mSL mAL kd a ka v0 v1 v2 h0 n0) := by
  refine o81 (plainFor_of_name o238) ?_
  intro p e s m below meth c s₁ hx hby hml hown hnm hret hlk hZ e0 X0
  have N0 := Fr.nil n0
  refine o2 (fun u j => castTop (o814 m a) j) ?_
  show o17 p e below _ (s₁.setTop (mkF m 0 #[.val (.ref a), .val (.int 0), .val (.int 3), .unset, .unset, .unset] []))
  refine o2 (fun u j => o4 X0.here hx rfl (hb hby o474) rfl j) ?_
  have q_ := newPE X0 hx hZ (o0 hw 19 rfl) e0 (g := (mkF m 1 #[.val (.ref a), .val (.int 0), .val (.int 3), .unset, .unset, .unset] [.int 3])) rfl (hb hby o475) rfl (by decide) (cap := 3) (by decide) (by decide) (by decide) (by decide) (ad := "[B") o660
  obtain ⟨T125, h125, k125, X125, e125, E125, A125, Y125, st125⟩ := q_
  have q_ : ∃ z, z = h0.size := ⟨_, rfl⟩
  obtain ⟨b125, g125⟩ := q_
  rw [← g125] at A125 Y125 st125
  have V125 : Arv Z h125 b125 k125 .byte 3 [.int 0, .int 0, .int 0] (.int 0) := (Arv.new A125 (by decide)).pad (pad_rep [] (.int 0) 3)
  refine o2 (fun u j => st125 u j) ?_
  refine o2 (fun u j => o31 X125.here hx rfl (hb hby o476) rfl rfl (l' := #[.val (.ref a), .val (.int 0), .val (.int 3), .val (.ref b125), .unset, .unset]) rfl (o1 X125.here hx rfl (hb hby o477) rfl rfl (o4 X125.here hx rfl (hb hby o478) rfl (o1 X125.here hx rfl (hb hby o479) rfl rfl (o5 X125.here hx rfl (hb hby o480) (o4 X125.here hx rfl (hb hby o481) rfl j)))))) ?_
  show o17 p e below _ (T125.setTop (mkF m 9 #[.val (.ref a), .val (.int 0), .val (.int 3), .val (.ref b125), .unset, .unset] [.int 3, .int 0, .ref b125, .int 0, .ref a]))
  have F126 := (Exa.ext E125 Ea)
  have g127 := Nat.le_trans (o52 O0) (Nat.le_of_eq g125.symm)
  have F128 := (A1.ext E125)
  have O130 := O0.ext E125
  refine o11 (o25 X125 hx hZ (y := o586) hown (o0 hw 20 rfl) (o0 hw 21 rfl) (o0 hw 17 rfl) (o0 hw 22 rfl) o239 (o902 l Z a0 hw [] wcs wd mOA mSL mAL kd hS a ka b125 k125 v0 v1 v2 h125 n0 O130 F126 Y125 g127 F128 V125 (by assumption) (by assumption) (by assumption)) e125 o661 (argsL := [.ref a, .int 0, .ref b125, .int 0, .int 3]) (rest := []) rfl rfl (g := (mkF m 9 #[.val (.ref a), .val (.int 0), .val (.int 3), .val (.ref b125), .unset, .unset] [.int 3, .int 0, .ref b125, .int 0, .ref a])) rfl (by rw [hml]; rfl) rfl (hb hby o482) (W := 0) rfl (by decide) (by decide) (by decide) (by decide)) ?_
  intro T129 v129 L129 X129 hQ129
  obtain ⟨rfl, M129, K129, F131, F132⟩ := hQ129
  have N129 := Fr.app N0 M129
  refine o2 (fun u j => o30 X129.here hx rfl (hb hby o416) rfl (l' := #[.val (.ref a), .val (.int 0), .val (.int 3), .val (.ref b125), .val (.int 3), .unset]) rfl (o10 X129.here hx rfl (hb hby o417) rfl (o4 X129.here hx rfl (hb hby o418) rfl (o23 X129.here hx rfl (pc0 := 17) (pc' := 57) rfl (hb hby o419) rfl (XT.ii_eq_t (by decide)) (by decide) (by decide) (o1 X129.here hx rfl (hb hby o420) rfl rfl j))))) ?_
  have K133 := (Keep.refl h0 []).ext E125
  have z135 := Nat.le_trans (Nat.le_refl _) (Nat.le_of_eq g125.symm)
  have K134 := K133.trans K129 (allS (Or.inr z135) all0)
  exact o20 X129 hx hlk hret rfl (Or.inr (Or.inr (Or.inr (Or.inr ⟨rfl, rfl, rfl⟩)))) (hb hby o421) (by decide) (by decide) (show QrmCq3_3 Z wcs wd mOA mSL mAL kd a ka v0 v1 v2 h0 n0 (some (.ref b125)) T129.heap _ from (by exact ⟨b125, k125, rfl, N129, K134, z135, F131, F132⟩))
theorem o815 (m : MethodId) (b : Addr)  : entryFrame m #[.ref b, .int 3] 2 = mkF m 0 #[.val (.ref b), .val (.int 3)] [] := by first | (simp [entryFrame, mkF, argsToLocals, Value.category, maxLocals]; done) | rfl
def QrmCo3_3 (Z : State) (wcs : Int32) (wd mOA mSL mAL : Addr) (kd : ClassId) (b : Addr) (kb : ClassId) (vs : List Value) (h0 : Heap) (n0 : Nat) (v : Option Value) (h : Heap) (L : List Loc) : Prop := v = some (.int 0) ∧ Fr n0 L ∧ h = h0
theorem o904 (l : Launch) (Z : State) (a0 : Array Value) (hw : o21 a0 Z) (ws : List Jvm.Cond) (wcs : Int32) (wd mOA mSL mAL : Addr) (kd : ClassId) (hS : o22 Z wcs wd mOA mSL mAL kd) (b : Addr) (kb : ClassId) (vs : List Value) (h0 : Heap) (n0 : Nat) (O0 : Old Z n0 h0) (A2 : Arv Z h0 b kb .byte 3 vs (.int 0)) :
    o16 l o588 jdk_52_method_15_code 2 (some .byte) ws ⟨0, 0, 0, 0⟩ Z h0 #[.ref b, .int 3] (QrmCo3_3 Z wcs wd mOA mSL mAL kd b kb vs h0 n0) := by
  refine o81 (plainFor_of_name o238) ?_
  intro p e s m below meth c s₁ hx hby hml hown hnm hret hlk hZ e0 X0
  have N0 := Fr.nil n0
  refine o2 (fun u j => castTop (o815 m b) j) ?_
  show o17 p e below _ (s₁.setTop (mkF m 0 #[.val (.ref b), .val (.int 3)] []))
  refine o2 (fun u j => o4 X0.here hx rfl (hb hby o483) rfl (o1 X0.here hx rfl (hb hby o484) rfl rfl (o65 X0 hx hZ e0 A2 rfl rfl (hb hby o485) (o38 X0.here hx rfl (hb hby o486) rfl (XS.bipush X0.here hx rfl (hb hby o487) (XS.iushr X0.here hx rfl (hb hby o488) rfl j)))))) ?_
  show o17 p e below _ (s₁.setTop (mkF m 7 #[.val (.ref b), .val (.int 3)] [.int 0]))
  refine o2 (fun u j => XS.i2b X0.here hx rfl (hb hby o489) rfl j) ?_
  exact o20 X0 hx hlk hret rfl (Or.inl ⟨rfl, by simp, _, rfl⟩) (hb hby o490) (by decide) (by decide) (show QrmCo3_3 Z wcs wd mOA mSL mAL kd b kb vs h0 n0 (some (.int 0)) s₁.heap _ from (by rw [e0]; exact ⟨rfl, N0, rfl⟩))
theorem o801 (m : MethodId) (a b : Addr)  : entryFrame m #[.ref a, .ref b, .int 0, .int 3, .null] 6 = mkF m 0 #[.val (.ref a), .val (.ref b), .val (.int 0), .val (.int 3), .val .null, .unset] [] := by first | (simp [entryFrame, mkF, argsToLocals, Value.category, maxLocals]; done) | rfl
def o821 (Z : State) (wcs : Int32) (wd mOA mSL mAL : Addr) (kd : ClassId) (a b : Addr) (kb : ClassId) (v0 v1 v2 : Int32) (h0 : Heap) (n0 : Nat) (v : Option Value) (h : Heap) (L : List Loc) : Prop := ∃ r : Addr, ∃ kr : ClassId, v = none ∧ Fr n0 L ∧ Keep h0 h [a] ∧ h0.size ≤ r ∧ Exa Z h a o6 ∧ Fld Z h a o6 "value" "[B" (.ref r) ∧ Fld Z h a o6 "coder" "B" (.int 0) ∧ Exa Z h r "[B" ∧ Arv Z h r kr .byte 3 [(.int (v0.toInt8.toInt32)), (.int (v1.toInt8.toInt32)), (.int (v2.toInt8.toInt32))] (.int 0)
theorem o883 (l : Launch) (Z : State) (a0 : Array Value) (hw : o21 a0 Z) (ws : List Jvm.Cond) (wcs : Int32) (wd mOA mSL mAL : Addr) (kd : ClassId) (hS : o22 Z wcs wd mOA mSL mAL kd) (a b : Addr) (kb : ClassId) (v0 v1 v2 : Int32) (h0 : Heap) (n0 : Nat) (O0 : Old Z n0 h0) (E : Exa Z h0 a o6) (Ea : Exa Z h0 b "[C") (ga : n0 ≤ a) (F1 : Fld Z h0 a o6 "value" "[B" .null) (F2 : Fld Z h0 a o6 "coder" "B" (.int 0)) (A1 : Arv Z h0 b kb .char 3 [.int v0, .int v1, .int v2] (.int 0)) (hq0 : ¬ (255 : Int32) < v0) (hq1 : ¬ (255 : Int32) < v1) (hq2 : ¬ (255 : Int32) < v2) :
    o16 l o589 jdk_42_method_149_code 6 none ws ⟨2, 1, 3, 35⟩ Z h0 #[.ref a, .ref b, .int 0, .int 3, .null] (o821 Z wcs wd mOA mSL mAL kd a b kb v0 v1 v2 h0 n0) := by
  refine o81 (plainFor_of_name o363) ?_
  intro p e s m below meth c s₁ hx hby hml hown hnm hret hlk hZ e0 X0
  have N0 := Fr.nil n0
  refine o2 (fun u j => castTop (o801 m a b) j) ?_
  show o17 p e below _ (s₁.setTop (mkF m 0 #[.val (.ref a), .val (.ref b), .val (.int 0), .val (.int 3), .val .null, .unset] []))
  refine o2 (fun u j => o1 X0.here hx rfl (hb hby o422) rfl rfl j) ?_
  refine o19 (initO X0 hx hZ hown (o0 hw 11 rfl) (o0 hw 12 rfl) (o0 hw 13 rfl) e0 rfl (by rw [hml]; rfl) rfl (hb hby o423) (by decide) (W := 0) (by show 2 * 0 + _ ≤ _; exact Nat.le_of_eq rfl) (by decide)) ?_
  intro T137 X137 e137
  refine o2 (fun u j => o4 X137.here hx rfl (hb hby o424) rfl (o43 X137.here hx rfl (pc0 := 5) (pc' := 27) rfl (hb hby o425) rfl (o138 (by decide)) (by decide) (by decide) j)) ?_
  have F138 := Sta.ext O0.2 hS.1
  refine o19 (getS2 X137 hx hZ hown (host := "") (Or.inl (o0 hw 14 rfl)) Via.refl e137 F138 rfl (hb hby o396)) ?_
  intro T139 X139 e139
  refine o2 (fun u j => o34 X139.here hx rfl (hb hby o397) rfl (o33 hS.2.1) (o1 X139.here hx rfl (hb hby o398) rfl rfl (o4 X139.here hx rfl (hb hby o399) rfl (o4 X139.here hx rfl (hb hby o400) rfl j)))) ?_
  refine o11 (o25 X139 hx hZ (y := o587) hown (o0 hw 15 rfl) (o0 hw 16 rfl) (o0 hw 17 rfl) (o0 hw 18 rfl) o239 (o903 l Z a0 hw [] wcs wd mOA mSL mAL kd hS b kb v0 v1 v2 h0 n0 O0 Ea A1 (by assumption) (by assumption) (by assumption)) e139 o662 (argsL := [.ref b, .int 0, .int 3]) (rest := []) rfl rfl (g := (mkF m 36 #[.val (.ref a), .val (.ref b), .val (.int 0), .val (.int 3), .val .null, .unset] [.int 3, .int 0, .ref b])) rfl (by rw [hml]; rfl) rfl (hb hby o401) (W := 0) rfl (by decide) (by decide) (by decide) (by decide)) ?_
  intro T140 v140 L140 X140 hQ140
  obtain ⟨r_141, kr_142, rfl, M140, K140, z143, F144, F145⟩ := hQ140
  have N140 := Fr.app N0 M140
  refine o2 (fun u j => o37 X140.here hx rfl (hb hby o402) rfl rfl (l' := #[.val (.ref a), .val (.ref b), .val (.int 0), .val (.int 3), .val .null, .val (.ref r_141)]) rfl (o1 X140.here hx rfl (hb hby o403) rfl rfl (o12 X140.here hx rfl (hb hby o404) rfl rfl (o4 X140.here hx rfl (hb hby o405) rfl j)))) ?_
  have O147 := O0.keep K140 all0
  refine o11 (o25 X140 hx hZ (y := o588) hown (o0 hw 23 rfl) (o0 hw 24 rfl) (o0 hw 17 rfl) (o0 hw 25 rfl) o239 (o904 l Z a0 hw [] wcs wd mOA mSL mAL kd hS r_141 kr_142 [(.int (v0.toInt8.toInt32)), (.int (v1.toInt8.toInt32)), (.int (v2.toInt8.toInt32))] T140.heap n0 O147 F145) rfl o663 (argsL := [.ref r_141, .int 3]) (rest := [.ref a]) rfl rfl (g := (mkF m 45 #[.val (.ref a), .val (.ref b), .val (.int 0), .val (.int 3), .val .null, .val (.ref r_141)] [.int 3, .ref r_141, .ref a])) rfl (by rw [hml]; rfl) rfl (hb hby o406) (W := 1) rfl (by decide) (by decide) (by decide) (by decide)) ?_
  intro T146 v146 L146 X146 hQ146
  obtain ⟨rfl, M146, e146⟩ := hQ146
  have N146 := Fr.app N140 M146
  have F148 := (E.keep K140)
  have F149 := (F2.keep K140 nin0)
  refine o32 (putF X146 hx hZ hown (host := "") (Or.inl (o0 hw 26 rfl)) Via.refl e146 F149 F148 (Or.inr ⟨(o0 hw 27 rfl), rfl, hnm⟩) (o0 hw 2 rfl) (ty := .byte) o361 rfl rfl rfl rfl (hb hby o407)) ?_
  intro T150 h150 X150 e150 W150
  have N150 := Fr.snoc X150 N146 ga
  have F151 : Fld Z h150 a o6 "coder" "B" (.int 0) := Fld.same W150 F149
  refine o2 (fun u j => o1 X150.here hx rfl (hb hby o408) rfl rfl (o12 X150.here hx rfl (hb hby o409) rfl rfl j)) ?_
  have F152 := (Exa.wr W150 F148)
  have F153 := (Fld.other W150 (F1.keep K140 nin0) (Or.inr (o664 hw)))
  refine o32 (putF X150 hx hZ hown (host := "") (Or.inl (o0 hw 28 rfl)) Via.refl e150 F153 F152 (Or.inr ⟨(o0 hw 29 rfl), rfl, hnm⟩) (o0 hw 2 rfl) (ty := (.array .byte)) o362 rfl rfl rfl rfl (hb hby o410)) ?_
  intro T154 h154 X154 e154 W154
  have N154 := Fr.snoc X154 N150 ga
  have F155 : Fld Z h154 a o6 "value" "[B" (.ref r_141) := Fld.same W154 F153
  have K156 := (Keep.refl h0 [a]).trans K140 all0
  have K157 := K156.wr W150 (Or.inl (List.mem_of_getElem? (i := 0) rfl))
  have K158 := K157.wr W154 (Or.inl (List.mem_of_getElem? (i := 0) rfl))
  have z159 := Nat.le_trans (Nat.le_refl _) z143
  have F160 := (Exa.wr W154 F152)
  have F161 := (Fld.other W154 F151 (Or.inr (o665 hw)))
  have F162 := (Exa.wr W154 (Exa.wr W150 F144))
  have ne163 := (Ne.symm (Nat.ne_of_lt (Nat.lt_of_lt_of_le E.lt z143)))
  have F164 := ((F145.other W150 ne163).other W154 ne163)
  exact o48 X154 hx hlk hret (hb hby o411) (by decide) (by decide) (show o821 Z wcs wd mOA mSL mAL kd a b kb v0 v1 v2 h0 n0 none T154.heap _ from (by rw [e154]; exact ⟨r_141, kr_142, rfl, N154, K158, z159, F160, F155, F161, F162, F164⟩))
theorem o802 (m : MethodId) (a b : Addr)  : entryFrame m #[.ref a, .ref b] 2 = mkF m 0 #[.val (.ref a), .val (.ref b)] [] := by first | (simp [entryFrame, mkF, argsToLocals, Value.category, maxLocals]; done) | rfl
def o822 (Z : State) (wcs : Int32) (wd mOA mSL mAL : Addr) (kd : ClassId) (a b : Addr) (kb : ClassId) (v0 v1 v2 : Int32) (h0 : Heap) (n0 : Nat) (v : Option Value) (h : Heap) (L : List Loc) : Prop := ∃ r : Addr, ∃ kr : ClassId, v = none ∧ Fr n0 L ∧ Keep h0 h [a] ∧ h0.size ≤ r ∧ Exa Z h a o6 ∧ Fld Z h a o6 "value" "[B" (.ref r) ∧ Fld Z h a o6 "coder" "B" (.int 0) ∧ Exa Z h r "[B" ∧ Arv Z h r kr .byte 3 [(.int (v0.toInt8.toInt32)), (.int (v1.toInt8.toInt32)), (.int (v2.toInt8.toInt32))] (.int 0)
theorem o884 (l : Launch) (Z : State) (a0 : Array Value) (hw : o21 a0 Z) (ws : List Jvm.Cond) (wcs : Int32) (wd mOA mSL mAL : Addr) (kd : ClassId) (hS : o22 Z wcs wd mOA mSL mAL kd) (a b : Addr) (kb : ClassId) (v0 v1 v2 : Int32) (h0 : Heap) (n0 : Nat) (O0 : Old Z n0 h0) (E : Exa Z h0 a o6) (Ea : Exa Z h0 b "[C") (ga : n0 ≤ a) (F1 : Fld Z h0 a o6 "value" "[B" .null) (F2 : Fld Z h0 a o6 "coder" "B" (.int 0)) (A1 : Arv Z h0 b kb .char 3 [.int v0, .int v1, .int v2] (.int 0)) (hq0 : ¬ (255 : Int32) < v0) (hq1 : ¬ (255 : Int32) < v1) (hq2 : ¬ (255 : Int32) < v2) :
    o16 l o590 jdk_42_method_3_code 2 none ws ⟨3, 1, 3, 52⟩ Z h0 #[.ref a, .ref b] (o822 Z wcs wd mOA mSL mAL kd a b kb v0 v1 v2 h0 n0) := by
  refine o81 (plainFor_of_name o363) ?_
  intro p e s m below meth c s₁ hx hby hml hown hnm hret hlk hZ e0 X0
  have N0 := Fr.nil n0
  refine o2 (fun u j => castTop (o802 m a b) j) ?_
  show o17 p e below _ (s₁.setTop (mkF m 0 #[.val (.ref a), .val (.ref b)] []))
  refine o2 (fun u j => o1 X0.here hx rfl (hb hby o566) rfl rfl (o1 X0.here hx rfl (hb hby o567) rfl rfl (o5 X0.here hx rfl (hb hby o568) (o1 X0.here hx rfl (hb hby o569) rfl rfl (o65 X0 hx hZ e0 A1 rfl rfl (hb hby o570) (o49 X0.here hx rfl (hb hby o571) j)))))) ?_
  show o17 p e below _ (s₁.setTop (mkF m 6 #[.val (.ref a), .val (.ref b)] [.null, .int 3, .int 0, .ref b, .ref a]))
  refine o11 (o50 X0 hx hZ (y := o589) rfl hown (o0 hw 7 rfl) (o0 hw 8 rfl) (o0 hw 3 rfl) (o0 hw 10 rfl) o70 (o883 l Z a0 hw [] wcs wd mOA mSL mAL kd hS a b kb v0 v1 v2 h0 n0 O0 E Ea ga F1 F2 A1 (by assumption) (by assumption) (by assumption)) e0 o666 (a := a) (argsL := [.ref b, .int 0, .int 3, .null]) (rest := []) rfl rfl (g := (mkF m 6 #[.val (.ref a), .val (.ref b)] [.null, .int 3, .int 0, .ref b, .ref a])) rfl (by rw [hml]; rfl) rfl (hb hby o572) (W := 0) rfl (by decide) (by decide) (by decide) (by decide)) ?_
  intro T166 v166 L166 X166 hQ166
  obtain ⟨r_167, kr_168, rfl, M166, K166, z169, F170, F171, F172, F173, F174⟩ := hQ166
  have N166 := Fr.app N0 M166
  have K175 := (Keep.refl h0 [a]).trans K166 (allS (Or.inl (List.mem_of_getElem? (i := 0) rfl)) all0)
  have z176 := Nat.le_trans (Nat.le_refl _) z169
  exact o48 X166 hx hlk hret (hb hby o573) (by decide) (by decide) (show o822 Z wcs wd mOA mSL mAL kd a b kb v0 v1 v2 h0 n0 none T166.heap _ from (by exact ⟨r_167, kr_168, rfl, N166, K175, z176, F170, F171, F172, F173, F174⟩))
theorem o782 : decode jdk_38_method_8_code 0 = .ok (.aload_n 0, 1) := by decide +kernel
theorem o783 : decode jdk_38_method_8_code 1 = .ok (.getfield 48, 3) := by decide +kernel
theorem o784 : decode jdk_38_method_8_code 4 = .ok (.ireturn, 1) := by decide +kernel
abbrev o154 : MethodName := ⟨"java/util/ArrayList", "size", "()I"⟩
theorem o24 : plainName "java/util/ArrayList" = true := by first | (simp [plainName, overriddenIn]; done) | decide +kernel
theorem o835 (m : MethodId) (a : Addr)  : entryFrame m #[.ref a] 1 = mkF m 0 #[.val (.ref a)] [] := by first | (simp [entryFrame, mkF, argsToLocals, Value.category, maxLocals]; done) | rfl
def o886 (Z : State) (wcs : Int32) (wd mOA mSL mAL : Addr) (kd : ClassId) (a : Addr) (sz : Int32) (h0 : Heap) (n0 : Nat) (v : Option Value) (h : Heap) (L : List Loc) : Prop := v = some (.int sz) ∧ Fr n0 L ∧ h = h0
abbrev o3 : String := "java/util/ArrayList"
theorem o591 (l : Launch) (Z : State) (a0 : Array Value) (hw : o21 a0 Z) (ws : List Jvm.Cond) (wcs : Int32) (wd mOA mSL mAL : Addr) (kd : ClassId) (hS : o22 Z wcs wd mOA mSL mAL kd) (a : Addr) (sz : Int32) (h0 : Heap) (n0 : Nat) (O0 : Old Z n0 h0) (F1 : Fld Z h0 a o3 "size" "I" (.int sz)) :
    o16 l o154 jdk_38_method_8_code 1 (some .int) ws ⟨0, 0, 0, 0⟩ Z h0 #[.ref a] (o886 Z wcs wd mOA mSL mAL kd a sz h0 n0) := by
  refine o81 (plainFor_of_name o24) ?_
  intro p e s m below meth c s₁ hx hby hml hown hnm hret hlk hZ e0 X0
  have N0 := Fr.nil n0
  refine o2 (fun u j => castTop (o835 m a) j) ?_
  show o17 p e below _ (s₁.setTop (mkF m 0 #[.val (.ref a)] []))
  refine o2 (fun u j => o1 X0.here hx rfl (hb hby o782) rfl rfl j) ?_
  refine o19 (getF X0 hx hZ hown (host := "") (Or.inl (o0 hw 83 rfl)) Via.refl e0 F1 rfl rfl (hb hby o783)) ?_
  intro T177 X177 e177
  exact o20 X177 hx hlk hret rfl (Or.inl ⟨rfl, by simp, _, rfl⟩) (hb hby o784) (by decide) (by decide) (show o886 Z wcs wd mOA mSL mAL kd a sz h0 n0 (some (.int sz)) T177.heap _ from (by rw [e177]; exact ⟨rfl, N0, rfl⟩))
theorem o715 : decode jdk_38_method_18_code 0 = .ok (.aload_n 0, 1) := by decide +kernel
theorem o716 : decode jdk_38_method_18_code 1 = .ok (.getfield 9, 3) := by decide +kernel
theorem o717 : decode jdk_38_method_18_code 4 = .ok (.iload_n 1, 1) := by decide +kernel
theorem o718 : decode jdk_38_method_18_code 5 = .ok (.aaload, 1) := by decide +kernel
theorem o719 : decode jdk_38_method_18_code 6 = .ok (.areturn, 1) := by decide +kernel
abbrev o667 : MethodName := ⟨"java/util/ArrayList", "elementData", "(I)Ljava/lang/Object;"⟩
theorem o836 (m : MethodId) (a : Addr) (iv : Int32)  : entryFrame m #[.ref a, .int iv] 2 = mkF m 0 #[.val (.ref a), .val (.int iv)] [] := by first | (simp [entryFrame, mkF, argsToLocals, Value.category, maxLocals]; done) | rfl
def QrmED (Z : State) (wcs : Int32) (wd mOA mSL mAL : Addr) (kd : ClassId) (a en : Addr) (kc : ClassId) (nl : Int32) (lv : List Value) (iv : Int32) (xe : Addr) (h0 : Heap) (n0 : Nat) (v : Option Value) (h : Heap) (L : List Loc) : Prop := v = some (.ref xe) ∧ Fr n0 L ∧ h = h0
abbrev o13 : String := "elementData"
theorem o1004 (l : Launch) (Z : State) (a0 : Array Value) (hw : o21 a0 Z) (ws : List Jvm.Cond) (wcs : Int32) (wd mOA mSL mAL : Addr) (kd : ClassId) (hS : o22 Z wcs wd mOA mSL mAL kd) (a en : Addr) (kc : ClassId) (nl : Int32) (lv : List Value) (iv : Int32) (xe : Addr) (h0 : Heap) (n0 : Nat) (O0 : Old Z n0 h0) (F1 : Fld Z h0 a o3 o13 o7 (.ref en)) (A1 : Arv Z h0 en kc (.object "java/lang/Object") nl lv .null) (hi : ¬ iv < 0 ∧ iv < nl) (hv : lv.getD iv.toNatClampNeg .null = .ref xe) :
    o16 l o667 jdk_38_method_18_code 2 (some (.object "java/lang/Object")) ws ⟨0, 0, 0, 0⟩ Z h0 #[.ref a, .int iv] (QrmED Z wcs wd mOA mSL mAL kd a en kc nl lv iv xe h0 n0) := by
  refine o81 (plainFor_of_name o24) ?_
  intro p e s m below meth c s₁ hx hby hml hown hnm hret hlk hZ e0 X0
  have N0 := Fr.nil n0
  refine o2 (fun u j => castTop (o836 m a iv) j) ?_
  show o17 p e below _ (s₁.setTop (mkF m 0 #[.val (.ref a), .val (.int iv)] []))
  refine o2 (fun u j => o1 X0.here hx rfl (hb hby o715) rfl rfl j) ?_
  refine o19 (getF X0 hx hZ hown (host := "") (Or.inl (o0 hw 60 rfl)) Via.refl e0 F1 rfl rfl (hb hby o716)) ?_
  intro T178 X178 e178
  refine o2 (fun u j => o4 X178.here hx rfl (hb hby o717) rfl j) ?_
  have q_ := id A1
  obtain ⟨cl179, Ar179, q179, S179, N179, H179, G179⟩ := q_
  have hi179 : ¬ (iv < 0 ∨ cl179.slots.size ≤ (iv).toNatClampNeg) := inb_of S179 hi
  have ha179 : cl179.slots[(iv).toNatClampNeg]? = some (.ref xe) := H179.at hi179 hv
  refine o2 (X178.aaload hx (j := iv) (v := (.ref xe)) (by rw [e178]; exact Ar179.1) (State.isArrayOf_alike hZ.alike Ar179.2.1) rfl Ar179.2.2 hi179 ha179 rfl rfl (hb hby o718)) ?_
  show o17 p e below _ (T178.setTop (mkF m 6 #[.val (.ref a), .val (.int iv)] [.ref xe]))
  exact o20 X178 hx hlk hret rfl (Or.inr (Or.inr (Or.inr (Or.inr ⟨rfl, rfl, rfl⟩)))) (hb hby o719) (by decide) (by decide) (show QrmED Z wcs wd mOA mSL mAL kd a en kc nl lv iv xe h0 n0 (some (.ref xe)) T178.heap _ from (by rw [e178]; exact ⟨rfl, N0, rfl⟩))
theorem o720 : decode jdk_38_method_20_code 0 = .ok (.iload_n 1, 1) := by decide +kernel
theorem o721 : decode jdk_38_method_20_code 1 = .ok (.aload_n 0, 1) := by decide +kernel
theorem o722 : decode jdk_38_method_20_code 2 = .ok (.getfield 48, 3) := by decide +kernel
theorem o723 : decode jdk_38_method_20_code 5 = .ok (.invokestatic 118, 3) := by decide +kernel
theorem o724 : decode jdk_31_method_17_code 0 = .ok (.iload_n 0, 1) := by decide +kernel
theorem o725 : decode jdk_31_method_17_code 1 = .ok (.iload_n 1, 1) := by decide +kernel
theorem o726 : decode jdk_31_method_17_code 2 = .ok (.aconst_null, 1) := by decide +kernel
theorem o727 : decode jdk_31_method_17_code 3 = .ok (.invokestatic 105, 3) := by decide +kernel
theorem o728 : decode jdk_41_method_11_code 0 = .ok (.iload_n 0, 1) := by decide +kernel
theorem o729 : decode jdk_41_method_11_code 1 = .ok (.ifCond .lt 8, 3) := by decide +kernel
theorem o730 : decode jdk_41_method_11_code 4 = .ok (.iload_n 0, 1) := by decide +kernel
theorem o731 : decode jdk_41_method_11_code 5 = .ok (.iload_n 1, 1) := by decide +kernel
theorem o732 : decode jdk_41_method_11_code 6 = .ok (.if_icmp .lt 10, 3) := by decide +kernel
theorem o668 : decode jdk_41_method_11_code 16 = .ok (.iload_n 0, 1) := by decide +kernel
theorem o669 : decode jdk_41_method_11_code 17 = .ok (.ireturn, 1) := by decide +kernel
abbrev o823 : MethodName := ⟨"jdk/internal/util/Preconditions", "checkIndex", "(IILjava/util/function/BiFunction;)I"⟩
theorem o838 : plainName "jdk/internal/util/Preconditions" = true := by first | (simp [plainName, overriddenIn]; done) | decide +kernel
theorem o1005 (l : Launch) (Z : State) (a0 : Array Value) (hw : o21 a0 Z) (ws : List Jvm.Cond) (wcs : Int32) (wd mOA mSL mAL : Addr) (kd : ClassId) (hS : o22 Z wcs wd mOA mSL mAL kd) (iv0 iv1 : Int32) (h0 : Heap) (n0 : Nat) (O0 : Old Z n0 h0) (pk1 : ¬ iv0 < (0 : Int32)) (pk2 : iv0 < iv1) :
    o16 l o823 jdk_41_method_11_code 3 (some .int) ws ⟨0, 0, 0, 0⟩ Z h0 #[.int iv0, .int iv1, .null] (fun v h L => v = some (.int iv0) ∧ Fr n0 L ∧ h = h0) := by
  refine o15 (plainFor_of_name o838) ?_
  intro p e s m below meth c s₁ hx hby hml hown hnm hret hlk hZ e0 X0
  have N0 := Fr.nil n0
  refine o2 (fun u j => castTop (show entryFrame m #[.int iv0, .int iv1, .null] 3 = mkF m 0 #[.val (.int iv0), .val (.int iv1), .val .null] [] from rfl) j) ?_
  refine o2 (fun u j => o4 X0.here hx rfl (hb hby o728) rfl (o34 X0.here hx rfl (hb hby o729) rfl (XT.i0_lt_f pk1) (o4 X0.here hx rfl (hb hby o730) rfl (o4 X0.here hx rfl (hb hby o731) rfl (o23 X0.here hx rfl (pc0 := 6) (pc' := 16) rfl (hb hby o732) rfl (XT.ii_lt_t pk2) (by decide) (by decide) (o4 X0.here hx rfl (hb hby o668) rfl j)))))) ?_
  show o17 p e below _ (s₁.setTop (mkF m 17 #[.val (.int iv0), .val (.int iv1), .val .null] [.int iv0]))
  exact o20 X0 hx hlk hret rfl (Or.inl ⟨rfl, by simp, _, rfl⟩) (hb hby o669) (by decide) (by decide) (by rw [e0]; exact ⟨rfl, N0, rfl⟩)
theorem o839 : ("jdk/internal/util/Preconditions" : String) ≠ "java/lang/invoke/MethodHandle" ∧ ("jdk/internal/util/Preconditions" : String) ≠ "java/lang/invoke/VarHandle" := by decide +kernel
theorem o840 : parseMethodDescriptor "(IILjava/util/function/BiFunction;)I" = some ⟨[.int, .int, (.object "java/util/function/BiFunction")], some .int⟩ := by decide +kernel
theorem o733 : decode jdk_31_method_17_code 6 = .ok (.ireturn, 1) := by decide +kernel
abbrev o592 : MethodName := ⟨"java/util/Objects", "checkIndex", "(II)I"⟩
theorem o841 : plainName "java/util/Objects" = true := by first | (simp [plainName, overriddenIn]; done) | decide +kernel
theorem o842 (l : Launch) (Z : State) (a0 : Array Value) (hw : o21 a0 Z) (ws : List Jvm.Cond) (wcs : Int32) (wd mOA mSL mAL : Addr) (kd : ClassId) (hS : o22 Z wcs wd mOA mSL mAL kd) (iv0 iv1 : Int32) (h0 : Heap) (n0 : Nat) (O0 : Old Z n0 h0) (pk1 : ¬ iv0 < (0 : Int32)) (pk2 : iv0 < iv1) :
    o16 l o592 jdk_31_method_17_code 2 (some .int) ws ⟨1, 0, 0, 14⟩ Z h0 #[.int iv0, .int iv1] (fun v h L => v = some (.int iv0) ∧ Fr n0 L ∧ h = h0) := by
  refine o15 (plainFor_of_name o841) ?_
  intro p e s m below meth c s₁ hx hby hml hown hnm hret hlk hZ e0 X0
  have N0 := Fr.nil n0
  refine o2 (fun u j => castTop (show entryFrame m #[.int iv0, .int iv1] 2 = mkF m 0 #[.val (.int iv0), .val (.int iv1)] [] from rfl) j) ?_
  refine o2 (fun u j => o4 X0.here hx rfl (hb hby o724) rfl (o4 X0.here hx rfl (hb hby o725) rfl (o49 X0.here hx rfl (hb hby o726) j))) ?_
  refine o11 (o25 X0 hx hZ (y := o823) hown (o0 hw 158 rfl) (o0 hw 159 rfl) (o0 hw 160 rfl) (o0 hw 161 rfl) o839 (o1005 l Z a0 hw [] wcs wd mOA mSL mAL kd hS iv0 iv1 h0 n0 O0 pk1 pk2) e0 o840 (argsL := [.int iv0, .int iv1, .null]) (rest := []) rfl rfl (g := (mkF m 3 #[.val (.int iv0), .val (.int iv1)] [.null, .int iv1, .int iv0])) rfl (by rw [hml]; rfl) rfl (hb hby o727) (W := 0) rfl (by decide) (by decide) (by decide) (by decide)) ?_
  intro T182 v182 L182 X182 hQ182
  obtain ⟨rfl, M182, e182⟩ := hQ182
  have N182 := Fr.app N0 M182
  exact o20 X182 hx hlk hret rfl (Or.inl ⟨rfl, by simp, _, rfl⟩) (hb hby o733) (by decide) (by decide) (by rw [e182]; exact ⟨rfl, N182, rfl⟩)
theorem o604 : ("java/util/Objects" : String) ≠ "java/lang/invoke/MethodHandle" ∧ ("java/util/Objects" : String) ≠ "java/lang/invoke/VarHandle" := by decide +kernel
theorem o67 : parseMethodDescriptor "(II)I" = some ⟨[.int, .int], some .int⟩ := by decide +kernel
theorem o734 : decode jdk_38_method_20_code 8 = .ok (.pop, 1) := by decide +kernel
theorem o735 : decode jdk_38_method_20_code 9 = .ok (.aload_n 0, 1) := by decide +kernel
theorem o670 : decode jdk_38_method_20_code 10 = .ok (.iload_n 1, 1) := by decide +kernel
theorem o671 : decode jdk_38_method_20_code 11 = .ok (.invokevirtual 123, 3) := by decide +kernel
theorem o42 : ("java/util/ArrayList" : String) ≠ "java/lang/invoke/MethodHandle" ∧ ("java/util/ArrayList" : String) ≠ "java/lang/invoke/VarHandle" := by decide +kernel
theorem o71 : parseMethodDescriptor "(I)Ljava/lang/Object;" = some ⟨[.int], some (.object "java/lang/Object")⟩ := by decide +kernel
theorem o672 : decode jdk_38_method_20_code 14 = .ok (.areturn, 1) := by decide +kernel
abbrev o155 : MethodName := ⟨"java/util/ArrayList", "get", "(I)Ljava/lang/Object;"⟩
theorem o833 (m : MethodId) (a : Addr) (iv : Int32)  : entryFrame m #[.ref a, .int iv] 2 = mkF m 0 #[.val (.ref a), .val (.int iv)] [] := by first | (simp [entryFrame, mkF, argsToLocals, Value.category, maxLocals]; done) | rfl
def QrmGet (Z : State) (wcs : Int32) (wd mOA mSL mAL : Addr) (kd : ClassId) (a en : Addr) (kc : ClassId) (nl : Int32) (lv : List Value) (iv : Int32) (xe : Addr) (sz : Int32) (h0 : Heap) (n0 : Nat) (v : Option Value) (h : Heap) (L : List Loc) : Prop := v = some (.ref xe) ∧ Fr n0 L ∧ h = h0
theorem o471 (l : Launch) (Z : State) (a0 : Array Value) (hw : o21 a0 Z) (ws : List Jvm.Cond) (wcs : Int32) (wd mOA mSL mAL : Addr) (kd : ClassId) (hS : o22 Z wcs wd mOA mSL mAL kd) (a en : Addr) (kc : ClassId) (nl : Int32) (lv : List Value) (iv : Int32) (xe : Addr) (sz : Int32) (h0 : Heap) (n0 : Nat) (O0 : Old Z n0 h0) (E : Exa Z h0 a o3) (F2 : Fld Z h0 a o3 "size" "I" (.int sz)) (k1 : ¬ iv < (0 : Int32)) (k2 : iv < sz) (F1 : Fld Z h0 a o3 o13 o7 (.ref en)) (A1 : Arv Z h0 en kc (.object "java/lang/Object") nl lv .null) (hi : ¬ iv < 0 ∧ iv < nl) (hv : lv.getD iv.toNatClampNeg .null = .ref xe) :
    o16 l o155 jdk_38_method_20_code 2 (some (.object "java/lang/Object")) ws ⟨2, 0, 0, 27⟩ Z h0 #[.ref a, .int iv] (QrmGet Z wcs wd mOA mSL mAL kd a en kc nl lv iv xe sz h0 n0) := by
  refine o81 (plainFor_of_name o24) ?_
  intro p e s m below meth c s₁ hx hby hml hown hnm hret hlk hZ e0 X0
  have N0 := Fr.nil n0
  refine o2 (fun u j => castTop (o833 m a iv) j) ?_
  show o17 p e below _ (s₁.setTop (mkF m 0 #[.val (.ref a), .val (.int iv)] []))
  refine o2 (fun u j => o4 X0.here hx rfl (hb hby o720) rfl (o1 X0.here hx rfl (hb hby o721) rfl rfl j)) ?_
  refine o19 (getF X0 hx hZ hown (host := "") (Or.inl (o0 hw 83 rfl)) Via.refl e0 F2 rfl rfl (hb hby o722)) ?_
  intro T180 X180 e180
  refine o11 (o25 X180 hx hZ (y := o592) hown (o0 hw 154 rfl) (o0 hw 155 rfl) (o0 hw 156 rfl) (o0 hw 157 rfl) o604 (o842 l Z a0 hw [] wcs wd mOA mSL mAL kd hS iv sz h0 n0 O0 k1 k2) e180 o67 (argsL := [.int iv, .int sz]) (rest := []) rfl rfl (g := (mkF m 5 #[.val (.ref a), .val (.int iv)] [.int sz, .int iv])) rfl (by rw [hml]; rfl) rfl (hb hby o723) (W := 0) rfl (by decide) (by decide) (by decide) (by decide)) ?_
  intro T183 v183 L183 X183 hQ183
  obtain ⟨rfl, M183, e183⟩ := hQ183
  have N183 := Fr.app N0 M183
  refine o2 (fun u j => o55 X183.here hx rfl (hb hby o734) rfl rfl (o1 X183.here hx rfl (hb hby o735) rfl rfl (o4 X183.here hx rfl (hb hby o670) rfl j))) ?_
  refine o11 (o26 X183 hx hZ (y := o667) (z := o667) hown (o0 hw 276 rfl) (o0 hw 277 rfl) (notFace_of_selects (args := #[]) (mvT hZ (o0 hw 279 rfl))) (o0 hw 279 rfl) (o0 hw 278 rfl) (o0 hw 40 rfl) (o0 hw 280 rfl) o42 (o1004 l Z a0 hw [] wcs wd mOA mSL mAL kd hS a en kc nl lv iv xe h0 n0 O0 F1 A1 hi hv) e183 E o71 (argsL := [.int iv]) (rest := []) rfl rfl (g := (mkF m 11 #[.val (.ref a), .val (.int iv)] [.int iv, .ref a])) rfl (by rw [hml]; rfl) rfl (hb hby o671) (W := 0) rfl (by decide) (by decide) (by decide) (by decide)) ?_
  intro T184 v184 L184 X184 hQ184
  obtain ⟨rfl, M184, e184⟩ := hQ184
  have N184 := Fr.app N183 M184
  exact o20 X184 hx hlk hret rfl (Or.inr (Or.inr (Or.inr (Or.inr ⟨rfl, rfl, rfl⟩)))) (hb hby o672) (by decide) (by decide) (show QrmGet Z wcs wd mOA mSL mAL kd a en kc nl lv iv xe sz h0 n0 (some (.ref xe)) T184.heap _ from (by rw [e184]; exact ⟨rfl, N184, rfl⟩))
theorem o648 : "[" ++ (newarray.typeOf .char).toString = "[C" := by decide +kernel
theorem o649 : parseMethodDescriptor "([C)V" = some ⟨[(.array .char)], none⟩ := by decide +kernel
abbrev o54 : String := "com/example/temanggung/temanggung/beans/factory/Creating"
abbrev o66 : String := "Ljava/util/List;"
theorem o605 : parseFieldDescriptor "Ljava/util/List;" = some (.object "java/util/List") := by decide +kernel
theorem o736 : decode prog_33_method_1_code 0 = .ok (.aload_n 0, 1) := by decide +kernel
theorem o737 : decode prog_33_method_1_code 1 = .ok (.invokespecial 1, 3) := by decide +kernel
theorem o738 : decode prog_33_method_1_code 4 = .ok (.aload_n 0, 1) := by decide +kernel
theorem o739 : decode prog_33_method_1_code 5 = .ok (.new 7, 3) := by decide +kernel
abbrev o8 : String := "java/util/AbstractList"
abbrev o9 : String := "modCount"
theorem o18 : parseFieldDescriptor "I" = some .int := by decide +kernel
theorem o68 : parseFieldDescriptor "[Ljava/lang/Object;" = some (.array (.object "java/lang/Object")) := by decide +kernel
theorem o740 : decode prog_33_method_1_code 8 = .ok (.dup, 1) := by decide +kernel
theorem o741 : decode prog_33_method_1_code 9 = .ok (.invokespecial 9, 3) := by decide +kernel
theorem o785 : decode jdk_38_method_2_code 0 = .ok (.aload_n 0, 1) := by decide +kernel
theorem o786 : decode jdk_38_method_2_code 1 = .ok (.invokespecial 1, 3) := by decide +kernel
theorem o631 : decode jdk_39_method_1_code 0 = .ok (.aload_n 0, 1) := by decide +kernel
theorem o632 : decode jdk_39_method_1_code 1 = .ok (.invokespecial 1, 3) := by decide +kernel
theorem o787 : decode jdk_22_method_1_code 0 = .ok (.aload_n 0, 1) := by decide +kernel
theorem o788 : decode jdk_22_method_1_code 1 = .ok (.invokespecial 1, 3) := by decide +kernel
theorem o789 : decode jdk_22_method_1_code 4 = .ok (.return_, 1) := by decide +kernel
abbrev o673 : MethodName := ⟨"java/util/AbstractCollection", "<init>", "()V"⟩
theorem o843 : plainName "java/util/AbstractCollection" = true := by first | (simp [plainName, overriddenIn]; done) | decide +kernel
theorem o907 (l : Launch) (Z : State) (a0 : Array Value) (hw : o21 a0 Z) (ws : List Jvm.Cond) (wcs : Int32) (wd mOA mSL mAL : Addr) (kd : ClassId) (hS : o22 Z wcs wd mOA mSL mAL kd) (ad0 : Addr) (h0 : Heap) (n0 : Nat) (O0 : Old Z n0 h0)  :
    o16 l o673 jdk_22_method_1_code 1 none ws ⟨1, 0, 0, 12⟩ Z h0 #[.ref ad0] (fun v h L => v = none ∧ Fr n0 L ∧ h = h0) := by
  refine o15 (plainFor_of_name o843) ?_
  intro p e s m below meth c s₁ hx hby hml hown hnm hret hlk hZ e0 X0
  have N0 := Fr.nil n0
  refine o2 (fun u j => castTop (show entryFrame m #[.ref ad0] 1 = mkF m 0 #[.val (.ref ad0)] [] from rfl) j) ?_
  refine o2 (fun u j => o1 X0.here hx rfl (hb hby o787) rfl rfl j) ?_
  refine o19 (initO X0 hx hZ hown (o0 hw 56 rfl) (o0 hw 12 rfl) (o0 hw 13 rfl) e0 rfl (by rw [hml]; rfl) rfl (hb hby o788) (by decide) (W := 0) (by show 2 * 0 + _ ≤ _; exact Nat.le_of_eq rfl) (by decide)) ?_
  intro T260 X260 e260
  exact o48 X260 hx hlk hret (hb hby o789) (by decide) (by decide) (by rw [e260]; exact ⟨rfl, N0, rfl⟩)
theorem o803 : ("java/util/AbstractCollection" : String) ≠ "java/lang/invoke/MethodHandle" ∧ ("java/util/AbstractCollection" : String) ≠ "java/lang/invoke/VarHandle" := by decide +kernel
theorem o59 : parseMethodDescriptor "()V" = some ⟨[], none⟩ := by decide +kernel
theorem o633 : decode jdk_39_method_1_code 4 = .ok (.aload_n 0, 1) := by decide +kernel
theorem o634 : decode jdk_39_method_1_code 5 = .ok (.iconst 0, 1) := by decide +kernel
theorem o635 : decode jdk_39_method_1_code 6 = .ok (.putfield 7, 3) := by decide +kernel
theorem o636 : decode jdk_39_method_1_code 9 = .ok (.return_, 1) := by decide +kernel
theorem o844 : ("elementData" : String) ≠ "modCount" := by decide +kernel
def o196 {Z : State} {a0 : Array Value} (hw : o21 a0 Z) := slot_ne (Or.inl (o0 hw 61 rfl)) (Or.inl (o0 hw 58 rfl)) o844 (t := (.array (.object "java/lang/Object"))) (t' := .int) o68 o18
theorem o804 : ("size" : String) ≠ "modCount" := by decide +kernel
def o197 {Z : State} {a0 : Array Value} (hw : o21 a0 Z) := slot_ne (Or.inl (o0 hw 84 rfl)) (Or.inl (o0 hw 58 rfl)) o804 (t := .int) (t' := .int) o18 o18
abbrev o199 : MethodName := ⟨"java/util/AbstractList", "<init>", "()V"⟩
theorem o650 : plainName "java/util/AbstractList" = true := by first | (simp [plainName, overriddenIn]; done) | decide +kernel
theorem o834 (l : Launch) (Z : State) (a0 : Array Value) (hw : o21 a0 Z) (ws : List Jvm.Cond) (wcs : Int32) (wd mOA mSL mAL : Addr) (kd : ClassId) (hS : o22 Z wcs wd mOA mSL mAL kd) (ad0 : Addr) (iv1 : Int32) (h0 : Heap) (n0 : Nat) (O0 : Old Z n0 h0) (pe1 : Exa Z h0 ad0 o3) (pf2 : Fld Z h0 ad0 o8 o9 "I" (.int iv1)) (pf3 : Fld Z h0 ad0 o3 o13 o7 .null) (pf4 : Fld Z h0 ad0 o3 "size" "I" (.int 0)) (pg_ad0 : n0 ≤ ad0) :
    o16 l o199 jdk_39_method_1_code 1 none ws ⟨2, 0, 0, 24⟩ Z h0 #[.ref ad0] (fun v h L => v = none ∧ Fr n0 L ∧ Keep h0 h [ad0] ∧ Exa Z h ad0 o3 ∧ Fld Z h ad0 o8 o9 "I" (.int 0) ∧ Fld Z h ad0 o3 o13 o7 .null ∧ Fld Z h ad0 o3 "size" "I" (.int 0)) := by
  refine o15 (plainFor_of_name o650) ?_
  intro p e s m below meth c s₁ hx hby hml hown hnm hret hlk hZ e0 X0
  have N0 := Fr.nil n0
  refine o2 (fun u j => castTop (show entryFrame m #[.ref ad0] 1 = mkF m 0 #[.val (.ref ad0)] [] from rfl) j) ?_
  refine o2 (fun u j => o1 X0.here hx rfl (hb hby o631) rfl rfl j) ?_
  refine o11 (o50 X0 hx hZ (y := o673) rfl hown (o0 hw 50 rfl) (o0 hw 51 rfl) (o0 hw 54 rfl) (o0 hw 55 rfl) o803 (o907 l Z a0 hw [] wcs wd mOA mSL mAL kd hS ad0 h0 n0 O0 ) e0 o59 (a := ad0) (argsL := []) (rest := []) rfl rfl (g := (mkF m 1 #[.val (.ref ad0)] [.ref ad0])) rfl (by rw [hml]; rfl) rfl (hb hby o632) (W := 0) rfl (by decide) (by decide) (by decide) (by decide)) ?_
  intro T264 v264 L264 X264 hQ264
  obtain ⟨rfl, M264, e264⟩ := hQ264
  have N264 := Fr.app N0 M264
  refine o2 (fun u j => o1 X264.here hx rfl (hb hby o633) rfl rfl (o5 X264.here hx rfl (hb hby o634) j)) ?_
  refine o32 (putF X264 hx hZ hown (host := "") (Or.inl (o0 hw 57 rfl)) Via.refl e264 pf2 pe1 (Or.inl (o0 hw 58 rfl)) (o0 hw 39 rfl) (ty := .int) o18 rfl rfl rfl rfl (hb hby o635)) ?_
  intro T265 h265 X265 e265 W265
  have N265 := Fr.snoc X265 N264 pg_ad0
  have F266 : Fld Z h265 ad0 o8 o9 "I" (.int 0) := Fld.same W265 pf2
  have K267 := (Keep.refl h0 [ad0]).wr W265 (Or.inl (List.mem_of_getElem? (i := 0) rfl))
  have F268 := (Exa.wr W265 pe1)
  have F269 := (Fld.other W265 pf3 (Or.inr (o196 hw)))
  have F270 := (Fld.other W265 pf4 (Or.inr (o197 hw)))
  exact o48 X265 hx hlk hret (hb hby o636) (by decide) (by decide) (by rw [e265]; exact ⟨rfl, N265, K267, F268, F266, F269, F270⟩)
theorem o141 : ("java/util/AbstractList" : String) ≠ "java/lang/invoke/MethodHandle" ∧ ("java/util/AbstractList" : String) ≠ "java/lang/invoke/VarHandle" := by decide +kernel
theorem o790 : decode jdk_38_method_2_code 4 = .ok (.aload_n 0, 1) := by decide +kernel
theorem o791 : decode jdk_38_method_2_code 5 = .ok (.getstatic 39, 3) := by decide +kernel
theorem o792 : decode jdk_38_method_2_code 8 = .ok (.putfield 9, 3) := by decide +kernel
theorem o742 : decode jdk_38_method_2_code 11 = .ok (.return_, 1) := by decide +kernel
theorem o845 : ("modCount" : String) ≠ "elementData" := by decide +kernel
def o200 {Z : State} {a0 : Array Value} (hw : o21 a0 Z) := slot_ne (Or.inl (o0 hw 58 rfl)) (Or.inl (o0 hw 61 rfl)) o845 (t := .int) (t' := (.array (.object "java/lang/Object"))) o18 o68
theorem o846 : ("size" : String) ≠ "elementData" := by decide +kernel
def o201 {Z : State} {a0 : Array Value} (hw : o21 a0 Z) := slot_ne (Or.inl (o0 hw 84 rfl)) (Or.inl (o0 hw 61 rfl)) o846 (t := .int) (t' := (.array (.object "java/lang/Object"))) o18 o68
abbrev o824 : MethodName := ⟨"java/util/ArrayList", "<init>", "()V"⟩
theorem o1006 (l : Launch) (Z : State) (a0 : Array Value) (hw : o21 a0 Z) (ws : List Jvm.Cond) (wcs : Int32) (wd mOA mSL mAL : Addr) (kd : ClassId) (hS : o22 Z wcs wd mOA mSL mAL kd) (ad0 : Addr) (iv1 : Int32) (h0 : Heap) (n0 : Nat) (O0 : Old Z n0 h0) (pe1 : Exa Z h0 ad0 o3) (pf2 : Fld Z h0 ad0 o8 o9 "I" (.int iv1)) (pf3 : Fld Z h0 ad0 o3 o13 o7 .null) (pf4 : Fld Z h0 ad0 o3 "size" "I" (.int 0)) (pg_ad0 : n0 ≤ ad0) :
    o16 l o824 jdk_38_method_2_code 1 none ws ⟨3, 0, 0, 36⟩ Z h0 #[.ref ad0] (fun v h L => v = none ∧ Fr n0 L ∧ Keep h0 h [ad0] ∧ Exa Z h ad0 o3 ∧ Fld Z h ad0 o8 o9 "I" (.int 0) ∧ Fld Z h ad0 o3 o13 o7 (.ref wd) ∧ Fld Z h ad0 o3 "size" "I" (.int 0)) := by
  refine o15 (plainFor_of_name o24) ?_
  intro p e s m below meth c s₁ hx hby hml hown hnm hret hlk hZ e0 X0
  have N0 := Fr.nil n0
  refine o2 (fun u j => castTop (show entryFrame m #[.ref ad0] 1 = mkF m 0 #[.val (.ref ad0)] [] from rfl) j) ?_
  refine o2 (fun u j => o1 X0.here hx rfl (hb hby o785) rfl rfl j) ?_
  refine o11 (o50 X0 hx hZ (y := o199) rfl hown (o0 hw 44 rfl) (o0 hw 45 rfl) (o0 hw 48 rfl) (o0 hw 49 rfl) o141 (o834 l Z a0 hw [] wcs wd mOA mSL mAL kd hS ad0 iv1 h0 n0 O0 pe1 pf2 pf3 pf4 pg_ad0) e0 o59 (a := ad0) (argsL := []) (rest := []) rfl rfl (g := (mkF m 1 #[.val (.ref ad0)] [.ref ad0])) rfl (by rw [hml]; rfl) rfl (hb hby o786) (W := 0) rfl (by decide) (by decide) (by decide) (by decide)) ?_
  intro T281 v281 L281 X281 hQ281
  obtain ⟨rfl, M281, K281, F282, F283, F284, F285⟩ := hQ281
  have N281 := Fr.app N0 M281
  refine o2 (fun u j => o1 X281.here hx rfl (hb hby o790) rfl rfl j) ?_
  have O286 := O0.keep K281 (allS pg_ad0 all0)
  have F287 := Sta.ext O286.2 hS.2.2.1
  refine o19 (getS2 X281 hx hZ hown (host := "") (Or.inl (o0 hw 59 rfl)) Via.refl rfl F287 rfl (hb hby o791)) ?_
  intro T288 X288 e288
  refine o32 (putF X288 hx hZ hown (host := "") (Or.inl (o0 hw 60 rfl)) Via.refl e288 F284 F282 (Or.inl (o0 hw 61 rfl)) (o0 hw 39 rfl) (ty := (.array (.object "java/lang/Object"))) o68 rfl rfl rfl rfl (hb hby o792)) ?_
  intro T289 h289 X289 e289 W289
  have N289 := Fr.snoc X289 N281 pg_ad0
  have F290 : Fld Z h289 ad0 o3 o13 o7 (.ref wd) := Fld.same W289 F284
  have K291 := (Keep.refl h0 [ad0]).trans K281 (allS (Or.inl (List.mem_of_getElem? (i := 0) rfl)) all0)
  have K292 := K291.wr W289 (Or.inl (List.mem_of_getElem? (i := 0) rfl))
  have F293 := (Exa.wr W289 F282)
  have F294 := (Fld.other W289 F283 (Or.inr (o200 hw)))
  have F295 := (Fld.other W289 F285 (Or.inr (o201 hw)))
  exact o48 X289 hx hlk hret (hb hby o742) (by decide) (by decide) (by rw [e289]; exact ⟨rfl, N289, K292, F293, F294, F290, F295⟩)
theorem o674 : decode prog_33_method_1_code 12 = .ok (.putfield 10, 3) := by decide +kernel
theorem o675 : decode prog_33_method_1_code 15 = .ok (.return_, 1) := by decide +kernel
abbrev o638 : MethodName := ⟨"com/example/temanggung/temanggung/beans/factory/Creating", "<init>", "()V"⟩
theorem o76 : plainName "com/example/temanggung/temanggung/beans/factory/Creating" = true := by first | (simp [plainName, overriddenIn]; done) | decide +kernel
theorem o885 (l : Launch) (Z : State) (a0 : Array Value) (hw : o21 a0 Z) (ws : List Jvm.Cond) (wcs : Int32) (wd mOA mSL mAL : Addr) (kd : ClassId) (hS : o22 Z wcs wd mOA mSL mAL kd) (ad0 : Addr) (h0 : Heap) (n0 : Nat) (O0 : Old Z n0 h0) (pe1 : Exa Z h0 ad0 o54) (pf2 : Fld Z h0 ad0 o54 "path" o66 .null) (pg_ad0 : n0 ≤ ad0) :
    o16 l o638 prog_33_method_1_code 1 none ws ⟨4, 1, 3, 50⟩ Z h0 #[.ref ad0] (fun v h L => ∃ nz0 : Addr, v = none ∧ Fr n0 L ∧ Keep h0 h [ad0] ∧ h0.size ≤ nz0 ∧ Exa Z h ad0 o54 ∧ Fld Z h ad0 o54 "path" o66 (.ref nz0) ∧ Exa Z h nz0 o3 ∧ Fld Z h nz0 o8 o9 "I" (.int 0) ∧ Fld Z h nz0 o3 o13 o7 (.ref wd) ∧ Fld Z h nz0 o3 "size" "I" (.int 0)) := by
  refine o15 (plainFor_of_name o76) ?_
  intro p e s m below meth c s₁ hx hby hml hown hnm hret hlk hZ e0 X0
  have N0 := Fr.nil n0
  refine o2 (fun u j => castTop (show entryFrame m #[.ref ad0] 1 = mkF m 0 #[.val (.ref ad0)] [] from rfl) j) ?_
  refine o2 (fun u j => o1 X0.here hx rfl (hb hby o736) rfl rfl j) ?_
  refine o19 (initO X0 hx hZ hown (o0 hw 37 rfl) (o0 hw 12 rfl) (o0 hw 13 rfl) e0 rfl (by rw [hml]; rfl) rfl (hb hby o737) (by decide) (W := 0) (by show 2 * 0 + _ ≤ _; exact Nat.le_of_eq rfl) (by decide)) ?_
  intro T308 X308 e308
  refine o2 (fun u j => o1 X308.here hx rfl (hb hby o738) rfl rfl j) ?_
  have q_ := newO X308 hx hZ hown (o0 hw 38 rfl) (o0 hw 39 rfl) (o0 hw 40 rfl) e308 (g := (mkF m 5 #[.val (.ref ad0)] [.ref ad0])) rfl (hb hby o739) (by decide) (by decide)
  obtain ⟨T309, h309, X309, e309, E309, A309, D309, U309, st309⟩ := q_
  have q_ : ∃ z, z = h0.size := ⟨_, rfl⟩
  obtain ⟨b309, g309⟩ := q_
  rw [← g309] at A309 D309 U309 st309
  have F309_modCount : Fld Z h309 b309 o8 o9 "I" (.int 0) := D309 (Or.inl (o0 hw 58 rfl)) (ty := .int) o18
  have F309_elementData : Fld Z h309 b309 o3 o13 o7 .null := D309 (Or.inl (o0 hw 61 rfl)) (ty := (.array (.object "java/lang/Object"))) o68
  have F309_size : Fld Z h309 b309 o3 "size" "I" (.int 0) := D309 (Or.inl (o0 hw 84 rfl)) (ty := .int) o18
  refine o2 (fun u j => st309 u j) ?_
  refine o2 (fun u j => o40 X309.here hx rfl (hb hby o740) rfl rfl j) ?_
  have g310 := Nat.le_trans (o52 O0) (Nat.le_of_eq g309.symm)
  have O312 := O0.ext E309
  refine o11 (o50 X309 hx hZ (y := o824) rfl hown (o0 hw 41 rfl) (o0 hw 42 rfl) (o0 hw 40 rfl) (o0 hw 43 rfl) o42 (o1006 l Z a0 hw [] wcs wd mOA mSL mAL kd hS b309 (0 : Int32) h309 n0 O312 A309 F309_modCount F309_elementData F309_size g310) e309 o59 (a := b309) (argsL := []) (rest := [.ref b309, .ref ad0]) rfl rfl (g := (mkF m 9 #[.val (.ref ad0)] [.ref b309, .ref b309, .ref ad0])) rfl (by rw [hml]; rfl) rfl (hb hby o741) (W := 2) rfl (by decide) (by decide) (by decide) (by decide)) ?_
  intro T311 v311 L311 X311 hQ311
  obtain ⟨rfl, M311, K311, F313, F314, F315, F316⟩ := hQ311
  have N311 := Fr.app N0 M311
  have F317 := ((Exa.ext E309 pe1).keep K311)
  have ne318 := (Nat.ne_of_lt (Nat.lt_of_lt_of_le pe1.lt (Nat.le_of_eq g309.symm)))
  have F319 := ((Fld.ext E309 pf2).keep K311 (ninS ne318 nin0))
  refine o32 (putF X311 hx hZ hown (host := "") (Or.inl (o0 hw 62 rfl)) Via.refl rfl F319 F317 (Or.inr ⟨(o0 hw 63 rfl), rfl, hnm⟩) (o0 hw 32 rfl) (ty := (.object "java/util/List")) o605 rfl rfl rfl rfl (hb hby o674)) ?_
  intro T320 h320 X320 e320 W320
  have N320 := Fr.snoc X320 N311 pg_ad0
  have F321 : Fld Z h320 ad0 o54 "path" o66 (.ref b309) := Fld.same W320 F319
  have K322 := (Keep.refl h0 [ad0]).ext E309
  have z324 := Nat.le_trans (Nat.le_refl _) (Nat.le_of_eq g309.symm)
  have K323 := K322.trans K311 (allS (Or.inr z324) all0)
  have K325 := K323.wr W320 (Or.inl (List.mem_of_getElem? (i := 0) rfl))
  have F326 := (Exa.wr W320 F317)
  have F327 := (Exa.wr W320 F313)
  have F328 := (Fld.other W320 F314 (Or.inl (Ne.symm ne318)))
  have F329 := (Fld.other W320 F315 (Or.inl (Ne.symm ne318)))
  have F330 := (Fld.other W320 F316 (Or.inl (Ne.symm ne318)))
  exact o48 X320 hx hlk hret (hb hby o675) (by decide) (by decide) (by rw [e320]; exact ⟨b309, rfl, N320, K325, z324, F326, F321, F327, F328, F329, F330⟩)
theorem o44 : ("com/example/temanggung/temanggung/beans/factory/Creating" : String) ≠ "java/lang/invoke/MethodHandle" ∧ ("com/example/temanggung/temanggung/beans/factory/Creating" : String) ≠ "java/lang/invoke/VarHandle" := by decide +kernel
theorem o320 : decode prog_33_method_2_code 0 = .ok (.aload_n 0, 1) := by decide +kernel
theorem o321 : decode prog_33_method_2_code 1 = .ok (.aload_n 1, 1) := by decide +kernel
theorem o322 : decode prog_33_method_2_code 2 = .ok (.invokevirtual 16, 3) := by decide +kernel
theorem o98 : decode prog_33_method_4_code 0 = .ok (.aload_n 0, 1) := by decide +kernel
theorem o99 : decode prog_33_method_4_code 1 = .ok (.getfield 10, 3) := by decide +kernel
theorem o100 : decode prog_33_method_4_code 4 = .ok (.aload_n 1, 1) := by decide +kernel
theorem o101 : decode prog_33_method_4_code 5 = .ok (.invokeinterface 39 2, 5) := by decide +kernel
theorem o102 : decode jdk_38_method_11_code 0 = .ok (.aload_n 0, 1) := by decide +kernel
theorem o103 : decode jdk_38_method_11_code 1 = .ok (.aload_n 1, 1) := by decide +kernel
theorem o104 : decode jdk_38_method_11_code 2 = .ok (.iconst 0, 1) := by decide +kernel
theorem o105 : decode jdk_38_method_11_code 3 = .ok (.aload_n 0, 1) := by decide +kernel
theorem o106 : decode jdk_38_method_11_code 4 = .ok (.getfield 48, 3) := by decide +kernel
theorem o107 : decode jdk_38_method_11_code 7 = .ok (.invokevirtual 89, 3) := by decide +kernel
theorem o108 : decode jdk_38_method_12_code 0 = .ok (.aload_n 0, 1) := by decide +kernel
theorem o109 : decode jdk_38_method_12_code 1 = .ok (.getfield 9, 3) := by decide +kernel
theorem o110 : decode jdk_38_method_12_code 4 = .ok (.astore 4, 2) := by decide +kernel
theorem o111 : decode jdk_38_method_12_code 6 = .ok (.aload_n 1, 1) := by decide +kernel
theorem o112 : decode jdk_38_method_12_code 7 = .ok (.ifnonnull 32, 3) := by decide +kernel
theorem o85 : decode jdk_38_method_12_code 39 = .ok (.iload_n 2, 1) := by decide +kernel
theorem o86 : decode jdk_38_method_12_code 40 = .ok (.istore 5, 2) := by decide +kernel
theorem o56 : decode jdk_38_method_12_code 42 = .ok (.iload 5, 2) := by decide +kernel
theorem o57 : decode jdk_38_method_12_code 44 = .ok (.iload_n 3, 1) := by decide +kernel
theorem o58 : decode jdk_38_method_12_code 45 = .ok (.if_icmp .ge 24, 3) := by decide +kernel
theorem o240 : decode jdk_38_method_12_code 69 = .ok (.iconst (-1), 1) := by decide +kernel
theorem o241 : decode jdk_38_method_12_code 70 = .ok (.ireturn, 1) := by decide +kernel
abbrev o61 : MethodName := ⟨"java/util/ArrayList", "indexOfRange", "(Ljava/lang/Object;II)I"⟩
theorem o1007 (l : Launch) (Z : State) (a0 : Array Value) (hw : o21 a0 Z) (ws : List Jvm.Cond) (wcs : Int32) (wd mOA mSL mAL : Addr) (kd : ClassId) (hS : o22 Z wcs wd mOA mSL mAL kd) (ad0 ad1 : Addr) (h0 : Heap) (n0 : Nat) (O0 : Old Z n0 h0) (pf3 : Fld Z h0 ad0 o3 o13 o7 (.ref wd)) :
    o16 l o61 jdk_38_method_12_code 6 (some .int) ws ⟨0, 0, 0, 0⟩ Z h0 #[.ref ad0, .ref ad1, .int 0, .int 0] (fun v h L => v = some (.int (-1)) ∧ Fr n0 L ∧ h = h0) := by
  refine o15 (plainFor_of_name o24) ?_
  intro p e s m below meth c s₁ hx hby hml hown hnm hret hlk hZ e0 X0
  have N0 := Fr.nil n0
  refine o2 (fun u j => castTop (show entryFrame m #[.ref ad0, .ref ad1, .int 0, .int 0] 6 = mkF m 0 #[.val (.ref ad0), .val (.ref ad1), .val (.int 0), .val (.int 0), .unset, .unset] [] from rfl) j) ?_
  refine o2 (fun u j => o1 X0.here hx rfl (hb hby o108) rfl rfl j) ?_
  refine o19 (getF X0 hx hZ hown (host := "") (Or.inl (o0 hw 60 rfl)) Via.refl e0 pf3 rfl rfl (hb hby o109)) ?_
  intro T346 X346 e346
  refine o2 (fun u j => o37 X346.here hx rfl (hb hby o110) rfl rfl (l' := #[.val (.ref ad0), .val (.ref ad1), .val (.int 0), .val (.int 0), .val (.ref wd), .unset]) rfl (o1 X346.here hx rfl (hb hby o111) rfl rfl (o60 X346.here hx rfl (pc0 := 7) (pc' := 39) rfl (hb hby o112) rfl (by decide) (by decide) (o4 X346.here hx rfl (hb hby o85) rfl (o30 X346.here hx rfl (hb hby o86) rfl (l' := #[.val (.ref ad0), .val (.ref ad1), .val (.int 0), .val (.int 0), .val (.ref wd), .val (.int 0)]) rfl (o10 X346.here hx rfl (hb hby o56) rfl j)))))) ?_
  show o17 p e below _ (T346.setTop (mkF m 44 #[.val (.ref ad0), .val (.ref ad1), .val (.int 0), .val (.int 0), .val (.ref wd), .val (.int 0)] [.int 0]))
  refine o2 (fun u j => o4 X346.here hx rfl (hb hby o57) rfl (o23 X346.here hx rfl (pc0 := 45) (pc' := 69) rfl (hb hby o58) rfl (XT.ii_ge_t (by decide)) (by decide) (by decide) (o5 X346.here hx rfl (hb hby o240) j))) ?_
  exact o20 X346 hx hlk hret rfl (Or.inl ⟨rfl, by simp, _, rfl⟩) (hb hby o241) (by decide) (by decide) (by rw [e346]; exact ⟨rfl, N0, rfl⟩)
theorem o242 : parseMethodDescriptor "(Ljava/lang/Object;II)I" = some ⟨[(.object "java/lang/Object"), .int, .int], some .int⟩ := by decide +kernel
theorem o87 : decode jdk_38_method_11_code 10 = .ok (.ireturn, 1) := by decide +kernel
abbrev o113 : MethodName := ⟨"java/util/ArrayList", "indexOf", "(Ljava/lang/Object;)I"⟩
theorem o1008 (l : Launch) (Z : State) (a0 : Array Value) (hw : o21 a0 Z) (ws : List Jvm.Cond) (wcs : Int32) (wd mOA mSL mAL : Addr) (kd : ClassId) (hS : o22 Z wcs wd mOA mSL mAL kd) (ad0 ad1 : Addr) (h0 : Heap) (n0 : Nat) (O0 : Old Z n0 h0) (pe1 : Exa Z h0 ad0 o3) (pf3 : Fld Z h0 ad0 o3 o13 o7 (.ref wd)) (pf4 : Fld Z h0 ad0 o3 "size" "I" (.int 0)) :
    o16 l o113 jdk_38_method_11_code 2 (some .int) ws ⟨1, 0, 0, 17⟩ Z h0 #[.ref ad0, .ref ad1] (fun v h L => v = some (.int (-1)) ∧ Fr n0 L ∧ h = h0) := by
  refine o15 (plainFor_of_name o24) ?_
  intro p e s m below meth c s₁ hx hby hml hown hnm hret hlk hZ e0 X0
  have N0 := Fr.nil n0
  refine o2 (fun u j => castTop (show entryFrame m #[.ref ad0, .ref ad1] 2 = mkF m 0 #[.val (.ref ad0), .val (.ref ad1)] [] from rfl) j) ?_
  refine o2 (fun u j => o1 X0.here hx rfl (hb hby o102) rfl rfl (o1 X0.here hx rfl (hb hby o103) rfl rfl (o5 X0.here hx rfl (hb hby o104) (o1 X0.here hx rfl (hb hby o105) rfl rfl j)))) ?_
  refine o19 (getF X0 hx hZ hown (host := "") (Or.inl (o0 hw 83 rfl)) Via.refl e0 pf4 rfl rfl (hb hby o106)) ?_
  intro T348 X348 e348
  refine o11 (o26 X348 hx hZ (y := o61) (z := o61) hown (o0 hw 85 rfl) (o0 hw 86 rfl) (notFace_of_selects (args := #[]) (mvT hZ (o0 hw 88 rfl))) (o0 hw 88 rfl) (o0 hw 87 rfl) (o0 hw 40 rfl) (o0 hw 89 rfl) o42 (o1007 l Z a0 hw [] wcs wd mOA mSL mAL kd hS ad0 ad1 h0 n0 O0 pf3) e348 pe1 o242 (argsL := [.ref ad1, .int 0, .int 0]) (rest := []) rfl rfl (g := (mkF m 7 #[.val (.ref ad0), .val (.ref ad1)] [.int 0, .int 0, .ref ad1, .ref ad0])) rfl (by rw [hml]; rfl) rfl (hb hby o107) (W := 0) rfl (by decide) (by decide) (by decide) (by decide)) ?_
  intro T349 v349 L349 X349 hQ349
  obtain ⟨rfl, M349, e349⟩ := hQ349
  have N349 := Fr.app N0 M349
  exact o20 X349 hx hlk hret rfl (Or.inl ⟨rfl, by simp, _, rfl⟩) (hb hby o87) (by decide) (by decide) (by rw [e349]; exact ⟨rfl, N349, rfl⟩)
abbrev o364 : MethodName := ⟨"java/util/List", "indexOf", "(Ljava/lang/Object;)I"⟩
theorem o27 : ("java/util/List" : String) ≠ "java/lang/invoke/MethodHandle" ∧ ("java/util/List" : String) ≠ "java/lang/invoke/VarHandle" := by decide +kernel
theorem o243 : parseMethodDescriptor "(Ljava/lang/Object;)I" = some ⟨[(.object "java/lang/Object")], some .int⟩ := by decide +kernel
theorem o88 : decode prog_33_method_4_code 10 = .ok (.istore_n 2, 1) := by decide +kernel
theorem o89 : decode prog_33_method_4_code 11 = .ok (.iload_n 2, 1) := by decide +kernel
theorem o90 : decode prog_33_method_4_code 12 = .ok (.ifCond .ge 5, 3) := by decide +kernel
theorem o244 : decode prog_33_method_4_code 15 = .ok (.aconst_null, 1) := by decide +kernel
theorem o245 : decode prog_33_method_4_code 16 = .ok (.areturn, 1) := by decide +kernel
abbrev o39 : MethodName := ⟨"com/example/temanggung/temanggung/beans/factory/Creating", "cycleTo", "(Ljava/lang/String;)Ljava/util/List;"⟩
theorem o1009 (l : Launch) (Z : State) (a0 : Array Value) (hw : o21 a0 Z) (ws : List Jvm.Cond) (wcs : Int32) (wd mOA mSL mAL : Addr) (kd : ClassId) (hS : o22 Z wcs wd mOA mSL mAL kd) (ad0 ad1 ad2 : Addr) (h0 : Heap) (n0 : Nat) (O0 : Old Z n0 h0) (pf2 : Fld Z h0 ad0 o54 "path" o66 (.ref ad2)) (pe6 : Exa Z h0 ad2 o3) (pf8 : Fld Z h0 ad2 o3 o13 o7 (.ref wd)) (pf9 : Fld Z h0 ad2 o3 "size" "I" (.int 0)) :
    o16 l o39 prog_33_method_4_code 4 (some (.object "java/util/List")) ws ⟨2, 0, 0, 30⟩ Z h0 #[.ref ad0, .ref ad1] (fun v h L => v = some .null ∧ Fr n0 L ∧ h = h0) := by
  refine o15 (plainFor_of_name o76) ?_
  intro p e s m below meth c s₁ hx hby hml hown hnm hret hlk hZ e0 X0
  have N0 := Fr.nil n0
  refine o2 (fun u j => castTop (show entryFrame m #[.ref ad0, .ref ad1] 4 = mkF m 0 #[.val (.ref ad0), .val (.ref ad1), .unset, .unset] [] from rfl) j) ?_
  refine o2 (fun u j => o1 X0.here hx rfl (hb hby o98) rfl rfl j) ?_
  refine o19 (getF X0 hx hZ hown (host := "") (Or.inl (o0 hw 62 rfl)) Via.refl e0 pf2 rfl rfl (hb hby o99)) ?_
  intro T351 X351 e351
  refine o2 (fun u j => o1 X351.here hx rfl (hb hby o100) rfl rfl j) ?_
  refine o11 (o29 X351 hx hZ (y := o364) (z := o113) hown (o0 hw 74 rfl) (o0 hw 75 rfl) (mvT hZ (o0 hw 76 rfl)) (o0 hw 77 rfl) (o0 hw 78 rfl) (o0 hw 79 rfl) (o0 hw 80 rfl) (o0 hw 81 rfl) (o0 hw 40 rfl) (o0 hw 82 rfl) o27 (o1008 l Z a0 hw [] wcs wd mOA mSL mAL kd hS ad2 ad1 h0 n0 O0 pe6 pf8 pf9) e351 pe6 o243 (argsL := [.ref ad1]) (rest := []) rfl rfl (g := (mkF m 5 #[.val (.ref ad0), .val (.ref ad1), .unset, .unset] [.ref ad1, .ref ad2])) rfl (by rw [hml]; rfl) rfl (hb hby o101) (W := 0) rfl (by decide) (by decide) (by decide) (by decide)) ?_
  intro T352 v352 L352 X352 hQ352
  obtain ⟨rfl, M352, e352⟩ := hQ352
  have N352 := Fr.app N0 M352
  refine o2 (fun u j => o45 X352.here hx rfl (hb hby o88) rfl (l' := #[.val (.ref ad0), .val (.ref ad1), .val (.int (-1)), .unset]) rfl (o4 X352.here hx rfl (hb hby o89) rfl (o34 X352.here hx rfl (hb hby o90) rfl (XT.i0_ge_f (by decide)) (o49 X352.here hx rfl (hb hby o244) j)))) ?_
  exact o20 X352 hx hlk hret rfl (Or.inr (Or.inr (Or.inr (Or.inr ⟨rfl, rfl, rfl⟩)))) (hb hby o245) (by decide) (by decide) (by rw [e352]; exact ⟨rfl, N352, rfl⟩)
theorem o77 : parseMethodDescriptor "(Ljava/lang/String;)Ljava/util/List;" = some ⟨[(.object "java/lang/String")], some (.object "java/util/List")⟩ := by decide +kernel
theorem o323 : decode prog_33_method_2_code 5 = .ok (.astore_n 2, 1) := by decide +kernel
theorem o324 : decode prog_33_method_2_code 6 = .ok (.aload_n 2, 1) := by decide +kernel
theorem o325 : decode prog_33_method_2_code 7 = .ok (.ifnull 12, 3) := by decide +kernel
theorem o246 : decode prog_33_method_2_code 19 = .ok (.aload_n 0, 1) := by decide +kernel
theorem o247 : decode prog_33_method_2_code 20 = .ok (.getfield 10, 3) := by decide +kernel
theorem o248 : decode prog_33_method_2_code 23 = .ok (.aload_n 1, 1) := by decide +kernel
theorem o249 : decode prog_33_method_2_code 24 = .ok (.invokeinterface 25 2, 5) := by decide +kernel
theorem o144 : decode jdk_38_method_25_code 0 = .ok (.aload_n 0, 1) := by decide +kernel
theorem o145 : decode jdk_38_method_25_code 1 = .ok (.dup, 1) := by decide +kernel
theorem o146 : decode jdk_38_method_25_code 2 = .ok (.getfield 63, 3) := by decide +kernel
theorem o147 : decode jdk_38_method_25_code 5 = .ok (.iconst 1, 1) := by decide +kernel
theorem o148 : decode jdk_38_method_25_code 6 = .ok (.iadd, 1) := by decide +kernel
theorem o149 : decode jdk_38_method_25_code 7 = .ok (.putfield 63, 3) := by decide +kernel
theorem o118 : decode jdk_38_method_25_code 10 = .ok (.aload_n 0, 1) := by decide +kernel
theorem o119 : decode jdk_38_method_25_code 11 = .ok (.aload_n 1, 1) := by decide +kernel
theorem o120 : decode jdk_38_method_25_code 12 = .ok (.aload_n 0, 1) := by decide +kernel
theorem o121 : decode jdk_38_method_25_code 13 = .ok (.getfield 9, 3) := by decide +kernel
theorem o122 : decode jdk_38_method_25_code 16 = .ok (.aload_n 0, 1) := by decide +kernel
theorem o123 : decode jdk_38_method_25_code 17 = .ok (.getfield 48, 3) := by decide +kernel
theorem o124 : decode jdk_38_method_25_code 20 = .ok (.invokevirtual 131, 3) := by decide +kernel
theorem o150 : decode jdk_38_method_24_code 0 = .ok (.iload_n 3, 1) := by decide +kernel
theorem o151 : decode jdk_38_method_24_code 1 = .ok (.aload_n 2, 1) := by decide +kernel
theorem o152 : decode jdk_38_method_24_code 2 = .ok (.arraylength, 1) := by decide +kernel
theorem o153 : decode jdk_38_method_24_code 3 = .ok (.if_icmp .ne 8, 3) := by decide +kernel
theorem o326 : decode jdk_38_method_24_code 6 = .ok (.aload_n 0, 1) := by decide +kernel
theorem o327 : decode jdk_38_method_24_code 7 = .ok (.invokevirtual 129, 3) := by decide +kernel
theorem o375 : decode jdk_38_method_7_code 0 = .ok (.aload_n 0, 1) := by decide +kernel
theorem o376 : decode jdk_38_method_7_code 1 = .ok (.aload_n 0, 1) := by decide +kernel
theorem o377 : decode jdk_38_method_7_code 2 = .ok (.getfield 48, 3) := by decide +kernel
theorem o378 : decode jdk_38_method_7_code 5 = .ok (.iconst 1, 1) := by decide +kernel
theorem o379 : decode jdk_38_method_7_code 6 = .ok (.iadd, 1) := by decide +kernel
theorem o380 : decode jdk_38_method_7_code 7 = .ok (.invokevirtual 69, 3) := by decide +kernel
theorem o381 : decode jdk_38_method_6_code 0 = .ok (.aload_n 0, 1) := by decide +kernel
theorem o382 : decode jdk_38_method_6_code 1 = .ok (.getfield 9, 3) := by decide +kernel
theorem o383 : decode jdk_38_method_6_code 4 = .ok (.arraylength, 1) := by decide +kernel
theorem o384 : decode jdk_38_method_6_code 5 = .ok (.istore_n 2, 1) := by decide +kernel
theorem o385 : decode jdk_38_method_6_code 6 = .ok (.iload_n 2, 1) := by decide +kernel
theorem o386 : decode jdk_38_method_6_code 7 = .ok (.ifCond .gt 13, 3) := by decide +kernel
theorem o743 : decode jdk_38_method_6_code 10 = .ok (.aload_n 0, 1) := by decide +kernel
theorem o744 : decode jdk_38_method_6_code 11 = .ok (.getfield 9, 3) := by decide +kernel
theorem o745 : decode jdk_38_method_6_code 14 = .ok (.getstatic 39, 3) := by decide +kernel
theorem o746 : decode jdk_38_method_6_code 17 = .ok (.if_acmp .eq 28, 3) := by decide +kernel
theorem o747 : decode jdk_38_method_6_code 45 = .ok (.aload_n 0, 1) := by decide +kernel
theorem o748 : decode jdk_38_method_6_code 46 = .ok (.bipush 10, 2) := by decide +kernel
theorem o749 : decode jdk_38_method_6_code 48 = .ok (.iload_n 1, 1) := by decide +kernel
theorem o750 : decode jdk_38_method_6_code 49 = .ok (.invokestatic 79, 3) := by decide +kernel
theorem o751 : decode jdk_29_method_65_code 0 = .ok (.iload_n 0, 1) := by decide +kernel
theorem o752 : decode jdk_29_method_65_code 1 = .ok (.iload_n 1, 1) := by decide +kernel
theorem o753 : decode jdk_29_method_65_code 2 = .ok (.if_icmp .lt 7, 3) := by decide +kernel
theorem o754 : decode jdk_29_method_65_code 5 = .ok (.iload_n 0, 1) := by decide +kernel
theorem o755 : decode jdk_29_method_65_code 6 = .ok (.goto 4, 3) := by decide +kernel
theorem o676 : decode jdk_29_method_65_code 10 = .ok (.ireturn, 1) := by decide +kernel
abbrev o575 : MethodName := ⟨"java/lang/Math", "max", "(II)I"⟩
theorem o847 : plainFor o575 = true := by decide +kernel
theorem o848 (l : Launch) (Z : State) (a0 : Array Value) (hw : o21 a0 Z) (ws : List Jvm.Cond) (wcs : Int32) (wd mOA mSL mAL : Addr) (kd : ClassId) (hS : o22 Z wcs wd mOA mSL mAL kd) (iv0 iv1 : Int32) (h0 : Heap) (n0 : Nat) (O0 : Old Z n0 h0) (pk_0 : ¬ iv0 < iv1) :
    o16 l o575 jdk_29_method_65_code 2 (some .int) ws ⟨0, 0, 0, 0⟩ Z h0 #[.int iv0, .int iv1] (fun v h L => v = some (.int iv0) ∧ Fr n0 L ∧ h = h0) := by
  refine o15 o847 ?_
  intro p e s m below meth c s₁ hx hby hml hown hnm hret hlk hZ e0 X0
  have N0 := Fr.nil n0
  refine o2 (fun u j => castTop (show entryFrame m #[.int iv0, .int iv1] 2 = mkF m 0 #[.val (.int iv0), .val (.int iv1)] [] from rfl) j) ?_
  refine o2 (fun u j => o4 X0.here hx rfl (hb hby o751) rfl (o4 X0.here hx rfl (hb hby o752) rfl (o28 X0.here hx rfl (hb hby o753) rfl (XT.ii_lt_f pk_0) (o4 X0.here hx rfl (hb hby o754) rfl (o35 X0.here hx rfl (pc0 := 6) (pc' := 10) rfl (hb hby o755) (by decide) (by decide) j))))) ?_
  exact o20 X0 hx hlk hret rfl (Or.inl ⟨rfl, by simp, _, rfl⟩) (hb hby o676) (by decide) (by decide) (by rw [e0]; exact ⟨rfl, N0, rfl⟩)
theorem o115 : ("java/lang/Math" : String) ≠ "java/lang/invoke/MethodHandle" ∧ ("java/lang/Math" : String) ≠ "java/lang/invoke/VarHandle" := by decide +kernel
theorem o756 : decode jdk_38_method_6_code 52 = .ok (.anewarray 7, 3) := by decide +kernel
theorem o198 : "[" ++ (FieldType.object "java/lang/Object").toString = "[Ljava/lang/Object;" := by decide +kernel
theorem o757 : decode jdk_38_method_6_code 55 = .ok (.dup_x1, 1) := by decide +kernel
theorem o758 : decode jdk_38_method_6_code 56 = .ok (.putfield 9, 3) := by decide +kernel
theorem o759 : decode jdk_38_method_6_code 59 = .ok (.areturn, 1) := by decide +kernel
abbrev o365 : MethodName := ⟨"java/util/ArrayList", "grow", "(I)[Ljava/lang/Object;"⟩
theorem o922 (l : Launch) (Z : State) (a0 : Array Value) (hw : o21 a0 Z) (ws : List Jvm.Cond) (wcs : Int32) (wd mOA mSL mAL : Addr) (kd : ClassId) (hS : o22 Z wcs wd mOA mSL mAL kd) (ad0 : Addr) (iv1 : Int32) (h0 : Heap) (n0 : Nat) (O0 : Old Z n0 h0) (pe1 : Exa Z h0 ad0 o3) (pf2 : Fld Z h0 ad0 o8 o9 "I" (.int iv1)) (pf3 : Fld Z h0 ad0 o3 o13 o7 (.ref wd)) (pf4 : Fld Z h0 ad0 o3 "size" "I" (.int 0)) (pg_ad0 : n0 ≤ ad0) :
    o16 l o365 jdk_38_method_6_code 4 (some (.array (.object "java/lang/Object"))) ws ⟨1, 1, 10, 14⟩ Z h0 #[.ref ad0, .int 1] (fun v h L => ∃ nz0 : Addr, ∃ kz1 : ClassId, v = some (.ref nz0) ∧ Fr n0 L ∧ Keep h0 h [ad0] ∧ h0.size ≤ nz0 ∧ Exa Z h ad0 o3 ∧ Fld Z h ad0 o8 o9 "I" (.int iv1) ∧ Fld Z h ad0 o3 o13 o7 (.ref nz0) ∧ Fld Z h ad0 o3 "size" "I" (.int 0) ∧ Exa Z h nz0 o7 ∧ Arv Z h nz0 kz1 (.object "java/lang/Object") 10 [.null, .null, .null, .null, .null, .null, .null, .null, .null, .null] .null ∧ Ovr Z kz1 "java/lang/Object") := by
  refine o15 (plainFor_of_name o24) ?_
  intro p e s m below meth c s₁ hx hby hml hown hnm hret hlk hZ e0 X0
  have N0 := Fr.nil n0
  refine o2 (fun u j => castTop (show entryFrame m #[.ref ad0, .int 1] 4 = mkF m 0 #[.val (.ref ad0), .val (.int 1), .unset, .unset] [] from rfl) j) ?_
  refine o2 (fun u j => o1 X0.here hx rfl (hb hby o381) rfl rfl j) ?_
  refine o19 (getF X0 hx hZ hown (host := "") (Or.inl (o0 hw 60 rfl)) Via.refl e0 pf3 rfl rfl (hb hby o382)) ?_
  intro T377 X377 e377
  have F378 := Arv.ext hS.2.2.2.2.1 O0.2
  refine o2 (fun u j => o65 X377 hx hZ e377 F378 rfl rfl (hb hby o383) (o45 X377.here hx rfl (hb hby o384) rfl (l' := #[.val (.ref ad0), .val (.int 1), .val (.int 0), .unset]) rfl (o4 X377.here hx rfl (hb hby o385) rfl (o34 X377.here hx rfl (hb hby o386) rfl (XT.i0_gt_f (by decide)) (o1 X377.here hx rfl (hb hby o743) rfl rfl j))))) ?_
  refine o19 (getF X377 hx hZ hown (host := "") (Or.inl (o0 hw 60 rfl)) Via.refl e377 pf3 rfl rfl (hb hby o744)) ?_
  intro T380 X380 e380
  have F381 := Sta.ext O0.2 hS.2.2.1
  refine o19 (getS2 X380 hx hZ hown (host := "") (Or.inl (o0 hw 59 rfl)) Via.refl e380 F381 rfl (hb hby o745)) ?_
  intro T382 X382 e382
  refine o2 (fun u j => XT.acmpYes X382.here hx rfl (pc0 := 17) (pc' := 45) rfl (hb hby o746) rfl rfl rfl (XT.aa_eq_t rfl) (by decide) (by decide) (o1 X382.here hx rfl (hb hby o747) rfl rfl (XS.bipush X382.here hx rfl (hb hby o748) (o4 X382.here hx rfl (hb hby o749) rfl j)))) ?_
  refine o11 (o25 X382 hx hZ (y := o575) hown (o0 hw 115 rfl) (o0 hw 116 rfl) (o0 hw 117 rfl) (o0 hw 118 rfl) o115 (o848 l Z a0 hw [] wcs wd mOA mSL mAL kd hS (10 : Int32) (1 : Int32) h0 n0 O0 (by decide)) e382 o67 (argsL := [.int 10, .int 1]) (rest := [.ref ad0]) rfl rfl (g := (mkF m 49 #[.val (.ref ad0), .val (.int 1), .val (.int 0), .unset] [.int 1, .int 10, .ref ad0])) rfl (by rw [hml]; rfl) rfl (hb hby o750) (W := 1) rfl (by decide) (by decide) (by decide) (by decide)) ?_
  intro T383 v383 L383 X383 hQ383
  obtain ⟨rfl, M383, e383⟩ := hQ383
  have N383 := Fr.app N0 M383
  have q_ := newRE X383 hx hZ hown (show (Cond.classLink "java/util/ArrayList" 7 "java/lang/Object").before a0 Z = true from (o0 hw 119 rfl)) (show (Cond.arrayOver (.object "java/lang/Object")).before a0 Z = true from (o0 hw 120 rfl)) e383 (g := (mkF m 52 #[.val (.ref ad0), .val (.int 1), .val (.int 0), .unset] [.int 10, .ref ad0])) rfl (hb hby o756) rfl (by decide) (cap := 10) (by decide) (by decide) (by decide) (by decide) (ad := "[Ljava/lang/Object;") o198
  obtain ⟨T384, h384, k384, X384, e384, E384, A384, Y384, O384, st384⟩ := q_
  have q_ : ∃ z, z = h0.size := ⟨_, rfl⟩
  obtain ⟨b384, g384⟩ := q_
  rw [← g384] at A384 Y384 st384
  have V384 : Arv Z h384 b384 k384 (.object "java/lang/Object") 10 [.null, .null, .null, .null, .null, .null, .null, .null, .null, .null] .null := (Arv.new A384 (by decide)).pad (pad_rep [] .null 10)
  refine o2 (fun u j => st384 u j) ?_
  refine o2 (fun u j => XS.dupX1 X384.here hx rfl (hb hby o757) rfl rfl rfl j) ?_
  have F385 := (Exa.ext E384 pe1)
  have F386 := (Fld.ext E384 pf3)
  refine o32 (putF X384 hx hZ hown (host := "") (Or.inl (o0 hw 60 rfl)) Via.refl e384 F386 F385 (Or.inl (o0 hw 61 rfl)) (o0 hw 39 rfl) (ty := (.array (.object "java/lang/Object"))) o68 rfl rfl rfl rfl (hb hby o758)) ?_
  intro T387 h387 X387 e387 W387
  have N387 := Fr.snoc X387 N383 pg_ad0
  have F388 : Fld Z h387 ad0 o3 o13 o7 (.ref b384) := Fld.same W387 F386
  have K389 := (Keep.refl h0 [ad0]).ext E384
  have K390 := K389.wr W387 (Or.inl (List.mem_of_getElem? (i := 0) rfl))
  have z391 := Nat.le_trans (Nat.le_refl _) (Nat.le_of_eq g384.symm)
  have F392 := (Exa.wr W387 F385)
  have F393 := (Fld.other W387 (Fld.ext E384 pf2) (Or.inr (o200 hw)))
  have F394 := (Fld.other W387 (Fld.ext E384 pf4) (Or.inr (o201 hw)))
  have F395 := (Exa.wr W387 Y384)
  have ne396 := (Ne.symm (Nat.ne_of_lt (Nat.lt_of_lt_of_le pe1.lt (Nat.le_of_eq g384.symm))))
  have F397 := (V384.other W387 ne396)
  exact o20 X387 hx hlk hret rfl (Or.inr (Or.inr (Or.inr (Or.inr ⟨rfl, rfl, rfl⟩)))) (hb hby o759) (by decide) (by decide) (by rw [e387]; exact ⟨b384, k384, rfl, N387, K390, z391, F392, F393, F388, F394, F395, F397, O384⟩)
theorem o606 : parseMethodDescriptor "(I)[Ljava/lang/Object;" = some ⟨[.int], some (.array (.object "java/lang/Object"))⟩ := by decide +kernel
theorem o328 : decode jdk_38_method_7_code 10 = .ok (.areturn, 1) := by decide +kernel
abbrev o366 : MethodName := ⟨"java/util/ArrayList", "grow", "()[Ljava/lang/Object;"⟩
theorem o923 (l : Launch) (Z : State) (a0 : Array Value) (hw : o21 a0 Z) (ws : List Jvm.Cond) (wcs : Int32) (wd mOA mSL mAL : Addr) (kd : ClassId) (hS : o22 Z wcs wd mOA mSL mAL kd) (ad0 : Addr) (iv1 : Int32) (h0 : Heap) (n0 : Nat) (O0 : Old Z n0 h0) (pe1 : Exa Z h0 ad0 o3) (pf2 : Fld Z h0 ad0 o8 o9 "I" (.int iv1)) (pf3 : Fld Z h0 ad0 o3 o13 o7 (.ref wd)) (pf4 : Fld Z h0 ad0 o3 "size" "I" (.int 0)) (pg_ad0 : n0 ≤ ad0) :
    o16 l o366 jdk_38_method_7_code 1 (some (.array (.object "java/lang/Object"))) ws ⟨2, 1, 10, 29⟩ Z h0 #[.ref ad0] (fun v h L => ∃ nz0 : Addr, ∃ kz1 : ClassId, v = some (.ref nz0) ∧ Fr n0 L ∧ Keep h0 h [ad0] ∧ h0.size ≤ nz0 ∧ Exa Z h ad0 o3 ∧ Fld Z h ad0 o8 o9 "I" (.int iv1) ∧ Fld Z h ad0 o3 o13 o7 (.ref nz0) ∧ Fld Z h ad0 o3 "size" "I" (.int 0) ∧ Exa Z h nz0 o7 ∧ Arv Z h nz0 kz1 (.object "java/lang/Object") 10 [.null, .null, .null, .null, .null, .null, .null, .null, .null, .null] .null ∧ Ovr Z kz1 "java/lang/Object") := by
  refine o15 (plainFor_of_name o24) ?_
  intro p e s m below meth c s₁ hx hby hml hown hnm hret hlk hZ e0 X0
  have N0 := Fr.nil n0
  refine o2 (fun u j => castTop (show entryFrame m #[.ref ad0] 1 = mkF m 0 #[.val (.ref ad0)] [] from rfl) j) ?_
  refine o2 (fun u j => o1 X0.here hx rfl (hb hby o375) rfl rfl (o1 X0.here hx rfl (hb hby o376) rfl rfl j)) ?_
  refine o19 (getF X0 hx hZ hown (host := "") (Or.inl (o0 hw 83 rfl)) Via.refl e0 pf4 rfl rfl (hb hby o377)) ?_
  intro T409 X409 e409
  refine o2 (fun u j => o5 X409.here hx rfl (hb hby o378) (o36 X409.here hx rfl (hb hby o379) rfl j)) ?_
  refine o11 (o62 X409 hx hZ (y := o365) hown (o0 hw 110 rfl) (o0 hw 111 rfl) (mvT hZ (o0 hw 113 rfl)) (o0 hw 112 rfl) (o0 hw 40 rfl) (o0 hw 114 rfl) o42 (o922 l Z a0 hw [] wcs wd mOA mSL mAL kd hS ad0 iv1 h0 n0 O0 pe1 pf2 pf3 pf4 pg_ad0) e409 pe1 o606 (argsL := [.int 1]) (rest := []) rfl rfl (g := (mkF m 7 #[.val (.ref ad0)] [.int 1, .ref ad0])) rfl (by rw [hml]; rfl) rfl (hb hby o380) (W := 0) rfl (by decide) (by decide) (by decide) (by decide)) ?_
  intro T410 v410 L410 X410 hQ410
  obtain ⟨nz0_411, kz1_412, rfl, M410, K410, z413, F414, F415, F416, F417, F418, F419, ov0_420⟩ := hQ410
  have N410 := Fr.app N0 M410
  have K421 := (Keep.refl h0 [ad0]).trans K410 (allS (Or.inl (List.mem_of_getElem? (i := 0) rfl)) all0)
  have z422 := Nat.le_trans (Nat.le_refl _) z413
  exact o20 X410 hx hlk hret rfl (Or.inr (Or.inr (Or.inr (Or.inr ⟨rfl, rfl, rfl⟩)))) (hb hby o328) (by decide) (by decide) (by exact ⟨nz0_411, kz1_412, rfl, N410, K421, z422, F414, F415, F416, F417, F418, F419, ov0_420⟩)
theorem o250 : parseMethodDescriptor "()[Ljava/lang/Object;" = some ⟨[], some (.array (.object "java/lang/Object"))⟩ := by decide +kernel
theorem o251 : decode jdk_38_method_24_code 10 = .ok (.astore_n 2, 1) := by decide +kernel
theorem o125 : decode jdk_38_method_24_code 11 = .ok (.aload_n 2, 1) := by decide +kernel
theorem o126 : decode jdk_38_method_24_code 12 = .ok (.iload_n 3, 1) := by decide +kernel
theorem o127 : decode jdk_38_method_24_code 13 = .ok (.aload_n 1, 1) := by decide +kernel
theorem o128 : decode jdk_38_method_24_code 14 = .ok (.aastore, 1) := by decide +kernel
theorem o129 : decode jdk_38_method_24_code 15 = .ok (.aload_n 0, 1) := by decide +kernel
theorem o130 : decode jdk_38_method_24_code 16 = .ok (.iload_n 3, 1) := by decide +kernel
theorem o131 : decode jdk_38_method_24_code 17 = .ok (.iconst 1, 1) := by decide +kernel
theorem o132 : decode jdk_38_method_24_code 18 = .ok (.iadd, 1) := by decide +kernel
theorem o133 : decode jdk_38_method_24_code 19 = .ok (.putfield 48, 3) := by decide +kernel
theorem o134 : decode jdk_38_method_24_code 22 = .ok (.return_, 1) := by decide +kernel
theorem o805 : ("modCount" : String) ≠ "size" := by decide +kernel
def o116 {Z : State} {a0 : Array Value} (hw : o21 a0 Z) := slot_ne (Or.inl (o0 hw 58 rfl)) (Or.inl (o0 hw 84 rfl)) o805 (t := .int) (t' := .int) o18 o18
theorem o849 : ("elementData" : String) ≠ "size" := by decide +kernel
def o117 {Z : State} {a0 : Array Value} (hw : o21 a0 Z) := slot_ne (Or.inl (o0 hw 61 rfl)) (Or.inl (o0 hw 84 rfl)) o849 (t := (.array (.object "java/lang/Object"))) (t' := .int) o68 o18
abbrev o156 : MethodName := ⟨"java/util/ArrayList", "add", "(Ljava/lang/Object;[Ljava/lang/Object;I)V"⟩
theorem o924 (l : Launch) (Z : State) (a0 : Array Value) (hw : o21 a0 Z) (ws : List Jvm.Cond) (wcs : Int32) (wd mOA mSL mAL : Addr) (kd : ClassId) (hS : o22 Z wcs wd mOA mSL mAL kd) (ad0 ad1 : Addr) (iv2 : Int32) (h0 : Heap) (n0 : Nat) (O0 : Old Z n0 h0) (pe1 : Exa Z h0 ad0 o3) (pf2 : Fld Z h0 ad0 o8 o9 "I" (.int iv2)) (pf3 : Fld Z h0 ad0 o3 o13 o7 (.ref wd)) (pf4 : Fld Z h0 ad0 o3 "size" "I" (.int 0)) (pe5 : Exa Z h0 ad1 o6) (pg_ad0 : n0 ≤ ad0) :
    o16 l o156 jdk_38_method_24_code 4 none ws ⟨3, 1, 10, 41⟩ Z h0 #[.ref ad0, .ref ad1, .ref wd, .int 0] (fun v h L => ∃ nz0 : Addr, ∃ kz1 : ClassId, v = none ∧ Fr n0 L ∧ Keep h0 h [ad0] ∧ h0.size ≤ nz0 ∧ Exa Z h ad0 o3 ∧ Fld Z h ad0 o8 o9 "I" (.int iv2) ∧ Fld Z h ad0 o3 o13 o7 (.ref nz0) ∧ Fld Z h ad0 o3 "size" "I" (.int 1) ∧ Exa Z h nz0 o7 ∧ Arv Z h nz0 kz1 (.object "java/lang/Object") 10 [.ref ad1, .null, .null, .null, .null, .null, .null, .null, .null, .null] .null ∧ Ovr Z kz1 "java/lang/Object") := by
  refine o15 (plainFor_of_name o24) ?_
  intro p e s m below meth c s₁ hx hby hml hown hnm hret hlk hZ e0 X0
  have N0 := Fr.nil n0
  refine o2 (fun u j => castTop (show entryFrame m #[.ref ad0, .ref ad1, .ref wd, .int 0] 4 = mkF m 0 #[.val (.ref ad0), .val (.ref ad1), .val (.ref wd), .val (.int 0)] [] from rfl) j) ?_
  refine o2 (fun u j => o4 X0.here hx rfl (hb hby o150) rfl (o1 X0.here hx rfl (hb hby o151) rfl rfl j)) ?_
  have F443 := Arv.ext hS.2.2.2.2.1 O0.2
  refine o2 (fun u j => o65 X0 hx hZ e0 F443 rfl rfl (hb hby o152) (o28 X0.here hx rfl (hb hby o153) rfl (o83 (by decide)) (o1 X0.here hx rfl (hb hby o326) rfl rfl j))) ?_
  refine o11 (o62 X0 hx hZ (y := o366) hown (o0 hw 105 rfl) (o0 hw 106 rfl) (mvT hZ (o0 hw 108 rfl)) (o0 hw 107 rfl) (o0 hw 40 rfl) (o0 hw 109 rfl) o42 (o923 l Z a0 hw [] wcs wd mOA mSL mAL kd hS ad0 iv2 h0 n0 O0 pe1 pf2 pf3 pf4 pg_ad0) e0 pe1 o250 (argsL := []) (rest := []) rfl rfl (g := (mkF m 7 #[.val (.ref ad0), .val (.ref ad1), .val (.ref wd), .val (.int 0)] [.ref ad0])) rfl (by rw [hml]; rfl) rfl (hb hby o327) (W := 0) rfl (by decide) (by decide) (by decide) (by decide)) ?_
  intro T445 v445 L445 X445 hQ445
  obtain ⟨nz0_446, kz1_447, rfl, M445, K445, z448, F449, F450, F451, F452, F453, F454, ov0_455⟩ := hQ445
  have N445 := Fr.app N0 M445
  refine o2 (fun u j => o31 X445.here hx rfl (hb hby o251) rfl rfl (l' := #[.val (.ref ad0), .val (.ref ad1), .val (.ref nz0_446), .val (.int 0)]) rfl (o1 X445.here hx rfl (hb hby o125) rfl rfl (o4 X445.here hx rfl (hb hby o126) rfl (o1 X445.here hx rfl (hb hby o127) rfl rfl j)))) ?_
  have q_ := id F454
  obtain ⟨cl456, Ar456, q456, S456, N456, H456, G456⟩ := q_
  have hi456 : ¬ ((0 : Int32) < 0 ∨ cl456.slots.size ≤ ((0 : Int32)).toNatClampNeg) := inb_of S456 ⟨by decide, by decide⟩
  have F457 := (pe5.keep K445)
  have q_ := stR X445 hx hZ rfl Ar456 (j := (0 : Int32)) hi456 rfl (Sto.ofV Ar456 q456 ov0_455 (Ins.of_exa F457 (o0 hw 121 rfl))) (g := (mkF m 14 #[.val (.ref ad0), .val (.ref ad1), .val (.ref nz0_446), .val (.int 0)] [.ref ad1, .int 0, .ref nz0_446])) rfl rfl (hb hby o128)
  obtain ⟨T458, h458, X458, e458, W458, st458⟩ := q_
  have g459 := Nat.le_trans (o52 O0) z448
  have N458 := Fr.snoc X458 N445 g459
  have V458 : Arv Z h458 nz0_446 kz1_447 (.object "java/lang/Object") 10 [.ref ad1, .null, .null, .null, .null, .null, .null, .null, .null, .null] .null := Arv.set Ar456 q456 S456 N456 H456 G456 rfl W458 0 rfl (Nat.le_of_ble_eq_true rfl)
  refine o2 (fun u j => st458 u j) ?_
  refine o2 (fun u j => o1 X458.here hx rfl (hb hby o129) rfl rfl (o4 X458.here hx rfl (hb hby o130) rfl (o5 X458.here hx rfl (hb hby o131) (o36 X458.here hx rfl (hb hby o132) rfl j)))) ?_
  have F460 := (Exa.wr W458 F449)
  have ne461 := (Nat.ne_of_lt (Nat.lt_of_lt_of_le pe1.lt z448))
  have F462 := (Fld.other W458 F452 (Or.inl ne461))
  refine o32 (putF X458 hx hZ hown (host := "") (Or.inl (o0 hw 83 rfl)) Via.refl e458 F462 F460 (Or.inl (o0 hw 84 rfl)) (o0 hw 39 rfl) (ty := .int) o18 rfl rfl rfl rfl (hb hby o133)) ?_
  intro T463 h463 X463 e463 W463
  have N463 := Fr.snoc X463 N458 pg_ad0
  have F464 : Fld Z h463 ad0 o3 "size" "I" (.int 1) := Fld.same W463 F462
  have K465 := (Keep.refl h0 [ad0]).trans K445 (allS (Or.inl (List.mem_of_getElem? (i := 0) rfl)) all0)
  have z467 := Nat.le_trans (Nat.le_refl _) z448
  have K466 := K465.wr W458 (Or.inr z467)
  have K468 := K466.wr W463 (Or.inl (List.mem_of_getElem? (i := 0) rfl))
  have F469 := (Exa.wr W463 F460)
  have F470 := (Fld.other W463 (Fld.other W458 F450 (Or.inl ne461)) (Or.inr (o116 hw)))
  have F471 := (Fld.other W463 (Fld.other W458 F451 (Or.inl ne461)) (Or.inr (o117 hw)))
  have F472 := (Exa.wr W463 (Exa.wr W458 F453))
  have F473 := (V458.other W463 (Ne.symm ne461))
  exact o48 X463 hx hlk hret (hb hby o134) (by decide) (by decide) (by rw [e463]; exact ⟨nz0_446, kz1_447, rfl, N463, K468, z467, F469, F470, F471, F464, F472, F473, ov0_455⟩)
theorem o387 : parseMethodDescriptor "(Ljava/lang/Object;[Ljava/lang/Object;I)V" = some ⟨[(.object "java/lang/Object"), (.array (.object "java/lang/Object")), .int], none⟩ := by decide +kernel
theorem o135 : decode jdk_38_method_25_code 23 = .ok (.iconst 1, 1) := by decide +kernel
theorem o136 : decode jdk_38_method_25_code 24 = .ok (.ireturn, 1) := by decide +kernel
abbrev o137 : MethodName := ⟨"java/util/ArrayList", "add", "(Ljava/lang/Object;)Z"⟩
theorem o925 (l : Launch) (Z : State) (a0 : Array Value) (hw : o21 a0 Z) (ws : List Jvm.Cond) (wcs : Int32) (wd mOA mSL mAL : Addr) (kd : ClassId) (hS : o22 Z wcs wd mOA mSL mAL kd) (ad0 ad1 : Addr) (iv2 : Int32) (h0 : Heap) (n0 : Nat) (O0 : Old Z n0 h0) (pe1 : Exa Z h0 ad0 o3) (pf2 : Fld Z h0 ad0 o8 o9 "I" (.int iv2)) (pf3 : Fld Z h0 ad0 o3 o13 o7 (.ref wd)) (pf4 : Fld Z h0 ad0 o3 "size" "I" (.int 0)) (pe5 : Exa Z h0 ad1 o6) (pg_ad0 : n0 ≤ ad0) :
    o16 l o137 jdk_38_method_25_code 2 (some .boolean) ws ⟨4, 1, 10, 56⟩ Z h0 #[.ref ad0, .ref ad1] (fun v h L => ∃ nz0 : Addr, ∃ kz1 : ClassId, v = some (.int 1) ∧ Fr n0 L ∧ Keep h0 h [ad0] ∧ h0.size ≤ nz0 ∧ Exa Z h ad0 o3 ∧ Fld Z h ad0 o8 o9 "I" (.int (iv2 + (1 : Int32))) ∧ Fld Z h ad0 o3 o13 o7 (.ref nz0) ∧ Fld Z h ad0 o3 "size" "I" (.int 1) ∧ Exa Z h nz0 o7 ∧ Arv Z h nz0 kz1 (.object "java/lang/Object") 10 [.ref ad1, .null, .null, .null, .null, .null, .null, .null, .null, .null] .null ∧ Ovr Z kz1 "java/lang/Object") := by
  refine o15 (plainFor_of_name o24) ?_
  intro p e s m below meth c s₁ hx hby hml hown hnm hret hlk hZ e0 X0
  have N0 := Fr.nil n0
  refine o2 (fun u j => castTop (show entryFrame m #[.ref ad0, .ref ad1] 2 = mkF m 0 #[.val (.ref ad0), .val (.ref ad1)] [] from rfl) j) ?_
  refine o2 (fun u j => o1 X0.here hx rfl (hb hby o144) rfl rfl (o40 X0.here hx rfl (hb hby o145) rfl rfl j)) ?_
  refine o19 (getF X0 hx hZ hown (host := "") (Or.inl (o0 hw 98 rfl)) (Via.of (o0 hw 99 rfl)) e0 pf2 rfl rfl (hb hby o146)) ?_
  intro T488 X488 e488
  refine o2 (fun u j => o5 X488.here hx rfl (hb hby o147) (o36 X488.here hx rfl (hb hby o148) rfl j)) ?_
  refine o32 (putF X488 hx hZ hown (host := "") (Or.inl (o0 hw 98 rfl)) (Via.of (o0 hw 99 rfl)) e488 pf2 pe1 (Or.inl (o0 hw 58 rfl)) (o0 hw 39 rfl) (ty := .int) o18 rfl rfl rfl rfl (hb hby o149)) ?_
  intro T489 h489 X489 e489 W489
  have N489 := Fr.snoc X489 N0 pg_ad0
  have F490 : Fld Z h489 ad0 o8 o9 "I" (.int (iv2 + (1 : Int32))) := Fld.same W489 pf2
  refine o2 (fun u j => o1 X489.here hx rfl (hb hby o118) rfl rfl (o1 X489.here hx rfl (hb hby o119) rfl rfl (o1 X489.here hx rfl (hb hby o120) rfl rfl j))) ?_
  have F491 := (Fld.other W489 pf3 (Or.inr (o196 hw)))
  refine o19 (getF X489 hx hZ hown (host := "") (Or.inl (o0 hw 60 rfl)) Via.refl e489 F491 rfl rfl (hb hby o121)) ?_
  intro T492 X492 e492
  refine o2 (fun u j => o1 X492.here hx rfl (hb hby o122) rfl rfl j) ?_
  have F493 := (Fld.other W489 pf4 (Or.inr (o197 hw)))
  refine o19 (getF X492 hx hZ hown (host := "") (Or.inl (o0 hw 83 rfl)) Via.refl e492 F493 rfl rfl (hb hby o123)) ?_
  intro T494 X494 e494
  have F495 := (Exa.wr W489 pe1)
  have F496 := (Exa.wr W489 pe5)
  have O498 := O0.wr W489 pg_ad0
  refine o11 (o62 X494 hx hZ (y := o156) hown (o0 hw 100 rfl) (o0 hw 101 rfl) (mvT hZ (o0 hw 103 rfl)) (o0 hw 102 rfl) (o0 hw 40 rfl) (o0 hw 104 rfl) o42 (o924 l Z a0 hw [] wcs wd mOA mSL mAL kd hS ad0 ad1 (iv2 + (1 : Int32)) h489 n0 O498 F495 F490 F491 F493 F496 pg_ad0) e494 F495 o387 (argsL := [.ref ad1, .ref wd, .int 0]) (rest := []) rfl rfl (g := (mkF m 20 #[.val (.ref ad0), .val (.ref ad1)] [.int 0, .ref wd, .ref ad1, .ref ad0])) rfl (by rw [hml]; rfl) rfl (hb hby o124) (W := 0) rfl (by decide) (by decide) (by decide) (by decide)) ?_
  intro T497 v497 L497 X497 hQ497
  obtain ⟨nz0_499, kz1_500, rfl, M497, K497, z501, F502, F503, F504, F505, F506, F507, ov0_508⟩ := hQ497
  have N497 := Fr.app N489 M497
  refine o2 (fun u j => o5 X497.here hx rfl (hb hby o135) j) ?_
  have K509 := (Keep.refl h0 [ad0]).wr W489 (Or.inl (List.mem_of_getElem? (i := 0) rfl))
  have K510 := K509.trans K497 (allS (Or.inl (List.mem_of_getElem? (i := 0) rfl)) all0)
  have z511 := Nat.le_trans (Nat.le_of_eq W489.size.symm) z501
  exact o20 X497 hx hlk hret rfl (Or.inl ⟨rfl, by simp, _, rfl⟩) (hb hby o136) (by decide) (by decide) (by exact ⟨nz0_499, kz1_500, rfl, N497, K510, z511, F502, F503, F504, F505, F506, F507, ov0_508⟩)
abbrev o367 : MethodName := ⟨"java/util/List", "add", "(Ljava/lang/Object;)Z"⟩
theorem o46 : parseMethodDescriptor "(Ljava/lang/Object;)Z" = some ⟨[(.object "java/lang/Object")], some .boolean⟩ := by decide +kernel
theorem o252 : decode prog_33_method_2_code 29 = .ok (.pop, 1) := by decide +kernel
theorem o253 : decode prog_33_method_2_code 30 = .ok (.aload_n 0, 1) := by decide +kernel
theorem o254 : decode prog_33_method_2_code 31 = .ok (.areturn, 1) := by decide +kernel
abbrev o63 : MethodName := ⟨"com/example/temanggung/temanggung/beans/factory/Creating", "enter", "(Ljava/lang/String;)Lcom/example/temanggung/temanggung/beans/factory/Creating;"⟩
theorem o850 (l : Launch) (Z : State) (a0 : Array Value) (hw : o21 a0 Z) (ws : List Jvm.Cond) (wcs : Int32) (wd mOA mSL mAL : Addr) (kd : ClassId) (hS : o22 Z wcs wd mOA mSL mAL kd) (ad0 ad1 ad2 : Addr) (iv4 : Int32) (h0 : Heap) (n0 : Nat) (O0 : Old Z n0 h0) (pe1 : Exa Z h0 ad0 o54) (pf2 : Fld Z h0 ad0 o54 "path" o66 (.ref ad2)) (pe3 : Exa Z h0 ad1 o6) (pe6 : Exa Z h0 ad2 o3) (pf7 : Fld Z h0 ad2 o8 o9 "I" (.int iv4)) (pf8 : Fld Z h0 ad2 o3 o13 o7 (.ref wd)) (pf9 : Fld Z h0 ad2 o3 "size" "I" (.int 0)) (pg_ad2 : n0 ≤ ad2) :
    o16 l o63 prog_33_method_2_code 3 (some (.object "com/example/temanggung/temanggung/beans/factory/Creating")) ws ⟨5, 1, 10, 69⟩ Z h0 #[.ref ad0, .ref ad1] (fun v h L => ∃ nz0 : Addr, ∃ kz1 : ClassId, v = some (.ref ad0) ∧ Fr n0 L ∧ Keep h0 h [ad2] ∧ h0.size ≤ nz0 ∧ Exa Z h ad2 o3 ∧ Fld Z h ad2 o8 o9 "I" (.int (iv4 + (1 : Int32))) ∧ Fld Z h ad2 o3 o13 o7 (.ref nz0) ∧ Fld Z h ad2 o3 "size" "I" (.int 1) ∧ Exa Z h nz0 o7 ∧ Arv Z h nz0 kz1 (.object "java/lang/Object") 10 [.ref ad1, .null, .null, .null, .null, .null, .null, .null, .null, .null] .null ∧ Ovr Z kz1 "java/lang/Object") := by
  refine o15 (plainFor_of_name o76) ?_
  intro p e s m below meth c s₁ hx hby hml hown hnm hret hlk hZ e0 X0
  have N0 := Fr.nil n0
  refine o2 (fun u j => castTop (show entryFrame m #[.ref ad0, .ref ad1] 3 = mkF m 0 #[.val (.ref ad0), .val (.ref ad1), .unset] [] from rfl) j) ?_
  refine o2 (fun u j => o1 X0.here hx rfl (hb hby o320) rfl rfl (o1 X0.here hx rfl (hb hby o321) rfl rfl j)) ?_
  refine o11 (o26 X0 hx hZ (y := o39) (z := o39) hown (o0 hw 69 rfl) (o0 hw 70 rfl) (notFace_of_selects (args := #[]) (mvT hZ (o0 hw 72 rfl))) (o0 hw 72 rfl) (o0 hw 71 rfl) (o0 hw 33 rfl) (o0 hw 73 rfl) o44 (o1009 l Z a0 hw [] wcs wd mOA mSL mAL kd hS ad0 ad1 ad2 h0 n0 O0 pf2 pe6 pf8 pf9) e0 pe1 o77 (argsL := [.ref ad1]) (rest := []) rfl rfl (g := (mkF m 2 #[.val (.ref ad0), .val (.ref ad1), .unset] [.ref ad1, .ref ad0])) rfl (by rw [hml]; rfl) rfl (hb hby o322) (W := 0) rfl (by decide) (by decide) (by decide) (by decide)) ?_
  intro T523 v523 L523 X523 hQ523
  obtain ⟨rfl, M523, e523⟩ := hQ523
  have N523 := Fr.app N0 M523
  refine o2 (fun u j => o31 X523.here hx rfl (hb hby o323) rfl rfl (l' := #[.val (.ref ad0), .val (.ref ad1), .val .null]) rfl (o1 X523.here hx rfl (hb hby o324) rfl rfl (XS.ifnullYes X523.here hx rfl (pc0 := 7) (pc' := 19) rfl (hb hby o325) rfl (by decide) (by decide) (o1 X523.here hx rfl (hb hby o246) rfl rfl j)))) ?_
  refine o19 (getF X523 hx hZ hown (host := "") (Or.inl (o0 hw 62 rfl)) Via.refl e523 pf2 rfl rfl (hb hby o247)) ?_
  intro T524 X524 e524
  refine o2 (fun u j => o1 X524.here hx rfl (hb hby o248) rfl rfl j) ?_
  refine o11 (o29 X524 hx hZ (y := o367) (z := o137) hown (o0 hw 90 rfl) (o0 hw 91 rfl) (mvT hZ (o0 hw 92 rfl)) (o0 hw 93 rfl) (o0 hw 94 rfl) (o0 hw 95 rfl) (o0 hw 96 rfl) (o0 hw 81 rfl) (o0 hw 40 rfl) (o0 hw 97 rfl) o27 (o925 l Z a0 hw [] wcs wd mOA mSL mAL kd hS ad2 ad1 iv4 h0 n0 O0 pe6 pf7 pf8 pf9 pe3 pg_ad2) e524 pe6 o46 (argsL := [.ref ad1]) (rest := []) rfl rfl (g := (mkF m 24 #[.val (.ref ad0), .val (.ref ad1), .val .null] [.ref ad1, .ref ad2])) rfl (by rw [hml]; rfl) rfl (hb hby o249) (W := 0) rfl (by decide) (by decide) (by decide) (by decide)) ?_
  intro T525 v525 L525 X525 hQ525
  obtain ⟨nz0_526, kz1_527, rfl, M525, K525, z528, F529, F530, F531, F532, F533, F534, ov0_535⟩ := hQ525
  have N525 := Fr.app N523 M525
  refine o2 (fun u j => o55 X525.here hx rfl (hb hby o252) rfl rfl (o1 X525.here hx rfl (hb hby o253) rfl rfl j)) ?_
  have K536 := (Keep.refl h0 [ad2]).trans K525 (allS (Or.inl (List.mem_of_getElem? (i := 0) rfl)) all0)
  have z537 := Nat.le_trans (Nat.le_refl _) z528
  exact o20 X525 hx hlk hret rfl (Or.inr (Or.inr (Or.inr (Or.inr ⟨rfl, rfl, rfl⟩)))) (hb hby o254) (by decide) (by decide) (by exact ⟨nz0_526, kz1_527, rfl, N525, K536, z537, F529, F530, F531, F532, F533, F534, ov0_535⟩)
theorem o202 : parseMethodDescriptor "(Ljava/lang/String;)Lcom/example/temanggung/temanggung/beans/factory/Creating;" = some ⟨[(.object "java/lang/String")], some (.object "com/example/temanggung/temanggung/beans/factory/Creating")⟩ := by decide +kernel
theorem o491 : decode prog_33_method_3_code 0 = .ok (.aload_n 0, 1) := by decide +kernel
theorem o492 : decode prog_33_method_3_code 1 = .ok (.getfield 10, 3) := by decide +kernel
theorem o493 : decode prog_33_method_3_code 4 = .ok (.aload_n 0, 1) := by decide +kernel
theorem o494 : decode prog_33_method_3_code 5 = .ok (.getfield 10, 3) := by decide +kernel
theorem o495 : decode prog_33_method_3_code 8 = .ok (.invokeinterface 31 1, 5) := by decide +kernel
abbrev o186 : MethodName := ⟨"java/util/List", "size", "()I"⟩
theorem o142 : parseMethodDescriptor "()I" = some ⟨[], some .int⟩ := by decide +kernel
theorem o426 : decode prog_33_method_3_code 13 = .ok (.iconst 1, 1) := by decide +kernel
theorem o427 : decode prog_33_method_3_code 14 = .ok (.isub, 1) := by decide +kernel
theorem o428 : decode prog_33_method_3_code 15 = .ok (.invokeinterface 35 2, 5) := by decide +kernel
theorem o496 : decode jdk_38_method_29_code 0 = .ok (.iload_n 1, 1) := by decide +kernel
theorem o497 : decode jdk_38_method_29_code 1 = .ok (.aload_n 0, 1) := by decide +kernel
theorem o498 : decode jdk_38_method_29_code 2 = .ok (.getfield 48, 3) := by decide +kernel
theorem o499 : decode jdk_38_method_29_code 5 = .ok (.invokestatic 118, 3) := by decide +kernel
theorem o500 : decode jdk_38_method_29_code 8 = .ok (.pop, 1) := by decide +kernel
theorem o501 : decode jdk_38_method_29_code 9 = .ok (.aload_n 0, 1) := by decide +kernel
theorem o429 : decode jdk_38_method_29_code 10 = .ok (.getfield 9, 3) := by decide +kernel
theorem o430 : decode jdk_38_method_29_code 13 = .ok (.astore_n 2, 1) := by decide +kernel
theorem o431 : decode jdk_38_method_29_code 14 = .ok (.aload_n 2, 1) := by decide +kernel
theorem o432 : decode jdk_38_method_29_code 15 = .ok (.iload_n 1, 1) := by decide +kernel
theorem o433 : decode jdk_38_method_29_code 16 = .ok (.aaload, 1) := by decide +kernel
theorem o434 : decode jdk_38_method_29_code 17 = .ok (.astore_n 3, 1) := by decide +kernel
theorem o435 : decode jdk_38_method_29_code 18 = .ok (.aload_n 0, 1) := by decide +kernel
theorem o436 : decode jdk_38_method_29_code 19 = .ok (.aload_n 2, 1) := by decide +kernel
theorem o437 : decode jdk_38_method_29_code 20 = .ok (.iload_n 1, 1) := by decide +kernel
theorem o438 : decode jdk_38_method_29_code 21 = .ok (.invokevirtual 144, 3) := by decide +kernel
theorem o502 : decode jdk_38_method_39_code 0 = .ok (.aload_n 0, 1) := by decide +kernel
theorem o503 : decode jdk_38_method_39_code 1 = .ok (.dup, 1) := by decide +kernel
theorem o504 : decode jdk_38_method_39_code 2 = .ok (.getfield 63, 3) := by decide +kernel
theorem o505 : decode jdk_38_method_39_code 5 = .ok (.iconst 1, 1) := by decide +kernel
theorem o506 : decode jdk_38_method_39_code 6 = .ok (.iadd, 1) := by decide +kernel
theorem o507 : decode jdk_38_method_39_code 7 = .ok (.putfield 63, 3) := by decide +kernel
theorem o439 : decode jdk_38_method_39_code 10 = .ok (.aload_n 0, 1) := by decide +kernel
theorem o440 : decode jdk_38_method_39_code 11 = .ok (.getfield 48, 3) := by decide +kernel
theorem o441 : decode jdk_38_method_39_code 14 = .ok (.iconst 1, 1) := by decide +kernel
theorem o442 : decode jdk_38_method_39_code 15 = .ok (.isub, 1) := by decide +kernel
theorem o443 : decode jdk_38_method_39_code 16 = .ok (.dup, 1) := by decide +kernel
theorem o444 : decode jdk_38_method_39_code 17 = .ok (.istore_n 3, 1) := by decide +kernel
theorem o445 : decode jdk_38_method_39_code 18 = .ok (.iload_n 2, 1) := by decide +kernel
theorem o446 : decode jdk_38_method_39_code 19 = .ok (.if_icmp .le 15, 3) := by decide +kernel
theorem o447 : decode jdk_38_method_39_code 34 = .ok (.aload_n 1, 1) := by decide +kernel
theorem o448 : decode jdk_38_method_39_code 35 = .ok (.aload_n 0, 1) := by decide +kernel
theorem o449 : decode jdk_38_method_39_code 36 = .ok (.iload_n 3, 1) := by decide +kernel
theorem o450 : decode jdk_38_method_39_code 37 = .ok (.dup_x1, 1) := by decide +kernel
theorem o451 : decode jdk_38_method_39_code 38 = .ok (.putfield 48, 3) := by decide +kernel
theorem o452 : decode jdk_38_method_39_code 41 = .ok (.aconst_null, 1) := by decide +kernel
theorem o453 : decode jdk_38_method_39_code 42 = .ok (.aastore, 1) := by decide +kernel
theorem o143 : ("[Ljava/lang/Object;" : String) ≠ "java/util/ArrayList" := by decide +kernel
theorem o454 : decode jdk_38_method_39_code 43 = .ok (.return_, 1) := by decide +kernel
abbrev o576 : MethodName := ⟨"java/util/ArrayList", "fastRemove", "([Ljava/lang/Object;I)V"⟩
theorem o926 (l : Launch) (Z : State) (a0 : Array Value) (hw : o21 a0 Z) (ws : List Jvm.Cond) (wcs : Int32) (wd mOA mSL mAL : Addr) (kd : ClassId) (hS : o22 Z wcs wd mOA mSL mAL kd) (ad0 ad1 : Addr) (iv2 : Int32) (kc3 : ClassId) (ad4 : Addr) (h0 : Heap) (n0 : Nat) (O0 : Old Z n0 h0) (pe1 : Exa Z h0 ad0 o3) (pf2 : Fld Z h0 ad0 o8 o9 "I" (.int iv2)) (pf3 : Fld Z h0 ad0 o3 o13 o7 (.ref ad1)) (pf4 : Fld Z h0 ad0 o3 "size" "I" (.int 1)) (pe5 : Exa Z h0 ad1 o7) (pa6 : Arv Z h0 ad1 kc3 (.object "java/lang/Object") 10 [.ref ad4, .null, .null, .null, .null, .null, .null, .null, .null, .null] .null) (pg_ad0 : n0 ≤ ad0) (pg_ad1 : n0 ≤ ad1) :
    o16 l o576 jdk_38_method_39_code 4 none ws ⟨0, 0, 0, 0⟩ Z h0 #[.ref ad0, .ref ad1, .int 0] (fun v h L => v = none ∧ Fr n0 L ∧ Keep h0 h [ad0, ad1] ∧ Exa Z h ad0 o3 ∧ Fld Z h ad0 o8 o9 "I" (.int (iv2 + (1 : Int32))) ∧ Fld Z h ad0 o3 o13 o7 (.ref ad1) ∧ Fld Z h ad0 o3 "size" "I" (.int 0) ∧ Exa Z h ad1 o7 ∧ Arv Z h ad1 kc3 (.object "java/lang/Object") 10 [.null, .null, .null, .null, .null, .null, .null, .null, .null, .null] .null) := by
  refine o15 (plainFor_of_name o24) ?_
  intro p e s m below meth c s₁ hx hby hml hown hnm hret hlk hZ e0 X0
  have N0 := Fr.nil n0
  refine o2 (fun u j => castTop (show entryFrame m #[.ref ad0, .ref ad1, .int 0] 4 = mkF m 0 #[.val (.ref ad0), .val (.ref ad1), .val (.int 0), .unset] [] from rfl) j) ?_
  refine o2 (fun u j => o1 X0.here hx rfl (hb hby o502) rfl rfl (o40 X0.here hx rfl (hb hby o503) rfl rfl j)) ?_
  refine o19 (getF X0 hx hZ hown (host := "") (Or.inl (o0 hw 98 rfl)) (Via.of (o0 hw 99 rfl)) e0 pf2 rfl rfl (hb hby o504)) ?_
  intro T570 X570 e570
  refine o2 (fun u j => o5 X570.here hx rfl (hb hby o505) (o36 X570.here hx rfl (hb hby o506) rfl j)) ?_
  refine o32 (putF X570 hx hZ hown (host := "") (Or.inl (o0 hw 98 rfl)) (Via.of (o0 hw 99 rfl)) e570 pf2 pe1 (Or.inl (o0 hw 58 rfl)) (o0 hw 39 rfl) (ty := .int) o18 rfl rfl rfl rfl (hb hby o507)) ?_
  intro T571 h571 X571 e571 W571
  have N571 := Fr.snoc X571 N0 pg_ad0
  have F572 : Fld Z h571 ad0 o8 o9 "I" (.int (iv2 + (1 : Int32))) := Fld.same W571 pf2
  refine o2 (fun u j => o1 X571.here hx rfl (hb hby o439) rfl rfl j) ?_
  have F573 := (Fld.other W571 pf4 (Or.inr (o197 hw)))
  refine o19 (getF X571 hx hZ hown (host := "") (Or.inl (o0 hw 83 rfl)) Via.refl e571 F573 rfl rfl (hb hby o440)) ?_
  intro T574 X574 e574
  refine o2 (fun u j => o5 X574.here hx rfl (hb hby o441) (o38 X574.here hx rfl (hb hby o442) rfl (o40 X574.here hx rfl (hb hby o443) rfl rfl (o45 X574.here hx rfl (hb hby o444) rfl (l' := #[.val (.ref ad0), .val (.ref ad1), .val (.int 0), .val (.int 0)]) rfl (o4 X574.here hx rfl (hb hby o445) rfl (o23 X574.here hx rfl (pc0 := 19) (pc' := 34) rfl (hb hby o446) rfl (o82 (by decide)) (by decide) (by decide) j)))))) ?_
  show o17 p e below _ (T574.setTop (mkF m 34 #[.val (.ref ad0), .val (.ref ad1), .val (.int 0), .val (.int 0)] []))
  refine o2 (fun u j => o1 X574.here hx rfl (hb hby o447) rfl rfl (o1 X574.here hx rfl (hb hby o448) rfl rfl (o4 X574.here hx rfl (hb hby o449) rfl (XS.dupX1 X574.here hx rfl (hb hby o450) rfl rfl rfl j)))) ?_
  have F575 := (Exa.wr W571 pe1)
  refine o32 (putF X574 hx hZ hown (host := "") (Or.inl (o0 hw 83 rfl)) Via.refl e574 F573 F575 (Or.inl (o0 hw 84 rfl)) (o0 hw 39 rfl) (ty := .int) o18 rfl rfl rfl rfl (hb hby o451)) ?_
  intro T576 h576 X576 e576 W576
  have N576 := Fr.snoc X576 N571 pg_ad0
  have F577 : Fld Z h576 ad0 o3 "size" "I" (.int 0) := Fld.same W576 F573
  refine o2 (fun u j => o49 X576.here hx rfl (hb hby o452) j) ?_
  have ne578 := (ne_exa pe5 pe1 o143)
  have F579 := ((pa6.other W571 ne578).other W576 ne578)
  have q_ := id F579
  obtain ⟨cl580, Ar580, q580, S580, N580, H580, G580⟩ := q_
  have hi580 : ¬ ((0 : Int32) < 0 ∨ cl580.slots.size ≤ ((0 : Int32)).toNatClampNeg) := inb_of S580 ⟨by decide, by decide⟩
  have q_ := stR X576 hx hZ e576 Ar580 (j := (0 : Int32)) hi580 rfl (Or.inl rfl) (g := (mkF m 42 #[.val (.ref ad0), .val (.ref ad1), .val (.int 0), .val (.int 0)] [.null, .int 0, .ref ad1])) rfl rfl (hb hby o453)
  obtain ⟨T581, h581, X581, e581, W581, st581⟩ := q_
  have N581 := Fr.snoc X581 N576 pg_ad1
  have V581 : Arv Z h581 ad1 kc3 (.object "java/lang/Object") 10 [.null, .null, .null, .null, .null, .null, .null, .null, .null, .null] .null := Arv.set Ar580 q580 S580 N580 H580 G580 rfl W581 0 rfl (Nat.le_of_ble_eq_true rfl)
  refine o2 (fun u j => st581 u j) ?_
  have K582 := (Keep.refl h0 [ad0, ad1]).wr W571 (Or.inl (List.mem_of_getElem? (i := 0) rfl))
  have K583 := K582.wr W576 (Or.inl (List.mem_of_getElem? (i := 0) rfl))
  have K584 := K583.wr W581 (Or.inl (List.mem_of_getElem? (i := 1) rfl))
  have F585 := (Exa.wr W581 (Exa.wr W576 F575))
  have F586 := (Fld.other W581 (Fld.other W576 F572 (Or.inr (o116 hw))) (Or.inl (Ne.symm ne578)))
  have F587 := (Fld.other W581 (Fld.other W576 (Fld.other W571 pf3 (Or.inr (o196 hw))) (Or.inr (o117 hw))) (Or.inl (Ne.symm ne578)))
  have F588 := (Fld.other W581 F577 (Or.inl (Ne.symm ne578)))
  have F589 := (Exa.wr W581 (Exa.wr W576 (Exa.wr W571 pe5)))
  exact o48 X581 hx hlk hret (hb hby o454) (by decide) (by decide) (by rw [e581]; exact ⟨rfl, N581, K584, F585, F586, F587, F588, F589, V581⟩)
theorem o651 : parseMethodDescriptor "([Ljava/lang/Object;I)V" = some ⟨[(.array (.object "java/lang/Object")), .int], none⟩ := by decide +kernel
theorem o455 : decode jdk_38_method_29_code 24 = .ok (.aload_n 3, 1) := by decide +kernel
theorem o456 : decode jdk_38_method_29_code 25 = .ok (.areturn, 1) := by decide +kernel
abbrev o577 : MethodName := ⟨"java/util/ArrayList", "remove", "(I)Ljava/lang/Object;"⟩
theorem o927 (l : Launch) (Z : State) (a0 : Array Value) (hw : o21 a0 Z) (ws : List Jvm.Cond) (wcs : Int32) (wd mOA mSL mAL : Addr) (kd : ClassId) (hS : o22 Z wcs wd mOA mSL mAL kd) (ad0 : Addr) (iv1 : Int32) (ad2 : Addr) (kc3 : ClassId) (ad4 : Addr) (h0 : Heap) (n0 : Nat) (O0 : Old Z n0 h0) (pe1 : Exa Z h0 ad0 o3) (pf2 : Fld Z h0 ad0 o8 o9 "I" (.int iv1)) (pf3 : Fld Z h0 ad0 o3 o13 o7 (.ref ad2)) (pf4 : Fld Z h0 ad0 o3 "size" "I" (.int 1)) (pe5 : Exa Z h0 ad2 o7) (pa6 : Arv Z h0 ad2 kc3 (.object "java/lang/Object") 10 [.ref ad4, .null, .null, .null, .null, .null, .null, .null, .null, .null] .null) (pg_ad0 : n0 ≤ ad0) (pg_ad2 : n0 ≤ ad2) :
    o16 l o577 jdk_38_method_29_code 4 (some (.object "java/lang/Object")) ws ⟨2, 0, 0, 27⟩ Z h0 #[.ref ad0, .int 0] (fun v h L => v = some (.ref ad4) ∧ Fr n0 L ∧ Keep h0 h [ad0, ad2] ∧ Exa Z h ad0 o3 ∧ Fld Z h ad0 o8 o9 "I" (.int (iv1 + (1 : Int32))) ∧ Fld Z h ad0 o3 o13 o7 (.ref ad2) ∧ Fld Z h ad0 o3 "size" "I" (.int 0) ∧ Exa Z h ad2 o7 ∧ Arv Z h ad2 kc3 (.object "java/lang/Object") 10 [.null, .null, .null, .null, .null, .null, .null, .null, .null, .null] .null) := by
  refine o15 (plainFor_of_name o24) ?_
  intro p e s m below meth c s₁ hx hby hml hown hnm hret hlk hZ e0 X0
  have N0 := Fr.nil n0
  refine o2 (fun u j => castTop (show entryFrame m #[.ref ad0, .int 0] 4 = mkF m 0 #[.val (.ref ad0), .val (.int 0), .unset, .unset] [] from rfl) j) ?_
  refine o2 (fun u j => o4 X0.here hx rfl (hb hby o496) rfl (o1 X0.here hx rfl (hb hby o497) rfl rfl j)) ?_
  refine o19 (getF X0 hx hZ hown (host := "") (Or.inl (o0 hw 83 rfl)) Via.refl e0 pf4 rfl rfl (hb hby o498)) ?_
  intro T597 X597 e597
  refine o11 (o25 X597 hx hZ (y := o592) hown (o0 hw 154 rfl) (o0 hw 155 rfl) (o0 hw 156 rfl) (o0 hw 157 rfl) o604 (o842 l Z a0 hw [] wcs wd mOA mSL mAL kd hS (0 : Int32) (1 : Int32) h0 n0 O0 (by decide) (by decide)) e597 o67 (argsL := [.int 0, .int 1]) (rest := []) rfl rfl (g := (mkF m 5 #[.val (.ref ad0), .val (.int 0), .unset, .unset] [.int 1, .int 0])) rfl (by rw [hml]; rfl) rfl (hb hby o499) (W := 0) rfl (by decide) (by decide) (by decide) (by decide)) ?_
  intro T598 v598 L598 X598 hQ598
  obtain ⟨rfl, M598, e598⟩ := hQ598
  have N598 := Fr.app N0 M598
  refine o2 (fun u j => o55 X598.here hx rfl (hb hby o500) rfl rfl (o1 X598.here hx rfl (hb hby o501) rfl rfl j)) ?_
  refine o19 (getF X598 hx hZ hown (host := "") (Or.inl (o0 hw 60 rfl)) Via.refl e598 pf3 rfl rfl (hb hby o429)) ?_
  intro T599 X599 e599
  refine o2 (fun u j => o31 X599.here hx rfl (hb hby o430) rfl rfl (l' := #[.val (.ref ad0), .val (.int 0), .val (.ref ad2), .unset]) rfl (o1 X599.here hx rfl (hb hby o431) rfl rfl (o4 X599.here hx rfl (hb hby o432) rfl (o413 X599 hx hZ e599 pa6 (j := (0 : Int32)) (v := (.ref ad4)) ⟨by decide, by decide⟩ rfl rfl rfl (hb hby o433) (o31 X599.here hx rfl (hb hby o434) rfl rfl (l' := #[.val (.ref ad0), .val (.int 0), .val (.ref ad2), .val (.ref ad4)]) rfl (o1 X599.here hx rfl (hb hby o435) rfl rfl j)))))) ?_
  show o17 p e below _ (T599.setTop (mkF m 19 #[.val (.ref ad0), .val (.int 0), .val (.ref ad2), .val (.ref ad4)] [.ref ad0]))
  refine o2 (fun u j => o1 X599.here hx rfl (hb hby o436) rfl rfl (o4 X599.here hx rfl (hb hby o437) rfl j)) ?_
  refine o11 (o62 X599 hx hZ (y := o576) hown (o0 hw 162 rfl) (o0 hw 163 rfl) (mvT hZ (o0 hw 165 rfl)) (o0 hw 164 rfl) (o0 hw 40 rfl) (o0 hw 166 rfl) o42 (o926 l Z a0 hw [] wcs wd mOA mSL mAL kd hS ad0 ad2 iv1 kc3 ad4 h0 n0 O0 pe1 pf2 pf3 pf4 pe5 pa6 pg_ad0 pg_ad2) e599 pe1 o651 (argsL := [.ref ad2, .int 0]) (rest := []) rfl rfl (g := (mkF m 21 #[.val (.ref ad0), .val (.int 0), .val (.ref ad2), .val (.ref ad4)] [.int 0, .ref ad2, .ref ad0])) rfl (by rw [hml]; rfl) rfl (hb hby o438) (W := 0) rfl (by decide) (by decide) (by decide) (by decide)) ?_
  intro T600 v600 L600 X600 hQ600
  obtain ⟨rfl, M600, K600, F601, F602, F603, F604, F605, F606⟩ := hQ600
  have N600 := Fr.app N598 M600
  refine o2 (fun u j => o1 X600.here hx rfl (hb hby o455) rfl rfl j) ?_
  have K607 := (Keep.refl h0 [ad0, ad2]).trans K600 (allS (Or.inl (List.mem_of_getElem? (i := 0) rfl)) (allS (Or.inl (List.mem_of_getElem? (i := 1) rfl)) all0))
  exact o20 X600 hx hlk hret rfl (Or.inr (Or.inr (Or.inr (Or.inr ⟨rfl, rfl, rfl⟩)))) (hb hby o456) (by decide) (by decide) (by exact ⟨rfl, N600, K607, F601, F602, F603, F604, F605, F606⟩)
abbrev o677 : MethodName := ⟨"java/util/List", "remove", "(I)Ljava/lang/Object;"⟩
theorem o457 : decode prog_33_method_3_code 20 = .ok (.pop, 1) := by decide +kernel
theorem o458 : decode prog_33_method_3_code 21 = .ok (.return_, 1) := by decide +kernel
abbrev o255 : MethodName := ⟨"com/example/temanggung/temanggung/beans/factory/Creating", "leave", "()V"⟩
theorem o928 (l : Launch) (Z : State) (a0 : Array Value) (hw : o21 a0 Z) (ws : List Jvm.Cond) (wcs : Int32) (wd mOA mSL mAL : Addr) (kd : ClassId) (hS : o22 Z wcs wd mOA mSL mAL kd) (ad0 ad1 : Addr) (iv2 : Int32) (ad3 : Addr) (kc4 : ClassId) (ad5 : Addr) (h0 : Heap) (n0 : Nat) (O0 : Old Z n0 h0) (pf2 : Fld Z h0 ad0 o54 "path" o66 (.ref ad1)) (pe3 : Exa Z h0 ad1 o3) (pf4 : Fld Z h0 ad1 o8 o9 "I" (.int iv2)) (pf5 : Fld Z h0 ad1 o3 o13 o7 (.ref ad3)) (pf6 : Fld Z h0 ad1 o3 "size" "I" (.int 1)) (pe7 : Exa Z h0 ad3 o7) (pa8 : Arv Z h0 ad3 kc4 (.object "java/lang/Object") 10 [.ref ad5, .null, .null, .null, .null, .null, .null, .null, .null, .null] .null) (pg_ad1 : n0 ≤ ad1) (pg_ad3 : n0 ≤ ad3) :
    o16 l o255 prog_33_method_3_code 1 none ws ⟨3, 0, 0, 42⟩ Z h0 #[.ref ad0] (fun v h L => v = none ∧ Fr n0 L ∧ Keep h0 h [ad1, ad3] ∧ Exa Z h ad1 o3 ∧ Fld Z h ad1 o8 o9 "I" (.int (iv2 + (1 : Int32))) ∧ Fld Z h ad1 o3 o13 o7 (.ref ad3) ∧ Fld Z h ad1 o3 "size" "I" (.int 0) ∧ Exa Z h ad3 o7 ∧ Arv Z h ad3 kc4 (.object "java/lang/Object") 10 [.null, .null, .null, .null, .null, .null, .null, .null, .null, .null] .null) := by
  refine o15 (plainFor_of_name o76) ?_
  intro p e s m below meth c s₁ hx hby hml hown hnm hret hlk hZ e0 X0
  have N0 := Fr.nil n0
  refine o2 (fun u j => castTop (show entryFrame m #[.ref ad0] 1 = mkF m 0 #[.val (.ref ad0)] [] from rfl) j) ?_
  refine o2 (fun u j => o1 X0.here hx rfl (hb hby o491) rfl rfl j) ?_
  refine o19 (getF X0 hx hZ hown (host := "") (Or.inl (o0 hw 62 rfl)) Via.refl e0 pf2 rfl rfl (hb hby o492)) ?_
  intro T615 X615 e615
  refine o2 (fun u j => o1 X615.here hx rfl (hb hby o493) rfl rfl j) ?_
  refine o19 (getF X615 hx hZ hown (host := "") (Or.inl (o0 hw 62 rfl)) Via.refl e615 pf2 rfl rfl (hb hby o494)) ?_
  intro T616 X616 e616
  refine o11 (o29 X616 hx hZ (y := o186) (z := o154) hown (o0 hw 138 rfl) (o0 hw 139 rfl) (mvT hZ (o0 hw 140 rfl)) (o0 hw 141 rfl) (o0 hw 142 rfl) (o0 hw 143 rfl) (o0 hw 144 rfl) (o0 hw 81 rfl) (o0 hw 40 rfl) (o0 hw 145 rfl) o27 (o591 l Z a0 hw [] wcs wd mOA mSL mAL kd hS ad1 (1 : Int32) h0 n0 O0 pf6) e616 pe3 o142 (argsL := []) (rest := [.ref ad1]) rfl rfl (g := (mkF m 8 #[.val (.ref ad0)] [.ref ad1, .ref ad1])) rfl (by rw [hml]; rfl) rfl (hb hby o495) (W := 1) rfl (by decide) (by decide) (by decide) (by decide)) ?_
  intro T617 v617 L617 X617 hQ617
  obtain ⟨rfl, M617, e617⟩ := hQ617
  have N617 := Fr.app N0 M617
  refine o2 (fun u j => o5 X617.here hx rfl (hb hby o426) (o38 X617.here hx rfl (hb hby o427) rfl j)) ?_
  refine o11 (o29 X617 hx hZ (y := o677) (z := o577) hown (o0 hw 146 rfl) (o0 hw 147 rfl) (mvT hZ (o0 hw 148 rfl)) (o0 hw 149 rfl) (o0 hw 150 rfl) (o0 hw 151 rfl) (o0 hw 152 rfl) (o0 hw 81 rfl) (o0 hw 40 rfl) (o0 hw 153 rfl) o27 (o927 l Z a0 hw [] wcs wd mOA mSL mAL kd hS ad1 iv2 ad3 kc4 ad5 h0 n0 O0 pe3 pf4 pf5 pf6 pe7 pa8 pg_ad1 pg_ad3) e617 pe3 o71 (argsL := [.int 0]) (rest := []) rfl rfl (g := (mkF m 15 #[.val (.ref ad0)] [.int 0, .ref ad1])) rfl (by rw [hml]; rfl) rfl (hb hby o428) (W := 0) rfl (by decide) (by decide) (by decide) (by decide)) ?_
  intro T618 v618 L618 X618 hQ618
  obtain ⟨rfl, M618, K618, F619, F620, F621, F622, F623, F624⟩ := hQ618
  have N618 := Fr.app N617 M618
  refine o2 (fun u j => o55 X618.here hx rfl (hb hby o457) rfl rfl j) ?_
  have K625 := (Keep.refl h0 [ad1, ad3]).trans K618 (allS (Or.inl (List.mem_of_getElem? (i := 0) rfl)) (allS (Or.inl (List.mem_of_getElem? (i := 1) rfl)) all0))
  exact o48 X618 hx hlk hret (hb hby o458) (by decide) (by decide) (by exact ⟨rfl, N618, K625, F619, F620, F621, F622, F623, F624⟩)
theorem o929 (l : Launch) (Z : State) (a0 : Array Value) (hw : o21 a0 Z) (ws : List Jvm.Cond) (wcs : Int32) (wd mOA mSL mAL : Addr) (kd : ClassId) (hS : o22 Z wcs wd mOA mSL mAL kd) (ad0 ad1 ad3 : Addr) (h0 : Heap) (n0 : Nat) (O0 : Old Z n0 h0) (pf3 : Fld Z h0 ad0 o3 o13 o7 (.ref ad3)) :
    o16 l o61 jdk_38_method_12_code 6 (some .int) ws ⟨0, 0, 0, 0⟩ Z h0 #[.ref ad0, .ref ad1, .int 0, .int 0] (fun v h L => v = some (.int (-1)) ∧ Fr n0 L ∧ h = h0) := by
  refine o15 (plainFor_of_name o24) ?_
  intro p e s m below meth c s₁ hx hby hml hown hnm hret hlk hZ e0 X0
  have N0 := Fr.nil n0
  refine o2 (fun u j => castTop (show entryFrame m #[.ref ad0, .ref ad1, .int 0, .int 0] 6 = mkF m 0 #[.val (.ref ad0), .val (.ref ad1), .val (.int 0), .val (.int 0), .unset, .unset] [] from rfl) j) ?_
  refine o2 (fun u j => o1 X0.here hx rfl (hb hby o108) rfl rfl j) ?_
  refine o19 (getF X0 hx hZ hown (host := "") (Or.inl (o0 hw 60 rfl)) Via.refl e0 pf3 rfl rfl (hb hby o109)) ?_
  intro T641 X641 e641
  refine o2 (fun u j => o37 X641.here hx rfl (hb hby o110) rfl rfl (l' := #[.val (.ref ad0), .val (.ref ad1), .val (.int 0), .val (.int 0), .val (.ref ad3), .unset]) rfl (o1 X641.here hx rfl (hb hby o111) rfl rfl (o60 X641.here hx rfl (pc0 := 7) (pc' := 39) rfl (hb hby o112) rfl (by decide) (by decide) (o4 X641.here hx rfl (hb hby o85) rfl (o30 X641.here hx rfl (hb hby o86) rfl (l' := #[.val (.ref ad0), .val (.ref ad1), .val (.int 0), .val (.int 0), .val (.ref ad3), .val (.int 0)]) rfl (o10 X641.here hx rfl (hb hby o56) rfl j)))))) ?_
  show o17 p e below _ (T641.setTop (mkF m 44 #[.val (.ref ad0), .val (.ref ad1), .val (.int 0), .val (.int 0), .val (.ref ad3), .val (.int 0)] [.int 0]))
  refine o2 (fun u j => o4 X641.here hx rfl (hb hby o57) rfl (o23 X641.here hx rfl (pc0 := 45) (pc' := 69) rfl (hb hby o58) rfl (XT.ii_ge_t (by decide)) (by decide) (by decide) (o5 X641.here hx rfl (hb hby o240) j))) ?_
  exact o20 X641 hx hlk hret rfl (Or.inl ⟨rfl, by simp, _, rfl⟩) (hb hby o241) (by decide) (by decide) (by rw [e641]; exact ⟨rfl, N0, rfl⟩)
theorem o930 (l : Launch) (Z : State) (a0 : Array Value) (hw : o21 a0 Z) (ws : List Jvm.Cond) (wcs : Int32) (wd mOA mSL mAL : Addr) (kd : ClassId) (hS : o22 Z wcs wd mOA mSL mAL kd) (ad0 ad1 ad3 : Addr) (h0 : Heap) (n0 : Nat) (O0 : Old Z n0 h0) (pe1 : Exa Z h0 ad0 o3) (pf3 : Fld Z h0 ad0 o3 o13 o7 (.ref ad3)) (pf4 : Fld Z h0 ad0 o3 "size" "I" (.int 0)) :
    o16 l o113 jdk_38_method_11_code 2 (some .int) ws ⟨1, 0, 0, 17⟩ Z h0 #[.ref ad0, .ref ad1] (fun v h L => v = some (.int (-1)) ∧ Fr n0 L ∧ h = h0) := by
  refine o15 (plainFor_of_name o24) ?_
  intro p e s m below meth c s₁ hx hby hml hown hnm hret hlk hZ e0 X0
  have N0 := Fr.nil n0
  refine o2 (fun u j => castTop (show entryFrame m #[.ref ad0, .ref ad1] 2 = mkF m 0 #[.val (.ref ad0), .val (.ref ad1)] [] from rfl) j) ?_
  refine o2 (fun u j => o1 X0.here hx rfl (hb hby o102) rfl rfl (o1 X0.here hx rfl (hb hby o103) rfl rfl (o5 X0.here hx rfl (hb hby o104) (o1 X0.here hx rfl (hb hby o105) rfl rfl j)))) ?_
  refine o19 (getF X0 hx hZ hown (host := "") (Or.inl (o0 hw 83 rfl)) Via.refl e0 pf4 rfl rfl (hb hby o106)) ?_
  intro T643 X643 e643
  refine o11 (o26 X643 hx hZ (y := o61) (z := o61) hown (o0 hw 85 rfl) (o0 hw 86 rfl) (notFace_of_selects (args := #[]) (mvT hZ (o0 hw 88 rfl))) (o0 hw 88 rfl) (o0 hw 87 rfl) (o0 hw 40 rfl) (o0 hw 89 rfl) o42 (o929 l Z a0 hw [] wcs wd mOA mSL mAL kd hS ad0 ad1 ad3 h0 n0 O0 pf3) e643 pe1 o242 (argsL := [.ref ad1, .int 0, .int 0]) (rest := []) rfl rfl (g := (mkF m 7 #[.val (.ref ad0), .val (.ref ad1)] [.int 0, .int 0, .ref ad1, .ref ad0])) rfl (by rw [hml]; rfl) rfl (hb hby o107) (W := 0) rfl (by decide) (by decide) (by decide) (by decide)) ?_
  intro T644 v644 L644 X644 hQ644
  obtain ⟨rfl, M644, e644⟩ := hQ644
  have N644 := Fr.app N0 M644
  exact o20 X644 hx hlk hret rfl (Or.inl ⟨rfl, by simp, _, rfl⟩) (hb hby o87) (by decide) (by decide) (by rw [e644]; exact ⟨rfl, N644, rfl⟩)
theorem o826 (l : Launch) (Z : State) (a0 : Array Value) (hw : o21 a0 Z) (ws : List Jvm.Cond) (wcs : Int32) (wd mOA mSL mAL : Addr) (kd : ClassId) (hS : o22 Z wcs wd mOA mSL mAL kd) (ad0 ad1 : Addr) (ad2 ad5 : Addr) (h0 : Heap) (n0 : Nat) (O0 : Old Z n0 h0) (pf2 : Fld Z h0 ad0 o54 "path" o66 (.ref ad2)) (pe6 : Exa Z h0 ad2 o3) (pf8 : Fld Z h0 ad2 o3 o13 o7 (.ref ad5)) (pf9 : Fld Z h0 ad2 o3 "size" "I" (.int 0)) :
    o16 l o39 prog_33_method_4_code 4 (some (.object "java/util/List")) ws ⟨2, 0, 0, 30⟩ Z h0 #[.ref ad0, .ref ad1] (fun v h L => v = some .null ∧ Fr n0 L ∧ h = h0) := by
  refine o15 (plainFor_of_name o76) ?_
  intro p e s m below meth c s₁ hx hby hml hown hnm hret hlk hZ e0 X0
  have N0 := Fr.nil n0
  refine o2 (fun u j => castTop (show entryFrame m #[.ref ad0, .ref ad1] 4 = mkF m 0 #[.val (.ref ad0), .val (.ref ad1), .unset, .unset] [] from rfl) j) ?_
  refine o2 (fun u j => o1 X0.here hx rfl (hb hby o98) rfl rfl j) ?_
  refine o19 (getF X0 hx hZ hown (host := "") (Or.inl (o0 hw 62 rfl)) Via.refl e0 pf2 rfl rfl (hb hby o99)) ?_
  intro T646 X646 e646
  refine o2 (fun u j => o1 X646.here hx rfl (hb hby o100) rfl rfl j) ?_
  refine o11 (o29 X646 hx hZ (y := o364) (z := o113) hown (o0 hw 74 rfl) (o0 hw 75 rfl) (mvT hZ (o0 hw 76 rfl)) (o0 hw 77 rfl) (o0 hw 78 rfl) (o0 hw 79 rfl) (o0 hw 80 rfl) (o0 hw 81 rfl) (o0 hw 40 rfl) (o0 hw 82 rfl) o27 (o930 l Z a0 hw [] wcs wd mOA mSL mAL kd hS ad2 ad1 ad5 h0 n0 O0 pe6 pf8 pf9) e646 pe6 o243 (argsL := [.ref ad1]) (rest := []) rfl rfl (g := (mkF m 5 #[.val (.ref ad0), .val (.ref ad1), .unset, .unset] [.ref ad1, .ref ad2])) rfl (by rw [hml]; rfl) rfl (hb hby o101) (W := 0) rfl (by decide) (by decide) (by decide) (by decide)) ?_
  intro T647 v647 L647 X647 hQ647
  obtain ⟨rfl, M647, e647⟩ := hQ647
  have N647 := Fr.app N0 M647
  refine o2 (fun u j => o45 X647.here hx rfl (hb hby o88) rfl (l' := #[.val (.ref ad0), .val (.ref ad1), .val (.int (-1)), .unset]) rfl (o4 X647.here hx rfl (hb hby o89) rfl (o34 X647.here hx rfl (hb hby o90) rfl (XT.i0_ge_f (by decide)) (o49 X647.here hx rfl (hb hby o244) j)))) ?_
  exact o20 X647 hx hlk hret rfl (Or.inr (Or.inr (Or.inr (Or.inr ⟨rfl, rfl, rfl⟩)))) (hb hby o245) (by decide) (by decide) (by rw [e647]; exact ⟨rfl, N647, rfl⟩)
theorem o388 : decode method_3_code 0 = .ok (.iload_n 2, 1) := by decide +kernel
theorem o389 : decode method_3_code 1 = .ok (.iload_n 3, 1) := by decide +kernel
theorem o390 : decode method_3_code 2 = .ok (.if_icmp .lt 13, 3) := by decide +kernel
theorem o793 : decode method_3_code 5 = .ok (.aload_n 0, 1) := by decide +kernel
theorem o794 : decode method_3_code 6 = .ok (.ifnonnull 7, 3) := by decide +kernel
theorem o795 : decode method_3_code 9 = .ok (.iconst 1, 1) := by decide +kernel
theorem o760 : decode method_3_code 10 = .ok (.goto 4, 3) := by decide +kernel
theorem o761 : decode method_3_code 14 = .ok (.ireturn, 1) := by decide +kernel
abbrev o187 : MethodName := ⟨"com/example/temanggung/temanggung/beans/factory/CreatingLeavePinLaw", "expected", "(Ljava/util/List;Ljava/lang/String;IILjava/lang/String;)Z"⟩
theorem o580 : plainName "com/example/temanggung/temanggung/beans/factory/CreatingLeavePinLaw" = true := by first | (simp [plainName, overriddenIn]; done) | decide +kernel
theorem o713 (l : Launch) (Z : State) (a0 : Array Value) (hw : o21 a0 Z) (ws : List Jvm.Cond) (wcs : Int32) (wd mOA mSL mAL : Addr) (kd : ClassId) (hS : o22 Z wcs wd mOA mSL mAL kd) (ad0 : Addr) (iv1 iv2 : Int32) (ad3 : Addr) (h0 : Heap) (n0 : Nat) (O0 : Old Z n0 h0) (pk_0 : ¬ iv1 < iv2) :
    o16 l o187 method_3_code 6 (some .boolean) ws ⟨0, 0, 0, 0⟩ Z h0 #[.null, .ref ad0, .int iv1, .int iv2, .ref ad3] (fun v h L => v = some (.int 1) ∧ Fr n0 L ∧ h = h0) := by
  refine o15 (plainFor_of_name o580) ?_
  intro p e s m below meth c s₁ hx hby hml hown hnm hret hlk hZ e0 X0
  have N0 := Fr.nil n0
  refine o2 (fun u j => castTop (show entryFrame m #[.null, .ref ad0, .int iv1, .int iv2, .ref ad3] 6 = mkF m 0 #[.val .null, .val (.ref ad0), .val (.int iv1), .val (.int iv2), .val (.ref ad3), .unset] [] from rfl) j) ?_
  refine o2 (fun u j => o4 X0.here hx rfl (hb hby o388) rfl (o4 X0.here hx rfl (hb hby o389) rfl (o28 X0.here hx rfl (hb hby o390) rfl (XT.ii_lt_f pk_0) (o1 X0.here hx rfl (hb hby o793) rfl rfl (XS.ifnonnullNo X0.here hx rfl (hb hby o794) rfl (o5 X0.here hx rfl (hb hby o795) j)))))) ?_
  show o17 p e below _ (s₁.setTop (mkF m 10 #[.val .null, .val (.ref ad0), .val (.int iv1), .val (.int iv2), .val (.ref ad3), .unset] [.int 1]))
  refine o2 (fun u j => o35 X0.here hx rfl (pc0 := 10) (pc' := 14) rfl (hb hby o760) (by decide) (by decide) j) ?_
  exact o20 X0 hx hlk hret rfl (Or.inl ⟨rfl, by simp, _, rfl⟩) (hb hby o761) (by decide) (by decide) (by rw [e0]; exact ⟨rfl, N0, rfl⟩)
theorem o203 : ("com/example/temanggung/temanggung/beans/factory/CreatingLeavePinLaw" : String) ≠ "java/lang/invoke/MethodHandle" ∧ ("com/example/temanggung/temanggung/beans/factory/CreatingLeavePinLaw" : String) ≠ "java/lang/invoke/VarHandle" := by decide +kernel
theorem o204 : parseMethodDescriptor "(Ljava/util/List;Ljava/lang/String;IILjava/lang/String;)Z" = some ⟨[(.object "java/util/List"), (.object "java/lang/String"), .int, .int, (.object "java/lang/String")], some .boolean⟩ := by decide +kernel
theorem o652 : ("java/util/ArrayList" : String) ≠ "[Ljava/lang/Object;" := by decide +kernel
theorem o931 (l : Launch) (Z : State) (a0 : Array Value) (hw : o21 a0 Z) (ws : List Jvm.Cond) (wcs : Int32) (wd mOA mSL mAL : Addr) (kd : ClassId) (hS : o22 Z wcs wd mOA mSL mAL kd) (ad0 ad1 ad2 : Addr) (iv3 : Int32) (kc5 : ClassId) (h0 : Heap) (n0 : Nat) (O0 : Old Z n0 h0) (pe1 : Exa Z h0 ad0 o3) (pf2 : Fld Z h0 ad0 o8 o9 "I" (.int iv3)) (pf3 : Fld Z h0 ad0 o3 o13 o7 (.ref ad2)) (pf4 : Fld Z h0 ad0 o3 "size" "I" (.int 0)) (pe5 : Exa Z h0 ad1 o6) (pe8 : Exa Z h0 ad2 o7) (pa9 : Arv Z h0 ad2 kc5 (.object "java/lang/Object") 10 [.null, .null, .null, .null, .null, .null, .null, .null, .null, .null] .null) (po9 : Ovr Z kc5 "java/lang/Object") (pg_ad2 : n0 ≤ ad2) (pg_ad0 : n0 ≤ ad0) :
    o16 l o156 jdk_38_method_24_code 4 none ws ⟨0, 0, 0, 0⟩ Z h0 #[.ref ad0, .ref ad1, .ref ad2, .int 0] (fun v h L => v = none ∧ Fr n0 L ∧ Keep h0 h [ad2, ad0] ∧ Exa Z h ad2 o7 ∧ Arv Z h ad2 kc5 (.object "java/lang/Object") 10 [.ref ad1, .null, .null, .null, .null, .null, .null, .null, .null, .null] .null ∧ Exa Z h ad0 o3 ∧ Fld Z h ad0 o8 o9 "I" (.int iv3) ∧ Fld Z h ad0 o3 o13 o7 (.ref ad2) ∧ Fld Z h ad0 o3 "size" "I" (.int 1)) := by
  refine o15 (plainFor_of_name o24) ?_
  intro p e s m below meth c s₁ hx hby hml hown hnm hret hlk hZ e0 X0
  have N0 := Fr.nil n0
  refine o2 (fun u j => castTop (show entryFrame m #[.ref ad0, .ref ad1, .ref ad2, .int 0] 4 = mkF m 0 #[.val (.ref ad0), .val (.ref ad1), .val (.ref ad2), .val (.int 0)] [] from rfl) j) ?_
  refine o2 (fun u j => o4 X0.here hx rfl (hb hby o150) rfl (o1 X0.here hx rfl (hb hby o151) rfl rfl (o65 X0 hx hZ e0 pa9 rfl rfl (hb hby o152) (o23 X0.here hx rfl (pc0 := 3) (pc' := 11) rfl (hb hby o153) rfl (o139 (by decide)) (by decide) (by decide) (o1 X0.here hx rfl (hb hby o125) rfl rfl (o4 X0.here hx rfl (hb hby o126) rfl j)))))) ?_
  show o17 p e below _ (s₁.setTop (mkF m 13 #[.val (.ref ad0), .val (.ref ad1), .val (.ref ad2), .val (.int 0)] [.int 0, .ref ad2]))
  refine o2 (fun u j => o1 X0.here hx rfl (hb hby o127) rfl rfl j) ?_
  have q_ := id pa9
  obtain ⟨cl676, Ar676, q676, S676, N676, H676, G676⟩ := q_
  have hi676 : ¬ ((0 : Int32) < 0 ∨ cl676.slots.size ≤ ((0 : Int32)).toNatClampNeg) := inb_of S676 ⟨by decide, by decide⟩
  have q_ := stR X0 hx hZ e0 Ar676 (j := (0 : Int32)) hi676 rfl (Sto.ofV Ar676 q676 po9 (Ins.of_exa pe5 (o0 hw 121 rfl))) (g := (mkF m 14 #[.val (.ref ad0), .val (.ref ad1), .val (.ref ad2), .val (.int 0)] [.ref ad1, .int 0, .ref ad2])) rfl rfl (hb hby o128)
  obtain ⟨T677, h677, X677, e677, W677, st677⟩ := q_
  have N677 := Fr.snoc X677 N0 pg_ad2
  have V677 : Arv Z h677 ad2 kc5 (.object "java/lang/Object") 10 [.ref ad1, .null, .null, .null, .null, .null, .null, .null, .null, .null] .null := Arv.set Ar676 q676 S676 N676 H676 G676 rfl W677 0 rfl (Nat.le_of_ble_eq_true rfl)
  refine o2 (fun u j => st677 u j) ?_
  refine o2 (fun u j => o1 X677.here hx rfl (hb hby o129) rfl rfl (o4 X677.here hx rfl (hb hby o130) rfl (o5 X677.here hx rfl (hb hby o131) (o36 X677.here hx rfl (hb hby o132) rfl j)))) ?_
  have F678 := (Exa.wr W677 pe1)
  have ne679 := (ne_exa pe1 pe8 o652)
  have F680 := (Fld.other W677 pf4 (Or.inl ne679))
  refine o32 (putF X677 hx hZ hown (host := "") (Or.inl (o0 hw 83 rfl)) Via.refl e677 F680 F678 (Or.inl (o0 hw 84 rfl)) (o0 hw 39 rfl) (ty := .int) o18 rfl rfl rfl rfl (hb hby o133)) ?_
  intro T681 h681 X681 e681 W681
  have N681 := Fr.snoc X681 N677 pg_ad0
  have F682 : Fld Z h681 ad0 o3 "size" "I" (.int 1) := Fld.same W681 F680
  have K683 := (Keep.refl h0 [ad2, ad0]).wr W677 (Or.inl (List.mem_of_getElem? (i := 0) rfl))
  have K684 := K683.wr W681 (Or.inl (List.mem_of_getElem? (i := 1) rfl))
  have F685 := (Exa.wr W681 (Exa.wr W677 pe8))
  have F686 := (V677.other W681 (Ne.symm ne679))
  have F687 := (Exa.wr W681 F678)
  have F688 := (Fld.other W681 (Fld.other W677 pf2 (Or.inl ne679)) (Or.inr (o116 hw)))
  have F689 := (Fld.other W681 (Fld.other W677 pf3 (Or.inl ne679)) (Or.inr (o117 hw)))
  exact o48 X681 hx hlk hret (hb hby o134) (by decide) (by decide) (by rw [e681]; exact ⟨rfl, N681, K684, F685, F686, F687, F688, F689, F682⟩)
theorem o932 (l : Launch) (Z : State) (a0 : Array Value) (hw : o21 a0 Z) (ws : List Jvm.Cond) (wcs : Int32) (wd mOA mSL mAL : Addr) (kd : ClassId) (hS : o22 Z wcs wd mOA mSL mAL kd) (ad0 ad1 : Addr) (iv2 : Int32) (ad3 : Addr) (kc5 : ClassId) (h0 : Heap) (n0 : Nat) (O0 : Old Z n0 h0) (pe1 : Exa Z h0 ad0 o3) (pf2 : Fld Z h0 ad0 o8 o9 "I" (.int iv2)) (pf3 : Fld Z h0 ad0 o3 o13 o7 (.ref ad3)) (pf4 : Fld Z h0 ad0 o3 "size" "I" (.int 0)) (pe5 : Exa Z h0 ad1 o6) (pe8 : Exa Z h0 ad3 o7) (pa9 : Arv Z h0 ad3 kc5 (.object "java/lang/Object") 10 [.null, .null, .null, .null, .null, .null, .null, .null, .null, .null] .null) (po9 : Ovr Z kc5 "java/lang/Object") (pg_ad0 : n0 ≤ ad0) (pg_ad3 : n0 ≤ ad3) :
    o16 l o137 jdk_38_method_25_code 2 (some .boolean) ws ⟨1, 0, 0, 15⟩ Z h0 #[.ref ad0, .ref ad1] (fun v h L => v = some (.int 1) ∧ Fr n0 L ∧ Keep h0 h [ad0, ad3] ∧ Exa Z h ad0 o3 ∧ Fld Z h ad0 o8 o9 "I" (.int (iv2 + (1 : Int32))) ∧ Fld Z h ad0 o3 o13 o7 (.ref ad3) ∧ Fld Z h ad0 o3 "size" "I" (.int 1) ∧ Exa Z h ad3 o7 ∧ Arv Z h ad3 kc5 (.object "java/lang/Object") 10 [.ref ad1, .null, .null, .null, .null, .null, .null, .null, .null, .null] .null) := by
  refine o15 (plainFor_of_name o24) ?_
  intro p e s m below meth c s₁ hx hby hml hown hnm hret hlk hZ e0 X0
  have N0 := Fr.nil n0
  refine o2 (fun u j => castTop (show entryFrame m #[.ref ad0, .ref ad1] 2 = mkF m 0 #[.val (.ref ad0), .val (.ref ad1)] [] from rfl) j) ?_
  refine o2 (fun u j => o1 X0.here hx rfl (hb hby o144) rfl rfl (o40 X0.here hx rfl (hb hby o145) rfl rfl j)) ?_
  refine o19 (getF X0 hx hZ hown (host := "") (Or.inl (o0 hw 98 rfl)) (Via.of (o0 hw 99 rfl)) e0 pf2 rfl rfl (hb hby o146)) ?_
  intro T703 X703 e703
  refine o2 (fun u j => o5 X703.here hx rfl (hb hby o147) (o36 X703.here hx rfl (hb hby o148) rfl j)) ?_
  refine o32 (putF X703 hx hZ hown (host := "") (Or.inl (o0 hw 98 rfl)) (Via.of (o0 hw 99 rfl)) e703 pf2 pe1 (Or.inl (o0 hw 58 rfl)) (o0 hw 39 rfl) (ty := .int) o18 rfl rfl rfl rfl (hb hby o149)) ?_
  intro T704 h704 X704 e704 W704
  have N704 := Fr.snoc X704 N0 pg_ad0
  have F705 : Fld Z h704 ad0 o8 o9 "I" (.int (iv2 + (1 : Int32))) := Fld.same W704 pf2
  refine o2 (fun u j => o1 X704.here hx rfl (hb hby o118) rfl rfl (o1 X704.here hx rfl (hb hby o119) rfl rfl (o1 X704.here hx rfl (hb hby o120) rfl rfl j))) ?_
  have F706 := (Fld.other W704 pf3 (Or.inr (o196 hw)))
  refine o19 (getF X704 hx hZ hown (host := "") (Or.inl (o0 hw 60 rfl)) Via.refl e704 F706 rfl rfl (hb hby o121)) ?_
  intro T707 X707 e707
  refine o2 (fun u j => o1 X707.here hx rfl (hb hby o122) rfl rfl j) ?_
  have F708 := (Fld.other W704 pf4 (Or.inr (o197 hw)))
  refine o19 (getF X707 hx hZ hown (host := "") (Or.inl (o0 hw 83 rfl)) Via.refl e707 F708 rfl rfl (hb hby o123)) ?_
  intro T709 X709 e709
  have F710 := (Exa.wr W704 pe1)
  have F711 := (Exa.wr W704 pe5)
  have F712 := (Exa.wr W704 pe8)
  have ne713 := (ne_exa pe8 pe1 o143)
  have F714 := (pa9.other W704 ne713)
  have O716 := O0.wr W704 pg_ad0
  refine o11 (o62 X709 hx hZ (y := o156) hown (o0 hw 100 rfl) (o0 hw 101 rfl) (mvT hZ (o0 hw 103 rfl)) (o0 hw 102 rfl) (o0 hw 40 rfl) (o0 hw 104 rfl) o42 (o931 l Z a0 hw [] wcs wd mOA mSL mAL kd hS ad0 ad1 ad3 (iv2 + (1 : Int32)) kc5 h704 n0 O716 F710 F705 F706 F708 F711 F712 F714 po9 pg_ad3 pg_ad0) e709 F710 o387 (argsL := [.ref ad1, .ref ad3, .int 0]) (rest := []) rfl rfl (g := (mkF m 20 #[.val (.ref ad0), .val (.ref ad1)] [.int 0, .ref ad3, .ref ad1, .ref ad0])) rfl (by rw [hml]; rfl) rfl (hb hby o124) (W := 0) rfl (by decide) (by decide) (by decide) (by decide)) ?_
  intro T715 v715 L715 X715 hQ715
  obtain ⟨rfl, M715, K715, F717, F718, F719, F720, F721, F722⟩ := hQ715
  have N715 := Fr.app N704 M715
  refine o2 (fun u j => o5 X715.here hx rfl (hb hby o135) j) ?_
  have K723 := (Keep.refl h0 [ad0, ad3]).wr W704 (Or.inl (List.mem_of_getElem? (i := 0) rfl))
  have K724 := K723.trans K715 (allS (Or.inl (List.mem_of_getElem? (i := 1) rfl)) (allS (Or.inl (List.mem_of_getElem? (i := 0) rfl)) all0))
  exact o20 X715 hx hlk hret rfl (Or.inl ⟨rfl, by simp, _, rfl⟩) (hb hby o136) (by decide) (by decide) (by exact ⟨rfl, N715, K724, F719, F720, F721, F722, F717, F718⟩)
theorem o933 (l : Launch) (Z : State) (a0 : Array Value) (hw : o21 a0 Z) (ws : List Jvm.Cond) (wcs : Int32) (wd mOA mSL mAL : Addr) (kd : ClassId) (hS : o22 Z wcs wd mOA mSL mAL kd) (ad0 ad1 ad2 : Addr) (iv4 : Int32) (ad5 : Addr) (kc9 : ClassId) (h0 : Heap) (n0 : Nat) (O0 : Old Z n0 h0) (pe1 : Exa Z h0 ad0 o54) (pf2 : Fld Z h0 ad0 o54 "path" o66 (.ref ad2)) (pe3 : Exa Z h0 ad1 o6) (pe6 : Exa Z h0 ad2 o3) (pf7 : Fld Z h0 ad2 o8 o9 "I" (.int iv4)) (pf8 : Fld Z h0 ad2 o3 o13 o7 (.ref ad5)) (pf9 : Fld Z h0 ad2 o3 "size" "I" (.int 0)) (pe12 : Exa Z h0 ad5 o7) (pa13 : Arv Z h0 ad5 kc9 (.object "java/lang/Object") 10 [.null, .null, .null, .null, .null, .null, .null, .null, .null, .null] .null) (po13 : Ovr Z kc9 "java/lang/Object") (pg_ad2 : n0 ≤ ad2) (pg_ad5 : n0 ≤ ad5) :
    o16 l o63 prog_33_method_2_code 3 (some (.object "com/example/temanggung/temanggung/beans/factory/Creating")) ws ⟨3, 0, 0, 45⟩ Z h0 #[.ref ad0, .ref ad1] (fun v h L => v = some (.ref ad0) ∧ Fr n0 L ∧ Keep h0 h [ad2, ad5] ∧ Exa Z h ad2 o3 ∧ Fld Z h ad2 o8 o9 "I" (.int (iv4 + (1 : Int32))) ∧ Fld Z h ad2 o3 o13 o7 (.ref ad5) ∧ Fld Z h ad2 o3 "size" "I" (.int 1) ∧ Exa Z h ad5 o7 ∧ Arv Z h ad5 kc9 (.object "java/lang/Object") 10 [.ref ad1, .null, .null, .null, .null, .null, .null, .null, .null, .null] .null) := by
  refine o15 (plainFor_of_name o76) ?_
  intro p e s m below meth c s₁ hx hby hml hown hnm hret hlk hZ e0 X0
  have N0 := Fr.nil n0
  refine o2 (fun u j => castTop (show entryFrame m #[.ref ad0, .ref ad1] 3 = mkF m 0 #[.val (.ref ad0), .val (.ref ad1), .unset] [] from rfl) j) ?_
  refine o2 (fun u j => o1 X0.here hx rfl (hb hby o320) rfl rfl (o1 X0.here hx rfl (hb hby o321) rfl rfl j)) ?_
  refine o11 (o26 X0 hx hZ (y := o39) (z := o39) hown (o0 hw 69 rfl) (o0 hw 70 rfl) (notFace_of_selects (args := #[]) (mvT hZ (o0 hw 72 rfl))) (o0 hw 72 rfl) (o0 hw 71 rfl) (o0 hw 33 rfl) (o0 hw 73 rfl) o44 (o826 l Z a0 hw [] wcs wd mOA mSL mAL kd hS ad0 ad1 ad2 ad5 h0 n0 O0 pf2 pe6 pf8 pf9) e0 pe1 o77 (argsL := [.ref ad1]) (rest := []) rfl rfl (g := (mkF m 2 #[.val (.ref ad0), .val (.ref ad1), .unset] [.ref ad1, .ref ad0])) rfl (by rw [hml]; rfl) rfl (hb hby o322) (W := 0) rfl (by decide) (by decide) (by decide) (by decide)) ?_
  intro T732 v732 L732 X732 hQ732
  obtain ⟨rfl, M732, e732⟩ := hQ732
  have N732 := Fr.app N0 M732
  refine o2 (fun u j => o31 X732.here hx rfl (hb hby o323) rfl rfl (l' := #[.val (.ref ad0), .val (.ref ad1), .val .null]) rfl (o1 X732.here hx rfl (hb hby o324) rfl rfl (XS.ifnullYes X732.here hx rfl (pc0 := 7) (pc' := 19) rfl (hb hby o325) rfl (by decide) (by decide) (o1 X732.here hx rfl (hb hby o246) rfl rfl j)))) ?_
  refine o19 (getF X732 hx hZ hown (host := "") (Or.inl (o0 hw 62 rfl)) Via.refl e732 pf2 rfl rfl (hb hby o247)) ?_
  intro T733 X733 e733
  refine o2 (fun u j => o1 X733.here hx rfl (hb hby o248) rfl rfl j) ?_
  refine o11 (o29 X733 hx hZ (y := o367) (z := o137) hown (o0 hw 90 rfl) (o0 hw 91 rfl) (mvT hZ (o0 hw 92 rfl)) (o0 hw 93 rfl) (o0 hw 94 rfl) (o0 hw 95 rfl) (o0 hw 96 rfl) (o0 hw 81 rfl) (o0 hw 40 rfl) (o0 hw 97 rfl) o27 (o932 l Z a0 hw [] wcs wd mOA mSL mAL kd hS ad2 ad1 iv4 ad5 kc9 h0 n0 O0 pe6 pf7 pf8 pf9 pe3 pe12 pa13 po13 pg_ad2 pg_ad5) e733 pe6 o46 (argsL := [.ref ad1]) (rest := []) rfl rfl (g := (mkF m 24 #[.val (.ref ad0), .val (.ref ad1), .val .null] [.ref ad1, .ref ad2])) rfl (by rw [hml]; rfl) rfl (hb hby o249) (W := 0) rfl (by decide) (by decide) (by decide) (by decide)) ?_
  intro T734 v734 L734 X734 hQ734
  obtain ⟨rfl, M734, K734, F735, F736, F737, F738, F739, F740⟩ := hQ734
  have N734 := Fr.app N732 M734
  refine o2 (fun u j => o55 X734.here hx rfl (hb hby o252) rfl rfl (o1 X734.here hx rfl (hb hby o253) rfl rfl j)) ?_
  have K741 := (Keep.refl h0 [ad2, ad5]).trans K734 (allS (Or.inl (List.mem_of_getElem? (i := 0) rfl)) (allS (Or.inl (List.mem_of_getElem? (i := 1) rfl)) all0))
  exact o20 X734 hx hlk hret rfl (Or.inr (Or.inr (Or.inr (Or.inr ⟨rfl, rfl, rfl⟩)))) (hb hby o254) (by decide) (by decide) (by exact ⟨rfl, N734, K741, F735, F736, F737, F738, F739, F740⟩)
theorem o91 : decode jdk_38_method_12_code 48 = .ok (.aload_n 1, 1) := by decide +kernel
theorem o92 : decode jdk_38_method_12_code 49 = .ok (.aload 4, 2) := by decide +kernel
theorem o93 : decode jdk_38_method_12_code 51 = .ok (.iload 5, 2) := by decide +kernel
theorem o94 : decode jdk_38_method_12_code 53 = .ok (.aaload, 1) := by decide +kernel
theorem o95 : decode jdk_38_method_12_code 54 = .ok (.invokevirtual 93, 3) := by decide +kernel
theorem o597 : decode jdk_42_method_66_code 0 = .ok (.aload_n 0, 1) := by decide +kernel
theorem o598 : decode jdk_42_method_66_code 1 = .ok (.aload_n 1, 1) := by decide +kernel
theorem o599 : decode jdk_42_method_66_code 2 = .ok (.if_acmp .ne 5, 3) := by decide +kernel
theorem o762 : decode jdk_42_method_66_code 5 = .ok (.iconst 1, 1) := by decide +kernel
theorem o763 : decode jdk_42_method_66_code 6 = .ok (.ireturn, 1) := by decide +kernel
abbrev o41 : MethodName := ⟨"java/lang/String", "equals", "(Ljava/lang/Object;)Z"⟩
theorem o256 (l : Launch) (Z : State) (a0 : Array Value) (hw : o21 a0 Z) (ws : List Jvm.Cond) (wcs : Int32) (wd mOA mSL mAL : Addr) (kd : ClassId) (hS : o22 Z wcs wd mOA mSL mAL kd) (ad0 : Addr) (h0 : Heap) (n0 : Nat) (O0 : Old Z n0 h0)  :
    o16 l o41 jdk_42_method_66_code 3 (some .boolean) ws ⟨0, 0, 0, 0⟩ Z h0 #[.ref ad0, .ref ad0] (fun v h L => v = some (.int 1) ∧ Fr n0 L ∧ h = h0) := by
  refine o15 (plainFor_of_name o363) ?_
  intro p e s m below meth c s₁ hx hby hml hown hnm hret hlk hZ e0 X0
  have N0 := Fr.nil n0
  refine o2 (fun u j => castTop (show entryFrame m #[.ref ad0, .ref ad0] 3 = mkF m 0 #[.val (.ref ad0), .val (.ref ad0), .unset] [] from rfl) j) ?_
  refine o2 (fun u j => o1 X0.here hx rfl (hb hby o597) rfl rfl (o1 X0.here hx rfl (hb hby o598) rfl rfl (o97 X0.here hx rfl (hb hby o599) rfl rfl rfl (o84 rfl) (o5 X0.here hx rfl (hb hby o762) j)))) ?_
  exact o20 X0 hx hlk hret rfl (Or.inl ⟨rfl, by simp, _, rfl⟩) (hb hby o763) (by decide) (by decide) (by rw [e0]; exact ⟨rfl, N0, rfl⟩)
abbrev o368 : MethodName := ⟨"java/lang/Object", "equals", "(Ljava/lang/Object;)Z"⟩
theorem o257 : ("java/lang/Object" : String) ≠ "java/lang/invoke/MethodHandle" ∧ ("java/lang/Object" : String) ≠ "java/lang/invoke/VarHandle" := by decide +kernel
theorem o96 : decode jdk_38_method_12_code 57 = .ok (.ifCond .eq 6, 3) := by decide +kernel
theorem o258 : decode jdk_38_method_12_code 60 = .ok (.iload 5, 2) := by decide +kernel
theorem o259 : decode jdk_38_method_12_code 62 = .ok (.ireturn, 1) := by decide +kernel
theorem o934 (l : Launch) (Z : State) (a0 : Array Value) (hw : o21 a0 Z) (ws : List Jvm.Cond) (wcs : Int32) (wd mOA mSL mAL : Addr) (kd : ClassId) (hS : o22 Z wcs wd mOA mSL mAL kd) (ad0 ad1 ad3 : Addr) (kc5 : ClassId) (h0 : Heap) (n0 : Nat) (O0 : Old Z n0 h0) (pf3 : Fld Z h0 ad0 o3 o13 o7 (.ref ad3)) (pe5 : Exa Z h0 ad1 o6) (pa9 : Arv Z h0 ad3 kc5 (.object "java/lang/Object") 10 [.ref ad1, .null, .null, .null, .null, .null, .null, .null, .null, .null] .null) :
    o16 l o61 jdk_38_method_12_code 6 (some .int) ws ⟨1, 0, 0, 14⟩ Z h0 #[.ref ad0, .ref ad1, .int 0, .int 1] (fun v h L => v = some (.int 0) ∧ Fr n0 L ∧ h = h0) := by
  refine o15 (plainFor_of_name o24) ?_
  intro p e s m below meth c s₁ hx hby hml hown hnm hret hlk hZ e0 X0
  have N0 := Fr.nil n0
  refine o2 (fun u j => castTop (show entryFrame m #[.ref ad0, .ref ad1, .int 0, .int 1] 6 = mkF m 0 #[.val (.ref ad0), .val (.ref ad1), .val (.int 0), .val (.int 1), .unset, .unset] [] from rfl) j) ?_
  refine o2 (fun u j => o1 X0.here hx rfl (hb hby o108) rfl rfl j) ?_
  refine o19 (getF X0 hx hZ hown (host := "") (Or.inl (o0 hw 60 rfl)) Via.refl e0 pf3 rfl rfl (hb hby o109)) ?_
  intro T754 X754 e754
  refine o2 (fun u j => o37 X754.here hx rfl (hb hby o110) rfl rfl (l' := #[.val (.ref ad0), .val (.ref ad1), .val (.int 0), .val (.int 1), .val (.ref ad3), .unset]) rfl (o1 X754.here hx rfl (hb hby o111) rfl rfl (o60 X754.here hx rfl (pc0 := 7) (pc' := 39) rfl (hb hby o112) rfl (by decide) (by decide) (o4 X754.here hx rfl (hb hby o85) rfl (o30 X754.here hx rfl (hb hby o86) rfl (l' := #[.val (.ref ad0), .val (.ref ad1), .val (.int 0), .val (.int 1), .val (.ref ad3), .val (.int 0)]) rfl (o10 X754.here hx rfl (hb hby o56) rfl j)))))) ?_
  show o17 p e below _ (T754.setTop (mkF m 44 #[.val (.ref ad0), .val (.ref ad1), .val (.int 0), .val (.int 1), .val (.ref ad3), .val (.int 0)] [.int 0]))
  refine o2 (fun u j => o4 X754.here hx rfl (hb hby o57) rfl (o28 X754.here hx rfl (hb hby o58) rfl (o53 (by decide)) (o1 X754.here hx rfl (hb hby o91) rfl rfl (o12 X754.here hx rfl (hb hby o92) rfl rfl (o10 X754.here hx rfl (hb hby o93) rfl (o413 X754 hx hZ e754 pa9 (j := (0 : Int32)) (v := (.ref ad1)) ⟨by decide, by decide⟩ rfl rfl rfl (hb hby o94) j)))))) ?_
  show o17 p e below _ (T754.setTop (mkF m 54 #[.val (.ref ad0), .val (.ref ad1), .val (.int 0), .val (.int 1), .val (.ref ad3), .val (.int 0)] [.ref ad1, .ref ad1]))
  refine o11 (o26 X754 hx hZ (y := o368) (z := o41) hown (o0 hw 122 rfl) (o0 hw 123 rfl) (o574 (args := #[]) (mvT hZ (o0 hw 227 rfl)) rfl) (o0 hw 125 rfl) (o0 hw 126 rfl) (o0 hw 3 rfl) (o0 hw 127 rfl) o257 (o256 l Z a0 hw [] wcs wd mOA mSL mAL kd hS ad1 h0 n0 O0 ) e754 pe5 o46 (argsL := [.ref ad1]) (rest := []) rfl rfl (g := (mkF m 54 #[.val (.ref ad0), .val (.ref ad1), .val (.int 0), .val (.int 1), .val (.ref ad3), .val (.int 0)] [.ref ad1, .ref ad1])) rfl (by rw [hml]; rfl) rfl (hb hby o95) (W := 0) rfl (by decide) (by decide) (by decide) (by decide)) ?_
  intro T755 v755 L755 X755 hQ755
  obtain ⟨rfl, M755, e755⟩ := hQ755
  have N755 := Fr.app N0 M755
  refine o2 (fun u j => o34 X755.here hx rfl (hb hby o96) rfl (o33 (by decide)) (o10 X755.here hx rfl (hb hby o258) rfl j)) ?_
  exact o20 X755 hx hlk hret rfl (Or.inl ⟨rfl, by simp, _, rfl⟩) (hb hby o259) (by decide) (by decide) (by rw [e755]; exact ⟨rfl, N755, rfl⟩)
theorem o935 (l : Launch) (Z : State) (a0 : Array Value) (hw : o21 a0 Z) (ws : List Jvm.Cond) (wcs : Int32) (wd mOA mSL mAL : Addr) (kd : ClassId) (hS : o22 Z wcs wd mOA mSL mAL kd) (ad0 ad1 ad3 : Addr) (kc5 : ClassId) (h0 : Heap) (n0 : Nat) (O0 : Old Z n0 h0) (pe1 : Exa Z h0 ad0 o3) (pf3 : Fld Z h0 ad0 o3 o13 o7 (.ref ad3)) (pf4 : Fld Z h0 ad0 o3 "size" "I" (.int 1)) (pe5 : Exa Z h0 ad1 o6) (pa9 : Arv Z h0 ad3 kc5 (.object "java/lang/Object") 10 [.ref ad1, .null, .null, .null, .null, .null, .null, .null, .null, .null] .null) :
    o16 l o113 jdk_38_method_11_code 2 (some .int) ws ⟨2, 0, 0, 31⟩ Z h0 #[.ref ad0, .ref ad1] (fun v h L => v = some (.int 0) ∧ Fr n0 L ∧ h = h0) := by
  refine o15 (plainFor_of_name o24) ?_
  intro p e s m below meth c s₁ hx hby hml hown hnm hret hlk hZ e0 X0
  have N0 := Fr.nil n0
  refine o2 (fun u j => castTop (show entryFrame m #[.ref ad0, .ref ad1] 2 = mkF m 0 #[.val (.ref ad0), .val (.ref ad1)] [] from rfl) j) ?_
  refine o2 (fun u j => o1 X0.here hx rfl (hb hby o102) rfl rfl (o1 X0.here hx rfl (hb hby o103) rfl rfl (o5 X0.here hx rfl (hb hby o104) (o1 X0.here hx rfl (hb hby o105) rfl rfl j)))) ?_
  refine o19 (getF X0 hx hZ hown (host := "") (Or.inl (o0 hw 83 rfl)) Via.refl e0 pf4 rfl rfl (hb hby o106)) ?_
  intro T757 X757 e757
  refine o11 (o26 X757 hx hZ (y := o61) (z := o61) hown (o0 hw 85 rfl) (o0 hw 86 rfl) (notFace_of_selects (args := #[]) (mvT hZ (o0 hw 88 rfl))) (o0 hw 88 rfl) (o0 hw 87 rfl) (o0 hw 40 rfl) (o0 hw 89 rfl) o42 (o934 l Z a0 hw [] wcs wd mOA mSL mAL kd hS ad0 ad1 ad3 kc5 h0 n0 O0 pf3 pe5 pa9) e757 pe1 o242 (argsL := [.ref ad1, .int 0, .int 1]) (rest := []) rfl rfl (g := (mkF m 7 #[.val (.ref ad0), .val (.ref ad1)] [.int 1, .int 0, .ref ad1, .ref ad0])) rfl (by rw [hml]; rfl) rfl (hb hby o107) (W := 0) rfl (by decide) (by decide) (by decide) (by decide)) ?_
  intro T758 v758 L758 X758 hQ758
  obtain ⟨rfl, M758, e758⟩ := hQ758
  have N758 := Fr.app N0 M758
  exact o20 X758 hx hlk hret rfl (Or.inl ⟨rfl, by simp, _, rfl⟩) (hb hby o87) (by decide) (by decide) (by rw [e758]; exact ⟨rfl, N758, rfl⟩)
theorem o260 : decode prog_33_method_4_code 17 = .ok (.new 7, 3) := by decide +kernel
theorem o261 : decode prog_33_method_4_code 20 = .ok (.dup, 1) := by decide +kernel
theorem o262 : decode prog_33_method_4_code 21 = .ok (.aload_n 0, 1) := by decide +kernel
theorem o263 : decode prog_33_method_4_code 22 = .ok (.getfield 10, 3) := by decide +kernel
theorem o264 : decode prog_33_method_4_code 25 = .ok (.iload_n 2, 1) := by decide +kernel
theorem o265 : decode prog_33_method_4_code 26 = .ok (.aload_n 0, 1) := by decide +kernel
theorem o266 : decode prog_33_method_4_code 27 = .ok (.getfield 10, 3) := by decide +kernel
theorem o267 : decode prog_33_method_4_code 30 = .ok (.invokeinterface 31 1, 5) := by decide +kernel
theorem o268 : decode prog_33_method_4_code 35 = .ok (.invokeinterface 43 3, 5) := by decide +kernel
theorem o329 : decode jdk_38_method_56_code 0 = .ok (.iload_n 1, 1) := by decide +kernel
theorem o330 : decode jdk_38_method_56_code 1 = .ok (.iload_n 2, 1) := by decide +kernel
theorem o331 : decode jdk_38_method_56_code 2 = .ok (.aload_n 0, 1) := by decide +kernel
theorem o332 : decode jdk_38_method_56_code 3 = .ok (.getfield 48, 3) := by decide +kernel
theorem o333 : decode jdk_38_method_56_code 6 = .ok (.invokestatic 272, 3) := by decide +kernel
theorem o764 : decode jdk_39_method_15_code 0 = .ok (.iload_n 0, 1) := by decide +kernel
theorem o765 : decode jdk_39_method_15_code 1 = .ok (.ifCond .ge 30, 3) := by decide +kernel
theorem o678 : decode jdk_39_method_15_code 31 = .ok (.iload_n 1, 1) := by decide +kernel
theorem o679 : decode jdk_39_method_15_code 32 = .ok (.iload_n 2, 1) := by decide +kernel
theorem o680 : decode jdk_39_method_15_code 33 = .ok (.if_icmp .le 30, 3) := by decide +kernel
theorem o681 : decode jdk_39_method_15_code 63 = .ok (.iload_n 0, 1) := by decide +kernel
theorem o682 : decode jdk_39_method_15_code 64 = .ok (.iload_n 1, 1) := by decide +kernel
theorem o683 : decode jdk_39_method_15_code 65 = .ok (.if_icmp .le 44, 3) := by decide +kernel
theorem o657 : decode jdk_39_method_15_code 109 = .ok (.return_, 1) := by decide +kernel
abbrev o877 : MethodName := ⟨"java/util/AbstractList", "subListRangeCheck", "(III)V"⟩
theorem o827 (l : Launch) (Z : State) (a0 : Array Value) (hw : o21 a0 Z) (ws : List Jvm.Cond) (wcs : Int32) (wd mOA mSL mAL : Addr) (kd : ClassId) (hS : o22 Z wcs wd mOA mSL mAL kd) (iv0 iv1 iv2 : Int32) (h0 : Heap) (n0 : Nat) (O0 : Old Z n0 h0) (pk_0 : ¬ iv0 < (0 : Int32)) (pk_1 : ¬ iv2 < iv1) (pk_2 : ¬ iv1 < iv0) :
    o16 l o877 jdk_39_method_15_code 3 none ws ⟨0, 0, 0, 0⟩ Z h0 #[.int iv0, .int iv1, .int iv2] (fun v h L => v = none ∧ Fr n0 L ∧ h = h0) := by
  refine o15 (plainFor_of_name o650) ?_
  intro p e s m below meth c s₁ hx hby hml hown hnm hret hlk hZ e0 X0
  have N0 := Fr.nil n0
  refine o2 (fun u j => castTop (show entryFrame m #[.int iv0, .int iv1, .int iv2] 3 = mkF m 0 #[.val (.int iv0), .val (.int iv1), .val (.int iv2)] [] from rfl) j) ?_
  refine o2 (fun u j => o4 X0.here hx rfl (hb hby o764) rfl (o43 X0.here hx rfl (pc0 := 1) (pc' := 31) rfl (hb hby o765) rfl (o140 pk_0) (by decide) (by decide) (o4 X0.here hx rfl (hb hby o678) rfl (o4 X0.here hx rfl (hb hby o679) rfl (o23 X0.here hx rfl (pc0 := 33) (pc' := 63) rfl (hb hby o680) rfl (o82 pk_1) (by decide) (by decide) (o4 X0.here hx rfl (hb hby o681) rfl j)))))) ?_
  show o17 p e below _ (s₁.setTop (mkF m 64 #[.val (.int iv0), .val (.int iv1), .val (.int iv2)] [.int iv0]))
  refine o2 (fun u j => o4 X0.here hx rfl (hb hby o682) rfl (o23 X0.here hx rfl (pc0 := 65) (pc' := 109) rfl (hb hby o683) rfl (o82 pk_2) (by decide) (by decide) j)) ?_
  exact o48 X0 hx hlk hret (hb hby o657) (by decide) (by decide) (by rw [e0]; exact ⟨rfl, N0, rfl⟩)
abbrev o639 : MethodName := ⟨"java/util/ArrayList", "subListRangeCheck", "(III)V"⟩
theorem o607 : parseMethodDescriptor "(III)V" = some ⟨[.int, .int, .int], none⟩ := by decide +kernel
theorem o334 : decode jdk_38_method_56_code 9 = .ok (.new 276, 3) := by decide +kernel
abbrev o14 : String := "java/util/ArrayList$SubList"
abbrev o47 : String := "Ljava/util/ArrayList;"
theorem o78 : parseFieldDescriptor "Ljava/util/ArrayList;" = some (.object "java/util/ArrayList") := by decide +kernel
abbrev o64 : String := "Ljava/util/ArrayList$SubList;"
theorem o79 : parseFieldDescriptor "Ljava/util/ArrayList$SubList;" = some (.object "java/util/ArrayList$SubList") := by decide +kernel
theorem o269 : decode jdk_38_method_56_code 12 = .ok (.dup, 1) := by decide +kernel
theorem o270 : decode jdk_38_method_56_code 13 = .ok (.aload_n 0, 1) := by decide +kernel
theorem o271 : decode jdk_38_method_56_code 14 = .ok (.iload_n 1, 1) := by decide +kernel
theorem o272 : decode jdk_38_method_56_code 15 = .ok (.iload_n 2, 1) := by decide +kernel
theorem o273 : decode jdk_38_method_56_code 16 = .ok (.invokespecial 278, 3) := by decide +kernel
theorem o335 : decode jdk_130_method_1_code 0 = .ok (.aload_n 0, 1) := by decide +kernel
theorem o336 : decode jdk_130_method_1_code 1 = .ok (.invokespecial 1, 3) := by decide +kernel
theorem o851 : ("offset" : String) ≠ "modCount" := by decide +kernel
def o581 {Z : State} {a0 : Array Value} (hw : o21 a0 Z) := slot_ne (Or.inr (o0 hw 196 rfl)) (Or.inl (o0 hw 190 rfl)) o851 (t := .int) (t' := .int) o18 o18
theorem o852 : ("parent" : String) ≠ "modCount" := by decide +kernel
def o582 {Z : State} {a0 : Array Value} (hw : o21 a0 Z) := slot_ne (Or.inr (o0 hw 194 rfl)) (Or.inl (o0 hw 190 rfl)) o852 (t := (.object "java/util/ArrayList$SubList")) (t' := .int) o79 o18
theorem o853 : ("root" : String) ≠ "modCount" := by decide +kernel
def o583 {Z : State} {a0 : Array Value} (hw : o21 a0 Z) := slot_ne (Or.inr (o0 hw 192 rfl)) (Or.inl (o0 hw 190 rfl)) o853 (t := (.object "java/util/ArrayList")) (t' := .int) o78 o18
def o584 {Z : State} {a0 : Array Value} (hw : o21 a0 Z) := slot_ne (Or.inl (o0 hw 198 rfl)) (Or.inl (o0 hw 190 rfl)) o804 (t := .int) (t' := .int) o18 o18
theorem o828 (l : Launch) (Z : State) (a0 : Array Value) (hw : o21 a0 Z) (ws : List Jvm.Cond) (wcs : Int32) (wd mOA mSL mAL : Addr) (kd : ClassId) (hS : o22 Z wcs wd mOA mSL mAL kd) (ad0 : Addr) (iv1 : Int32) (h0 : Heap) (n0 : Nat) (O0 : Old Z n0 h0) (pe1 : Exa Z h0 ad0 o14) (pf2 : Fld Z h0 ad0 o8 o9 "I" (.int iv1)) (pf3 : Fld Z h0 ad0 o14 "offset" "I" (.int 0)) (pf4 : Fld Z h0 ad0 o14 "parent" o64 .null) (pf5 : Fld Z h0 ad0 o14 "root" o47 .null) (pf6 : Fld Z h0 ad0 o14 "size" "I" (.int 0)) (pg_ad0 : n0 ≤ ad0) :
    o16 l o199 jdk_39_method_1_code 1 none ws ⟨2, 0, 0, 24⟩ Z h0 #[.ref ad0] (fun v h L => v = none ∧ Fr n0 L ∧ Keep h0 h [ad0] ∧ Exa Z h ad0 o14 ∧ Fld Z h ad0 o8 o9 "I" (.int 0) ∧ Fld Z h ad0 o14 "offset" "I" (.int 0) ∧ Fld Z h ad0 o14 "parent" o64 .null ∧ Fld Z h ad0 o14 "root" o47 .null ∧ Fld Z h ad0 o14 "size" "I" (.int 0)) := by
  refine o15 (plainFor_of_name o650) ?_
  intro p e s m below meth c s₁ hx hby hml hown hnm hret hlk hZ e0 X0
  have N0 := Fr.nil n0
  refine o2 (fun u j => castTop (show entryFrame m #[.ref ad0] 1 = mkF m 0 #[.val (.ref ad0)] [] from rfl) j) ?_
  refine o2 (fun u j => o1 X0.here hx rfl (hb hby o631) rfl rfl j) ?_
  refine o11 (o50 X0 hx hZ (y := o673) rfl hown (o0 hw 50 rfl) (o0 hw 51 rfl) (o0 hw 54 rfl) (o0 hw 55 rfl) o803 (o907 l Z a0 hw [] wcs wd mOA mSL mAL kd hS ad0 h0 n0 O0 ) e0 o59 (a := ad0) (argsL := []) (rest := []) rfl rfl (g := (mkF m 1 #[.val (.ref ad0)] [.ref ad0])) rfl (by rw [hml]; rfl) rfl (hb hby o632) (W := 0) rfl (by decide) (by decide) (by decide) (by decide)) ?_
  intro T774 v774 L774 X774 hQ774
  obtain ⟨rfl, M774, e774⟩ := hQ774
  have N774 := Fr.app N0 M774
  refine o2 (fun u j => o1 X774.here hx rfl (hb hby o633) rfl rfl (o5 X774.here hx rfl (hb hby o634) j)) ?_
  refine o32 (putF X774 hx hZ hown (host := "") (Or.inl (o0 hw 57 rfl)) Via.refl e774 pf2 pe1 (Or.inl (o0 hw 190 rfl)) (o0 hw 181 rfl) (ty := .int) o18 rfl rfl rfl rfl (hb hby o635)) ?_
  intro T775 h775 X775 e775 W775
  have N775 := Fr.snoc X775 N774 pg_ad0
  have F776 : Fld Z h775 ad0 o8 o9 "I" (.int 0) := Fld.same W775 pf2
  have K777 := (Keep.refl h0 [ad0]).wr W775 (Or.inl (List.mem_of_getElem? (i := 0) rfl))
  have F778 := (Exa.wr W775 pe1)
  have F779 := (Fld.other W775 pf3 (Or.inr (o581 hw)))
  have F780 := (Fld.other W775 pf4 (Or.inr (o582 hw)))
  have F781 := (Fld.other W775 pf5 (Or.inr (o583 hw)))
  have F782 := (Fld.other W775 pf6 (Or.inr (o584 hw)))
  exact o48 X775 hx hlk hret (hb hby o636) (by decide) (by decide) (by rw [e775]; exact ⟨rfl, N775, K777, F778, F776, F779, F780, F781, F782⟩)
theorem o337 : decode jdk_130_method_1_code 4 = .ok (.aload_n 0, 1) := by decide +kernel
theorem o338 : decode jdk_130_method_1_code 5 = .ok (.aload_n 1, 1) := by decide +kernel
theorem o339 : decode jdk_130_method_1_code 6 = .ok (.putfield 7, 3) := by decide +kernel
theorem o340 : decode jdk_130_method_1_code 9 = .ok (.aload_n 0, 1) := by decide +kernel
theorem o274 : decode jdk_130_method_1_code 10 = .ok (.aconst_null, 1) := by decide +kernel
theorem o275 : decode jdk_130_method_1_code 11 = .ok (.putfield 13, 3) := by decide +kernel
theorem o854 : ("parent" : String) ≠ "root" := by decide +kernel
def o608 {Z : State} {a0 : Array Value} (hw : o21 a0 Z) := slot_ne (Or.inr (o0 hw 194 rfl)) (Or.inr (o0 hw 192 rfl)) o854 (t := (.object "java/util/ArrayList$SubList")) (t' := (.object "java/util/ArrayList")) o79 o78
theorem o276 : decode jdk_130_method_1_code 14 = .ok (.aload_n 0, 1) := by decide +kernel
theorem o277 : decode jdk_130_method_1_code 15 = .ok (.iload_n 2, 1) := by decide +kernel
theorem o278 : decode jdk_130_method_1_code 16 = .ok (.putfield 17, 3) := by decide +kernel
theorem o855 : ("offset" : String) ≠ "root" := by decide +kernel
def o609 {Z : State} {a0 : Array Value} (hw : o21 a0 Z) := slot_ne (Or.inr (o0 hw 196 rfl)) (Or.inr (o0 hw 192 rfl)) o855 (t := .int) (t' := (.object "java/util/ArrayList")) o18 o78
theorem o856 : ("offset" : String) ≠ "parent" := by decide +kernel
def o610 {Z : State} {a0 : Array Value} (hw : o21 a0 Z) := slot_ne (Or.inr (o0 hw 196 rfl)) (Or.inr (o0 hw 194 rfl)) o856 (t := .int) (t' := (.object "java/util/ArrayList$SubList")) o18 o79
theorem o279 : decode jdk_130_method_1_code 19 = .ok (.aload_n 0, 1) := by decide +kernel
theorem o280 : decode jdk_130_method_1_code 20 = .ok (.iload_n 3, 1) := by decide +kernel
theorem o281 : decode jdk_130_method_1_code 21 = .ok (.iload_n 2, 1) := by decide +kernel
theorem o282 : decode jdk_130_method_1_code 22 = .ok (.isub, 1) := by decide +kernel
theorem o283 : decode jdk_130_method_1_code 23 = .ok (.putfield 21, 3) := by decide +kernel
theorem o857 : ("size" : String) ≠ "root" := by decide +kernel
def o611 {Z : State} {a0 : Array Value} (hw : o21 a0 Z) := slot_ne (Or.inl (o0 hw 198 rfl)) (Or.inr (o0 hw 192 rfl)) o857 (t := .int) (t' := (.object "java/util/ArrayList")) o18 o78
theorem o858 : ("size" : String) ≠ "parent" := by decide +kernel
def o612 {Z : State} {a0 : Array Value} (hw : o21 a0 Z) := slot_ne (Or.inl (o0 hw 198 rfl)) (Or.inr (o0 hw 194 rfl)) o858 (t := .int) (t' := (.object "java/util/ArrayList$SubList")) o18 o79
theorem o859 : ("size" : String) ≠ "offset" := by decide +kernel
def o613 {Z : State} {a0 : Array Value} (hw : o21 a0 Z) := slot_ne (Or.inl (o0 hw 198 rfl)) (Or.inr (o0 hw 196 rfl)) o859 (t := .int) (t' := .int) o18 o18
theorem o284 : decode jdk_130_method_1_code 26 = .ok (.aload_n 0, 1) := by decide +kernel
theorem o285 : decode jdk_130_method_1_code 27 = .ok (.aload_n 1, 1) := by decide +kernel
theorem o286 : decode jdk_130_method_1_code 28 = .ok (.getfield 24, 3) := by decide +kernel
theorem o614 : ("java/util/ArrayList" : String) ≠ "java/util/ArrayList$SubList" := by decide +kernel
theorem o287 : decode jdk_130_method_1_code 31 = .ok (.putfield 29, 3) := by decide +kernel
theorem o860 : ("modCount" : String) ≠ "root" := by decide +kernel
def o615 {Z : State} {a0 : Array Value} (hw : o21 a0 Z) := slot_ne (Or.inl (o0 hw 190 rfl)) (Or.inr (o0 hw 192 rfl)) o860 (t := .int) (t' := (.object "java/util/ArrayList")) o18 o78
theorem o861 : ("modCount" : String) ≠ "parent" := by decide +kernel
def o616 {Z : State} {a0 : Array Value} (hw : o21 a0 Z) := slot_ne (Or.inl (o0 hw 190 rfl)) (Or.inr (o0 hw 194 rfl)) o861 (t := .int) (t' := (.object "java/util/ArrayList$SubList")) o18 o79
theorem o862 : ("modCount" : String) ≠ "offset" := by decide +kernel
def o617 {Z : State} {a0 : Array Value} (hw : o21 a0 Z) := slot_ne (Or.inl (o0 hw 190 rfl)) (Or.inr (o0 hw 196 rfl)) o862 (t := .int) (t' := .int) o18 o18
def o618 {Z : State} {a0 : Array Value} (hw : o21 a0 Z) := slot_ne (Or.inl (o0 hw 190 rfl)) (Or.inl (o0 hw 198 rfl)) o805 (t := .int) (t' := .int) o18 o18
theorem o288 : decode jdk_130_method_1_code 34 = .ok (.return_, 1) := by decide +kernel
theorem o863 : ("offset" : String) ≠ "size" := by decide +kernel
def o619 {Z : State} {a0 : Array Value} (hw : o21 a0 Z) := slot_ne (Or.inr (o0 hw 196 rfl)) (Or.inl (o0 hw 198 rfl)) o863 (t := .int) (t' := .int) o18 o18
theorem o864 : ("parent" : String) ≠ "offset" := by decide +kernel
def o620 {Z : State} {a0 : Array Value} (hw : o21 a0 Z) := slot_ne (Or.inr (o0 hw 194 rfl)) (Or.inr (o0 hw 196 rfl)) o864 (t := (.object "java/util/ArrayList$SubList")) (t' := .int) o79 o18
theorem o865 : ("parent" : String) ≠ "size" := by decide +kernel
def o621 {Z : State} {a0 : Array Value} (hw : o21 a0 Z) := slot_ne (Or.inr (o0 hw 194 rfl)) (Or.inl (o0 hw 198 rfl)) o865 (t := (.object "java/util/ArrayList$SubList")) (t' := .int) o79 o18
theorem o866 : ("root" : String) ≠ "parent" := by decide +kernel
def o622 {Z : State} {a0 : Array Value} (hw : o21 a0 Z) := slot_ne (Or.inr (o0 hw 192 rfl)) (Or.inr (o0 hw 194 rfl)) o866 (t := (.object "java/util/ArrayList")) (t' := (.object "java/util/ArrayList$SubList")) o78 o79
theorem o867 : ("root" : String) ≠ "offset" := by decide +kernel
def o623 {Z : State} {a0 : Array Value} (hw : o21 a0 Z) := slot_ne (Or.inr (o0 hw 192 rfl)) (Or.inr (o0 hw 196 rfl)) o867 (t := (.object "java/util/ArrayList")) (t' := .int) o78 o18
theorem o868 : ("root" : String) ≠ "size" := by decide +kernel
def o624 {Z : State} {a0 : Array Value} (hw : o21 a0 Z) := slot_ne (Or.inr (o0 hw 192 rfl)) (Or.inl (o0 hw 198 rfl)) o868 (t := (.object "java/util/ArrayList")) (t' := .int) o78 o18
abbrev o369 : MethodName := ⟨"java/util/ArrayList$SubList", "<init>", "(Ljava/util/ArrayList;II)V"⟩
theorem o205 : plainName "java/util/ArrayList$SubList" = true := by first | (simp [plainName, overriddenIn]; done) | decide +kernel
theorem o936 (l : Launch) (Z : State) (a0 : Array Value) (hw : o21 a0 Z) (ws : List Jvm.Cond) (wcs : Int32) (wd mOA mSL mAL : Addr) (kd : ClassId) (hS : o22 Z wcs wd mOA mSL mAL kd) (ad0 ad1 : Addr) (iv2 iv3 : Int32) (h0 : Heap) (n0 : Nat) (O0 : Old Z n0 h0) (pe1 : Exa Z h0 ad0 o14) (pf2 : Fld Z h0 ad0 o8 o9 "I" (.int iv2)) (pf3 : Fld Z h0 ad0 o14 "offset" "I" (.int 0)) (pf4 : Fld Z h0 ad0 o14 "parent" o64 .null) (pf5 : Fld Z h0 ad0 o14 "root" o47 .null) (pf6 : Fld Z h0 ad0 o14 "size" "I" (.int 0)) (pe7 : Exa Z h0 ad1 o3) (pf8 : Fld Z h0 ad1 o8 o9 "I" (.int iv3)) (pg_ad0 : n0 ≤ ad0) :
    o16 l o369 jdk_130_method_1_code 4 none ws ⟨3, 0, 0, 36⟩ Z h0 #[.ref ad0, .ref ad1, .int 0, .int 1] (fun v h L => v = none ∧ Fr n0 L ∧ Keep h0 h [ad0] ∧ Exa Z h ad0 o14 ∧ Fld Z h ad0 o8 o9 "I" (.int iv3) ∧ Fld Z h ad0 o14 "offset" "I" (.int 0) ∧ Fld Z h ad0 o14 "parent" o64 .null ∧ Fld Z h ad0 o14 "root" o47 (.ref ad1) ∧ Fld Z h ad0 o14 "size" "I" (.int 1)) := by
  refine o15 (plainFor_of_name o205) ?_
  intro p e s m below meth c s₁ hx hby hml hown hnm hret hlk hZ e0 X0
  have N0 := Fr.nil n0
  refine o2 (fun u j => castTop (show entryFrame m #[.ref ad0, .ref ad1, .int 0, .int 1] 4 = mkF m 0 #[.val (.ref ad0), .val (.ref ad1), .val (.int 0), .val (.int 1)] [] from rfl) j) ?_
  refine o2 (fun u j => o1 X0.here hx rfl (hb hby o335) rfl rfl j) ?_
  refine o11 (o50 X0 hx hZ (y := o199) rfl hown (o0 hw 187 rfl) (o0 hw 45 rfl) (o0 hw 48 rfl) (o0 hw 49 rfl) o141 (o828 l Z a0 hw [] wcs wd mOA mSL mAL kd hS ad0 iv2 h0 n0 O0 pe1 pf2 pf3 pf4 pf5 pf6 pg_ad0) e0 o59 (a := ad0) (argsL := []) (rest := []) rfl rfl (g := (mkF m 1 #[.val (.ref ad0), .val (.ref ad1), .val (.int 0), .val (.int 1)] [.ref ad0])) rfl (by rw [hml]; rfl) rfl (hb hby o336) (W := 0) rfl (by decide) (by decide) (by decide) (by decide)) ?_
  intro T811 v811 L811 X811 hQ811
  obtain ⟨rfl, M811, K811, F812, F813, F814, F815, F816, F817⟩ := hQ811
  have N811 := Fr.app N0 M811
  refine o2 (fun u j => o1 X811.here hx rfl (hb hby o337) rfl rfl (o1 X811.here hx rfl (hb hby o338) rfl rfl j)) ?_
  refine o32 (putF X811 hx hZ hown (host := "") (Or.inl (o0 hw 191 rfl)) Via.refl rfl F816 F812 (Or.inr ⟨(o0 hw 192 rfl), rfl, hnm⟩) (o0 hw 181 rfl) (ty := (.object "java/util/ArrayList")) o78 rfl rfl rfl rfl (hb hby o339)) ?_
  intro T818 h818 X818 e818 W818
  have N818 := Fr.snoc X818 N811 pg_ad0
  have F819 : Fld Z h818 ad0 o14 "root" o47 (.ref ad1) := Fld.same W818 F816
  refine o2 (fun u j => o1 X818.here hx rfl (hb hby o340) rfl rfl (o49 X818.here hx rfl (hb hby o274) j)) ?_
  have F820 := (Exa.wr W818 F812)
  have F821 := (Fld.other W818 F815 (Or.inr (o608 hw)))
  refine o32 (putF X818 hx hZ hown (host := "") (Or.inl (o0 hw 193 rfl)) Via.refl e818 F821 F820 (Or.inr ⟨(o0 hw 194 rfl), rfl, hnm⟩) (o0 hw 181 rfl) (ty := (.object "java/util/ArrayList$SubList")) o79 rfl rfl rfl rfl (hb hby o275)) ?_
  intro T822 h822 X822 e822 W822
  have N822 := Fr.snoc X822 N818 pg_ad0
  have F823 : Fld Z h822 ad0 o14 "parent" o64 .null := Fld.same W822 F821
  refine o2 (fun u j => o1 X822.here hx rfl (hb hby o276) rfl rfl (o4 X822.here hx rfl (hb hby o277) rfl j)) ?_
  have F824 := (Exa.wr W822 F820)
  have F825 := (Fld.other W822 (Fld.other W818 F814 (Or.inr (o609 hw))) (Or.inr (o610 hw)))
  refine o32 (putF X822 hx hZ hown (host := "") (Or.inl (o0 hw 195 rfl)) Via.refl e822 F825 F824 (Or.inr ⟨(o0 hw 196 rfl), rfl, hnm⟩) (o0 hw 181 rfl) (ty := .int) o18 rfl rfl rfl rfl (hb hby o278)) ?_
  intro T826 h826 X826 e826 W826
  have N826 := Fr.snoc X826 N822 pg_ad0
  have F827 : Fld Z h826 ad0 o14 "offset" "I" (.int 0) := Fld.same W826 F825
  refine o2 (fun u j => o1 X826.here hx rfl (hb hby o279) rfl rfl (o4 X826.here hx rfl (hb hby o280) rfl (o4 X826.here hx rfl (hb hby o281) rfl (o38 X826.here hx rfl (hb hby o282) rfl j)))) ?_
  have F828 := (Exa.wr W826 F824)
  have F829 := (Fld.other W826 (Fld.other W822 (Fld.other W818 F817 (Or.inr (o611 hw))) (Or.inr (o612 hw))) (Or.inr (o613 hw)))
  refine o32 (putF X826 hx hZ hown (host := "") (Or.inl (o0 hw 197 rfl)) Via.refl e826 F829 F828 (Or.inl (o0 hw 198 rfl)) (o0 hw 181 rfl) (ty := .int) o18 rfl rfl rfl rfl (hb hby o283)) ?_
  intro T830 h830 X830 e830 W830
  have N830 := Fr.snoc X830 N826 pg_ad0
  have F831 : Fld Z h830 ad0 o14 "size" "I" (.int 1) := Fld.same W830 F829
  refine o2 (fun u j => o1 X830.here hx rfl (hb hby o284) rfl rfl (o1 X830.here hx rfl (hb hby o285) rfl rfl j)) ?_
  have ne832 := (ne_exa pe7 pe1 o614)
  have F833 := (Fld.other W830 (Fld.other W826 (Fld.other W822 (Fld.other W818 (pf8.keep K811 (ninS ne832 nin0)) (Or.inl ne832)) (Or.inl ne832)) (Or.inl ne832)) (Or.inl ne832))
  refine o19 (getF X830 hx hZ hown (host := "") (Or.inl (o0 hw 199 rfl)) (Via.of (o0 hw 99 rfl)) e830 F833 rfl rfl (hb hby o286)) ?_
  intro T834 X834 e834
  have F835 := (Exa.wr W830 F828)
  have F836 := (Fld.other W830 (Fld.other W826 (Fld.other W822 (Fld.other W818 F813 (Or.inr (o615 hw))) (Or.inr (o616 hw))) (Or.inr (o617 hw))) (Or.inr (o618 hw)))
  refine o32 (putF X834 hx hZ hown (host := "") (Or.inl (o0 hw 200 rfl)) (Via.of (o0 hw 201 rfl)) e834 F836 F835 (Or.inl (o0 hw 190 rfl)) (o0 hw 181 rfl) (ty := .int) o18 rfl rfl rfl rfl (hb hby o287)) ?_
  intro T837 h837 X837 e837 W837
  have N837 := Fr.snoc X837 N830 pg_ad0
  have F838 : Fld Z h837 ad0 o8 o9 "I" (.int iv3) := Fld.same W837 F836
  have K839 := (Keep.refl h0 [ad0]).trans K811 (allS (Or.inl (List.mem_of_getElem? (i := 0) rfl)) all0)
  have K840 := K839.wr W818 (Or.inl (List.mem_of_getElem? (i := 0) rfl))
  have K841 := K840.wr W822 (Or.inl (List.mem_of_getElem? (i := 0) rfl))
  have K842 := K841.wr W826 (Or.inl (List.mem_of_getElem? (i := 0) rfl))
  have K843 := K842.wr W830 (Or.inl (List.mem_of_getElem? (i := 0) rfl))
  have K844 := K843.wr W837 (Or.inl (List.mem_of_getElem? (i := 0) rfl))
  have F845 := (Exa.wr W837 F835)
  have F846 := (Fld.other W837 (Fld.other W830 F827 (Or.inr (o619 hw))) (Or.inr (o581 hw)))
  have F847 := (Fld.other W837 (Fld.other W830 (Fld.other W826 F823 (Or.inr (o620 hw))) (Or.inr (o621 hw))) (Or.inr (o582 hw)))
  have F848 := (Fld.other W837 (Fld.other W830 (Fld.other W826 (Fld.other W822 F819 (Or.inr (o622 hw))) (Or.inr (o623 hw))) (Or.inr (o624 hw))) (Or.inr (o583 hw)))
  have F849 := (Fld.other W837 F831 (Or.inr (o584 hw)))
  exact o48 X837 hx hlk hret (hb hby o288) (by decide) (by decide) (by rw [e837]; exact ⟨rfl, N837, K844, F845, F838, F846, F847, F848, F849⟩)
theorem o289 : ("java/util/ArrayList$SubList" : String) ≠ "java/lang/invoke/MethodHandle" ∧ ("java/util/ArrayList$SubList" : String) ≠ "java/lang/invoke/VarHandle" := by decide +kernel
theorem o625 : parseMethodDescriptor "(Ljava/util/ArrayList;II)V" = some ⟨[(.object "java/util/ArrayList"), .int, .int], none⟩ := by decide +kernel
theorem o290 : decode jdk_38_method_56_code 19 = .ok (.areturn, 1) := by decide +kernel
abbrev o370 : MethodName := ⟨"java/util/ArrayList", "subList", "(II)Ljava/util/List;"⟩
theorem o937 (l : Launch) (Z : State) (a0 : Array Value) (hw : o21 a0 Z) (ws : List Jvm.Cond) (wcs : Int32) (wd mOA mSL mAL : Addr) (kd : ClassId) (hS : o22 Z wcs wd mOA mSL mAL kd) (ad0 : Addr) (iv1 : Int32) (h0 : Heap) (n0 : Nat) (O0 : Old Z n0 h0) (pe1 : Exa Z h0 ad0 o3) (pf2 : Fld Z h0 ad0 o8 o9 "I" (.int iv1)) (pf4 : Fld Z h0 ad0 o3 "size" "I" (.int 1)) :
    o16 l o370 jdk_38_method_56_code 3 (some (.object "java/util/List")) ws ⟨4, 1, 5, 52⟩ Z h0 #[.ref ad0, .int 0, .int 1] (fun v h L => ∃ nz0 : Addr, v = some (.ref nz0) ∧ Fr n0 L ∧ Keep h0 h [] ∧ h0.size ≤ nz0 ∧ Exa Z h nz0 o14 ∧ Fld Z h nz0 o8 o9 "I" (.int iv1) ∧ Fld Z h nz0 o14 "offset" "I" (.int 0) ∧ Fld Z h nz0 o14 "parent" o64 .null ∧ Fld Z h nz0 o14 "root" o47 (.ref ad0) ∧ Fld Z h nz0 o14 "size" "I" (.int 1)) := by
  refine o15 (plainFor_of_name o24) ?_
  intro p e s m below meth c s₁ hx hby hml hown hnm hret hlk hZ e0 X0
  have N0 := Fr.nil n0
  refine o2 (fun u j => castTop (show entryFrame m #[.ref ad0, .int 0, .int 1] 3 = mkF m 0 #[.val (.ref ad0), .val (.int 0), .val (.int 1)] [] from rfl) j) ?_
  refine o2 (fun u j => o4 X0.here hx rfl (hb hby o329) rfl (o4 X0.here hx rfl (hb hby o330) rfl (o1 X0.here hx rfl (hb hby o331) rfl rfl j))) ?_
  refine o19 (getF X0 hx hZ hown (host := "") (Or.inl (o0 hw 83 rfl)) Via.refl e0 pf4 rfl rfl (hb hby o332)) ?_
  intro T861 X861 e861
  refine o11 (o603 X861 hx hZ (y := o639) (owner := "java/util/AbstractList") hown (o0 hw 176 rfl) (o0 hw 177 rfl) (o0 hw 178 rfl) (o0 hw 48 rfl) (o0 hw 179 rfl) o141 (o827 l Z a0 hw [] wcs wd mOA mSL mAL kd hS (0 : Int32) (1 : Int32) (1 : Int32) h0 n0 O0 (by decide) (by decide) (by decide)) e861 o607 (argsL := [.int 0, .int 1, .int 1]) (rest := []) rfl rfl (g := (mkF m 6 #[.val (.ref ad0), .val (.int 0), .val (.int 1)] [.int 1, .int 1, .int 0])) rfl (by rw [hml]; rfl) rfl (hb hby o333) (W := 0) rfl (by decide) (by decide) (by decide) (by decide)) ?_
  intro T862 v862 L862 X862 hQ862
  obtain ⟨rfl, M862, e862⟩ := hQ862
  have N862 := Fr.app N0 M862
  have q_ := newO X862 hx hZ hown (o0 hw 180 rfl) (o0 hw 181 rfl) (o0 hw 182 rfl) e862 (g := (mkF m 9 #[.val (.ref ad0), .val (.int 0), .val (.int 1)] [])) rfl (hb hby o334) (by decide) (by decide)
  obtain ⟨T863, h863, X863, e863, E863, A863, D863, U863, st863⟩ := q_
  have q_ : ∃ z, z = h0.size := ⟨_, rfl⟩
  obtain ⟨b863, g863⟩ := q_
  rw [← g863] at A863 D863 U863 st863
  have F863_modCount : Fld Z h863 b863 o8 o9 "I" (.int 0) := D863 (Or.inl (o0 hw 190 rfl)) (ty := .int) o18
  have F863_root : Fld Z h863 b863 o14 "root" o47 .null := D863 (Or.inr (o0 hw 192 rfl)) (ty := (.object "java/util/ArrayList")) o78
  have F863_parent : Fld Z h863 b863 o14 "parent" o64 .null := D863 (Or.inr (o0 hw 194 rfl)) (ty := (.object "java/util/ArrayList$SubList")) o79
  have F863_offset : Fld Z h863 b863 o14 "offset" "I" (.int 0) := D863 (Or.inr (o0 hw 196 rfl)) (ty := .int) o18
  have F863_size : Fld Z h863 b863 o14 "size" "I" (.int 0) := D863 (Or.inl (o0 hw 198 rfl)) (ty := .int) o18
  refine o2 (fun u j => st863 u j) ?_
  refine o2 (fun u j => o40 X863.here hx rfl (hb hby o269) rfl rfl (o1 X863.here hx rfl (hb hby o270) rfl rfl (o4 X863.here hx rfl (hb hby o271) rfl (o4 X863.here hx rfl (hb hby o272) rfl j)))) ?_
  have F864 := (Exa.ext E863 pe1)
  have F865 := (Fld.ext E863 pf2)
  have g866 := Nat.le_trans (o52 O0) (Nat.le_of_eq g863.symm)
  have O868 := O0.ext E863
  refine o11 (o50 X863 hx hZ (y := o369) rfl hown (o0 hw 183 rfl) (o0 hw 184 rfl) (o0 hw 182 rfl) (o0 hw 186 rfl) o289 (o936 l Z a0 hw [] wcs wd mOA mSL mAL kd hS b863 ad0 (0 : Int32) iv1 h863 n0 O868 A863 F863_modCount F863_offset F863_parent F863_root F863_size F864 F865 g866) e863 o625 (a := b863) (argsL := [.ref ad0, .int 0, .int 1]) (rest := [.ref b863]) rfl rfl (g := (mkF m 16 #[.val (.ref ad0), .val (.int 0), .val (.int 1)] [.int 1, .int 0, .ref ad0, .ref b863, .ref b863])) rfl (by rw [hml]; rfl) rfl (hb hby o273) (W := 1) rfl (by decide) (by decide) (by decide) (by decide)) ?_
  intro T867 v867 L867 X867 hQ867
  obtain ⟨rfl, M867, K867, F869, F870, F871, F872, F873, F874⟩ := hQ867
  have N867 := Fr.app N862 M867
  have K875 := (Keep.refl h0 []).ext E863
  have z877 := Nat.le_trans (Nat.le_refl _) (Nat.le_of_eq g863.symm)
  have K876 := K875.trans K867 (allS (Or.inr z877) all0)
  exact o20 X867 hx hlk hret rfl (Or.inr (Or.inr (Or.inr (Or.inr ⟨rfl, rfl, rfl⟩)))) (hb hby o290) (by decide) (by decide) (by exact ⟨b863, rfl, N867, K876, z877, F869, F870, F871, F872, F873, F874⟩)
abbrev o640 : MethodName := ⟨"java/util/List", "subList", "(II)Ljava/util/List;"⟩
theorem o626 : parseMethodDescriptor "(II)Ljava/util/List;" = some ⟨[.int, .int], some (.object "java/util/List")⟩ := by decide +kernel
theorem o291 : decode prog_33_method_4_code 40 = .ok (.invokespecial 47, 3) := by decide +kernel
theorem o391 : decode jdk_38_method_3_code 0 = .ok (.aload_n 0, 1) := by decide +kernel
theorem o392 : decode jdk_38_method_3_code 1 = .ok (.invokespecial 1, 3) := by decide +kernel
theorem o393 : decode jdk_38_method_3_code 4 = .ok (.aload_n 1, 1) := by decide +kernel
theorem o394 : decode jdk_38_method_3_code 5 = .ok (.invokeinterface 42 1, 5) := by decide +kernel
theorem o292 : decode jdk_130_method_16_code 0 = .ok (.aload_n 0, 1) := by decide +kernel
theorem o293 : decode jdk_130_method_16_code 1 = .ok (.invokevirtual 36, 3) := by decide +kernel
theorem o684 : decode jdk_130_method_28_code 0 = .ok (.aload_n 0, 1) := by decide +kernel
theorem o685 : decode jdk_130_method_28_code 1 = .ok (.getfield 7, 3) := by decide +kernel
theorem o686 : decode jdk_130_method_28_code 4 = .ok (.getfield 24, 3) := by decide +kernel
theorem o687 : decode jdk_130_method_28_code 7 = .ok (.aload_n 0, 1) := by decide +kernel
theorem o688 : decode jdk_130_method_28_code 8 = .ok (.getfield 29, 3) := by decide +kernel
theorem o658 : decode jdk_130_method_28_code 11 = .ok (.if_icmp .eq 11, 3) := by decide +kernel
theorem o659 : decode jdk_130_method_28_code 22 = .ok (.return_, 1) := by decide +kernel
abbrev o593 : MethodName := ⟨"java/util/ArrayList$SubList", "checkForComodification", "()V"⟩
theorem o829 (l : Launch) (Z : State) (a0 : Array Value) (hw : o21 a0 Z) (ws : List Jvm.Cond) (wcs : Int32) (wd mOA mSL mAL : Addr) (kd : ClassId) (hS : o22 Z wcs wd mOA mSL mAL kd) (ad0 : Addr) (iv1 : Int32) (ad2 : Addr) (h0 : Heap) (n0 : Nat) (O0 : Old Z n0 h0) (pf2 : Fld Z h0 ad0 o8 o9 "I" (.int iv1)) (pf5 : Fld Z h0 ad0 o14 "root" o47 (.ref ad2)) (pf8 : Fld Z h0 ad2 o8 o9 "I" (.int iv1)) :
    o16 l o593 jdk_130_method_28_code 1 none ws ⟨0, 0, 0, 0⟩ Z h0 #[.ref ad0] (fun v h L => v = none ∧ Fr n0 L ∧ h = h0) := by
  refine o15 (plainFor_of_name o205) ?_
  intro p e s m below meth c s₁ hx hby hml hown hnm hret hlk hZ e0 X0
  have N0 := Fr.nil n0
  refine o2 (fun u j => castTop (show entryFrame m #[.ref ad0] 1 = mkF m 0 #[.val (.ref ad0)] [] from rfl) j) ?_
  refine o2 (fun u j => o1 X0.here hx rfl (hb hby o684) rfl rfl j) ?_
  refine o19 (getF X0 hx hZ hown (host := "") (Or.inl (o0 hw 191 rfl)) Via.refl e0 pf5 rfl rfl (hb hby o685)) ?_
  intro T896 X896 e896
  refine o19 (getF X896 hx hZ hown (host := "") (Or.inl (o0 hw 199 rfl)) (Via.of (o0 hw 99 rfl)) e896 pf8 rfl rfl (hb hby o686)) ?_
  intro T897 X897 e897
  refine o2 (fun u j => o1 X897.here hx rfl (hb hby o687) rfl rfl j) ?_
  refine o19 (getF X897 hx hZ hown (host := "") (Or.inl (o0 hw 200 rfl)) (Via.of (o0 hw 201 rfl)) e897 pf2 rfl rfl (hb hby o688)) ?_
  intro T898 X898 e898
  refine o2 (fun u j => o23 X898.here hx rfl (pc0 := 11) (pc' := 22) rfl (hb hby o658) rfl (XT.ii_eq_t rfl) (by decide) (by decide) j) ?_
  exact o48 X898 hx hlk hret (hb hby o659) (by decide) (by decide) (by rw [e898]; exact ⟨rfl, N0, rfl⟩)
theorem o294 : decode jdk_130_method_16_code 4 = .ok (.aload_n 0, 1) := by decide +kernel
theorem o295 : decode jdk_130_method_16_code 5 = .ok (.getfield 7, 3) := by decide +kernel
theorem o296 : decode jdk_130_method_16_code 8 = .ok (.getfield 43, 3) := by decide +kernel
theorem o206 : decode jdk_130_method_16_code 11 = .ok (.aload_n 0, 1) := by decide +kernel
theorem o207 : decode jdk_130_method_16_code 12 = .ok (.getfield 17, 3) := by decide +kernel
theorem o208 : decode jdk_130_method_16_code 15 = .ok (.aload_n 0, 1) := by decide +kernel
theorem o209 : decode jdk_130_method_16_code 16 = .ok (.getfield 17, 3) := by decide +kernel
theorem o210 : decode jdk_130_method_16_code 19 = .ok (.aload_n 0, 1) := by decide +kernel
theorem o211 : decode jdk_130_method_16_code 20 = .ok (.getfield 21, 3) := by decide +kernel
theorem o212 : decode jdk_130_method_16_code 23 = .ok (.iadd, 1) := by decide +kernel
theorem o213 : decode jdk_130_method_16_code 24 = .ok (.invokestatic 90, 3) := by decide +kernel
theorem o297 : decode jdk_65_method_129_code 0 = .ok (.aload_n 0, 1) := by decide +kernel
theorem o298 : decode jdk_65_method_129_code 1 = .ok (.iload_n 1, 1) := by decide +kernel
theorem o299 : decode jdk_65_method_129_code 2 = .ok (.iload_n 2, 1) := by decide +kernel
theorem o300 : decode jdk_65_method_129_code 3 = .ok (.aload_n 0, 1) := by decide +kernel
theorem o301 : decode jdk_65_method_129_code 4 = .ok (.invokevirtual 86, 3) := by decide +kernel
theorem o302 : decode jdk_65_method_129_code 7 = .ok (.invokestatic 334, 3) := by decide +kernel
theorem o303 : decode jdk_65_method_130_code 0 = .ok (.iload_n 2, 1) := by decide +kernel
theorem o304 : decode jdk_65_method_130_code 1 = .ok (.iload_n 1, 1) := by decide +kernel
theorem o305 : decode jdk_65_method_130_code 2 = .ok (.isub, 1) := by decide +kernel
theorem o306 : decode jdk_65_method_130_code 3 = .ok (.istore 4, 2) := by decide +kernel
theorem o307 : decode jdk_65_method_130_code 5 = .ok (.iload 4, 2) := by decide +kernel
theorem o308 : decode jdk_65_method_130_code 7 = .ok (.ifCond .ge 35, 3) := by decide +kernel
theorem o214 : decode jdk_65_method_130_code 42 = .ok (.aload_n 3, 1) := by decide +kernel
theorem o215 : decode jdk_65_method_130_code 43 = .ok (.ldc 110, 2) := by decide +kernel
theorem o216 : decode jdk_65_method_130_code 45 = .ok (.if_acmp .ne 11, 3) := by decide +kernel
theorem o217 : decode jdk_65_method_130_code 48 = .ok (.iload 4, 2) := by decide +kernel
theorem o218 : decode jdk_65_method_130_code 50 = .ok (.anewarray 2, 3) := by decide +kernel
theorem o219 : decode jdk_65_method_130_code 53 = .ok (.goto 15, 3) := by decide +kernel
theorem o220 : decode jdk_65_method_130_code 68 = .ok (.astore 5, 2) := by decide +kernel
theorem o221 : decode jdk_65_method_130_code 70 = .ok (.aload_n 0, 1) := by decide +kernel
theorem o222 : decode jdk_65_method_130_code 71 = .ok (.iload_n 1, 1) := by decide +kernel
theorem o223 : decode jdk_65_method_130_code 72 = .ok (.aload 5, 2) := by decide +kernel
theorem o224 : decode jdk_65_method_130_code 74 = .ok (.iconst 0, 1) := by decide +kernel
theorem o225 : decode jdk_65_method_130_code 75 = .ok (.aload_n 0, 1) := by decide +kernel
theorem o226 : decode jdk_65_method_130_code 76 = .ok (.arraylength, 1) := by decide +kernel
theorem o227 : decode jdk_65_method_130_code 77 = .ok (.iload_n 1, 1) := by decide +kernel
theorem o228 : decode jdk_65_method_130_code 78 = .ok (.isub, 1) := by decide +kernel
theorem o229 : decode jdk_65_method_130_code 79 = .ok (.iload 4, 2) := by decide +kernel
theorem o230 : decode jdk_65_method_130_code 81 = .ok (.invokestatic 304, 3) := by decide +kernel
theorem o600 : decode jdk_29_method_69_code 0 = .ok (.iload_n 0, 1) := by decide +kernel
theorem o601 : decode jdk_29_method_69_code 1 = .ok (.iload_n 1, 1) := by decide +kernel
theorem o602 : decode jdk_29_method_69_code 2 = .ok (.if_icmp .gt 7, 3) := by decide +kernel
theorem o766 : decode jdk_29_method_69_code 9 = .ok (.iload_n 1, 1) := by decide +kernel
theorem o594 : decode jdk_29_method_69_code 10 = .ok (.ireturn, 1) := by decide +kernel
abbrev o188 : MethodName := ⟨"java/lang/Math", "min", "(II)I"⟩
theorem o806 : plainFor o188 = true := by decide +kernel
theorem o830 (l : Launch) (Z : State) (a0 : Array Value) (hw : o21 a0 Z) (ws : List Jvm.Cond) (wcs : Int32) (wd mOA mSL mAL : Addr) (kd : ClassId) (hS : o22 Z wcs wd mOA mSL mAL kd) (iv0 iv1 : Int32) (h0 : Heap) (n0 : Nat) (O0 : Old Z n0 h0) (pk_0 : iv1 < iv0) :
    o16 l o188 jdk_29_method_69_code 2 (some .int) ws ⟨0, 0, 0, 0⟩ Z h0 #[.int iv0, .int iv1] (fun v h L => v = some (.int iv1) ∧ Fr n0 L ∧ h = h0) := by
  refine o15 o806 ?_
  intro p e s m below meth c s₁ hx hby hml hown hnm hret hlk hZ e0 X0
  have N0 := Fr.nil n0
  refine o2 (fun u j => castTop (show entryFrame m #[.int iv0, .int iv1] 2 = mkF m 0 #[.val (.int iv0), .val (.int iv1)] [] from rfl) j) ?_
  refine o2 (fun u j => o4 X0.here hx rfl (hb hby o600) rfl (o4 X0.here hx rfl (hb hby o601) rfl (o23 X0.here hx rfl (pc0 := 2) (pc' := 9) rfl (hb hby o602) rfl (XT.ii_gt_t pk_0) (by decide) (by decide) (o4 X0.here hx rfl (hb hby o766) rfl j)))) ?_
  exact o20 X0 hx hlk hret rfl (Or.inl ⟨rfl, by simp, _, rfl⟩) (hb hby o594) (by decide) (by decide) (by rw [e0]; exact ⟨rfl, N0, rfl⟩)
theorem o231 : decode jdk_65_method_130_code 84 = .ok (.invokestatic 150, 3) := by decide +kernel
theorem o232 : decode jdk_65_method_130_code 87 = .ok (.aload 5, 2) := by decide +kernel
theorem o233 : decode jdk_65_method_130_code 89 = .ok (.areturn, 1) := by decide +kernel
abbrev o371 : MethodName := ⟨"java/util/Arrays", "copyOfRange", "([Ljava/lang/Object;IILjava/lang/Class;)[Ljava/lang/Object;"⟩
theorem o72 : plainName "java/util/Arrays" = true := by first | (simp [plainName, overriddenIn]; done) | decide +kernel
theorem o938 (l : Launch) (Z : State) (a0 : Array Value) (hw : o21 a0 Z) (ws : List Jvm.Cond) (wcs : Int32) (wd mOA mSL mAL : Addr) (kd : ClassId) (hS : o22 Z wcs wd mOA mSL mAL kd) (ad0 : Addr) (kc1 : ClassId) (ad2 : Addr) (h0 : Heap) (n0 : Nat) (O0 : Old Z n0 h0) (pa2 : Arv Z h0 ad0 kc1 (.object "java/lang/Object") 10 [.ref ad2, .null, .null, .null, .null, .null, .null, .null, .null, .null] .null) (pe3 : Exa Z h0 ad2 o6) :
    o16 l o371 jdk_65_method_130_code 6 (some (.array (.object "java/lang/Object"))) ws ⟨1, 1, 1, 27⟩ Z h0 #[.ref ad0, .int 0, .int 1, .ref mOA] (fun v h L => ∃ nz0 : Addr, ∃ kz1 : ClassId, v = some (.ref nz0) ∧ Fr n0 L ∧ Keep h0 h [] ∧ h0.size ≤ nz0 ∧ Exa Z h nz0 o7 ∧ Arv Z h nz0 kz1 (.object "java/lang/Object") 1 [.ref ad2] .null ∧ Ovr Z kz1 "java/lang/Object") := by
  refine o15 (plainFor_of_name o72) ?_
  intro p e s m below meth c s₁ hx hby hml hown hnm hret hlk hZ e0 X0
  have N0 := Fr.nil n0
  refine o2 (fun u j => castTop (show entryFrame m #[.ref ad0, .int 0, .int 1, .ref mOA] 6 = mkF m 0 #[.val (.ref ad0), .val (.int 0), .val (.int 1), .val (.ref mOA), .unset, .unset] [] from rfl) j) ?_
  refine o2 (fun u j => o4 X0.here hx rfl (hb hby o303) rfl (o4 X0.here hx rfl (hb hby o304) rfl (o38 X0.here hx rfl (hb hby o305) rfl (o30 X0.here hx rfl (hb hby o306) rfl (l' := #[.val (.ref ad0), .val (.int 0), .val (.int 1), .val (.ref mOA), .val (.int 1), .unset]) rfl (o10 X0.here hx rfl (hb hby o307) rfl (o43 X0.here hx rfl (pc0 := 7) (pc' := 42) rfl (hb hby o308) rfl (o140 (by decide)) (by decide) (by decide) j)))))) ?_
  show o17 p e below _ (s₁.setTop (mkF m 42 #[.val (.ref ad0), .val (.int 0), .val (.int 1), .val (.ref mOA), .val (.int 1), .unset] []))
  refine o2 (fun u j => o1 X0.here hx rfl (hb hby o214) rfl rfl j) ?_
  have q_ := o114 X0 hx hZ hown (o0 hw 233 rfl) e0 hS.2.2.2.2.2.1 (g := (mkF m 43 #[.val (.ref ad0), .val (.int 0), .val (.int 1), .val (.ref mOA), .val (.int 1), .unset] [.ref mOA])) rfl (hb hby o215)
  obtain ⟨T917, X917, e917, st917⟩ := q_
  refine o2 (fun u j => st917 u j) ?_
  refine o2 (fun u j => o97 X917.here hx rfl (hb hby o216) rfl rfl rfl (o84 rfl) (o10 X917.here hx rfl (hb hby o217) rfl j)) ?_
  have q_ := newRE X917 hx hZ hown (show (Cond.classLink "java/util/Arrays" 2 "java/lang/Object").before a0 Z = true from (o0 hw 234 rfl)) (show (Cond.arrayOver (.object "java/lang/Object")).before a0 Z = true from (o0 hw 120 rfl)) e917 (g := (mkF m 50 #[.val (.ref ad0), .val (.int 0), .val (.int 1), .val (.ref mOA), .val (.int 1), .unset] [.int 1])) rfl (hb hby o218) rfl (by decide) (cap := 1) (by decide) (by decide) (by decide) (by decide) (ad := "[Ljava/lang/Object;") o198
  obtain ⟨T918, h918, k918, X918, e918, E918, A918, Y918, O918, st918⟩ := q_
  have q_ : ∃ z, z = h0.size := ⟨_, rfl⟩
  obtain ⟨b918, g918⟩ := q_
  rw [← g918] at A918 Y918 st918
  have V918 : Arv Z h918 b918 k918 (.object "java/lang/Object") 1 [.null] .null := (Arv.new A918 (by decide)).pad (pad_rep [] .null 1)
  refine o2 (fun u j => st918 u j) ?_
  refine o2 (fun u j => o35 X918.here hx rfl (pc0 := 53) (pc' := 68) rfl (hb hby o219) (by decide) (by decide) (o37 X918.here hx rfl (hb hby o220) rfl rfl (l' := #[.val (.ref ad0), .val (.int 0), .val (.int 1), .val (.ref mOA), .val (.int 1), .val (.ref b918)]) rfl (o1 X918.here hx rfl (hb hby o221) rfl rfl (o4 X918.here hx rfl (hb hby o222) rfl (o12 X918.here hx rfl (hb hby o223) rfl rfl (o5 X918.here hx rfl (hb hby o224) j)))))) ?_
  show o17 p e below _ (T918.setTop (mkF m 75 #[.val (.ref ad0), .val (.int 0), .val (.int 1), .val (.ref mOA), .val (.int 1), .val (.ref b918)] [.int 0, .ref b918, .int 0, .ref ad0]))
  refine o2 (fun u j => o1 X918.here hx rfl (hb hby o225) rfl rfl j) ?_
  have F919 := (pa2.ext E918)
  refine o2 (fun u j => o65 X918 hx hZ e918 F919 rfl rfl (hb hby o226) (o4 X918.here hx rfl (hb hby o227) rfl (o38 X918.here hx rfl (hb hby o228) rfl (o10 X918.here hx rfl (hb hby o229) rfl j)))) ?_
  have O922 := O0.ext E918
  refine o11 (o25 X918 hx hZ (y := o188) hown (o0 hw 235 rfl) (o0 hw 236 rfl) (o0 hw 117 rfl) (o0 hw 237 rfl) o115 (o830 l Z a0 hw [] wcs wd mOA mSL mAL kd hS (10 : Int32) (1 : Int32) h918 n0 O922 (by decide)) e918 o67 (argsL := [.int 10, .int 1]) (rest := [.int 0, .ref b918, .int 0, .ref ad0]) rfl rfl (g := (mkF m 81 #[.val (.ref ad0), .val (.int 0), .val (.int 1), .val (.ref mOA), .val (.int 1), .val (.ref b918)] [.int 1, .int 10, .int 0, .ref b918, .int 0, .ref ad0])) rfl (by rw [hml]; rfl) rfl (hb hby o230) (W := 4) rfl (by decide) (by decide) (by decide) (by decide)) ?_
  intro T921 v921 L921 X921 hQ921
  obtain ⟨rfl, M921, e921⟩ := hQ921
  have N921 := Fr.app N0 M921
  have q_ := id V918
  obtain ⟨cl924, Ar924, q924, S924, N924, H924, G924⟩ := q_
  have F925 := (Exa.ext E918 pe3)
  have g926 := Nat.le_trans (o52 O0) (Nat.le_of_eq g918.symm)
  have q_ := cpA X921 hx hZ hown (o0 hw 238 rfl) (o0 hw 241 rfl) (o0 hw 239 rfl) (o0 hw 240 rfl) e921 F919 V918 (us := [.ref ad2]) (Or.inr ⟨rfl, rfl, ⟨Sto.ofV Ar924 q924 O918 (Ins.of_exa F925 (o0 hw 121 rfl)), trivial⟩⟩) (by decide) (by decide) (by decide) (by decide) (by decide) rfl (by decide) N921 g926 (g := (mkF m 84 #[.val (.ref ad0), .val (.int 0), .val (.int 1), .val (.ref mOA), .val (.int 1), .val (.ref b918)] [.int 1, .int 0, .ref b918, .int 0, .ref ad0])) rfl (by rw [hml]; rfl) rfl (hb hby o231) (by decide) (W := 0) (by show 2 * 0 + _ ≤ _; exact Nat.le_of_eq rfl) (by decide)
  obtain ⟨T923, h923, L923, X923, e923, N923, K923, V923, st923⟩ := q_
  have V927 : Arv Z h923 b918 k918 (.object "java/lang/Object") 1 [.ref ad2] .null := V923
  refine o2 (fun u j => st923 u j) ?_
  refine o2 (fun u j => o12 X923.here hx rfl (hb hby o232) rfl rfl j) ?_
  have K928 := (Keep.refl h0 []).ext E918
  have z930 := Nat.le_trans (Nat.le_refl _) (Nat.le_of_eq g918.symm)
  have K929 := K928.trans K923 (allS (Or.inr z930) all0)
  have F931 := (Y918.keep K923)
  exact o20 X923 hx hlk hret rfl (Or.inr (Or.inr (Or.inr (Or.inr ⟨rfl, rfl, rfl⟩)))) (hb hby o233) (by decide) (by decide) (by rw [e923]; exact ⟨b918, k918, rfl, N923, K929, z930, F931, V927, O918⟩)
theorem o69 : ("java/util/Arrays" : String) ≠ "java/lang/invoke/MethodHandle" ∧ ("java/util/Arrays" : String) ≠ "java/lang/invoke/VarHandle" := by decide +kernel
theorem o627 : parseMethodDescriptor "([Ljava/lang/Object;IILjava/lang/Class;)[Ljava/lang/Object;" = some ⟨[(.array (.object "java/lang/Object")), .int, .int, (.object "java/lang/Class")], some (.array (.object "java/lang/Object"))⟩ := by decide +kernel
theorem o234 : decode jdk_65_method_129_code 10 = .ok (.areturn, 1) := by decide +kernel
abbrev o372 : MethodName := ⟨"java/util/Arrays", "copyOfRange", "([Ljava/lang/Object;II)[Ljava/lang/Object;"⟩
theorem o939 (l : Launch) (Z : State) (a0 : Array Value) (hw : o21 a0 Z) (ws : List Jvm.Cond) (wcs : Int32) (wd mOA mSL mAL : Addr) (kd : ClassId) (hS : o22 Z wcs wd mOA mSL mAL kd) (ad0 : Addr) (kc1 : ClassId) (ad2 : Addr) (h0 : Heap) (n0 : Nat) (O0 : Old Z n0 h0) (pe1 : Exa Z h0 ad0 o7) (pa2 : Arv Z h0 ad0 kc1 (.object "java/lang/Object") 10 [.ref ad2, .null, .null, .null, .null, .null, .null, .null, .null, .null] .null) (pe3 : Exa Z h0 ad2 o6) :
    o16 l o372 jdk_65_method_129_code 3 (some (.array (.object "java/lang/Object"))) ws ⟨2, 1, 1, 44⟩ Z h0 #[.ref ad0, .int 0, .int 1] (fun v h L => ∃ nz0 : Addr, ∃ kz1 : ClassId, v = some (.ref nz0) ∧ Fr n0 L ∧ Keep h0 h [] ∧ h0.size ≤ nz0 ∧ Exa Z h nz0 o7 ∧ Arv Z h nz0 kz1 (.object "java/lang/Object") 1 [.ref ad2] .null ∧ Ovr Z kz1 "java/lang/Object") := by
  refine o15 (plainFor_of_name o72) ?_
  intro p e s m below meth c s₁ hx hby hml hown hnm hret hlk hZ e0 X0
  have N0 := Fr.nil n0
  refine o2 (fun u j => castTop (show entryFrame m #[.ref ad0, .int 0, .int 1] 3 = mkF m 0 #[.val (.ref ad0), .val (.int 0), .val (.int 1)] [] from rfl) j) ?_
  refine o2 (fun u j => o1 X0.here hx rfl (hb hby o297) rfl rfl (o4 X0.here hx rfl (hb hby o298) rfl (o4 X0.here hx rfl (hb hby o299) rfl (o1 X0.here hx rfl (hb hby o300) rfl rfl j)))) ?_
  have q_ := o564 X0 hx hZ hown (o0 hw 224 rfl) (o0 hw 225 rfl) (o0 hw 227 rfl) (o0 hw 226 rfl) (o0 hw 228 rfl) e0 pe1 hS.2.2.2.2.2.1 (g := (mkF m 4 #[.val (.ref ad0), .val (.int 0), .val (.int 1)] [.ref ad0, .int 1, .int 0, .ref ad0])) rfl (by rw [hml]; rfl) rfl (hb hby o301) (by decide) (W := 3) (by show 2 * 0 + _ ≤ _; exact Nat.le_of_eq rfl) (by decide)
  obtain ⟨T939, X939, e939, st939⟩ := q_
  refine o2 (fun u j => st939 u j) ?_
  refine o11 (o25 X939 hx hZ (y := o371) hown (o0 hw 230 rfl) (o0 hw 231 rfl) (o0 hw 222 rfl) (o0 hw 232 rfl) o69 (o938 l Z a0 hw [] wcs wd mOA mSL mAL kd hS ad0 kc1 ad2 h0 n0 O0 pa2 pe3) e939 o627 (argsL := [.ref ad0, .int 0, .int 1, .ref mOA]) (rest := []) rfl rfl (g := (mkF m 7 #[.val (.ref ad0), .val (.int 0), .val (.int 1)] [.ref mOA, .int 1, .int 0, .ref ad0])) rfl (by rw [hml]; rfl) rfl (hb hby o302) (W := 0) rfl (by decide) (by decide) (by decide) (by decide)) ?_
  intro T940 v940 L940 X940 hQ940
  obtain ⟨nz0_941, kz1_942, rfl, M940, K940, z943, F944, F945, ov0_946⟩ := hQ940
  have N940 := Fr.app N0 M940
  have K947 := (Keep.refl h0 []).trans K940 all0
  have z948 := Nat.le_trans (Nat.le_refl _) z943
  exact o20 X940 hx hlk hret rfl (Or.inr (Or.inr (Or.inr (Or.inr ⟨rfl, rfl, rfl⟩)))) (hb hby o234) (by decide) (by decide) (by exact ⟨nz0_941, kz1_942, rfl, N940, K947, z948, F944, F945, ov0_946⟩)
theorem o628 : parseMethodDescriptor "([Ljava/lang/Object;II)[Ljava/lang/Object;" = some ⟨[(.array (.object "java/lang/Object")), .int, .int], some (.array (.object "java/lang/Object"))⟩ := by decide +kernel
theorem o235 : decode jdk_130_method_16_code 27 = .ok (.areturn, 1) := by decide +kernel
abbrev o373 : MethodName := ⟨"java/util/ArrayList$SubList", "toArray", "()[Ljava/lang/Object;"⟩
theorem o940 (l : Launch) (Z : State) (a0 : Array Value) (hw : o21 a0 Z) (ws : List Jvm.Cond) (wcs : Int32) (wd mOA mSL mAL : Addr) (kd : ClassId) (hS : o22 Z wcs wd mOA mSL mAL kd) (ad0 : Addr) (iv1 : Int32) (ad2 ad3 : Addr) (kc4 : ClassId) (ad5 : Addr) (h0 : Heap) (n0 : Nat) (O0 : Old Z n0 h0) (pe1 : Exa Z h0 ad0 o14) (pf2 : Fld Z h0 ad0 o8 o9 "I" (.int iv1)) (pf3 : Fld Z h0 ad0 o14 "offset" "I" (.int 0)) (pf5 : Fld Z h0 ad0 o14 "root" o47 (.ref ad2)) (pf6 : Fld Z h0 ad0 o14 "size" "I" (.int 1)) (pf8 : Fld Z h0 ad2 o8 o9 "I" (.int iv1)) (pf9 : Fld Z h0 ad2 o3 o13 o7 (.ref ad3)) (pe11 : Exa Z h0 ad3 o7) (pa12 : Arv Z h0 ad3 kc4 (.object "java/lang/Object") 10 [.ref ad5, .null, .null, .null, .null, .null, .null, .null, .null, .null] .null) (pe13 : Exa Z h0 ad5 o6) :
    o16 l o373 jdk_130_method_16_code 1 (some (.array (.object "java/lang/Object"))) ws ⟨3, 1, 1, 58⟩ Z h0 #[.ref ad0] (fun v h L => ∃ nz0 : Addr, ∃ kz1 : ClassId, v = some (.ref nz0) ∧ Fr n0 L ∧ Keep h0 h [] ∧ h0.size ≤ nz0 ∧ Exa Z h nz0 o7 ∧ Arv Z h nz0 kz1 (.object "java/lang/Object") 1 [.ref ad5] .null ∧ Ovr Z kz1 "java/lang/Object") := by
  refine o15 (plainFor_of_name o205) ?_
  intro p e s m below meth c s₁ hx hby hml hown hnm hret hlk hZ e0 X0
  have N0 := Fr.nil n0
  refine o2 (fun u j => castTop (show entryFrame m #[.ref ad0] 1 = mkF m 0 #[.val (.ref ad0)] [] from rfl) j) ?_
  refine o2 (fun u j => o1 X0.here hx rfl (hb hby o292) rfl rfl j) ?_
  refine o11 (o62 X0 hx hZ (y := o593) hown (o0 hw 214 rfl) (o0 hw 215 rfl) (mvT hZ (o0 hw 217 rfl)) (o0 hw 216 rfl) (o0 hw 182 rfl) (o0 hw 218 rfl) o289 (o829 l Z a0 hw [] wcs wd mOA mSL mAL kd hS ad0 iv1 ad2 h0 n0 O0 pf2 pf5 pf8) e0 pe1 o59 (argsL := []) (rest := []) rfl rfl (g := (mkF m 1 #[.val (.ref ad0)] [.ref ad0])) rfl (by rw [hml]; rfl) rfl (hb hby o293) (W := 0) rfl (by decide) (by decide) (by decide) (by decide)) ?_
  intro T956 v956 L956 X956 hQ956
  obtain ⟨rfl, M956, e956⟩ := hQ956
  have N956 := Fr.app N0 M956
  refine o2 (fun u j => o1 X956.here hx rfl (hb hby o294) rfl rfl j) ?_
  refine o19 (getF X956 hx hZ hown (host := "") (Or.inl (o0 hw 191 rfl)) Via.refl e956 pf5 rfl rfl (hb hby o295)) ?_
  intro T957 X957 e957
  refine o19 (getF X957 hx hZ hown (host := "") (Or.inl (o0 hw 219 rfl)) Via.refl e957 pf9 rfl rfl (hb hby o296)) ?_
  intro T958 X958 e958
  refine o2 (fun u j => o1 X958.here hx rfl (hb hby o206) rfl rfl j) ?_
  refine o19 (getF X958 hx hZ hown (host := "") (Or.inl (o0 hw 195 rfl)) Via.refl e958 pf3 rfl rfl (hb hby o207)) ?_
  intro T959 X959 e959
  refine o2 (fun u j => o1 X959.here hx rfl (hb hby o208) rfl rfl j) ?_
  refine o19 (getF X959 hx hZ hown (host := "") (Or.inl (o0 hw 195 rfl)) Via.refl e959 pf3 rfl rfl (hb hby o209)) ?_
  intro T960 X960 e960
  refine o2 (fun u j => o1 X960.here hx rfl (hb hby o210) rfl rfl j) ?_
  refine o19 (getF X960 hx hZ hown (host := "") (Or.inl (o0 hw 197 rfl)) Via.refl e960 pf6 rfl rfl (hb hby o211)) ?_
  intro T961 X961 e961
  refine o2 (fun u j => o36 X961.here hx rfl (hb hby o212) rfl j) ?_
  refine o11 (o25 X961 hx hZ (y := o372) hown (o0 hw 220 rfl) (o0 hw 221 rfl) (o0 hw 222 rfl) (o0 hw 223 rfl) o69 (o939 l Z a0 hw [] wcs wd mOA mSL mAL kd hS ad3 kc4 ad5 h0 n0 O0 pe11 pa12 pe13) e961 o628 (argsL := [.ref ad3, .int 0, .int 1]) (rest := []) rfl rfl (g := (mkF m 24 #[.val (.ref ad0)] [.int 1, .int 0, .ref ad3])) rfl (by rw [hml]; rfl) rfl (hb hby o213) (W := 0) rfl (by decide) (by decide) (by decide) (by decide)) ?_
  intro T962 v962 L962 X962 hQ962
  obtain ⟨nz0_963, kz1_964, rfl, M962, K962, z965, F966, F967, ov0_968⟩ := hQ962
  have N962 := Fr.app N956 M962
  have K969 := (Keep.refl h0 []).trans K962 all0
  have z970 := Nat.le_trans (Nat.le_refl _) z965
  exact o20 X962 hx hlk hret rfl (Or.inr (Or.inr (Or.inr (Or.inr ⟨rfl, rfl, rfl⟩)))) (hb hby o235) (by decide) (by decide) (by exact ⟨nz0_963, kz1_964, rfl, N962, K969, z970, F966, F967, ov0_968⟩)
theorem o309 : ("java/util/ArrayList$SubList" : String) ≠ "java/util/ArrayList" := by decide +kernel
abbrev o641 : MethodName := ⟨"java/util/Collection", "toArray", "()[Ljava/lang/Object;"⟩
theorem o310 : ("java/util/Collection" : String) ≠ "java/lang/invoke/MethodHandle" ∧ ("java/util/Collection" : String) ≠ "java/lang/invoke/VarHandle" := by decide +kernel
theorem o341 : decode jdk_38_method_3_code 10 = .ok (.astore_n 2, 1) := by decide +kernel
theorem o342 : decode jdk_38_method_3_code 11 = .ok (.aload_n 0, 1) := by decide +kernel
theorem o343 : decode jdk_38_method_3_code 12 = .ok (.aload_n 2, 1) := by decide +kernel
theorem o344 : decode jdk_38_method_3_code 13 = .ok (.arraylength, 1) := by decide +kernel
theorem o345 : decode jdk_38_method_3_code 14 = .ok (.dup_x1, 1) := by decide +kernel
theorem o346 : decode jdk_38_method_3_code 15 = .ok (.putfield 48, 3) := by decide +kernel
theorem o347 : decode jdk_38_method_3_code 18 = .ok (.ifCond .eq 39, 3) := by decide +kernel
theorem o348 : decode jdk_38_method_3_code 21 = .ok (.aload_n 1, 1) := by decide +kernel
theorem o349 : decode jdk_38_method_3_code 22 = .ok (.invokeinterface 52 1, 5) := by decide +kernel
abbrev o642 : MethodName := ⟨"java/util/Collection", "getClass", "()Ljava/lang/Class;"⟩
theorem o629 : ("java/util/Collection" : String) ≠ "java/lang/Object" := by decide +kernel
theorem o350 : decode jdk_38_method_3_code 27 = .ok (.ldc 10, 2) := by decide +kernel
theorem o351 : decode jdk_38_method_3_code 29 = .ok (.if_acmp .ne 11, 3) := by decide +kernel
theorem o352 : decode jdk_38_method_3_code 40 = .ok (.aload_n 0, 1) := by decide +kernel
theorem o353 : decode jdk_38_method_3_code 41 = .ok (.aload_n 2, 1) := by decide +kernel
theorem o354 : decode jdk_38_method_3_code 42 = .ok (.aload_n 0, 1) := by decide +kernel
theorem o355 : decode jdk_38_method_3_code 43 = .ok (.getfield 48, 3) := by decide +kernel
theorem o356 : decode jdk_38_method_3_code 46 = .ok (.ldc 56, 2) := by decide +kernel
theorem o357 : decode jdk_38_method_3_code 48 = .ok (.invokestatic 57, 3) := by decide +kernel
theorem o189 : decode jdk_65_method_120_code 0 = .ok (.aload_n 2, 1) := by decide +kernel
theorem o190 : decode jdk_65_method_120_code 1 = .ok (.ldc 110, 2) := by decide +kernel
theorem o191 : decode jdk_65_method_120_code 3 = .ok (.if_acmp .ne 10, 3) := by decide +kernel
theorem o192 : decode jdk_65_method_120_code 6 = .ok (.iload_n 1, 1) := by decide +kernel
theorem o193 : decode jdk_65_method_120_code 7 = .ok (.anewarray 2, 3) := by decide +kernel
theorem o157 : decode jdk_65_method_120_code 10 = .ok (.goto 14, 3) := by decide +kernel
theorem o158 : decode jdk_65_method_120_code 24 = .ok (.astore_n 3, 1) := by decide +kernel
theorem o159 : decode jdk_65_method_120_code 25 = .ok (.aload_n 0, 1) := by decide +kernel
theorem o160 : decode jdk_65_method_120_code 26 = .ok (.iconst 0, 1) := by decide +kernel
theorem o161 : decode jdk_65_method_120_code 27 = .ok (.aload_n 3, 1) := by decide +kernel
theorem o162 : decode jdk_65_method_120_code 28 = .ok (.iconst 0, 1) := by decide +kernel
theorem o163 : decode jdk_65_method_120_code 29 = .ok (.aload_n 0, 1) := by decide +kernel
theorem o164 : decode jdk_65_method_120_code 30 = .ok (.arraylength, 1) := by decide +kernel
theorem o165 : decode jdk_65_method_120_code 31 = .ok (.iload_n 1, 1) := by decide +kernel
theorem o166 : decode jdk_65_method_120_code 32 = .ok (.invokestatic 304, 3) := by decide +kernel
theorem o767 : decode jdk_29_method_69_code 5 = .ok (.iload_n 0, 1) := by decide +kernel
theorem o768 : decode jdk_29_method_69_code 6 = .ok (.goto 4, 3) := by decide +kernel
theorem o714 (l : Launch) (Z : State) (a0 : Array Value) (hw : o21 a0 Z) (ws : List Jvm.Cond) (wcs : Int32) (wd mOA mSL mAL : Addr) (kd : ClassId) (hS : o22 Z wcs wd mOA mSL mAL kd) (iv0 iv1 : Int32) (h0 : Heap) (n0 : Nat) (O0 : Old Z n0 h0) (pk_0 : ¬ iv1 < iv0) :
    o16 l o188 jdk_29_method_69_code 2 (some .int) ws ⟨0, 0, 0, 0⟩ Z h0 #[.int iv0, .int iv1] (fun v h L => v = some (.int iv0) ∧ Fr n0 L ∧ h = h0) := by
  refine o15 o806 ?_
  intro p e s m below meth c s₁ hx hby hml hown hnm hret hlk hZ e0 X0
  have N0 := Fr.nil n0
  refine o2 (fun u j => castTop (show entryFrame m #[.int iv0, .int iv1] 2 = mkF m 0 #[.val (.int iv0), .val (.int iv1)] [] from rfl) j) ?_
  refine o2 (fun u j => o4 X0.here hx rfl (hb hby o600) rfl (o4 X0.here hx rfl (hb hby o601) rfl (o28 X0.here hx rfl (hb hby o602) rfl (XT.ii_gt_f pk_0) (o4 X0.here hx rfl (hb hby o767) rfl (o35 X0.here hx rfl (pc0 := 6) (pc' := 10) rfl (hb hby o768) (by decide) (by decide) j))))) ?_
  exact o20 X0 hx hlk hret rfl (Or.inl ⟨rfl, by simp, _, rfl⟩) (hb hby o594) (by decide) (by decide) (by rw [e0]; exact ⟨rfl, N0, rfl⟩)
theorem o167 : decode jdk_65_method_120_code 35 = .ok (.invokestatic 150, 3) := by decide +kernel
theorem o168 : decode jdk_65_method_120_code 38 = .ok (.aload_n 3, 1) := by decide +kernel
theorem o169 : decode jdk_65_method_120_code 39 = .ok (.areturn, 1) := by decide +kernel
abbrev o194 : MethodName := ⟨"java/util/Arrays", "copyOf", "([Ljava/lang/Object;ILjava/lang/Class;)[Ljava/lang/Object;"⟩
theorem o887 (l : Launch) (Z : State) (a0 : Array Value) (hw : o21 a0 Z) (ws : List Jvm.Cond) (wcs : Int32) (wd mOA mSL mAL : Addr) (kd : ClassId) (hS : o22 Z wcs wd mOA mSL mAL kd) (ad0 : Addr) (kc1 : ClassId) (ad2 : Addr) (h0 : Heap) (n0 : Nat) (O0 : Old Z n0 h0) (pa2 : Arv Z h0 ad0 kc1 (.object "java/lang/Object") 1 [.ref ad2] .null) (pe3 : Exa Z h0 ad2 o6) :
    o16 l o194 jdk_65_method_120_code 4 (some (.array (.object "java/lang/Object"))) ws ⟨1, 1, 1, 27⟩ Z h0 #[.ref ad0, .int 1, .ref mOA] (fun v h L => ∃ nz0 : Addr, ∃ kz1 : ClassId, v = some (.ref nz0) ∧ Fr n0 L ∧ Keep h0 h [] ∧ h0.size ≤ nz0 ∧ Exa Z h nz0 o7 ∧ Arv Z h nz0 kz1 (.object "java/lang/Object") 1 [.ref ad2] .null ∧ Ovr Z kz1 "java/lang/Object") := by
  refine o15 (plainFor_of_name o72) ?_
  intro p e s m below meth c s₁ hx hby hml hown hnm hret hlk hZ e0 X0
  have N0 := Fr.nil n0
  refine o2 (fun u j => castTop (show entryFrame m #[.ref ad0, .int 1, .ref mOA] 4 = mkF m 0 #[.val (.ref ad0), .val (.int 1), .val (.ref mOA), .unset] [] from rfl) j) ?_
  refine o2 (fun u j => o1 X0.here hx rfl (hb hby o189) rfl rfl j) ?_
  have q_ := o114 X0 hx hZ hown (o0 hw 233 rfl) e0 hS.2.2.2.2.2.1 (g := (mkF m 1 #[.val (.ref ad0), .val (.int 1), .val (.ref mOA), .unset] [.ref mOA])) rfl (hb hby o190)
  obtain ⟨T1012, X1012, e1012, st1012⟩ := q_
  refine o2 (fun u j => st1012 u j) ?_
  refine o2 (fun u j => o97 X1012.here hx rfl (hb hby o191) rfl rfl rfl (o84 rfl) (o4 X1012.here hx rfl (hb hby o192) rfl j)) ?_
  have q_ := newRE X1012 hx hZ hown (show (Cond.classLink "java/util/Arrays" 2 "java/lang/Object").before a0 Z = true from (o0 hw 234 rfl)) (show (Cond.arrayOver (.object "java/lang/Object")).before a0 Z = true from (o0 hw 120 rfl)) e1012 (g := (mkF m 7 #[.val (.ref ad0), .val (.int 1), .val (.ref mOA), .unset] [.int 1])) rfl (hb hby o193) rfl (by decide) (cap := 1) (by decide) (by decide) (by decide) (by decide) (ad := "[Ljava/lang/Object;") o198
  obtain ⟨T1013, h1013, k1013, X1013, e1013, E1013, A1013, Y1013, O1013, st1013⟩ := q_
  have q_ : ∃ z, z = h0.size := ⟨_, rfl⟩
  obtain ⟨b1013, g1013⟩ := q_
  rw [← g1013] at A1013 Y1013 st1013
  have V1013 : Arv Z h1013 b1013 k1013 (.object "java/lang/Object") 1 [.null] .null := (Arv.new A1013 (by decide)).pad (pad_rep [] .null 1)
  refine o2 (fun u j => st1013 u j) ?_
  refine o2 (fun u j => o35 X1013.here hx rfl (pc0 := 10) (pc' := 24) rfl (hb hby o157) (by decide) (by decide) (o31 X1013.here hx rfl (hb hby o158) rfl rfl (l' := #[.val (.ref ad0), .val (.int 1), .val (.ref mOA), .val (.ref b1013)]) rfl (o1 X1013.here hx rfl (hb hby o159) rfl rfl (o5 X1013.here hx rfl (hb hby o160) (o1 X1013.here hx rfl (hb hby o161) rfl rfl (o5 X1013.here hx rfl (hb hby o162) j)))))) ?_
  show o17 p e below _ (T1013.setTop (mkF m 29 #[.val (.ref ad0), .val (.int 1), .val (.ref mOA), .val (.ref b1013)] [.int 0, .ref b1013, .int 0, .ref ad0]))
  refine o2 (fun u j => o1 X1013.here hx rfl (hb hby o163) rfl rfl j) ?_
  have F1014 := (pa2.ext E1013)
  refine o2 (fun u j => o65 X1013 hx hZ e1013 F1014 rfl rfl (hb hby o164) (o4 X1013.here hx rfl (hb hby o165) rfl j)) ?_
  have O1017 := O0.ext E1013
  refine o11 (o25 X1013 hx hZ (y := o188) hown (o0 hw 235 rfl) (o0 hw 236 rfl) (o0 hw 117 rfl) (o0 hw 237 rfl) o115 (o714 l Z a0 hw [] wcs wd mOA mSL mAL kd hS (1 : Int32) (1 : Int32) h1013 n0 O1017 (by decide)) e1013 o67 (argsL := [.int 1, .int 1]) (rest := [.int 0, .ref b1013, .int 0, .ref ad0]) rfl rfl (g := (mkF m 32 #[.val (.ref ad0), .val (.int 1), .val (.ref mOA), .val (.ref b1013)] [.int 1, .int 1, .int 0, .ref b1013, .int 0, .ref ad0])) rfl (by rw [hml]; rfl) rfl (hb hby o166) (W := 4) rfl (by decide) (by decide) (by decide) (by decide)) ?_
  intro T1016 v1016 L1016 X1016 hQ1016
  obtain ⟨rfl, M1016, e1016⟩ := hQ1016
  have N1016 := Fr.app N0 M1016
  have q_ := id V1013
  obtain ⟨cl1019, Ar1019, q1019, S1019, N1019, H1019, G1019⟩ := q_
  have F1020 := (Exa.ext E1013 pe3)
  have g1021 := Nat.le_trans (o52 O0) (Nat.le_of_eq g1013.symm)
  have q_ := cpA X1016 hx hZ hown (o0 hw 238 rfl) (o0 hw 241 rfl) (o0 hw 239 rfl) (o0 hw 240 rfl) e1016 F1014 V1013 (us := [.ref ad2]) (Or.inr ⟨rfl, rfl, ⟨Sto.ofV Ar1019 q1019 O1013 (Ins.of_exa F1020 (o0 hw 121 rfl)), trivial⟩⟩) (by decide) (by decide) (by decide) (by decide) (by decide) rfl (by decide) N1016 g1021 (g := (mkF m 35 #[.val (.ref ad0), .val (.int 1), .val (.ref mOA), .val (.ref b1013)] [.int 1, .int 0, .ref b1013, .int 0, .ref ad0])) rfl (by rw [hml]; rfl) rfl (hb hby o167) (by decide) (W := 0) (by show 2 * 0 + _ ≤ _; exact Nat.le_of_eq rfl) (by decide)
  obtain ⟨T1018, h1018, L1018, X1018, e1018, N1018, K1018, V1018, st1018⟩ := q_
  have V1022 : Arv Z h1018 b1013 k1013 (.object "java/lang/Object") 1 [.ref ad2] .null := V1018
  refine o2 (fun u j => st1018 u j) ?_
  refine o2 (fun u j => o1 X1018.here hx rfl (hb hby o168) rfl rfl j) ?_
  have K1023 := (Keep.refl h0 []).ext E1013
  have z1025 := Nat.le_trans (Nat.le_refl _) (Nat.le_of_eq g1013.symm)
  have K1024 := K1023.trans K1018 (allS (Or.inr z1025) all0)
  have F1026 := (Y1013.keep K1018)
  exact o20 X1018 hx hlk hret rfl (Or.inr (Or.inr (Or.inr (Or.inr ⟨rfl, rfl, rfl⟩)))) (hb hby o169) (by decide) (by decide) (by rw [e1018]; exact ⟨b1013, k1013, rfl, N1018, K1024, z1025, F1026, V1022, O1013⟩)
theorem o395 : parseMethodDescriptor "([Ljava/lang/Object;ILjava/lang/Class;)[Ljava/lang/Object;" = some ⟨[(.array (.object "java/lang/Object")), .int, (.object "java/lang/Class")], some (.array (.object "java/lang/Object"))⟩ := by decide +kernel
theorem o358 : decode jdk_38_method_3_code 51 = .ok (.putfield 9, 3) := by decide +kernel
theorem o359 : decode jdk_38_method_3_code 54 = .ok (.goto 10, 3) := by decide +kernel
theorem o360 : decode jdk_38_method_3_code 64 = .ok (.return_, 1) := by decide +kernel
abbrev o374 : MethodName := ⟨"java/util/ArrayList", "<init>", "(Ljava/util/Collection;)V"⟩
theorem o941 (l : Launch) (Z : State) (a0 : Array Value) (hw : o21 a0 Z) (ws : List Jvm.Cond) (wcs : Int32) (wd mOA mSL mAL : Addr) (kd : ClassId) (hS : o22 Z wcs wd mOA mSL mAL kd) (ad0 ad1 : Addr) (iv2 iv3 : Int32) (ad4 ad5 : Addr) (kc6 : ClassId) (ad7 : Addr) (h0 : Heap) (n0 : Nat) (O0 : Old Z n0 h0) (pe1 : Exa Z h0 ad0 o3) (pf2 : Fld Z h0 ad0 o8 o9 "I" (.int iv2)) (pf3 : Fld Z h0 ad0 o3 o13 o7 .null) (pf4 : Fld Z h0 ad0 o3 "size" "I" (.int 0)) (pe5 : Exa Z h0 ad1 o14) (pf6 : Fld Z h0 ad1 o8 o9 "I" (.int iv3)) (pf7 : Fld Z h0 ad1 o14 "offset" "I" (.int 0)) (pf9 : Fld Z h0 ad1 o14 "root" o47 (.ref ad4)) (pf10 : Fld Z h0 ad1 o14 "size" "I" (.int 1)) (pf12 : Fld Z h0 ad4 o8 o9 "I" (.int iv3)) (pf13 : Fld Z h0 ad4 o3 o13 o7 (.ref ad5)) (pe15 : Exa Z h0 ad5 o7) (pa16 : Arv Z h0 ad5 kc6 (.object "java/lang/Object") 10 [.ref ad7, .null, .null, .null, .null, .null, .null, .null, .null, .null] .null) (pe17 : Exa Z h0 ad7 o6) (pg_ad0 : n0 ≤ ad0) (pn_ad4_ad0 : ad4 ≠ ad0) :
    o16 l o374 jdk_38_method_3_code 3 none ws ⟨4, 2, 2, 70⟩ Z h0 #[.ref ad0, .ref ad1] (fun v h L => ∃ nz0 : Addr, ∃ kz1 : ClassId, v = none ∧ Fr n0 L ∧ Keep h0 h [ad0] ∧ h0.size ≤ nz0 ∧ Exa Z h ad0 o3 ∧ Fld Z h ad0 o8 o9 "I" (.int 0) ∧ Fld Z h ad0 o3 o13 o7 (.ref nz0) ∧ Fld Z h ad0 o3 "size" "I" (.int 1) ∧ Exa Z h nz0 o7 ∧ Arv Z h nz0 kz1 (.object "java/lang/Object") 1 [.ref ad7] .null ∧ Ovr Z kz1 "java/lang/Object") := by
  refine o15 (plainFor_of_name o24) ?_
  intro p e s m below meth c s₁ hx hby hml hown hnm hret hlk hZ e0 X0
  have N0 := Fr.nil n0
  refine o2 (fun u j => castTop (show entryFrame m #[.ref ad0, .ref ad1] 3 = mkF m 0 #[.val (.ref ad0), .val (.ref ad1), .unset] [] from rfl) j) ?_
  refine o2 (fun u j => o1 X0.here hx rfl (hb hby o391) rfl rfl j) ?_
  refine o11 (o50 X0 hx hZ (y := o199) rfl hown (o0 hw 44 rfl) (o0 hw 45 rfl) (o0 hw 48 rfl) (o0 hw 49 rfl) o141 (o834 l Z a0 hw [] wcs wd mOA mSL mAL kd hS ad0 iv2 h0 n0 O0 pe1 pf2 pf3 pf4 pg_ad0) e0 o59 (a := ad0) (argsL := []) (rest := []) rfl rfl (g := (mkF m 1 #[.val (.ref ad0), .val (.ref ad1), .unset] [.ref ad0])) rfl (by rw [hml]; rfl) rfl (hb hby o392) (W := 0) rfl (by decide) (by decide) (by decide) (by decide)) ?_
  intro T1043 v1043 L1043 X1043 hQ1043
  obtain ⟨rfl, M1043, K1043, F1044, F1045, F1046, F1047⟩ := hQ1043
  have N1043 := Fr.app N0 M1043
  refine o2 (fun u j => o1 X1043.here hx rfl (hb hby o393) rfl rfl j) ?_
  have F1048 := (pe5.keep K1043)
  have ne1049 := (ne_exa pe5 pe1 o309)
  have F1050 := (pf6.keep K1043 (ninS ne1049 nin0))
  have F1051 := (pf7.keep K1043 (ninS ne1049 nin0))
  have F1052 := (pf9.keep K1043 (ninS ne1049 nin0))
  have F1053 := (pf10.keep K1043 (ninS ne1049 nin0))
  have F1054 := (pf12.keep K1043 (ninS pn_ad4_ad0 nin0))
  have F1055 := (pf13.keep K1043 (ninS pn_ad4_ad0 nin0))
  have F1056 := (pe15.keep K1043)
  have ne1057 := (ne_exa pe15 pe1 o143)
  have F1058 := (pa16.keep K1043 (ninS ne1057 nin0))
  have F1059 := (pe17.keep K1043)
  have O1061 := O0.keep K1043 (allS pg_ad0 all0)
  refine o11 (o29 X1043 hx hZ (y := o641) (z := o373) hown (o0 hw 205 rfl) (o0 hw 206 rfl) (mvT hZ (o0 hw 207 rfl)) (o0 hw 208 rfl) (o0 hw 209 rfl) (o0 hw 210 rfl) (o0 hw 211 rfl) (o0 hw 212 rfl) (o0 hw 182 rfl) (o0 hw 213 rfl) o310 (o940 l Z a0 hw [] wcs wd mOA mSL mAL kd hS ad1 iv3 ad4 ad5 kc6 ad7 T1043.heap n0 O1061 F1048 F1050 F1051 F1052 F1053 F1054 F1055 F1056 F1058 F1059) rfl F1048 o250 (argsL := []) (rest := []) rfl rfl (g := (mkF m 5 #[.val (.ref ad0), .val (.ref ad1), .unset] [.ref ad1])) rfl (by rw [hml]; rfl) rfl (hb hby o394) (W := 0) rfl (by decide) (by decide) (by decide) (by decide)) ?_
  intro T1060 v1060 L1060 X1060 hQ1060
  obtain ⟨nz0_1062, kz1_1063, rfl, M1060, K1060, z1064, F1065, F1066, ov0_1067⟩ := hQ1060
  have N1060 := Fr.app N1043 M1060
  refine o2 (fun u j => o31 X1060.here hx rfl (hb hby o341) rfl rfl (l' := #[.val (.ref ad0), .val (.ref ad1), .val (.ref nz0_1062)]) rfl (o1 X1060.here hx rfl (hb hby o342) rfl rfl (o1 X1060.here hx rfl (hb hby o343) rfl rfl (o65 X1060 hx hZ rfl F1066 rfl rfl (hb hby o344) (XS.dupX1 X1060.here hx rfl (hb hby o345) rfl rfl rfl j))))) ?_
  have F1069 := (F1044.keep K1060)
  have F1070 := (F1047.keep K1060 nin0)
  refine o32 (putF X1060 hx hZ hown (host := "") (Or.inl (o0 hw 83 rfl)) Via.refl rfl F1070 F1069 (Or.inl (o0 hw 84 rfl)) (o0 hw 39 rfl) (ty := .int) o18 rfl rfl rfl rfl (hb hby o346)) ?_
  intro T1071 h1071 X1071 e1071 W1071
  have N1071 := Fr.snoc X1071 N1060 pg_ad0
  have F1072 : Fld Z h1071 ad0 o3 "size" "I" (.int 1) := Fld.same W1071 F1070
  refine o2 (fun u j => o34 X1071.here hx rfl (hb hby o347) rfl (o33 (by decide)) (o1 X1071.here hx rfl (hb hby o348) rfl rfl j)) ?_
  have F1073 := (Exa.wr W1071 (F1048.keep K1060))
  have q_ := o637 X1071 hx hZ (xi := o642) hown (o0 hw 242 rfl) (o0 hw 225 rfl) (o711 hZ (o0 hw 243 rfl)) (o0 hw 244 rfl) (o0 hw 226 rfl) (o0 hw 245 rfl) (o0 hw 246 rfl) (o0 hw 212 rfl) (o0 hw 228 rfl) o310 o629 rfl rfl e1071 F1073 hS.2.2.2.2.2.2.1 (g := (mkF m 22 #[.val (.ref ad0), .val (.ref ad1), .val (.ref nz0_1062)] [.ref ad1])) rfl (by rw [hml]; rfl) rfl (hb hby o349) (by decide) (W := 0) (by show 2 * 0 + _ ≤ _; exact Nat.le_of_eq rfl) (by decide)
  obtain ⟨T1074, X1074, e1074, st1074⟩ := q_
  refine o2 (fun u j => st1074 u j) ?_
  have q_ := o114 X1074 hx hZ hown (o0 hw 247 rfl) e1074 hS.2.2.2.2.2.2.2 (g := (mkF m 27 #[.val (.ref ad0), .val (.ref ad1), .val (.ref nz0_1062)] [.ref mSL])) rfl (hb hby o350)
  obtain ⟨T1075, X1075, e1075, st1075⟩ := q_
  refine o2 (fun u j => st1075 u j) ?_
  refine o2 (fun u j => XT.acmpYes X1075.here hx rfl (pc0 := 29) (pc' := 40) rfl (hb hby o351) rfl rfl rfl (XT.aa_ne_t (o647 (Mir.ne hS.2.2.2.2.2.2.1 hS.2.2.2.2.2.2.2 o309))) (by decide) (by decide) (o1 X1075.here hx rfl (hb hby o352) rfl rfl (o1 X1075.here hx rfl (hb hby o353) rfl rfl (o1 X1075.here hx rfl (hb hby o354) rfl rfl j)))) ?_
  refine o19 (getF X1075 hx hZ hown (host := "") (Or.inl (o0 hw 83 rfl)) Via.refl e1075 F1072 rfl rfl (hb hby o355)) ?_
  intro T1076 X1076 e1076
  have q_ := o114 X1076 hx hZ hown (o0 hw 249 rfl) e1076 hS.2.2.2.2.2.1 (g := (mkF m 46 #[.val (.ref ad0), .val (.ref ad1), .val (.ref nz0_1062)] [.int 1, .ref nz0_1062, .ref ad0])) rfl (hb hby o356)
  obtain ⟨T1077, X1077, e1077, st1077⟩ := q_
  refine o2 (fun u j => st1077 u j) ?_
  have ne1078 := (Ne.symm (Nat.ne_of_lt (Nat.lt_of_lt_of_le F1044.lt z1064)))
  have F1079 := (F1066.other W1071 ne1078)
  have F1080 := (Exa.wr W1071 (F1059.keep K1060))
  have O1082 := O1061.keep K1060 all0
  have O1083 := O1082.wr W1071 pg_ad0
  refine o11 (o25 X1077 hx hZ (y := o194) hown (o0 hw 250 rfl) (o0 hw 251 rfl) (o0 hw 222 rfl) (o0 hw 252 rfl) o69 (o887 l Z a0 hw [] wcs wd mOA mSL mAL kd hS nz0_1062 kz1_1063 ad7 h1071 n0 O1083 F1079 F1080) e1077 o395 (argsL := [.ref nz0_1062, .int 1, .ref mOA]) (rest := [.ref ad0]) rfl rfl (g := (mkF m 48 #[.val (.ref ad0), .val (.ref ad1), .val (.ref nz0_1062)] [.ref mOA, .int 1, .ref nz0_1062, .ref ad0])) rfl (by rw [hml]; rfl) rfl (hb hby o357) (W := 1) rfl (by decide) (by decide) (by decide) (by decide)) ?_
  intro T1081 v1081 L1081 X1081 hQ1081
  obtain ⟨nz0_1084, kz1_1085, rfl, M1081, K1081, z1086, F1087, F1088, ov0_1089⟩ := hQ1081
  have N1081 := Fr.app N1071 M1081
  have F1090 := ((Exa.wr W1071 F1069).keep K1081)
  have F1091 := ((Fld.other W1071 (F1046.keep K1060 nin0) (Or.inr (o117 hw))).keep K1081 nin0)
  refine o32 (putF X1081 hx hZ hown (host := "") (Or.inl (o0 hw 60 rfl)) Via.refl rfl F1091 F1090 (Or.inl (o0 hw 61 rfl)) (o0 hw 39 rfl) (ty := (.array (.object "java/lang/Object"))) o68 rfl rfl rfl rfl (hb hby o358)) ?_
  intro T1092 h1092 X1092 e1092 W1092
  have N1092 := Fr.snoc X1092 N1081 pg_ad0
  have F1093 : Fld Z h1092 ad0 o3 o13 o7 (.ref nz0_1084) := Fld.same W1092 F1091
  refine o2 (fun u j => o35 X1092.here hx rfl (pc0 := 54) (pc' := 64) rfl (hb hby o359) (by decide) (by decide) j) ?_
  have K1094 := (Keep.refl h0 [ad0]).trans K1043 (allS (Or.inl (List.mem_of_getElem? (i := 0) rfl)) all0)
  have K1095 := K1094.trans K1060 all0
  have K1096 := K1095.wr W1071 (Or.inl (List.mem_of_getElem? (i := 0) rfl))
  have K1097 := K1096.trans K1081 all0
  have K1098 := K1097.wr W1092 (Or.inl (List.mem_of_getElem? (i := 0) rfl))
  have z1099 := Nat.le_trans (Nat.le_trans (Nat.le_trans K1043.1 K1060.1) (Nat.le_of_eq W1071.size.symm)) z1086
  have F1100 := (Exa.wr W1092 F1090)
  have F1101 := (Fld.other W1092 ((Fld.other W1071 (F1045.keep K1060 nin0) (Or.inr (o116 hw))).keep K1081 nin0) (Or.inr (o200 hw)))
  have F1102 := (Fld.other W1092 (F1072.keep K1081 nin0) (Or.inr (o201 hw)))
  have F1103 := (Exa.wr W1092 F1087)
  have ne1104 := (Ne.symm (Nat.ne_of_lt (Nat.lt_of_lt_of_le F1072.lt z1086)))
  have F1105 := (F1088.other W1092 ne1104)
  exact o48 X1092 hx hlk hret (hb hby o360) (by decide) (by decide) (by rw [e1092]; exact ⟨nz0_1084, kz1_1085, rfl, N1092, K1098, z1099, F1100, F1101, F1093, F1102, F1103, F1105, ov0_1089⟩)
theorem o630 : parseMethodDescriptor "(Ljava/util/Collection;)V" = some ⟨[(.object "java/util/Collection")], none⟩ := by decide +kernel
theorem o311 : decode prog_33_method_4_code 43 = .ok (.astore_n 3, 1) := by decide +kernel
theorem o312 : decode prog_33_method_4_code 44 = .ok (.aload_n 3, 1) := by decide +kernel
theorem o313 : decode prog_33_method_4_code 45 = .ok (.aload_n 1, 1) := by decide +kernel
theorem o314 : decode prog_33_method_4_code 46 = .ok (.invokeinterface 25 2, 5) := by decide +kernel
theorem o508 : decode jdk_38_method_6_code 20 = .ok (.iload_n 2, 1) := by decide +kernel
theorem o509 : decode jdk_38_method_6_code 21 = .ok (.iload_n 1, 1) := by decide +kernel
theorem o510 : decode jdk_38_method_6_code 22 = .ok (.iload_n 2, 1) := by decide +kernel
theorem o511 : decode jdk_38_method_6_code 23 = .ok (.isub, 1) := by decide +kernel
theorem o512 : decode jdk_38_method_6_code 24 = .ok (.iload_n 2, 1) := by decide +kernel
theorem o513 : decode jdk_38_method_6_code 25 = .ok (.iconst 1, 1) := by decide +kernel
theorem o514 : decode jdk_38_method_6_code 26 = .ok (.ishr, 1) := by decide +kernel
theorem o515 : decode jdk_38_method_6_code 27 = .ok (.invokestatic 73, 3) := by decide +kernel
theorem o516 : decode jdk_48_method_27_code 0 = .ok (.iload_n 0, 1) := by decide +kernel
theorem o517 : decode jdk_48_method_27_code 1 = .ok (.iload_n 1, 1) := by decide +kernel
theorem o518 : decode jdk_48_method_27_code 2 = .ok (.iload_n 2, 1) := by decide +kernel
theorem o519 : decode jdk_48_method_27_code 3 = .ok (.invokestatic 194, 3) := by decide +kernel
theorem o520 : decode jdk_48_method_27_code 6 = .ok (.iadd, 1) := by decide +kernel
theorem o521 : decode jdk_48_method_27_code 7 = .ok (.istore_n 3, 1) := by decide +kernel
theorem o522 : decode jdk_48_method_27_code 8 = .ok (.iconst 0, 1) := by decide +kernel
theorem o523 : decode jdk_48_method_27_code 9 = .ok (.iload_n 3, 1) := by decide +kernel
theorem o459 : decode jdk_48_method_27_code 10 = .ok (.if_icmp .ge 11, 3) := by decide +kernel
theorem o460 : decode jdk_48_method_27_code 13 = .ok (.iload_n 3, 1) := by decide +kernel
theorem o461 : decode jdk_48_method_27_code 14 = .ok (.ldc 200, 2) := by decide +kernel
theorem o462 : decode jdk_48_method_27_code 16 = .ok (.if_icmp .gt 5, 3) := by decide +kernel
theorem o463 : decode jdk_48_method_27_code 19 = .ok (.iload_n 3, 1) := by decide +kernel
theorem o464 : decode jdk_48_method_27_code 20 = .ok (.ireturn, 1) := by decide +kernel
abbrev o578 : MethodName := ⟨"jdk/internal/util/ArraysSupport", "newLength", "(III)I"⟩
theorem o653 : plainName "jdk/internal/util/ArraysSupport" = true := by first | (simp [plainName, overriddenIn]; done) | decide +kernel
theorem o942 (l : Launch) (Z : State) (a0 : Array Value) (hw : o21 a0 Z) (ws : List Jvm.Cond) (wcs : Int32) (wd mOA mSL mAL : Addr) (kd : ClassId) (hS : o22 Z wcs wd mOA mSL mAL kd)  (h0 : Heap) (n0 : Nat) (O0 : Old Z n0 h0)  :
    o16 l o578 jdk_48_method_27_code 4 (some .int) ws ⟨1, 0, 0, 14⟩ Z h0 #[.int 1, .int 1, .int 0] (fun v h L => v = some (.int 2) ∧ Fr n0 L ∧ h = h0) := by
  refine o15 (plainFor_of_name o653) ?_
  intro p e s m below meth c s₁ hx hby hml hown hnm hret hlk hZ e0 X0
  have N0 := Fr.nil n0
  refine o2 (fun u j => castTop (show entryFrame m #[.int 1, .int 1, .int 0] 4 = mkF m 0 #[.val (.int 1), .val (.int 1), .val (.int 0), .unset] [] from rfl) j) ?_
  refine o2 (fun u j => o4 X0.here hx rfl (hb hby o516) rfl (o4 X0.here hx rfl (hb hby o517) rfl (o4 X0.here hx rfl (hb hby o518) rfl j))) ?_
  refine o11 (o25 X0 hx hZ (y := o575) hown (o0 hw 257 rfl) (o0 hw 116 rfl) (o0 hw 117 rfl) (o0 hw 118 rfl) o115 (o848 l Z a0 hw [] wcs wd mOA mSL mAL kd hS (1 : Int32) (0 : Int32) h0 n0 O0 (by decide)) e0 o67 (argsL := [.int 1, .int 0]) (rest := [.int 1]) rfl rfl (g := (mkF m 3 #[.val (.int 1), .val (.int 1), .val (.int 0), .unset] [.int 0, .int 1, .int 1])) rfl (by rw [hml]; rfl) rfl (hb hby o519) (W := 1) rfl (by decide) (by decide) (by decide) (by decide)) ?_
  intro T1141 v1141 L1141 X1141 hQ1141
  obtain ⟨rfl, M1141, e1141⟩ := hQ1141
  have N1141 := Fr.app N0 M1141
  refine o2 (fun u j => o36 X1141.here hx rfl (hb hby o520) rfl (o45 X1141.here hx rfl (hb hby o521) rfl (l' := #[.val (.int 1), .val (.int 1), .val (.int 0), .val (.int 2)]) rfl (o5 X1141.here hx rfl (hb hby o522) (o4 X1141.here hx rfl (hb hby o523) rfl (o28 X1141.here hx rfl (hb hby o459) rfl (o53 (by decide)) (o4 X1141.here hx rfl (hb hby o460) rfl j)))))) ?_
  show o17 p e below _ (T1141.setTop (mkF m 14 #[.val (.int 1), .val (.int 1), .val (.int 0), .val (.int 2)] [.int 2]))
  refine o2 (X1141.ldcInt hx hown (mvT hZ (o0 hw 258 rfl)) rfl (hb hby o461)) ?_
  show o17 p e below _ (T1141.setTop (mkF m 16 #[.val (.int 1), .val (.int 1), .val (.int 0), .val (.int 2)] [.int 2147483639, .int 2]))
  refine o2 (fun u j => o28 X1141.here hx rfl (hb hby o462) rfl (XT.ii_gt_f (by decide)) (o4 X1141.here hx rfl (hb hby o463) rfl j)) ?_
  exact o20 X1141 hx hlk hret rfl (Or.inl ⟨rfl, by simp, _, rfl⟩) (hb hby o464) (by decide) (by decide) (by rw [e1141]; exact ⟨rfl, N1141, rfl⟩)
theorem o654 : ("jdk/internal/util/ArraysSupport" : String) ≠ "java/lang/invoke/MethodHandle" ∧ ("jdk/internal/util/ArraysSupport" : String) ≠ "java/lang/invoke/VarHandle" := by decide +kernel
theorem o655 : parseMethodDescriptor "(III)I" = some ⟨[.int, .int, .int], some .int⟩ := by decide +kernel
theorem o524 : decode jdk_38_method_6_code 30 = .ok (.istore_n 3, 1) := by decide +kernel
theorem o525 : decode jdk_38_method_6_code 31 = .ok (.aload_n 0, 1) := by decide +kernel
theorem o526 : decode jdk_38_method_6_code 32 = .ok (.aload_n 0, 1) := by decide +kernel
theorem o527 : decode jdk_38_method_6_code 33 = .ok (.getfield 9, 3) := by decide +kernel
theorem o528 : decode jdk_38_method_6_code 36 = .ok (.iload_n 3, 1) := by decide +kernel
theorem o529 : decode jdk_38_method_6_code 37 = .ok (.invokestatic 66, 3) := by decide +kernel
theorem o465 : decode jdk_65_method_119_code 0 = .ok (.aload_n 0, 1) := by decide +kernel
theorem o466 : decode jdk_65_method_119_code 1 = .ok (.iload_n 1, 1) := by decide +kernel
theorem o467 : decode jdk_65_method_119_code 2 = .ok (.aload_n 0, 1) := by decide +kernel
theorem o468 : decode jdk_65_method_119_code 3 = .ok (.invokevirtual 86, 3) := by decide +kernel
theorem o469 : decode jdk_65_method_119_code 6 = .ok (.invokestatic 300, 3) := by decide +kernel
theorem o943 (l : Launch) (Z : State) (a0 : Array Value) (hw : o21 a0 Z) (ws : List Jvm.Cond) (wcs : Int32) (wd mOA mSL mAL : Addr) (kd : ClassId) (hS : o22 Z wcs wd mOA mSL mAL kd) (ad0 : Addr) (kc1 : ClassId) (ad2 : Addr) (h0 : Heap) (n0 : Nat) (O0 : Old Z n0 h0) (pa2 : Arv Z h0 ad0 kc1 (.object "java/lang/Object") 1 [.ref ad2] .null) (pe3 : Exa Z h0 ad2 o6) :
    o16 l o194 jdk_65_method_120_code 4 (some (.array (.object "java/lang/Object"))) ws ⟨1, 1, 2, 27⟩ Z h0 #[.ref ad0, .int 2, .ref mOA] (fun v h L => ∃ nz0 : Addr, ∃ kz1 : ClassId, v = some (.ref nz0) ∧ Fr n0 L ∧ Keep h0 h [] ∧ h0.size ≤ nz0 ∧ Exa Z h nz0 o7 ∧ Arv Z h nz0 kz1 (.object "java/lang/Object") 2 [.ref ad2, .null] .null ∧ Ovr Z kz1 "java/lang/Object") := by
  refine o15 (plainFor_of_name o72) ?_
  intro p e s m below meth c s₁ hx hby hml hown hnm hret hlk hZ e0 X0
  have N0 := Fr.nil n0
  refine o2 (fun u j => castTop (show entryFrame m #[.ref ad0, .int 2, .ref mOA] 4 = mkF m 0 #[.val (.ref ad0), .val (.int 2), .val (.ref mOA), .unset] [] from rfl) j) ?_
  refine o2 (fun u j => o1 X0.here hx rfl (hb hby o189) rfl rfl j) ?_
  have q_ := o114 X0 hx hZ hown (o0 hw 233 rfl) e0 hS.2.2.2.2.2.1 (g := (mkF m 1 #[.val (.ref ad0), .val (.int 2), .val (.ref mOA), .unset] [.ref mOA])) rfl (hb hby o190)
  obtain ⟨T1156, X1156, e1156, st1156⟩ := q_
  refine o2 (fun u j => st1156 u j) ?_
  refine o2 (fun u j => o97 X1156.here hx rfl (hb hby o191) rfl rfl rfl (o84 rfl) (o4 X1156.here hx rfl (hb hby o192) rfl j)) ?_
  have q_ := newRE X1156 hx hZ hown (show (Cond.classLink "java/util/Arrays" 2 "java/lang/Object").before a0 Z = true from (o0 hw 234 rfl)) (show (Cond.arrayOver (.object "java/lang/Object")).before a0 Z = true from (o0 hw 120 rfl)) e1156 (g := (mkF m 7 #[.val (.ref ad0), .val (.int 2), .val (.ref mOA), .unset] [.int 2])) rfl (hb hby o193) rfl (by decide) (cap := 2) (by decide) (by decide) (by decide) (by decide) (ad := "[Ljava/lang/Object;") o198
  obtain ⟨T1157, h1157, k1157, X1157, e1157, E1157, A1157, Y1157, O1157, st1157⟩ := q_
  have q_ : ∃ z, z = h0.size := ⟨_, rfl⟩
  obtain ⟨b1157, g1157⟩ := q_
  rw [← g1157] at A1157 Y1157 st1157
  have V1157 : Arv Z h1157 b1157 k1157 (.object "java/lang/Object") 2 [.null, .null] .null := (Arv.new A1157 (by decide)).pad (pad_rep [] .null 2)
  refine o2 (fun u j => st1157 u j) ?_
  refine o2 (fun u j => o35 X1157.here hx rfl (pc0 := 10) (pc' := 24) rfl (hb hby o157) (by decide) (by decide) (o31 X1157.here hx rfl (hb hby o158) rfl rfl (l' := #[.val (.ref ad0), .val (.int 2), .val (.ref mOA), .val (.ref b1157)]) rfl (o1 X1157.here hx rfl (hb hby o159) rfl rfl (o5 X1157.here hx rfl (hb hby o160) (o1 X1157.here hx rfl (hb hby o161) rfl rfl (o5 X1157.here hx rfl (hb hby o162) j)))))) ?_
  show o17 p e below _ (T1157.setTop (mkF m 29 #[.val (.ref ad0), .val (.int 2), .val (.ref mOA), .val (.ref b1157)] [.int 0, .ref b1157, .int 0, .ref ad0]))
  refine o2 (fun u j => o1 X1157.here hx rfl (hb hby o163) rfl rfl j) ?_
  have F1158 := (pa2.ext E1157)
  refine o2 (fun u j => o65 X1157 hx hZ e1157 F1158 rfl rfl (hb hby o164) (o4 X1157.here hx rfl (hb hby o165) rfl j)) ?_
  have O1161 := O0.ext E1157
  refine o11 (o25 X1157 hx hZ (y := o188) hown (o0 hw 235 rfl) (o0 hw 236 rfl) (o0 hw 117 rfl) (o0 hw 237 rfl) o115 (o714 l Z a0 hw [] wcs wd mOA mSL mAL kd hS (1 : Int32) (2 : Int32) h1157 n0 O1161 (by decide)) e1157 o67 (argsL := [.int 1, .int 2]) (rest := [.int 0, .ref b1157, .int 0, .ref ad0]) rfl rfl (g := (mkF m 32 #[.val (.ref ad0), .val (.int 2), .val (.ref mOA), .val (.ref b1157)] [.int 2, .int 1, .int 0, .ref b1157, .int 0, .ref ad0])) rfl (by rw [hml]; rfl) rfl (hb hby o166) (W := 4) rfl (by decide) (by decide) (by decide) (by decide)) ?_
  intro T1160 v1160 L1160 X1160 hQ1160
  obtain ⟨rfl, M1160, e1160⟩ := hQ1160
  have N1160 := Fr.app N0 M1160
  have q_ := id V1157
  obtain ⟨cl1163, Ar1163, q1163, S1163, N1163, H1163, G1163⟩ := q_
  have F1164 := (Exa.ext E1157 pe3)
  have g1165 := Nat.le_trans (o52 O0) (Nat.le_of_eq g1157.symm)
  have q_ := cpA X1160 hx hZ hown (o0 hw 238 rfl) (o0 hw 241 rfl) (o0 hw 239 rfl) (o0 hw 240 rfl) e1160 F1158 V1157 (us := [.ref ad2]) (Or.inr ⟨rfl, rfl, ⟨Sto.ofV Ar1163 q1163 O1157 (Ins.of_exa F1164 (o0 hw 121 rfl)), trivial⟩⟩) (by decide) (by decide) (by decide) (by decide) (by decide) rfl (by decide) N1160 g1165 (g := (mkF m 35 #[.val (.ref ad0), .val (.int 2), .val (.ref mOA), .val (.ref b1157)] [.int 1, .int 0, .ref b1157, .int 0, .ref ad0])) rfl (by rw [hml]; rfl) rfl (hb hby o167) (by decide) (W := 0) (by show 2 * 0 + _ ≤ _; exact Nat.le_of_eq rfl) (by decide)
  obtain ⟨T1162, h1162, L1162, X1162, e1162, N1162, K1162, V1162, st1162⟩ := q_
  have V1166 : Arv Z h1162 b1157 k1157 (.object "java/lang/Object") 2 [.ref ad2, .null] .null := V1162
  refine o2 (fun u j => st1162 u j) ?_
  refine o2 (fun u j => o1 X1162.here hx rfl (hb hby o168) rfl rfl j) ?_
  have K1167 := (Keep.refl h0 []).ext E1157
  have z1169 := Nat.le_trans (Nat.le_refl _) (Nat.le_of_eq g1157.symm)
  have K1168 := K1167.trans K1162 (allS (Or.inr z1169) all0)
  have F1170 := (Y1157.keep K1162)
  exact o20 X1162 hx hlk hret rfl (Or.inr (Or.inr (Or.inr (Or.inr ⟨rfl, rfl, rfl⟩)))) (hb hby o169) (by decide) (by decide) (by rw [e1162]; exact ⟨b1157, k1157, rfl, N1162, K1168, z1169, F1170, V1166, O1157⟩)
theorem o470 : decode jdk_65_method_119_code 9 = .ok (.areturn, 1) := by decide +kernel
abbrev o579 : MethodName := ⟨"java/util/Arrays", "copyOf", "([Ljava/lang/Object;I)[Ljava/lang/Object;"⟩
theorem o944 (l : Launch) (Z : State) (a0 : Array Value) (hw : o21 a0 Z) (ws : List Jvm.Cond) (wcs : Int32) (wd mOA mSL mAL : Addr) (kd : ClassId) (hS : o22 Z wcs wd mOA mSL mAL kd) (ad0 : Addr) (kc1 : ClassId) (ad2 : Addr) (h0 : Heap) (n0 : Nat) (O0 : Old Z n0 h0) (pe1 : Exa Z h0 ad0 o7) (pa2 : Arv Z h0 ad0 kc1 (.object "java/lang/Object") 1 [.ref ad2] .null) (pe3 : Exa Z h0 ad2 o6) :
    o16 l o579 jdk_65_method_119_code 2 (some (.array (.object "java/lang/Object"))) ws ⟨2, 1, 2, 42⟩ Z h0 #[.ref ad0, .int 2] (fun v h L => ∃ nz0 : Addr, ∃ kz1 : ClassId, v = some (.ref nz0) ∧ Fr n0 L ∧ Keep h0 h [] ∧ h0.size ≤ nz0 ∧ Exa Z h nz0 o7 ∧ Arv Z h nz0 kz1 (.object "java/lang/Object") 2 [.ref ad2, .null] .null ∧ Ovr Z kz1 "java/lang/Object") := by
  refine o15 (plainFor_of_name o72) ?_
  intro p e s m below meth c s₁ hx hby hml hown hnm hret hlk hZ e0 X0
  have N0 := Fr.nil n0
  refine o2 (fun u j => castTop (show entryFrame m #[.ref ad0, .int 2] 2 = mkF m 0 #[.val (.ref ad0), .val (.int 2)] [] from rfl) j) ?_
  refine o2 (fun u j => o1 X0.here hx rfl (hb hby o465) rfl rfl (o4 X0.here hx rfl (hb hby o466) rfl (o1 X0.here hx rfl (hb hby o467) rfl rfl j))) ?_
  have q_ := o564 X0 hx hZ hown (o0 hw 224 rfl) (o0 hw 225 rfl) (o0 hw 227 rfl) (o0 hw 226 rfl) (o0 hw 228 rfl) e0 pe1 hS.2.2.2.2.2.1 (g := (mkF m 3 #[.val (.ref ad0), .val (.int 2)] [.ref ad0, .int 2, .ref ad0])) rfl (by rw [hml]; rfl) rfl (hb hby o468) (by decide) (W := 2) (by show 2 * 0 + _ ≤ _; exact Nat.le_of_eq rfl) (by decide)
  obtain ⟨T1178, X1178, e1178, st1178⟩ := q_
  refine o2 (fun u j => st1178 u j) ?_
  refine o11 (o25 X1178 hx hZ (y := o194) hown (o0 hw 262 rfl) (o0 hw 251 rfl) (o0 hw 222 rfl) (o0 hw 252 rfl) o69 (o943 l Z a0 hw [] wcs wd mOA mSL mAL kd hS ad0 kc1 ad2 h0 n0 O0 pa2 pe3) e1178 o395 (argsL := [.ref ad0, .int 2, .ref mOA]) (rest := []) rfl rfl (g := (mkF m 6 #[.val (.ref ad0), .val (.int 2)] [.ref mOA, .int 2, .ref ad0])) rfl (by rw [hml]; rfl) rfl (hb hby o469) (W := 0) rfl (by decide) (by decide) (by decide) (by decide)) ?_
  intro T1179 v1179 L1179 X1179 hQ1179
  obtain ⟨nz0_1180, kz1_1181, rfl, M1179, K1179, z1182, F1183, F1184, ov0_1185⟩ := hQ1179
  have N1179 := Fr.app N0 M1179
  have K1186 := (Keep.refl h0 []).trans K1179 all0
  have z1187 := Nat.le_trans (Nat.le_refl _) z1182
  exact o20 X1179 hx hlk hret rfl (Or.inr (Or.inr (Or.inr (Or.inr ⟨rfl, rfl, rfl⟩)))) (hb hby o470) (by decide) (by decide) (by exact ⟨nz0_1180, kz1_1181, rfl, N1179, K1186, z1187, F1183, F1184, ov0_1185⟩)
theorem o656 : parseMethodDescriptor "([Ljava/lang/Object;I)[Ljava/lang/Object;" = some ⟨[(.array (.object "java/lang/Object")), .int], some (.array (.object "java/lang/Object"))⟩ := by decide +kernel
theorem o530 : decode jdk_38_method_6_code 40 = .ok (.dup_x1, 1) := by decide +kernel
theorem o531 : decode jdk_38_method_6_code 41 = .ok (.putfield 9, 3) := by decide +kernel
theorem o532 : decode jdk_38_method_6_code 44 = .ok (.areturn, 1) := by decide +kernel
theorem o945 (l : Launch) (Z : State) (a0 : Array Value) (hw : o21 a0 Z) (ws : List Jvm.Cond) (wcs : Int32) (wd mOA mSL mAL : Addr) (kd : ClassId) (hS : o22 Z wcs wd mOA mSL mAL kd) (ad0 : Addr) (iv1 : Int32) (ad2 : Addr) (kc3 : ClassId) (ad4 : Addr) (h0 : Heap) (n0 : Nat) (O0 : Old Z n0 h0) (pe1 : Exa Z h0 ad0 o3) (pf2 : Fld Z h0 ad0 o8 o9 "I" (.int iv1)) (pf3 : Fld Z h0 ad0 o3 o13 o7 (.ref ad2)) (pf4 : Fld Z h0 ad0 o3 "size" "I" (.int 1)) (pe5 : Exa Z h0 ad2 o7) (pa6 : Arv Z h0 ad2 kc3 (.object "java/lang/Object") 1 [.ref ad4] .null) (pe7 : Exa Z h0 ad4 o6) (pg_ad0 : n0 ≤ ad0) :
    o16 l o365 jdk_38_method_6_code 4 (some (.array (.object "java/lang/Object"))) ws ⟨3, 1, 2, 56⟩ Z h0 #[.ref ad0, .int 2] (fun v h L => ∃ nz0 : Addr, ∃ kz1 : ClassId, v = some (.ref nz0) ∧ Fr n0 L ∧ Keep h0 h [ad0] ∧ h0.size ≤ nz0 ∧ Exa Z h ad0 o3 ∧ Fld Z h ad0 o8 o9 "I" (.int iv1) ∧ Fld Z h ad0 o3 o13 o7 (.ref nz0) ∧ Fld Z h ad0 o3 "size" "I" (.int 1) ∧ Exa Z h nz0 o7 ∧ Arv Z h nz0 kz1 (.object "java/lang/Object") 2 [.ref ad4, .null] .null ∧ Ovr Z kz1 "java/lang/Object") := by
  refine o15 (plainFor_of_name o24) ?_
  intro p e s m below meth c s₁ hx hby hml hown hnm hret hlk hZ e0 X0
  have N0 := Fr.nil n0
  refine o2 (fun u j => castTop (show entryFrame m #[.ref ad0, .int 2] 4 = mkF m 0 #[.val (.ref ad0), .val (.int 2), .unset, .unset] [] from rfl) j) ?_
  refine o2 (fun u j => o1 X0.here hx rfl (hb hby o381) rfl rfl j) ?_
  refine o19 (getF X0 hx hZ hown (host := "") (Or.inl (o0 hw 60 rfl)) Via.refl e0 pf3 rfl rfl (hb hby o382)) ?_
  intro T1199 X1199 e1199
  refine o2 (fun u j => o65 X1199 hx hZ e1199 pa6 rfl rfl (hb hby o383) (o45 X1199.here hx rfl (hb hby o384) rfl (l' := #[.val (.ref ad0), .val (.int 2), .val (.int 1), .unset]) rfl (o4 X1199.here hx rfl (hb hby o385) rfl (o43 X1199.here hx rfl (pc0 := 7) (pc' := 20) rfl (hb hby o386) rfl (XT.i0_gt_t (by decide)) (by decide) (by decide) (o4 X1199.here hx rfl (hb hby o508) rfl (o4 X1199.here hx rfl (hb hby o509) rfl j)))))) ?_
  show o17 p e below _ (T1199.setTop (mkF m 22 #[.val (.ref ad0), .val (.int 2), .val (.int 1), .unset] [.int 2, .int 1]))
  refine o2 (fun u j => o4 X1199.here hx rfl (hb hby o510) rfl (o38 X1199.here hx rfl (hb hby o511) rfl (o4 X1199.here hx rfl (hb hby o512) rfl (o5 X1199.here hx rfl (hb hby o513) (XS.ishr X1199.here hx rfl (hb hby o514) rfl j))))) ?_
  refine o11 (o25 X1199 hx hZ (y := o578) hown (o0 hw 253 rfl) (o0 hw 254 rfl) (o0 hw 255 rfl) (o0 hw 256 rfl) o654 (o942 l Z a0 hw [] wcs wd mOA mSL mAL kd hS  h0 n0 O0 ) e1199 o655 (argsL := [.int 1, .int 1, .int 0]) (rest := []) rfl rfl (g := (mkF m 27 #[.val (.ref ad0), .val (.int 2), .val (.int 1), .unset] [.int 0, .int 1, .int 1])) rfl (by rw [hml]; rfl) rfl (hb hby o515) (W := 0) rfl (by decide) (by decide) (by decide) (by decide)) ?_
  intro T1201 v1201 L1201 X1201 hQ1201
  obtain ⟨rfl, M1201, e1201⟩ := hQ1201
  have N1201 := Fr.app N0 M1201
  refine o2 (fun u j => o45 X1201.here hx rfl (hb hby o524) rfl (l' := #[.val (.ref ad0), .val (.int 2), .val (.int 1), .val (.int 2)]) rfl (o1 X1201.here hx rfl (hb hby o525) rfl rfl (o1 X1201.here hx rfl (hb hby o526) rfl rfl j))) ?_
  refine o19 (getF X1201 hx hZ hown (host := "") (Or.inl (o0 hw 60 rfl)) Via.refl e1201 pf3 rfl rfl (hb hby o527)) ?_
  intro T1202 X1202 e1202
  refine o2 (fun u j => o4 X1202.here hx rfl (hb hby o528) rfl j) ?_
  refine o11 (o25 X1202 hx hZ (y := o579) hown (o0 hw 259 rfl) (o0 hw 260 rfl) (o0 hw 222 rfl) (o0 hw 261 rfl) o69 (o944 l Z a0 hw [] wcs wd mOA mSL mAL kd hS ad2 kc3 ad4 h0 n0 O0 pe5 pa6 pe7) e1202 o656 (argsL := [.ref ad2, .int 2]) (rest := [.ref ad0]) rfl rfl (g := (mkF m 37 #[.val (.ref ad0), .val (.int 2), .val (.int 1), .val (.int 2)] [.int 2, .ref ad2, .ref ad0])) rfl (by rw [hml]; rfl) rfl (hb hby o529) (W := 1) rfl (by decide) (by decide) (by decide) (by decide)) ?_
  intro T1203 v1203 L1203 X1203 hQ1203
  obtain ⟨nz0_1204, kz1_1205, rfl, M1203, K1203, z1206, F1207, F1208, ov0_1209⟩ := hQ1203
  have N1203 := Fr.app N1201 M1203
  refine o2 (fun u j => XS.dupX1 X1203.here hx rfl (hb hby o530) rfl rfl rfl j) ?_
  have F1210 := (pe1.keep K1203)
  have F1211 := (pf3.keep K1203 nin0)
  refine o32 (putF X1203 hx hZ hown (host := "") (Or.inl (o0 hw 60 rfl)) Via.refl rfl F1211 F1210 (Or.inl (o0 hw 61 rfl)) (o0 hw 39 rfl) (ty := (.array (.object "java/lang/Object"))) o68 rfl rfl rfl rfl (hb hby o531)) ?_
  intro T1212 h1212 X1212 e1212 W1212
  have N1212 := Fr.snoc X1212 N1203 pg_ad0
  have F1213 : Fld Z h1212 ad0 o3 o13 o7 (.ref nz0_1204) := Fld.same W1212 F1211
  have K1214 := (Keep.refl h0 [ad0]).trans K1203 all0
  have K1215 := K1214.wr W1212 (Or.inl (List.mem_of_getElem? (i := 0) rfl))
  have z1216 := Nat.le_trans (Nat.le_refl _) z1206
  have F1217 := (Exa.wr W1212 F1210)
  have F1218 := (Fld.other W1212 (pf2.keep K1203 nin0) (Or.inr (o200 hw)))
  have F1219 := (Fld.other W1212 (pf4.keep K1203 nin0) (Or.inr (o201 hw)))
  have F1220 := (Exa.wr W1212 F1207)
  have ne1221 := (Ne.symm (Nat.ne_of_lt (Nat.lt_of_lt_of_le pe1.lt z1206)))
  have F1222 := (F1208.other W1212 ne1221)
  exact o20 X1212 hx hlk hret rfl (Or.inr (Or.inr (Or.inr (Or.inr ⟨rfl, rfl, rfl⟩)))) (hb hby o532) (by decide) (by decide) (by rw [e1212]; exact ⟨nz0_1204, kz1_1205, rfl, N1212, K1215, z1216, F1217, F1218, F1213, F1219, F1220, F1222, ov0_1209⟩)
theorem o946 (l : Launch) (Z : State) (a0 : Array Value) (hw : o21 a0 Z) (ws : List Jvm.Cond) (wcs : Int32) (wd mOA mSL mAL : Addr) (kd : ClassId) (hS : o22 Z wcs wd mOA mSL mAL kd) (ad0 : Addr) (iv1 : Int32) (ad2 : Addr) (kc3 : ClassId) (ad4 : Addr) (h0 : Heap) (n0 : Nat) (O0 : Old Z n0 h0) (pe1 : Exa Z h0 ad0 o3) (pf2 : Fld Z h0 ad0 o8 o9 "I" (.int iv1)) (pf3 : Fld Z h0 ad0 o3 o13 o7 (.ref ad2)) (pf4 : Fld Z h0 ad0 o3 "size" "I" (.int 1)) (pe5 : Exa Z h0 ad2 o7) (pa6 : Arv Z h0 ad2 kc3 (.object "java/lang/Object") 1 [.ref ad4] .null) (pe7 : Exa Z h0 ad4 o6) (pg_ad0 : n0 ≤ ad0) :
    o16 l o366 jdk_38_method_7_code 1 (some (.array (.object "java/lang/Object"))) ws ⟨4, 1, 2, 71⟩ Z h0 #[.ref ad0] (fun v h L => ∃ nz0 : Addr, ∃ kz1 : ClassId, v = some (.ref nz0) ∧ Fr n0 L ∧ Keep h0 h [ad0] ∧ h0.size ≤ nz0 ∧ Exa Z h ad0 o3 ∧ Fld Z h ad0 o8 o9 "I" (.int iv1) ∧ Fld Z h ad0 o3 o13 o7 (.ref nz0) ∧ Fld Z h ad0 o3 "size" "I" (.int 1) ∧ Exa Z h nz0 o7 ∧ Arv Z h nz0 kz1 (.object "java/lang/Object") 2 [.ref ad4, .null] .null ∧ Ovr Z kz1 "java/lang/Object") := by
  refine o15 (plainFor_of_name o24) ?_
  intro p e s m below meth c s₁ hx hby hml hown hnm hret hlk hZ e0 X0
  have N0 := Fr.nil n0
  refine o2 (fun u j => castTop (show entryFrame m #[.ref ad0] 1 = mkF m 0 #[.val (.ref ad0)] [] from rfl) j) ?_
  refine o2 (fun u j => o1 X0.here hx rfl (hb hby o375) rfl rfl (o1 X0.here hx rfl (hb hby o376) rfl rfl j)) ?_
  refine o19 (getF X0 hx hZ hown (host := "") (Or.inl (o0 hw 83 rfl)) Via.refl e0 pf4 rfl rfl (hb hby o377)) ?_
  intro T1234 X1234 e1234
  refine o2 (fun u j => o5 X1234.here hx rfl (hb hby o378) (o36 X1234.here hx rfl (hb hby o379) rfl j)) ?_
  refine o11 (o62 X1234 hx hZ (y := o365) hown (o0 hw 110 rfl) (o0 hw 111 rfl) (mvT hZ (o0 hw 113 rfl)) (o0 hw 112 rfl) (o0 hw 40 rfl) (o0 hw 114 rfl) o42 (o945 l Z a0 hw [] wcs wd mOA mSL mAL kd hS ad0 iv1 ad2 kc3 ad4 h0 n0 O0 pe1 pf2 pf3 pf4 pe5 pa6 pe7 pg_ad0) e1234 pe1 o606 (argsL := [.int 2]) (rest := []) rfl rfl (g := (mkF m 7 #[.val (.ref ad0)] [.int 2, .ref ad0])) rfl (by rw [hml]; rfl) rfl (hb hby o380) (W := 0) rfl (by decide) (by decide) (by decide) (by decide)) ?_
  intro T1235 v1235 L1235 X1235 hQ1235
  obtain ⟨nz0_1236, kz1_1237, rfl, M1235, K1235, z1238, F1239, F1240, F1241, F1242, F1243, F1244, ov0_1245⟩ := hQ1235
  have N1235 := Fr.app N0 M1235
  have K1246 := (Keep.refl h0 [ad0]).trans K1235 (allS (Or.inl (List.mem_of_getElem? (i := 0) rfl)) all0)
  have z1247 := Nat.le_trans (Nat.le_refl _) z1238
  exact o20 X1235 hx hlk hret rfl (Or.inr (Or.inr (Or.inr (Or.inr ⟨rfl, rfl, rfl⟩)))) (hb hby o328) (by decide) (by decide) (by exact ⟨nz0_1236, kz1_1237, rfl, N1235, K1246, z1247, F1239, F1240, F1241, F1242, F1243, F1244, ov0_1245⟩)
theorem o947 (l : Launch) (Z : State) (a0 : Array Value) (hw : o21 a0 Z) (ws : List Jvm.Cond) (wcs : Int32) (wd mOA mSL mAL : Addr) (kd : ClassId) (hS : o22 Z wcs wd mOA mSL mAL kd) (ad0 ad1 ad2 : Addr) (iv3 : Int32) (kc5 : ClassId) (h0 : Heap) (n0 : Nat) (O0 : Old Z n0 h0) (pe1 : Exa Z h0 ad0 o3) (pf2 : Fld Z h0 ad0 o8 o9 "I" (.int iv3)) (pf3 : Fld Z h0 ad0 o3 o13 o7 (.ref ad2)) (pf4 : Fld Z h0 ad0 o3 "size" "I" (.int 1)) (pe5 : Exa Z h0 ad1 o6) (pe8 : Exa Z h0 ad2 o7) (pa9 : Arv Z h0 ad2 kc5 (.object "java/lang/Object") 1 [.ref ad1] .null) (pg_ad0 : n0 ≤ ad0) :
    o16 l o156 jdk_38_method_24_code 4 none ws ⟨5, 1, 2, 83⟩ Z h0 #[.ref ad0, .ref ad1, .ref ad2, .int 1] (fun v h L => ∃ nz0 : Addr, ∃ kz1 : ClassId, v = none ∧ Fr n0 L ∧ Keep h0 h [ad0] ∧ h0.size ≤ nz0 ∧ Exa Z h ad0 o3 ∧ Fld Z h ad0 o8 o9 "I" (.int iv3) ∧ Fld Z h ad0 o3 o13 o7 (.ref nz0) ∧ Fld Z h ad0 o3 "size" "I" (.int 2) ∧ Exa Z h nz0 o7 ∧ Arv Z h nz0 kz1 (.object "java/lang/Object") 2 [.ref ad1, .ref ad1] .null ∧ Ovr Z kz1 "java/lang/Object") := by
  refine o15 (plainFor_of_name o24) ?_
  intro p e s m below meth c s₁ hx hby hml hown hnm hret hlk hZ e0 X0
  have N0 := Fr.nil n0
  refine o2 (fun u j => castTop (show entryFrame m #[.ref ad0, .ref ad1, .ref ad2, .int 1] 4 = mkF m 0 #[.val (.ref ad0), .val (.ref ad1), .val (.ref ad2), .val (.int 1)] [] from rfl) j) ?_
  refine o2 (fun u j => o4 X0.here hx rfl (hb hby o150) rfl (o1 X0.here hx rfl (hb hby o151) rfl rfl (o65 X0 hx hZ e0 pa9 rfl rfl (hb hby o152) (o28 X0.here hx rfl (hb hby o153) rfl (o83 (by decide)) (o1 X0.here hx rfl (hb hby o326) rfl rfl j))))) ?_
  refine o11 (o62 X0 hx hZ (y := o366) hown (o0 hw 105 rfl) (o0 hw 106 rfl) (mvT hZ (o0 hw 108 rfl)) (o0 hw 107 rfl) (o0 hw 40 rfl) (o0 hw 109 rfl) o42 (o946 l Z a0 hw [] wcs wd mOA mSL mAL kd hS ad0 iv3 ad2 kc5 ad1 h0 n0 O0 pe1 pf2 pf3 pf4 pe8 pa9 pe5 pg_ad0) e0 pe1 o250 (argsL := []) (rest := []) rfl rfl (g := (mkF m 7 #[.val (.ref ad0), .val (.ref ad1), .val (.ref ad2), .val (.int 1)] [.ref ad0])) rfl (by rw [hml]; rfl) rfl (hb hby o327) (W := 0) rfl (by decide) (by decide) (by decide) (by decide)) ?_
  intro T1269 v1269 L1269 X1269 hQ1269
  obtain ⟨nz0_1270, kz1_1271, rfl, M1269, K1269, z1272, F1273, F1274, F1275, F1276, F1277, F1278, ov0_1279⟩ := hQ1269
  have N1269 := Fr.app N0 M1269
  refine o2 (fun u j => o31 X1269.here hx rfl (hb hby o251) rfl rfl (l' := #[.val (.ref ad0), .val (.ref ad1), .val (.ref nz0_1270), .val (.int 1)]) rfl (o1 X1269.here hx rfl (hb hby o125) rfl rfl (o4 X1269.here hx rfl (hb hby o126) rfl (o1 X1269.here hx rfl (hb hby o127) rfl rfl j)))) ?_
  have q_ := id F1278
  obtain ⟨cl1280, Ar1280, q1280, S1280, N1280, H1280, G1280⟩ := q_
  have hi1280 : ¬ ((1 : Int32) < 0 ∨ cl1280.slots.size ≤ ((1 : Int32)).toNatClampNeg) := inb_of S1280 ⟨by decide, by decide⟩
  have F1281 := (pe5.keep K1269)
  have q_ := stR X1269 hx hZ rfl Ar1280 (j := (1 : Int32)) hi1280 rfl (Sto.ofV Ar1280 q1280 ov0_1279 (Ins.of_exa F1281 (o0 hw 121 rfl))) (g := (mkF m 14 #[.val (.ref ad0), .val (.ref ad1), .val (.ref nz0_1270), .val (.int 1)] [.ref ad1, .int 1, .ref nz0_1270])) rfl rfl (hb hby o128)
  obtain ⟨T1282, h1282, X1282, e1282, W1282, st1282⟩ := q_
  have g1283 := Nat.le_trans (o52 O0) z1272
  have N1282 := Fr.snoc X1282 N1269 g1283
  have V1282 : Arv Z h1282 nz0_1270 kz1_1271 (.object "java/lang/Object") 2 [.ref ad1, .ref ad1] .null := Arv.set Ar1280 q1280 S1280 N1280 H1280 G1280 rfl W1282 1 rfl (Nat.le_of_ble_eq_true rfl)
  refine o2 (fun u j => st1282 u j) ?_
  refine o2 (fun u j => o1 X1282.here hx rfl (hb hby o129) rfl rfl (o4 X1282.here hx rfl (hb hby o130) rfl (o5 X1282.here hx rfl (hb hby o131) (o36 X1282.here hx rfl (hb hby o132) rfl j)))) ?_
  have F1284 := (Exa.wr W1282 F1273)
  have ne1285 := (Nat.ne_of_lt (Nat.lt_of_lt_of_le pe1.lt z1272))
  have F1286 := (Fld.other W1282 F1276 (Or.inl ne1285))
  refine o32 (putF X1282 hx hZ hown (host := "") (Or.inl (o0 hw 83 rfl)) Via.refl e1282 F1286 F1284 (Or.inl (o0 hw 84 rfl)) (o0 hw 39 rfl) (ty := .int) o18 rfl rfl rfl rfl (hb hby o133)) ?_
  intro T1287 h1287 X1287 e1287 W1287
  have N1287 := Fr.snoc X1287 N1282 pg_ad0
  have F1288 : Fld Z h1287 ad0 o3 "size" "I" (.int 2) := Fld.same W1287 F1286
  have K1289 := (Keep.refl h0 [ad0]).trans K1269 (allS (Or.inl (List.mem_of_getElem? (i := 0) rfl)) all0)
  have z1291 := Nat.le_trans (Nat.le_refl _) z1272
  have K1290 := K1289.wr W1282 (Or.inr z1291)
  have K1292 := K1290.wr W1287 (Or.inl (List.mem_of_getElem? (i := 0) rfl))
  have F1293 := (Exa.wr W1287 F1284)
  have F1294 := (Fld.other W1287 (Fld.other W1282 F1274 (Or.inl ne1285)) (Or.inr (o116 hw)))
  have F1295 := (Fld.other W1287 (Fld.other W1282 F1275 (Or.inl ne1285)) (Or.inr (o117 hw)))
  have F1296 := (Exa.wr W1287 (Exa.wr W1282 F1277))
  have F1297 := (V1282.other W1287 (Ne.symm ne1285))
  exact o48 X1287 hx hlk hret (hb hby o134) (by decide) (by decide) (by rw [e1287]; exact ⟨nz0_1270, kz1_1271, rfl, N1287, K1292, z1291, F1293, F1294, F1295, F1288, F1296, F1297, ov0_1279⟩)
theorem o888 (l : Launch) (Z : State) (a0 : Array Value) (hw : o21 a0 Z) (ws : List Jvm.Cond) (wcs : Int32) (wd mOA mSL mAL : Addr) (kd : ClassId) (hS : o22 Z wcs wd mOA mSL mAL kd) (ad0 ad1 : Addr) (iv2 : Int32) (ad3 : Addr) (kc5 : ClassId) (h0 : Heap) (n0 : Nat) (O0 : Old Z n0 h0) (pe1 : Exa Z h0 ad0 o3) (pf2 : Fld Z h0 ad0 o8 o9 "I" (.int iv2)) (pf3 : Fld Z h0 ad0 o3 o13 o7 (.ref ad3)) (pf4 : Fld Z h0 ad0 o3 "size" "I" (.int 1)) (pe5 : Exa Z h0 ad1 o6) (pe8 : Exa Z h0 ad3 o7) (pa9 : Arv Z h0 ad3 kc5 (.object "java/lang/Object") 1 [.ref ad1] .null) (pg_ad0 : n0 ≤ ad0) :
    o16 l o137 jdk_38_method_25_code 2 (some .boolean) ws ⟨6, 1, 2, 98⟩ Z h0 #[.ref ad0, .ref ad1] (fun v h L => ∃ nz0 : Addr, ∃ kz1 : ClassId, v = some (.int 1) ∧ Fr n0 L ∧ Keep h0 h [ad0] ∧ h0.size ≤ nz0 ∧ Exa Z h ad0 o3 ∧ Fld Z h ad0 o8 o9 "I" (.int (iv2 + (1 : Int32))) ∧ Fld Z h ad0 o3 o13 o7 (.ref nz0) ∧ Fld Z h ad0 o3 "size" "I" (.int 2) ∧ Exa Z h nz0 o7 ∧ Arv Z h nz0 kz1 (.object "java/lang/Object") 2 [.ref ad1, .ref ad1] .null ∧ Ovr Z kz1 "java/lang/Object") := by
  refine o15 (plainFor_of_name o24) ?_
  intro p e s m below meth c s₁ hx hby hml hown hnm hret hlk hZ e0 X0
  have N0 := Fr.nil n0
  refine o2 (fun u j => castTop (show entryFrame m #[.ref ad0, .ref ad1] 2 = mkF m 0 #[.val (.ref ad0), .val (.ref ad1)] [] from rfl) j) ?_
  refine o2 (fun u j => o1 X0.here hx rfl (hb hby o144) rfl rfl (o40 X0.here hx rfl (hb hby o145) rfl rfl j)) ?_
  refine o19 (getF X0 hx hZ hown (host := "") (Or.inl (o0 hw 98 rfl)) (Via.of (o0 hw 99 rfl)) e0 pf2 rfl rfl (hb hby o146)) ?_
  intro T1315 X1315 e1315
  refine o2 (fun u j => o5 X1315.here hx rfl (hb hby o147) (o36 X1315.here hx rfl (hb hby o148) rfl j)) ?_
  refine o32 (putF X1315 hx hZ hown (host := "") (Or.inl (o0 hw 98 rfl)) (Via.of (o0 hw 99 rfl)) e1315 pf2 pe1 (Or.inl (o0 hw 58 rfl)) (o0 hw 39 rfl) (ty := .int) o18 rfl rfl rfl rfl (hb hby o149)) ?_
  intro T1316 h1316 X1316 e1316 W1316
  have N1316 := Fr.snoc X1316 N0 pg_ad0
  have F1317 : Fld Z h1316 ad0 o8 o9 "I" (.int (iv2 + (1 : Int32))) := Fld.same W1316 pf2
  refine o2 (fun u j => o1 X1316.here hx rfl (hb hby o118) rfl rfl (o1 X1316.here hx rfl (hb hby o119) rfl rfl (o1 X1316.here hx rfl (hb hby o120) rfl rfl j))) ?_
  have F1318 := (Fld.other W1316 pf3 (Or.inr (o196 hw)))
  refine o19 (getF X1316 hx hZ hown (host := "") (Or.inl (o0 hw 60 rfl)) Via.refl e1316 F1318 rfl rfl (hb hby o121)) ?_
  intro T1319 X1319 e1319
  refine o2 (fun u j => o1 X1319.here hx rfl (hb hby o122) rfl rfl j) ?_
  have F1320 := (Fld.other W1316 pf4 (Or.inr (o197 hw)))
  refine o19 (getF X1319 hx hZ hown (host := "") (Or.inl (o0 hw 83 rfl)) Via.refl e1319 F1320 rfl rfl (hb hby o123)) ?_
  intro T1321 X1321 e1321
  have F1322 := (Exa.wr W1316 pe1)
  have F1323 := (Exa.wr W1316 pe5)
  have F1324 := (Exa.wr W1316 pe8)
  have ne1325 := (ne_exa pe8 pe1 o143)
  have F1326 := (pa9.other W1316 ne1325)
  have O1328 := O0.wr W1316 pg_ad0
  refine o11 (o62 X1321 hx hZ (y := o156) hown (o0 hw 100 rfl) (o0 hw 101 rfl) (mvT hZ (o0 hw 103 rfl)) (o0 hw 102 rfl) (o0 hw 40 rfl) (o0 hw 104 rfl) o42 (o947 l Z a0 hw [] wcs wd mOA mSL mAL kd hS ad0 ad1 ad3 (iv2 + (1 : Int32)) kc5 h1316 n0 O1328 F1322 F1317 F1318 F1320 F1323 F1324 F1326 pg_ad0) e1321 F1322 o387 (argsL := [.ref ad1, .ref ad3, .int 1]) (rest := []) rfl rfl (g := (mkF m 20 #[.val (.ref ad0), .val (.ref ad1)] [.int 1, .ref ad3, .ref ad1, .ref ad0])) rfl (by rw [hml]; rfl) rfl (hb hby o124) (W := 0) rfl (by decide) (by decide) (by decide) (by decide)) ?_
  intro T1327 v1327 L1327 X1327 hQ1327
  obtain ⟨nz0_1329, kz1_1330, rfl, M1327, K1327, z1331, F1332, F1333, F1334, F1335, F1336, F1337, ov0_1338⟩ := hQ1327
  have N1327 := Fr.app N1316 M1327
  refine o2 (fun u j => o5 X1327.here hx rfl (hb hby o135) j) ?_
  have K1339 := (Keep.refl h0 [ad0]).wr W1316 (Or.inl (List.mem_of_getElem? (i := 0) rfl))
  have K1340 := K1339.trans K1327 (allS (Or.inl (List.mem_of_getElem? (i := 0) rfl)) all0)
  have z1341 := Nat.le_trans (Nat.le_of_eq W1316.size.symm) z1331
  exact o20 X1327 hx hlk hret rfl (Or.inl ⟨rfl, by simp, _, rfl⟩) (hb hby o136) (by decide) (by decide) (by exact ⟨nz0_1329, kz1_1330, rfl, N1327, K1340, z1341, F1332, F1333, F1334, F1335, F1336, F1337, ov0_1338⟩)
theorem o315 : decode prog_33_method_4_code 51 = .ok (.pop, 1) := by decide +kernel
theorem o316 : decode prog_33_method_4_code 52 = .ok (.aload_n 3, 1) := by decide +kernel
theorem o317 : decode prog_33_method_4_code 53 = .ok (.areturn, 1) := by decide +kernel
theorem o889 (l : Launch) (Z : State) (a0 : Array Value) (hw : o21 a0 Z) (ws : List Jvm.Cond) (wcs : Int32) (wd mOA mSL mAL : Addr) (kd : ClassId) (hS : o22 Z wcs wd mOA mSL mAL kd) (ad0 ad1 ad2 : Addr) (iv4 : Int32) (ad5 : Addr) (kc9 : ClassId) (h0 : Heap) (n0 : Nat) (O0 : Old Z n0 h0) (pf2 : Fld Z h0 ad0 o54 "path" o66 (.ref ad2)) (pe3 : Exa Z h0 ad1 o6) (pe6 : Exa Z h0 ad2 o3) (pf7 : Fld Z h0 ad2 o8 o9 "I" (.int iv4)) (pf8 : Fld Z h0 ad2 o3 o13 o7 (.ref ad5)) (pf9 : Fld Z h0 ad2 o3 "size" "I" (.int 1)) (pe12 : Exa Z h0 ad5 o7) (pa13 : Arv Z h0 ad5 kc9 (.object "java/lang/Object") 10 [.ref ad1, .null, .null, .null, .null, .null, .null, .null, .null, .null] .null) :
    o16 l o39 prog_33_method_4_code 4 (some (.object "java/util/List")) ws ⟨7, 5, 12, 111⟩ Z h0 #[.ref ad0, .ref ad1] (fun v h L => ∃ nz0 : Addr, ∃ nz1 : Addr, ∃ kz2 : ClassId, v = some (.ref nz0) ∧ Fr n0 L ∧ Keep h0 h [] ∧ h0.size ≤ nz0 ∧ h0.size ≤ nz1 ∧ Exa Z h nz0 o3 ∧ Fld Z h nz0 o8 o9 "I" (.int ((0 : Int32) + (1 : Int32))) ∧ Fld Z h nz0 o3 o13 o7 (.ref nz1) ∧ Fld Z h nz0 o3 "size" "I" (.int 2) ∧ Exa Z h nz1 o7 ∧ Arv Z h nz1 kz2 (.object "java/lang/Object") 2 [.ref ad1, .ref ad1] .null ∧ Ovr Z kz2 "java/lang/Object") := by
  refine o15 (plainFor_of_name o76) ?_
  intro p e s m below meth c s₁ hx hby hml hown hnm hret hlk hZ e0 X0
  have N0 := Fr.nil n0
  refine o2 (fun u j => castTop (show entryFrame m #[.ref ad0, .ref ad1] 4 = mkF m 0 #[.val (.ref ad0), .val (.ref ad1), .unset, .unset] [] from rfl) j) ?_
  refine o2 (fun u j => o1 X0.here hx rfl (hb hby o98) rfl rfl j) ?_
  refine o19 (getF X0 hx hZ hown (host := "") (Or.inl (o0 hw 62 rfl)) Via.refl e0 pf2 rfl rfl (hb hby o99)) ?_
  intro T1355 X1355 e1355
  refine o2 (fun u j => o1 X1355.here hx rfl (hb hby o100) rfl rfl j) ?_
  refine o11 (o29 X1355 hx hZ (y := o364) (z := o113) hown (o0 hw 74 rfl) (o0 hw 75 rfl) (mvT hZ (o0 hw 76 rfl)) (o0 hw 77 rfl) (o0 hw 78 rfl) (o0 hw 79 rfl) (o0 hw 80 rfl) (o0 hw 81 rfl) (o0 hw 40 rfl) (o0 hw 82 rfl) o27 (o935 l Z a0 hw [] wcs wd mOA mSL mAL kd hS ad2 ad1 ad5 kc9 h0 n0 O0 pe6 pf8 pf9 pe3 pa13) e1355 pe6 o243 (argsL := [.ref ad1]) (rest := []) rfl rfl (g := (mkF m 5 #[.val (.ref ad0), .val (.ref ad1), .unset, .unset] [.ref ad1, .ref ad2])) rfl (by rw [hml]; rfl) rfl (hb hby o101) (W := 0) rfl (by decide) (by decide) (by decide) (by decide)) ?_
  intro T1356 v1356 L1356 X1356 hQ1356
  obtain ⟨rfl, M1356, e1356⟩ := hQ1356
  have N1356 := Fr.app N0 M1356
  refine o2 (fun u j => o45 X1356.here hx rfl (hb hby o88) rfl (l' := #[.val (.ref ad0), .val (.ref ad1), .val (.int 0), .unset]) rfl (o4 X1356.here hx rfl (hb hby o89) rfl (o43 X1356.here hx rfl (pc0 := 12) (pc' := 17) rfl (hb hby o90) rfl (o140 (by decide)) (by decide) (by decide) j))) ?_
  have q_ := newO X1356 hx hZ hown (o0 hw 38 rfl) (o0 hw 39 rfl) (o0 hw 40 rfl) e1356 (g := (mkF m 17 #[.val (.ref ad0), .val (.ref ad1), .val (.int 0), .unset] [])) rfl (hb hby o260) (by decide) (by decide)
  obtain ⟨T1357, h1357, X1357, e1357, E1357, A1357, D1357, U1357, st1357⟩ := q_
  have q_ : ∃ z, z = h0.size := ⟨_, rfl⟩
  obtain ⟨b1357, g1357⟩ := q_
  rw [← g1357] at A1357 D1357 U1357 st1357
  have F1357_modCount : Fld Z h1357 b1357 o8 o9 "I" (.int 0) := D1357 (Or.inl (o0 hw 58 rfl)) (ty := .int) o18
  have F1357_elementData : Fld Z h1357 b1357 o3 o13 o7 .null := D1357 (Or.inl (o0 hw 61 rfl)) (ty := (.array (.object "java/lang/Object"))) o68
  have F1357_size : Fld Z h1357 b1357 o3 "size" "I" (.int 0) := D1357 (Or.inl (o0 hw 84 rfl)) (ty := .int) o18
  refine o2 (fun u j => st1357 u j) ?_
  refine o2 (fun u j => o40 X1357.here hx rfl (hb hby o261) rfl rfl (o1 X1357.here hx rfl (hb hby o262) rfl rfl j)) ?_
  have F1358 := (Fld.ext E1357 pf2)
  refine o19 (getF X1357 hx hZ hown (host := "") (Or.inl (o0 hw 62 rfl)) Via.refl e1357 F1358 rfl rfl (hb hby o263)) ?_
  intro T1359 X1359 e1359
  refine o2 (fun u j => o4 X1359.here hx rfl (hb hby o264) rfl (o1 X1359.here hx rfl (hb hby o265) rfl rfl j)) ?_
  refine o19 (getF X1359 hx hZ hown (host := "") (Or.inl (o0 hw 62 rfl)) Via.refl e1359 F1358 rfl rfl (hb hby o266)) ?_
  intro T1360 X1360 e1360
  have F1361 := (Fld.ext E1357 pf9)
  have O1363 := O0.ext E1357
  have F1364 := (Exa.ext E1357 pe6)
  refine o11 (o29 X1360 hx hZ (y := o186) (z := o154) hown (o0 hw 138 rfl) (o0 hw 139 rfl) (mvT hZ (o0 hw 140 rfl)) (o0 hw 141 rfl) (o0 hw 142 rfl) (o0 hw 143 rfl) (o0 hw 144 rfl) (o0 hw 81 rfl) (o0 hw 40 rfl) (o0 hw 145 rfl) o27 (o591 l Z a0 hw [] wcs wd mOA mSL mAL kd hS ad2 (1 : Int32) h1357 n0 O1363 F1361) e1360 F1364 o142 (argsL := []) (rest := [.int 0, .ref ad2, .ref b1357, .ref b1357]) rfl rfl (g := (mkF m 30 #[.val (.ref ad0), .val (.ref ad1), .val (.int 0), .unset] [.ref ad2, .int 0, .ref ad2, .ref b1357, .ref b1357])) rfl (by rw [hml]; rfl) rfl (hb hby o267) (W := 4) rfl (by decide) (by decide) (by decide) (by decide)) ?_
  intro T1362 v1362 L1362 X1362 hQ1362
  obtain ⟨rfl, M1362, e1362⟩ := hQ1362
  have N1362 := Fr.app N1356 M1362
  have F1365 := (Fld.ext E1357 pf7)
  refine o11 (o29 X1362 hx hZ (y := o640) (z := o370) hown (o0 hw 168 rfl) (o0 hw 169 rfl) (mvT hZ (o0 hw 170 rfl)) (o0 hw 171 rfl) (o0 hw 172 rfl) (o0 hw 173 rfl) (o0 hw 174 rfl) (o0 hw 81 rfl) (o0 hw 40 rfl) (o0 hw 175 rfl) o27 (o937 l Z a0 hw [] wcs wd mOA mSL mAL kd hS ad2 iv4 h1357 n0 O1363 F1364 F1365 F1361) e1362 F1364 o626 (argsL := [.int 0, .int 1]) (rest := [.ref b1357, .ref b1357]) rfl rfl (g := (mkF m 35 #[.val (.ref ad0), .val (.ref ad1), .val (.int 0), .unset] [.int 1, .int 0, .ref ad2, .ref b1357, .ref b1357])) rfl (by rw [hml]; rfl) rfl (hb hby o268) (W := 2) rfl (by decide) (by decide) (by decide) (by decide)) ?_
  intro T1366 v1366 L1366 X1366 hQ1366
  obtain ⟨nz0_1367, rfl, M1366, K1366, z1368, F1369, F1370, F1371, F1372, F1373, F1374⟩ := hQ1366
  have N1366 := Fr.app N1362 M1366
  have F1375 := (A1357.keep K1366)
  have F1376 := (F1357_modCount.keep K1366 nin0)
  have F1377 := (F1357_elementData.keep K1366 nin0)
  have F1378 := (F1357_size.keep K1366 nin0)
  have F1379 := (F1365.keep K1366 nin0)
  have F1380 := ((Fld.ext E1357 pf8).keep K1366 nin0)
  have F1381 := ((Exa.ext E1357 pe12).keep K1366)
  have F1382 := ((pa13.ext E1357).keep K1366 nin0)
  have F1383 := ((Exa.ext E1357 pe3).keep K1366)
  have g1384 := Nat.le_trans (o52 O0) (Nat.le_of_eq g1357.symm)
  have ne1385 := (Nat.ne_of_lt (Nat.lt_of_lt_of_le pe6.lt (Nat.le_of_eq g1357.symm)))
  have O1387 := O1363.keep K1366 all0
  refine o11 (o50 X1366 hx hZ (y := o374) rfl hown (o0 hw 202 rfl) (o0 hw 203 rfl) (o0 hw 40 rfl) (o0 hw 204 rfl) o42 (o941 l Z a0 hw [] wcs wd mOA mSL mAL kd hS b1357 nz0_1367 (0 : Int32) iv4 ad2 ad5 kc9 ad1 T1366.heap n0 O1387 F1375 F1376 F1377 F1378 F1369 F1370 F1371 F1373 F1374 F1379 F1380 F1381 F1382 F1383 g1384 ne1385) rfl o630 (a := b1357) (argsL := [.ref nz0_1367]) (rest := [.ref b1357]) rfl rfl (g := (mkF m 40 #[.val (.ref ad0), .val (.ref ad1), .val (.int 0), .unset] [.ref nz0_1367, .ref b1357, .ref b1357])) rfl (by rw [hml]; rfl) rfl (hb hby o291) (W := 1) rfl (by decide) (by decide) (by decide) (by decide)) ?_
  intro T1386 v1386 L1386 X1386 hQ1386
  obtain ⟨nz0_1388, kz1_1389, rfl, M1386, K1386, z1390, F1391, F1392, F1393, F1394, F1395, F1396, ov0_1397⟩ := hQ1386
  have N1386 := Fr.app N1366 M1386
  refine o2 (fun u j => o31 X1386.here hx rfl (hb hby o311) rfl rfl (l' := #[.val (.ref ad0), .val (.ref ad1), .val (.int 0), .val (.ref b1357)]) rfl (o1 X1386.here hx rfl (hb hby o312) rfl rfl (o1 X1386.here hx rfl (hb hby o313) rfl rfl j))) ?_
  have F1398 := (F1383.keep K1386)
  have O1400 := O1387.keep K1386 (allS g1384 all0)
  refine o11 (o29 X1386 hx hZ (y := o367) (z := o137) hown (o0 hw 90 rfl) (o0 hw 91 rfl) (mvT hZ (o0 hw 92 rfl)) (o0 hw 93 rfl) (o0 hw 94 rfl) (o0 hw 95 rfl) (o0 hw 96 rfl) (o0 hw 81 rfl) (o0 hw 40 rfl) (o0 hw 97 rfl) o27 (o888 l Z a0 hw [] wcs wd mOA mSL mAL kd hS b1357 ad1 (0 : Int32) nz0_1388 kz1_1389 T1386.heap n0 O1400 F1391 F1392 F1393 F1394 F1398 F1395 F1396 g1384) rfl F1391 o46 (argsL := [.ref ad1]) (rest := []) rfl rfl (g := (mkF m 46 #[.val (.ref ad0), .val (.ref ad1), .val (.int 0), .val (.ref b1357)] [.ref ad1, .ref b1357])) rfl (by rw [hml]; rfl) rfl (hb hby o314) (W := 0) rfl (by decide) (by decide) (by decide) (by decide)) ?_
  intro T1399 v1399 L1399 X1399 hQ1399
  obtain ⟨nz0_1401, kz1_1402, rfl, M1399, K1399, z1403, F1404, F1405, F1406, F1407, F1408, F1409, ov0_1410⟩ := hQ1399
  have N1399 := Fr.app N1386 M1399
  refine o2 (fun u j => o55 X1399.here hx rfl (hb hby o315) rfl rfl (o1 X1399.here hx rfl (hb hby o316) rfl rfl j)) ?_
  have K1411 := (Keep.refl h0 []).ext E1357
  have K1412 := K1411.trans K1366 all0
  have z1414 := Nat.le_trans (Nat.le_refl _) (Nat.le_of_eq g1357.symm)
  have K1413 := K1412.trans K1386 (allS (Or.inr z1414) all0)
  have K1415 := K1413.trans K1399 (allS (Or.inr z1414) all0)
  have z1416 := Nat.le_trans (Nat.le_trans (Nat.le_trans E1357.1 K1366.1) K1386.1) z1403
  exact o20 X1399 hx hlk hret rfl (Or.inr (Or.inr (Or.inr (Or.inr ⟨rfl, rfl, rfl⟩)))) (hb hby o317) (by decide) (by decide) (by exact ⟨b1357, nz0_1401, kz1_1402, rfl, N1399, K1415, z1414, z1416, F1404, F1405, F1406, F1407, F1408, F1409, ov0_1410⟩)
abbrev o195 : MethodName := ⟨"java/util/List", "get", "(I)Ljava/lang/Object;"⟩
theorem o769 : decode jdk_42_method_66_code 7 = .ok (.aload_n 1, 1) := by decide +kernel
theorem o770 : decode jdk_42_method_66_code 8 = .ok (.instanceof 10, 3) := by decide +kernel
theorem o689 : decode jdk_42_method_66_code 11 = .ok (.ifCond .eq 43, 3) := by decide +kernel
theorem o690 : decode jdk_42_method_66_code 14 = .ok (.aload_n 1, 1) := by decide +kernel
theorem o691 : decode jdk_42_method_66_code 15 = .ok (.checkcast 10, 3) := by decide +kernel
theorem o692 : decode jdk_42_method_66_code 18 = .ok (.astore_n 2, 1) := by decide +kernel
theorem o693 : decode jdk_42_method_66_code 19 = .ok (.getstatic 38, 3) := by decide +kernel
theorem o694 : decode jdk_42_method_66_code 22 = .ok (.ifCond .eq 14, 3) := by decide +kernel
theorem o695 : decode jdk_42_method_66_code 25 = .ok (.aload_n 0, 1) := by decide +kernel
theorem o696 : decode jdk_42_method_66_code 26 = .ok (.getfield 15, 3) := by decide +kernel
theorem o697 : decode jdk_42_method_66_code 29 = .ok (.aload_n 2, 1) := by decide +kernel
theorem o698 : decode jdk_42_method_66_code 30 = .ok (.getfield 15, 3) := by decide +kernel
theorem o699 : decode jdk_42_method_66_code 33 = .ok (.if_icmp .ne 21, 3) := by decide +kernel
theorem o700 : decode jdk_42_method_66_code 36 = .ok (.aload_n 0, 1) := by decide +kernel
theorem o701 : decode jdk_42_method_66_code 37 = .ok (.getfield 9, 3) := by decide +kernel
theorem o702 : decode jdk_42_method_66_code 40 = .ok (.aload_n 2, 1) := by decide +kernel
theorem o703 : decode jdk_42_method_66_code 41 = .ok (.getfield 9, 3) := by decide +kernel
theorem o704 : decode jdk_42_method_66_code 44 = .ok (.invokestatic 541, 3) := by decide +kernel
theorem o771 : decode jdk_43_method_13_code 0 = .ok (.aload_n 0, 1) := by decide +kernel
theorem o772 : decode jdk_43_method_13_code 1 = .ok (.arraylength, 1) := by decide +kernel
theorem o773 : decode jdk_43_method_13_code 2 = .ok (.aload_n 1, 1) := by decide +kernel
theorem o774 : decode jdk_43_method_13_code 3 = .ok (.arraylength, 1) := by decide +kernel
theorem o775 : decode jdk_43_method_13_code 4 = .ok (.if_icmp .ne 30, 3) := by decide +kernel
theorem o705 : decode jdk_43_method_13_code 34 = .ok (.iconst 0, 1) := by decide +kernel
theorem o706 : decode jdk_43_method_13_code 35 = .ok (.ireturn, 1) := by decide +kernel
abbrev o825 : MethodName := ⟨"java/lang/StringLatin1", "equals", "([B[B)Z"⟩
theorem o869 : plainName "java/lang/StringLatin1" = true := by first | (simp [plainName, overriddenIn]; done) | decide +kernel
theorem o948 (l : Launch) (Z : State) (a0 : Array Value) (hw : o21 a0 Z) (ws : List Jvm.Cond) (wcs : Int32) (wd mOA mSL mAL : Addr) (kd : ClassId) (hS : o22 Z wcs wd mOA mSL mAL kd) (ad0 ad1 : Addr) (kc2 : ClassId) (iv3 : Int32) (lv4 : List Value) (kc5 : ClassId) (iv6 : Int32) (lv7 : List Value) (h0 : Heap) (n0 : Nat) (O0 : Old Z n0 h0) (pa2 : Arv Z h0 ad0 kc2 .byte iv3 lv4 (.int 0)) (pa4 : Arv Z h0 ad1 kc5 .byte iv6 lv7 (.int 0)) (pk_0 : ¬ iv3 = iv6) :
    o16 l o825 jdk_43_method_13_code 3 (some .boolean) ws ⟨0, 0, 0, 0⟩ Z h0 #[.ref ad0, .ref ad1] (fun v h L => v = some (.int 0) ∧ Fr n0 L ∧ h = h0) := by
  refine o15 (plainFor_of_name o869) ?_
  intro p e s m below meth c s₁ hx hby hml hown hnm hret hlk hZ e0 X0
  have N0 := Fr.nil n0
  refine o2 (fun u j => castTop (show entryFrame m #[.ref ad0, .ref ad1] 3 = mkF m 0 #[.val (.ref ad0), .val (.ref ad1), .unset] [] from rfl) j) ?_
  refine o2 (fun u j => o1 X0.here hx rfl (hb hby o771) rfl rfl (o65 X0 hx hZ e0 pa2 rfl rfl (hb hby o772) (o1 X0.here hx rfl (hb hby o773) rfl rfl (o65 X0 hx hZ e0 pa4 rfl rfl (hb hby o774) (o23 X0.here hx rfl (pc0 := 4) (pc' := 34) rfl (hb hby o775) rfl (o139 pk_0) (by decide) (by decide) (o5 X0.here hx rfl (hb hby o705) j)))))) ?_
  show o17 p e below _ (s₁.setTop (mkF m 35 #[.val (.ref ad0), .val (.ref ad1), .unset] [.int 0]))
  exact o20 X0 hx hlk hret rfl (Or.inl ⟨rfl, by simp, _, rfl⟩) (hb hby o706) (by decide) (by decide) (by rw [e0]; exact ⟨rfl, N0, rfl⟩)
theorem o870 : ("java/lang/StringLatin1" : String) ≠ "java/lang/invoke/MethodHandle" ∧ ("java/lang/StringLatin1" : String) ≠ "java/lang/invoke/VarHandle" := by decide +kernel
theorem o871 : parseMethodDescriptor "([B[B)Z" = some ⟨[(.array .byte), (.array .byte)], some .boolean⟩ := by decide +kernel
theorem o707 : decode jdk_42_method_66_code 47 = .ok (.ifCond .eq 7, 3) := by decide +kernel
theorem o708 : decode jdk_42_method_66_code 54 = .ok (.iconst 0, 1) := by decide +kernel
theorem o709 : decode jdk_42_method_66_code 55 = .ok (.ireturn, 1) := by decide +kernel
theorem o831 (l : Launch) (Z : State) (a0 : Array Value) (hw : o21 a0 Z) (ws : List Jvm.Cond) (wcs : Int32) (wd mOA mSL mAL : Addr) (kd : ClassId) (hS : o22 Z wcs wd mOA mSL mAL kd) (ad0 ad1 : Addr) (ad2 ad3 : Addr) (kc4 : ClassId) (iv5 : Int32) (lv6 : List Value) (kc7 : ClassId) (iv8 : Int32) (lv9 : List Value) (h0 : Heap) (n0 : Nat) (O0 : Old Z n0 h0) (pf2 : Fld Z h0 ad0 o6 "coder" "B" (.int 0)) (pf3 : Fld Z h0 ad0 o6 "value" "[B" (.ref ad2)) (pe4 : Exa Z h0 ad1 o6) (pf5 : Fld Z h0 ad1 o6 "coder" "B" (.int 0)) (pf6 : Fld Z h0 ad1 o6 "value" "[B" (.ref ad3)) (pa8 : Arv Z h0 ad2 kc4 .byte iv5 lv6 (.int 0)) (pa10 : Arv Z h0 ad3 kc7 .byte iv8 lv9 (.int 0)) (pk_0 : ¬ iv5 = iv8) (pn_ad0_ad1 : ad0 ≠ ad1) :
    o16 l o41 jdk_42_method_66_code 3 (some .boolean) ws ⟨1, 0, 0, 14⟩ Z h0 #[.ref ad0, .ref ad1] (fun v h L => v = some (.int 0) ∧ Fr n0 L ∧ h = h0) := by
  refine o15 (plainFor_of_name o363) ?_
  intro p e s m below meth c s₁ hx hby hml hown hnm hret hlk hZ e0 X0
  have N0 := Fr.nil n0
  refine o2 (fun u j => castTop (show entryFrame m #[.ref ad0, .ref ad1] 3 = mkF m 0 #[.val (.ref ad0), .val (.ref ad1), .unset] [] from rfl) j) ?_
  refine o2 (fun u j => o1 X0.here hx rfl (hb hby o597) rfl rfl (o1 X0.here hx rfl (hb hby o598) rfl rfl (XT.acmpYes X0.here hx rfl (pc0 := 2) (pc' := 7) rfl (hb hby o599) rfl rfl rfl (XT.aa_ne_t (o647 pn_ad0_ad1)) (by decide) (by decide) (o1 X0.here hx rfl (hb hby o769) rfl rfl j)))) ?_
  have q_ := instY X0 hx hZ hown (o0 hw 128 rfl) e0 (Ins.self pe4) (g := (mkF m 8 #[.val (.ref ad0), .val (.ref ad1), .unset] [.ref ad1])) rfl rfl (hb hby o770)
  obtain ⟨T1516, X1516, e1516, st1516⟩ := q_
  refine o2 (fun u j => st1516 u j) ?_
  refine o2 (fun u j => o34 X1516.here hx rfl (hb hby o689) rfl (o33 (by decide)) (o1 X1516.here hx rfl (hb hby o690) rfl rfl j)) ?_
  have q_ := castY X1516 hx hZ hown (o0 hw 128 rfl) e1516 (Ins.self pe4) (g := (mkF m 15 #[.val (.ref ad0), .val (.ref ad1), .unset] [.ref ad1])) rfl rfl (hb hby o691)
  obtain ⟨T1517, X1517, e1517, st1517⟩ := q_
  refine o2 (fun u j => st1517 u j) ?_
  refine o2 (fun u j => o31 X1517.here hx rfl (hb hby o692) rfl rfl (l' := #[.val (.ref ad0), .val (.ref ad1), .val (.ref ad1)]) rfl j) ?_
  have F1518 := Sta.ext O0.2 hS.1
  refine o19 (getS2 X1517 hx hZ hown (host := "") (Or.inl (o0 hw 14 rfl)) Via.refl e1517 F1518 rfl (hb hby o693)) ?_
  intro T1519 X1519 e1519
  refine o2 (fun u j => o34 X1519.here hx rfl (hb hby o694) rfl (o33 hS.2.1) (o1 X1519.here hx rfl (hb hby o695) rfl rfl j)) ?_
  refine o19 (getF X1519 hx hZ hown (host := "") (Or.inl (o0 hw 26 rfl)) Via.refl e1519 pf2 rfl rfl (hb hby o696)) ?_
  intro T1520 X1520 e1520
  refine o2 (fun u j => o1 X1520.here hx rfl (hb hby o697) rfl rfl j) ?_
  refine o19 (getF X1520 hx hZ hown (host := "") (Or.inl (o0 hw 26 rfl)) Via.refl e1520 pf5 rfl rfl (hb hby o698)) ?_
  intro T1521 X1521 e1521
  refine o2 (fun u j => o28 X1521.here hx rfl (hb hby o699) rfl (o83 (by decide)) (o1 X1521.here hx rfl (hb hby o700) rfl rfl j)) ?_
  refine o19 (getF X1521 hx hZ hown (host := "") (Or.inl (o0 hw 28 rfl)) Via.refl e1521 pf3 rfl rfl (hb hby o701)) ?_
  intro T1522 X1522 e1522
  refine o2 (fun u j => o1 X1522.here hx rfl (hb hby o702) rfl rfl j) ?_
  refine o19 (getF X1522 hx hZ hown (host := "") (Or.inl (o0 hw 28 rfl)) Via.refl e1522 pf6 rfl rfl (hb hby o703)) ?_
  intro T1523 X1523 e1523
  refine o11 (o25 X1523 hx hZ (y := o825) hown (o0 hw 129 rfl) (o0 hw 130 rfl) (o0 hw 131 rfl) (o0 hw 132 rfl) o870 (o948 l Z a0 hw [] wcs wd mOA mSL mAL kd hS ad2 ad3 kc4 iv5 lv6 kc7 iv8 lv9 h0 n0 O0 pa8 pa10 pk_0) e1523 o871 (argsL := [.ref ad2, .ref ad3]) (rest := []) rfl rfl (g := (mkF m 44 #[.val (.ref ad0), .val (.ref ad1), .val (.ref ad1)] [.ref ad3, .ref ad2])) rfl (by rw [hml]; rfl) rfl (hb hby o704) (W := 0) rfl (by decide) (by decide) (by decide) (by decide)) ?_
  intro T1524 v1524 L1524 X1524 hQ1524
  obtain ⟨rfl, M1524, e1524⟩ := hQ1524
  have N1524 := Fr.app N0 M1524
  refine o2 (fun u j => o43 X1524.here hx rfl (pc0 := 47) (pc' := 54) rfl (hb hby o707) rfl (XT.i0_eq_t (by decide)) (by decide) (by decide) (o5 X1524.here hx rfl (hb hby o708) j)) ?_
  exact o20 X1524 hx hlk hret rfl (Or.inl ⟨rfl, by simp, _, rfl⟩) (hb hby o709) (by decide) (by decide) (by rw [e1524]; exact ⟨rfl, N1524, rfl⟩)
theorem o318 : decode jdk_38_method_12_code 63 = .ok (.iinc 5 1, 3) := by decide +kernel
theorem o319 : decode jdk_38_method_12_code 66 = .ok (.goto (-24), 3) := by decide +kernel
theorem o949 (l : Launch) (Z : State) (a0 : Array Value) (hw : o21 a0 Z) (ws : List Jvm.Cond) (wcs : Int32) (wd mOA mSL mAL : Addr) (kd : ClassId) (hS : o22 Z wcs wd mOA mSL mAL kd) (ad0 ad1 : Addr) (ad3 ad4 : Addr) (kc5 : ClassId) (ad6 : Addr) (kc7 : ClassId) (iv8 : Int32) (lv9 : List Value) (ad10 : Addr) (kc11 : ClassId) (iv12 : Int32) (lv13 : List Value) (h0 : Heap) (n0 : Nat) (O0 : Old Z n0 h0) (pf3 : Fld Z h0 ad0 o3 o13 o7 (.ref ad3)) (pe5 : Exa Z h0 ad1 o6) (pf6 : Fld Z h0 ad1 o6 "coder" "B" (.int 0)) (pf7 : Fld Z h0 ad1 o6 "value" "[B" (.ref ad4)) (pa9 : Arv Z h0 ad3 kc5 (.object "java/lang/Object") 10 [.ref ad6, .null, .null, .null, .null, .null, .null, .null, .null, .null] .null) (pa11 : Arv Z h0 ad4 kc7 .byte iv8 lv9 (.int 0)) (pe12 : Exa Z h0 ad6 o6) (pf13 : Fld Z h0 ad6 o6 "coder" "B" (.int 0)) (pf14 : Fld Z h0 ad6 o6 "value" "[B" (.ref ad10)) (pa16 : Arv Z h0 ad10 kc11 .byte iv12 lv13 (.int 0)) (pk_0 : ¬ iv8 = iv12) (pn_ad1_ad6 : ad1 ≠ ad6) :
    o16 l o61 jdk_38_method_12_code 6 (some .int) ws ⟨2, 0, 0, 28⟩ Z h0 #[.ref ad0, .ref ad1, .int 0, .int 1] (fun v h L => v = some (.int (-1)) ∧ Fr n0 L ∧ h = h0) := by
  refine o15 (plainFor_of_name o24) ?_
  intro p e s m below meth c s₁ hx hby hml hown hnm hret hlk hZ e0 X0
  have N0 := Fr.nil n0
  refine o2 (fun u j => castTop (show entryFrame m #[.ref ad0, .ref ad1, .int 0, .int 1] 6 = mkF m 0 #[.val (.ref ad0), .val (.ref ad1), .val (.int 0), .val (.int 1), .unset, .unset] [] from rfl) j) ?_
  refine o2 (fun u j => o1 X0.here hx rfl (hb hby o108) rfl rfl j) ?_
  refine o19 (getF X0 hx hZ hown (host := "") (Or.inl (o0 hw 60 rfl)) Via.refl e0 pf3 rfl rfl (hb hby o109)) ?_
  intro T1526 X1526 e1526
  refine o2 (fun u j => o37 X1526.here hx rfl (hb hby o110) rfl rfl (l' := #[.val (.ref ad0), .val (.ref ad1), .val (.int 0), .val (.int 1), .val (.ref ad3), .unset]) rfl (o1 X1526.here hx rfl (hb hby o111) rfl rfl (o60 X1526.here hx rfl (pc0 := 7) (pc' := 39) rfl (hb hby o112) rfl (by decide) (by decide) (o4 X1526.here hx rfl (hb hby o85) rfl (o30 X1526.here hx rfl (hb hby o86) rfl (l' := #[.val (.ref ad0), .val (.ref ad1), .val (.int 0), .val (.int 1), .val (.ref ad3), .val (.int 0)]) rfl (o10 X1526.here hx rfl (hb hby o56) rfl j)))))) ?_
  show o17 p e below _ (T1526.setTop (mkF m 44 #[.val (.ref ad0), .val (.ref ad1), .val (.int 0), .val (.int 1), .val (.ref ad3), .val (.int 0)] [.int 0]))
  refine o2 (fun u j => o4 X1526.here hx rfl (hb hby o57) rfl (o28 X1526.here hx rfl (hb hby o58) rfl (o53 (by decide)) (o1 X1526.here hx rfl (hb hby o91) rfl rfl (o12 X1526.here hx rfl (hb hby o92) rfl rfl (o10 X1526.here hx rfl (hb hby o93) rfl (o413 X1526 hx hZ e1526 pa9 (j := (0 : Int32)) (v := (.ref ad6)) ⟨by decide, by decide⟩ rfl rfl rfl (hb hby o94) j)))))) ?_
  show o17 p e below _ (T1526.setTop (mkF m 54 #[.val (.ref ad0), .val (.ref ad1), .val (.int 0), .val (.int 1), .val (.ref ad3), .val (.int 0)] [.ref ad6, .ref ad1]))
  refine o11 (o26 X1526 hx hZ (y := o368) (z := o41) hown (o0 hw 122 rfl) (o0 hw 123 rfl) (o574 (args := #[]) (mvT hZ (o0 hw 227 rfl)) rfl) (o0 hw 125 rfl) (o0 hw 126 rfl) (o0 hw 3 rfl) (o0 hw 127 rfl) o257 (o831 l Z a0 hw [] wcs wd mOA mSL mAL kd hS ad1 ad6 ad4 ad10 kc7 iv8 lv9 kc11 iv12 lv13 h0 n0 O0 pf6 pf7 pe12 pf13 pf14 pa11 pa16 pk_0 pn_ad1_ad6) e1526 pe5 o46 (argsL := [.ref ad6]) (rest := []) rfl rfl (g := (mkF m 54 #[.val (.ref ad0), .val (.ref ad1), .val (.int 0), .val (.int 1), .val (.ref ad3), .val (.int 0)] [.ref ad6, .ref ad1])) rfl (by rw [hml]; rfl) rfl (hb hby o95) (W := 0) rfl (by decide) (by decide) (by decide) (by decide)) ?_
  intro T1527 v1527 L1527 X1527 hQ1527
  obtain ⟨rfl, M1527, e1527⟩ := hQ1527
  have N1527 := Fr.app N0 M1527
  refine o2 (fun u j => o43 X1527.here hx rfl (pc0 := 57) (pc' := 63) rfl (hb hby o96) rfl (XT.i0_eq_t (by decide)) (by decide) (by decide) (o51 X1527.here hx rfl (hb hby o318) rfl (l' := #[.val (.ref ad0), .val (.ref ad1), .val (.int 0), .val (.int 1), .val (.ref ad3), .val (.int 1)]) rfl (o35 X1527.here hx rfl (pc0 := 66) (pc' := 42) rfl (hb hby o319) (by decide) (by decide) (o10 X1527.here hx rfl (hb hby o56) rfl (o4 X1527.here hx rfl (hb hby o57) rfl (o23 X1527.here hx rfl (pc0 := 45) (pc' := 69) rfl (hb hby o58) rfl (XT.ii_ge_t (by decide)) (by decide) (by decide) j)))))) ?_
  show o17 p e below _ (T1527.setTop (mkF m 69 #[.val (.ref ad0), .val (.ref ad1), .val (.int 0), .val (.int 1), .val (.ref ad3), .val (.int 1)] []))
  refine o2 (fun u j => o5 X1527.here hx rfl (hb hby o240) j) ?_
  exact o20 X1527 hx hlk hret rfl (Or.inl ⟨rfl, by simp, _, rfl⟩) (hb hby o241) (by decide) (by decide) (by rw [e1527]; exact ⟨rfl, N1527, rfl⟩)
theorem o950 (l : Launch) (Z : State) (a0 : Array Value) (hw : o21 a0 Z) (ws : List Jvm.Cond) (wcs : Int32) (wd mOA mSL mAL : Addr) (kd : ClassId) (hS : o22 Z wcs wd mOA mSL mAL kd) (ad0 ad1 : Addr) (ad3 ad4 : Addr) (kc5 : ClassId) (ad6 : Addr) (kc7 : ClassId) (iv8 : Int32) (lv9 : List Value) (ad10 : Addr) (kc11 : ClassId) (iv12 : Int32) (lv13 : List Value) (h0 : Heap) (n0 : Nat) (O0 : Old Z n0 h0) (pe1 : Exa Z h0 ad0 o3) (pf3 : Fld Z h0 ad0 o3 o13 o7 (.ref ad3)) (pf4 : Fld Z h0 ad0 o3 "size" "I" (.int 1)) (pe5 : Exa Z h0 ad1 o6) (pf6 : Fld Z h0 ad1 o6 "coder" "B" (.int 0)) (pf7 : Fld Z h0 ad1 o6 "value" "[B" (.ref ad4)) (pa9 : Arv Z h0 ad3 kc5 (.object "java/lang/Object") 10 [.ref ad6, .null, .null, .null, .null, .null, .null, .null, .null, .null] .null) (pa11 : Arv Z h0 ad4 kc7 .byte iv8 lv9 (.int 0)) (pe12 : Exa Z h0 ad6 o6) (pf13 : Fld Z h0 ad6 o6 "coder" "B" (.int 0)) (pf14 : Fld Z h0 ad6 o6 "value" "[B" (.ref ad10)) (pa16 : Arv Z h0 ad10 kc11 .byte iv12 lv13 (.int 0)) (pk_0 : ¬ iv8 = iv12) (pn_ad1_ad6 : ad1 ≠ ad6) :
    o16 l o113 jdk_38_method_11_code 2 (some .int) ws ⟨3, 0, 0, 45⟩ Z h0 #[.ref ad0, .ref ad1] (fun v h L => v = some (.int (-1)) ∧ Fr n0 L ∧ h = h0) := by
  refine o15 (plainFor_of_name o24) ?_
  intro p e s m below meth c s₁ hx hby hml hown hnm hret hlk hZ e0 X0
  have N0 := Fr.nil n0
  refine o2 (fun u j => castTop (show entryFrame m #[.ref ad0, .ref ad1] 2 = mkF m 0 #[.val (.ref ad0), .val (.ref ad1)] [] from rfl) j) ?_
  refine o2 (fun u j => o1 X0.here hx rfl (hb hby o102) rfl rfl (o1 X0.here hx rfl (hb hby o103) rfl rfl (o5 X0.here hx rfl (hb hby o104) (o1 X0.here hx rfl (hb hby o105) rfl rfl j)))) ?_
  refine o19 (getF X0 hx hZ hown (host := "") (Or.inl (o0 hw 83 rfl)) Via.refl e0 pf4 rfl rfl (hb hby o106)) ?_
  intro T1529 X1529 e1529
  refine o11 (o26 X1529 hx hZ (y := o61) (z := o61) hown (o0 hw 85 rfl) (o0 hw 86 rfl) (notFace_of_selects (args := #[]) (mvT hZ (o0 hw 88 rfl))) (o0 hw 88 rfl) (o0 hw 87 rfl) (o0 hw 40 rfl) (o0 hw 89 rfl) o42 (o949 l Z a0 hw [] wcs wd mOA mSL mAL kd hS ad0 ad1 ad3 ad4 kc5 ad6 kc7 iv8 lv9 ad10 kc11 iv12 lv13 h0 n0 O0 pf3 pe5 pf6 pf7 pa9 pa11 pe12 pf13 pf14 pa16 pk_0 pn_ad1_ad6) e1529 pe1 o242 (argsL := [.ref ad1, .int 0, .int 1]) (rest := []) rfl rfl (g := (mkF m 7 #[.val (.ref ad0), .val (.ref ad1)] [.int 1, .int 0, .ref ad1, .ref ad0])) rfl (by rw [hml]; rfl) rfl (hb hby o107) (W := 0) rfl (by decide) (by decide) (by decide) (by decide)) ?_
  intro T1530 v1530 L1530 X1530 hQ1530
  obtain ⟨rfl, M1530, e1530⟩ := hQ1530
  have N1530 := Fr.app N0 M1530
  exact o20 X1530 hx hlk hret rfl (Or.inl ⟨rfl, by simp, _, rfl⟩) (hb hby o87) (by decide) (by decide) (by rw [e1530]; exact ⟨rfl, N1530, rfl⟩)
theorem o872 (l : Launch) (Z : State) (a0 : Array Value) (hw : o21 a0 Z) (ws : List Jvm.Cond) (wcs : Int32) (wd mOA mSL mAL : Addr) (kd : ClassId) (hS : o22 Z wcs wd mOA mSL mAL kd) (ad0 ad1 : Addr) (ad2 ad3 ad5 : Addr) (kc6 : ClassId) (iv7 : Int32) (lv8 : List Value) (kc9 : ClassId) (ad10 ad11 : Addr) (kc12 : ClassId) (iv13 : Int32) (lv14 : List Value) (h0 : Heap) (n0 : Nat) (O0 : Old Z n0 h0) (pf2 : Fld Z h0 ad0 o54 "path" o66 (.ref ad2)) (pe3 : Exa Z h0 ad1 o6) (pf4 : Fld Z h0 ad1 o6 "coder" "B" (.int 0)) (pf5 : Fld Z h0 ad1 o6 "value" "[B" (.ref ad3)) (pe6 : Exa Z h0 ad2 o3) (pf8 : Fld Z h0 ad2 o3 o13 o7 (.ref ad5)) (pf9 : Fld Z h0 ad2 o3 "size" "I" (.int 1)) (pa11 : Arv Z h0 ad3 kc6 .byte iv7 lv8 (.int 0)) (pa13 : Arv Z h0 ad5 kc9 (.object "java/lang/Object") 10 [.ref ad10, .null, .null, .null, .null, .null, .null, .null, .null, .null] .null) (pe14 : Exa Z h0 ad10 o6) (pf15 : Fld Z h0 ad10 o6 "coder" "B" (.int 0)) (pf16 : Fld Z h0 ad10 o6 "value" "[B" (.ref ad11)) (pa18 : Arv Z h0 ad11 kc12 .byte iv13 lv14 (.int 0)) (pk_0 : ¬ iv7 = iv13) (pn_ad1_ad10 : ad1 ≠ ad10) :
    o16 l o39 prog_33_method_4_code 4 (some (.object "java/util/List")) ws ⟨4, 0, 0, 58⟩ Z h0 #[.ref ad0, .ref ad1] (fun v h L => v = some .null ∧ Fr n0 L ∧ h = h0) := by
  refine o15 (plainFor_of_name o76) ?_
  intro p e s m below meth c s₁ hx hby hml hown hnm hret hlk hZ e0 X0
  have N0 := Fr.nil n0
  refine o2 (fun u j => castTop (show entryFrame m #[.ref ad0, .ref ad1] 4 = mkF m 0 #[.val (.ref ad0), .val (.ref ad1), .unset, .unset] [] from rfl) j) ?_
  refine o2 (fun u j => o1 X0.here hx rfl (hb hby o98) rfl rfl j) ?_
  refine o19 (getF X0 hx hZ hown (host := "") (Or.inl (o0 hw 62 rfl)) Via.refl e0 pf2 rfl rfl (hb hby o99)) ?_
  intro T1532 X1532 e1532
  refine o2 (fun u j => o1 X1532.here hx rfl (hb hby o100) rfl rfl j) ?_
  refine o11 (o29 X1532 hx hZ (y := o364) (z := o113) hown (o0 hw 74 rfl) (o0 hw 75 rfl) (mvT hZ (o0 hw 76 rfl)) (o0 hw 77 rfl) (o0 hw 78 rfl) (o0 hw 79 rfl) (o0 hw 80 rfl) (o0 hw 81 rfl) (o0 hw 40 rfl) (o0 hw 82 rfl) o27 (o950 l Z a0 hw [] wcs wd mOA mSL mAL kd hS ad2 ad1 ad5 ad3 kc9 ad10 kc6 iv7 lv8 ad11 kc12 iv13 lv14 h0 n0 O0 pe6 pf8 pf9 pe3 pf4 pf5 pa13 pa11 pe14 pf15 pf16 pa18 pk_0 pn_ad1_ad10) e1532 pe6 o243 (argsL := [.ref ad1]) (rest := []) rfl rfl (g := (mkF m 5 #[.val (.ref ad0), .val (.ref ad1), .unset, .unset] [.ref ad1, .ref ad2])) rfl (by rw [hml]; rfl) rfl (hb hby o101) (W := 0) rfl (by decide) (by decide) (by decide) (by decide)) ?_
  intro T1533 v1533 L1533 X1533 hQ1533
  obtain ⟨rfl, M1533, e1533⟩ := hQ1533
  have N1533 := Fr.app N0 M1533
  refine o2 (fun u j => o45 X1533.here hx rfl (hb hby o88) rfl (l' := #[.val (.ref ad0), .val (.ref ad1), .val (.int (-1)), .unset]) rfl (o4 X1533.here hx rfl (hb hby o89) rfl (o34 X1533.here hx rfl (hb hby o90) rfl (XT.i0_ge_f (by decide)) (o49 X1533.here hx rfl (hb hby o244) j)))) ?_
  exact o20 X1533 hx hlk hret rfl (Or.inr (Or.inr (Or.inr (Or.inr ⟨rfl, rfl, rfl⟩)))) (hb hby o245) (by decide) (by decide) (by rw [e1533]; exact ⟨rfl, N1533, rfl⟩)
theorem o951 (l : Launch) (Z : State) (a0 : Array Value) (hw : o21 a0 Z) (ws : List Jvm.Cond) (wcs : Int32) (wd mOA mSL mAL : Addr) (kd : ClassId) (hS : o22 Z wcs wd mOA mSL mAL kd) (ad0 ad1 ad2 : Addr) (iv3 : Int32) (kc5 : ClassId) (ad6 : Addr) (h0 : Heap) (n0 : Nat) (O0 : Old Z n0 h0) (pe1 : Exa Z h0 ad0 o3) (pf2 : Fld Z h0 ad0 o8 o9 "I" (.int iv3)) (pf3 : Fld Z h0 ad0 o3 o13 o7 (.ref ad2)) (pf4 : Fld Z h0 ad0 o3 "size" "I" (.int 1)) (pe5 : Exa Z h0 ad1 o6) (pe8 : Exa Z h0 ad2 o7) (pa9 : Arv Z h0 ad2 kc5 (.object "java/lang/Object") 10 [.ref ad6, .null, .null, .null, .null, .null, .null, .null, .null, .null] .null) (po9 : Ovr Z kc5 "java/lang/Object") (pg_ad2 : n0 ≤ ad2) (pg_ad0 : n0 ≤ ad0) :
    o16 l o156 jdk_38_method_24_code 4 none ws ⟨0, 0, 0, 0⟩ Z h0 #[.ref ad0, .ref ad1, .ref ad2, .int 1] (fun v h L => v = none ∧ Fr n0 L ∧ Keep h0 h [ad2, ad0] ∧ Exa Z h ad2 o7 ∧ Arv Z h ad2 kc5 (.object "java/lang/Object") 10 [.ref ad6, .ref ad1, .null, .null, .null, .null, .null, .null, .null, .null] .null ∧ Exa Z h ad0 o3 ∧ Fld Z h ad0 o8 o9 "I" (.int iv3) ∧ Fld Z h ad0 o3 o13 o7 (.ref ad2) ∧ Fld Z h ad0 o3 "size" "I" (.int 2)) := by
  refine o15 (plainFor_of_name o24) ?_
  intro p e s m below meth c s₁ hx hby hml hown hnm hret hlk hZ e0 X0
  have N0 := Fr.nil n0
  refine o2 (fun u j => castTop (show entryFrame m #[.ref ad0, .ref ad1, .ref ad2, .int 1] 4 = mkF m 0 #[.val (.ref ad0), .val (.ref ad1), .val (.ref ad2), .val (.int 1)] [] from rfl) j) ?_
  refine o2 (fun u j => o4 X0.here hx rfl (hb hby o150) rfl (o1 X0.here hx rfl (hb hby o151) rfl rfl (o65 X0 hx hZ e0 pa9 rfl rfl (hb hby o152) (o23 X0.here hx rfl (pc0 := 3) (pc' := 11) rfl (hb hby o153) rfl (o139 (by decide)) (by decide) (by decide) (o1 X0.here hx rfl (hb hby o125) rfl rfl (o4 X0.here hx rfl (hb hby o126) rfl j)))))) ?_
  show o17 p e below _ (s₁.setTop (mkF m 13 #[.val (.ref ad0), .val (.ref ad1), .val (.ref ad2), .val (.int 1)] [.int 1, .ref ad2]))
  refine o2 (fun u j => o1 X0.here hx rfl (hb hby o127) rfl rfl j) ?_
  have q_ := id pa9
  obtain ⟨cl1552, Ar1552, q1552, S1552, N1552, H1552, G1552⟩ := q_
  have hi1552 : ¬ ((1 : Int32) < 0 ∨ cl1552.slots.size ≤ ((1 : Int32)).toNatClampNeg) := inb_of S1552 ⟨by decide, by decide⟩
  have q_ := stR X0 hx hZ e0 Ar1552 (j := (1 : Int32)) hi1552 rfl (Sto.ofV Ar1552 q1552 po9 (Ins.of_exa pe5 (o0 hw 121 rfl))) (g := (mkF m 14 #[.val (.ref ad0), .val (.ref ad1), .val (.ref ad2), .val (.int 1)] [.ref ad1, .int 1, .ref ad2])) rfl rfl (hb hby o128)
  obtain ⟨T1553, h1553, X1553, e1553, W1553, st1553⟩ := q_
  have N1553 := Fr.snoc X1553 N0 pg_ad2
  have V1553 : Arv Z h1553 ad2 kc5 (.object "java/lang/Object") 10 [.ref ad6, .ref ad1, .null, .null, .null, .null, .null, .null, .null, .null] .null := Arv.set Ar1552 q1552 S1552 N1552 H1552 G1552 rfl W1553 1 rfl (Nat.le_of_ble_eq_true rfl)
  refine o2 (fun u j => st1553 u j) ?_
  refine o2 (fun u j => o1 X1553.here hx rfl (hb hby o129) rfl rfl (o4 X1553.here hx rfl (hb hby o130) rfl (o5 X1553.here hx rfl (hb hby o131) (o36 X1553.here hx rfl (hb hby o132) rfl j)))) ?_
  have F1554 := (Exa.wr W1553 pe1)
  have ne1555 := (ne_exa pe1 pe8 o652)
  have F1556 := (Fld.other W1553 pf4 (Or.inl ne1555))
  refine o32 (putF X1553 hx hZ hown (host := "") (Or.inl (o0 hw 83 rfl)) Via.refl e1553 F1556 F1554 (Or.inl (o0 hw 84 rfl)) (o0 hw 39 rfl) (ty := .int) o18 rfl rfl rfl rfl (hb hby o133)) ?_
  intro T1557 h1557 X1557 e1557 W1557
  have N1557 := Fr.snoc X1557 N1553 pg_ad0
  have F1558 : Fld Z h1557 ad0 o3 "size" "I" (.int 2) := Fld.same W1557 F1556
  have K1559 := (Keep.refl h0 [ad2, ad0]).wr W1553 (Or.inl (List.mem_of_getElem? (i := 0) rfl))
  have K1560 := K1559.wr W1557 (Or.inl (List.mem_of_getElem? (i := 1) rfl))
  have F1561 := (Exa.wr W1557 (Exa.wr W1553 pe8))
  have F1562 := (V1553.other W1557 (Ne.symm ne1555))
  have F1563 := (Exa.wr W1557 F1554)
  have F1564 := (Fld.other W1557 (Fld.other W1553 pf2 (Or.inl ne1555)) (Or.inr (o116 hw)))
  have F1565 := (Fld.other W1557 (Fld.other W1553 pf3 (Or.inl ne1555)) (Or.inr (o117 hw)))
  exact o48 X1557 hx hlk hret (hb hby o134) (by decide) (by decide) (by rw [e1557]; exact ⟨rfl, N1557, K1560, F1561, F1562, F1563, F1564, F1565, F1558⟩)
theorem o952 (l : Launch) (Z : State) (a0 : Array Value) (hw : o21 a0 Z) (ws : List Jvm.Cond) (wcs : Int32) (wd mOA mSL mAL : Addr) (kd : ClassId) (hS : o22 Z wcs wd mOA mSL mAL kd) (ad0 ad1 : Addr) (iv2 : Int32) (ad3 : Addr) (kc5 : ClassId) (ad6 : Addr) (h0 : Heap) (n0 : Nat) (O0 : Old Z n0 h0) (pe1 : Exa Z h0 ad0 o3) (pf2 : Fld Z h0 ad0 o8 o9 "I" (.int iv2)) (pf3 : Fld Z h0 ad0 o3 o13 o7 (.ref ad3)) (pf4 : Fld Z h0 ad0 o3 "size" "I" (.int 1)) (pe5 : Exa Z h0 ad1 o6) (pe8 : Exa Z h0 ad3 o7) (pa9 : Arv Z h0 ad3 kc5 (.object "java/lang/Object") 10 [.ref ad6, .null, .null, .null, .null, .null, .null, .null, .null, .null] .null) (po9 : Ovr Z kc5 "java/lang/Object") (pg_ad0 : n0 ≤ ad0) (pg_ad3 : n0 ≤ ad3) :
    o16 l o137 jdk_38_method_25_code 2 (some .boolean) ws ⟨1, 0, 0, 15⟩ Z h0 #[.ref ad0, .ref ad1] (fun v h L => v = some (.int 1) ∧ Fr n0 L ∧ Keep h0 h [ad0, ad3] ∧ Exa Z h ad0 o3 ∧ Fld Z h ad0 o8 o9 "I" (.int (iv2 + (1 : Int32))) ∧ Fld Z h ad0 o3 o13 o7 (.ref ad3) ∧ Fld Z h ad0 o3 "size" "I" (.int 2) ∧ Exa Z h ad3 o7 ∧ Arv Z h ad3 kc5 (.object "java/lang/Object") 10 [.ref ad6, .ref ad1, .null, .null, .null, .null, .null, .null, .null, .null] .null) := by
  refine o15 (plainFor_of_name o24) ?_
  intro p e s m below meth c s₁ hx hby hml hown hnm hret hlk hZ e0 X0
  have N0 := Fr.nil n0
  refine o2 (fun u j => castTop (show entryFrame m #[.ref ad0, .ref ad1] 2 = mkF m 0 #[.val (.ref ad0), .val (.ref ad1)] [] from rfl) j) ?_
  refine o2 (fun u j => o1 X0.here hx rfl (hb hby o144) rfl rfl (o40 X0.here hx rfl (hb hby o145) rfl rfl j)) ?_
  refine o19 (getF X0 hx hZ hown (host := "") (Or.inl (o0 hw 98 rfl)) (Via.of (o0 hw 99 rfl)) e0 pf2 rfl rfl (hb hby o146)) ?_
  intro T1579 X1579 e1579
  refine o2 (fun u j => o5 X1579.here hx rfl (hb hby o147) (o36 X1579.here hx rfl (hb hby o148) rfl j)) ?_
  refine o32 (putF X1579 hx hZ hown (host := "") (Or.inl (o0 hw 98 rfl)) (Via.of (o0 hw 99 rfl)) e1579 pf2 pe1 (Or.inl (o0 hw 58 rfl)) (o0 hw 39 rfl) (ty := .int) o18 rfl rfl rfl rfl (hb hby o149)) ?_
  intro T1580 h1580 X1580 e1580 W1580
  have N1580 := Fr.snoc X1580 N0 pg_ad0
  have F1581 : Fld Z h1580 ad0 o8 o9 "I" (.int (iv2 + (1 : Int32))) := Fld.same W1580 pf2
  refine o2 (fun u j => o1 X1580.here hx rfl (hb hby o118) rfl rfl (o1 X1580.here hx rfl (hb hby o119) rfl rfl (o1 X1580.here hx rfl (hb hby o120) rfl rfl j))) ?_
  have F1582 := (Fld.other W1580 pf3 (Or.inr (o196 hw)))
  refine o19 (getF X1580 hx hZ hown (host := "") (Or.inl (o0 hw 60 rfl)) Via.refl e1580 F1582 rfl rfl (hb hby o121)) ?_
  intro T1583 X1583 e1583
  refine o2 (fun u j => o1 X1583.here hx rfl (hb hby o122) rfl rfl j) ?_
  have F1584 := (Fld.other W1580 pf4 (Or.inr (o197 hw)))
  refine o19 (getF X1583 hx hZ hown (host := "") (Or.inl (o0 hw 83 rfl)) Via.refl e1583 F1584 rfl rfl (hb hby o123)) ?_
  intro T1585 X1585 e1585
  have F1586 := (Exa.wr W1580 pe1)
  have F1587 := (Exa.wr W1580 pe5)
  have F1588 := (Exa.wr W1580 pe8)
  have ne1589 := (ne_exa pe8 pe1 o143)
  have F1590 := (pa9.other W1580 ne1589)
  have O1592 := O0.wr W1580 pg_ad0
  refine o11 (o62 X1585 hx hZ (y := o156) hown (o0 hw 100 rfl) (o0 hw 101 rfl) (mvT hZ (o0 hw 103 rfl)) (o0 hw 102 rfl) (o0 hw 40 rfl) (o0 hw 104 rfl) o42 (o951 l Z a0 hw [] wcs wd mOA mSL mAL kd hS ad0 ad1 ad3 (iv2 + (1 : Int32)) kc5 ad6 h1580 n0 O1592 F1586 F1581 F1582 F1584 F1587 F1588 F1590 po9 pg_ad3 pg_ad0) e1585 F1586 o387 (argsL := [.ref ad1, .ref ad3, .int 1]) (rest := []) rfl rfl (g := (mkF m 20 #[.val (.ref ad0), .val (.ref ad1)] [.int 1, .ref ad3, .ref ad1, .ref ad0])) rfl (by rw [hml]; rfl) rfl (hb hby o124) (W := 0) rfl (by decide) (by decide) (by decide) (by decide)) ?_
  intro T1591 v1591 L1591 X1591 hQ1591
  obtain ⟨rfl, M1591, K1591, F1593, F1594, F1595, F1596, F1597, F1598⟩ := hQ1591
  have N1591 := Fr.app N1580 M1591
  refine o2 (fun u j => o5 X1591.here hx rfl (hb hby o135) j) ?_
  have K1599 := (Keep.refl h0 [ad0, ad3]).wr W1580 (Or.inl (List.mem_of_getElem? (i := 0) rfl))
  have K1600 := K1599.trans K1591 (allS (Or.inl (List.mem_of_getElem? (i := 1) rfl)) (allS (Or.inl (List.mem_of_getElem? (i := 0) rfl)) all0))
  exact o20 X1591 hx hlk hret rfl (Or.inl ⟨rfl, by simp, _, rfl⟩) (hb hby o136) (by decide) (by decide) (by exact ⟨rfl, N1591, K1600, F1595, F1596, F1597, F1598, F1593, F1594⟩)
theorem o873 (l : Launch) (Z : State) (a0 : Array Value) (hw : o21 a0 Z) (ws : List Jvm.Cond) (wcs : Int32) (wd mOA mSL mAL : Addr) (kd : ClassId) (hS : o22 Z wcs wd mOA mSL mAL kd) (ad0 ad1 : Addr) (ad2 ad3 : Addr) (iv4 : Int32) (ad5 : Addr) (kc6 : ClassId) (iv7 : Int32) (lv8 : List Value) (kc9 : ClassId) (ad10 ad11 : Addr) (kc12 : ClassId) (iv13 : Int32) (lv14 : List Value) (h0 : Heap) (n0 : Nat) (O0 : Old Z n0 h0) (pe1 : Exa Z h0 ad0 o54) (pf2 : Fld Z h0 ad0 o54 "path" o66 (.ref ad2)) (pe3 : Exa Z h0 ad1 o6) (pf4 : Fld Z h0 ad1 o6 "coder" "B" (.int 0)) (pf5 : Fld Z h0 ad1 o6 "value" "[B" (.ref ad3)) (pe6 : Exa Z h0 ad2 o3) (pf7 : Fld Z h0 ad2 o8 o9 "I" (.int iv4)) (pf8 : Fld Z h0 ad2 o3 o13 o7 (.ref ad5)) (pf9 : Fld Z h0 ad2 o3 "size" "I" (.int 1)) (pa11 : Arv Z h0 ad3 kc6 .byte iv7 lv8 (.int 0)) (pe12 : Exa Z h0 ad5 o7) (pa13 : Arv Z h0 ad5 kc9 (.object "java/lang/Object") 10 [.ref ad10, .null, .null, .null, .null, .null, .null, .null, .null, .null] .null) (pe14 : Exa Z h0 ad10 o6) (pf15 : Fld Z h0 ad10 o6 "coder" "B" (.int 0)) (pf16 : Fld Z h0 ad10 o6 "value" "[B" (.ref ad11)) (pa18 : Arv Z h0 ad11 kc12 .byte iv13 lv14 (.int 0)) (po13 : Ovr Z kc9 "java/lang/Object") (pk_0 : ¬ iv7 = iv13) (pg_ad2 : n0 ≤ ad2) (pg_ad5 : n0 ≤ ad5) (pn_ad1_ad10 : ad1 ≠ ad10) :
    o16 l o63 prog_33_method_2_code 3 (some (.object "com/example/temanggung/temanggung/beans/factory/Creating")) ws ⟨5, 0, 0, 73⟩ Z h0 #[.ref ad0, .ref ad1] (fun v h L => v = some (.ref ad0) ∧ Fr n0 L ∧ Keep h0 h [ad2, ad5] ∧ Exa Z h ad2 o3 ∧ Fld Z h ad2 o8 o9 "I" (.int (iv4 + (1 : Int32))) ∧ Fld Z h ad2 o3 o13 o7 (.ref ad5) ∧ Fld Z h ad2 o3 "size" "I" (.int 2) ∧ Exa Z h ad5 o7 ∧ Arv Z h ad5 kc9 (.object "java/lang/Object") 10 [.ref ad10, .ref ad1, .null, .null, .null, .null, .null, .null, .null, .null] .null) := by
  refine o15 (plainFor_of_name o76) ?_
  intro p e s m below meth c s₁ hx hby hml hown hnm hret hlk hZ e0 X0
  have N0 := Fr.nil n0
  refine o2 (fun u j => castTop (show entryFrame m #[.ref ad0, .ref ad1] 3 = mkF m 0 #[.val (.ref ad0), .val (.ref ad1), .unset] [] from rfl) j) ?_
  refine o2 (fun u j => o1 X0.here hx rfl (hb hby o320) rfl rfl (o1 X0.here hx rfl (hb hby o321) rfl rfl j)) ?_
  refine o11 (o26 X0 hx hZ (y := o39) (z := o39) hown (o0 hw 69 rfl) (o0 hw 70 rfl) (notFace_of_selects (args := #[]) (mvT hZ (o0 hw 72 rfl))) (o0 hw 72 rfl) (o0 hw 71 rfl) (o0 hw 33 rfl) (o0 hw 73 rfl) o44 (o872 l Z a0 hw [] wcs wd mOA mSL mAL kd hS ad0 ad1 ad2 ad3 ad5 kc6 iv7 lv8 kc9 ad10 ad11 kc12 iv13 lv14 h0 n0 O0 pf2 pe3 pf4 pf5 pe6 pf8 pf9 pa11 pa13 pe14 pf15 pf16 pa18 pk_0 pn_ad1_ad10) e0 pe1 o77 (argsL := [.ref ad1]) (rest := []) rfl rfl (g := (mkF m 2 #[.val (.ref ad0), .val (.ref ad1), .unset] [.ref ad1, .ref ad0])) rfl (by rw [hml]; rfl) rfl (hb hby o322) (W := 0) rfl (by decide) (by decide) (by decide) (by decide)) ?_
  intro T1608 v1608 L1608 X1608 hQ1608
  obtain ⟨rfl, M1608, e1608⟩ := hQ1608
  have N1608 := Fr.app N0 M1608
  refine o2 (fun u j => o31 X1608.here hx rfl (hb hby o323) rfl rfl (l' := #[.val (.ref ad0), .val (.ref ad1), .val .null]) rfl (o1 X1608.here hx rfl (hb hby o324) rfl rfl (XS.ifnullYes X1608.here hx rfl (pc0 := 7) (pc' := 19) rfl (hb hby o325) rfl (by decide) (by decide) (o1 X1608.here hx rfl (hb hby o246) rfl rfl j)))) ?_
  refine o19 (getF X1608 hx hZ hown (host := "") (Or.inl (o0 hw 62 rfl)) Via.refl e1608 pf2 rfl rfl (hb hby o247)) ?_
  intro T1609 X1609 e1609
  refine o2 (fun u j => o1 X1609.here hx rfl (hb hby o248) rfl rfl j) ?_
  refine o11 (o29 X1609 hx hZ (y := o367) (z := o137) hown (o0 hw 90 rfl) (o0 hw 91 rfl) (mvT hZ (o0 hw 92 rfl)) (o0 hw 93 rfl) (o0 hw 94 rfl) (o0 hw 95 rfl) (o0 hw 96 rfl) (o0 hw 81 rfl) (o0 hw 40 rfl) (o0 hw 97 rfl) o27 (o952 l Z a0 hw [] wcs wd mOA mSL mAL kd hS ad2 ad1 iv4 ad5 kc9 ad10 h0 n0 O0 pe6 pf7 pf8 pf9 pe3 pe12 pa13 po13 pg_ad2 pg_ad5) e1609 pe6 o46 (argsL := [.ref ad1]) (rest := []) rfl rfl (g := (mkF m 24 #[.val (.ref ad0), .val (.ref ad1), .val .null] [.ref ad1, .ref ad2])) rfl (by rw [hml]; rfl) rfl (hb hby o249) (W := 0) rfl (by decide) (by decide) (by decide) (by decide)) ?_
  intro T1610 v1610 L1610 X1610 hQ1610
  obtain ⟨rfl, M1610, K1610, F1611, F1612, F1613, F1614, F1615, F1616⟩ := hQ1610
  have N1610 := Fr.app N1608 M1610
  refine o2 (fun u j => o55 X1610.here hx rfl (hb hby o252) rfl rfl (o1 X1610.here hx rfl (hb hby o253) rfl rfl j)) ?_
  have K1617 := (Keep.refl h0 [ad2, ad5]).trans K1610 (allS (Or.inl (List.mem_of_getElem? (i := 0) rfl)) (allS (Or.inl (List.mem_of_getElem? (i := 1) rfl)) all0))
  exact o20 X1610 hx hlk hret rfl (Or.inr (Or.inr (Or.inr (Or.inr ⟨rfl, rfl, rfl⟩)))) (hb hby o254) (by decide) (by decide) (by exact ⟨rfl, N1610, K1617, F1611, F1612, F1613, F1614, F1615, F1616⟩)
theorem o953 (l : Launch) (Z : State) (a0 : Array Value) (hw : o21 a0 Z) (ws : List Jvm.Cond) (wcs : Int32) (wd mOA mSL mAL : Addr) (kd : ClassId) (hS : o22 Z wcs wd mOA mSL mAL kd) (ad0 ad1 : Addr) (iv2 : Int32) (kc3 : ClassId) (ad4 ad5 : Addr) (h0 : Heap) (n0 : Nat) (O0 : Old Z n0 h0) (pe1 : Exa Z h0 ad0 o3) (pf2 : Fld Z h0 ad0 o8 o9 "I" (.int iv2)) (pf3 : Fld Z h0 ad0 o3 o13 o7 (.ref ad1)) (pf4 : Fld Z h0 ad0 o3 "size" "I" (.int 2)) (pe5 : Exa Z h0 ad1 o7) (pa6 : Arv Z h0 ad1 kc3 (.object "java/lang/Object") 10 [.ref ad4, .ref ad5, .null, .null, .null, .null, .null, .null, .null, .null] .null) (pg_ad0 : n0 ≤ ad0) (pg_ad1 : n0 ≤ ad1) :
    o16 l o576 jdk_38_method_39_code 4 none ws ⟨0, 0, 0, 0⟩ Z h0 #[.ref ad0, .ref ad1, .int 1] (fun v h L => v = none ∧ Fr n0 L ∧ Keep h0 h [ad0, ad1] ∧ Exa Z h ad0 o3 ∧ Fld Z h ad0 o8 o9 "I" (.int (iv2 + (1 : Int32))) ∧ Fld Z h ad0 o3 o13 o7 (.ref ad1) ∧ Fld Z h ad0 o3 "size" "I" (.int 1) ∧ Exa Z h ad1 o7 ∧ Arv Z h ad1 kc3 (.object "java/lang/Object") 10 [.ref ad4, .null, .null, .null, .null, .null, .null, .null, .null, .null] .null) := by
  refine o15 (plainFor_of_name o24) ?_
  intro p e s m below meth c s₁ hx hby hml hown hnm hret hlk hZ e0 X0
  have N0 := Fr.nil n0
  refine o2 (fun u j => castTop (show entryFrame m #[.ref ad0, .ref ad1, .int 1] 4 = mkF m 0 #[.val (.ref ad0), .val (.ref ad1), .val (.int 1), .unset] [] from rfl) j) ?_
  refine o2 (fun u j => o1 X0.here hx rfl (hb hby o502) rfl rfl (o40 X0.here hx rfl (hb hby o503) rfl rfl j)) ?_
  refine o19 (getF X0 hx hZ hown (host := "") (Or.inl (o0 hw 98 rfl)) (Via.of (o0 hw 99 rfl)) e0 pf2 rfl rfl (hb hby o504)) ?_
  intro T1670 X1670 e1670
  refine o2 (fun u j => o5 X1670.here hx rfl (hb hby o505) (o36 X1670.here hx rfl (hb hby o506) rfl j)) ?_
  refine o32 (putF X1670 hx hZ hown (host := "") (Or.inl (o0 hw 98 rfl)) (Via.of (o0 hw 99 rfl)) e1670 pf2 pe1 (Or.inl (o0 hw 58 rfl)) (o0 hw 39 rfl) (ty := .int) o18 rfl rfl rfl rfl (hb hby o507)) ?_
  intro T1671 h1671 X1671 e1671 W1671
  have N1671 := Fr.snoc X1671 N0 pg_ad0
  have F1672 : Fld Z h1671 ad0 o8 o9 "I" (.int (iv2 + (1 : Int32))) := Fld.same W1671 pf2
  refine o2 (fun u j => o1 X1671.here hx rfl (hb hby o439) rfl rfl j) ?_
  have F1673 := (Fld.other W1671 pf4 (Or.inr (o197 hw)))
  refine o19 (getF X1671 hx hZ hown (host := "") (Or.inl (o0 hw 83 rfl)) Via.refl e1671 F1673 rfl rfl (hb hby o440)) ?_
  intro T1674 X1674 e1674
  refine o2 (fun u j => o5 X1674.here hx rfl (hb hby o441) (o38 X1674.here hx rfl (hb hby o442) rfl (o40 X1674.here hx rfl (hb hby o443) rfl rfl (o45 X1674.here hx rfl (hb hby o444) rfl (l' := #[.val (.ref ad0), .val (.ref ad1), .val (.int 1), .val (.int 1)]) rfl (o4 X1674.here hx rfl (hb hby o445) rfl (o23 X1674.here hx rfl (pc0 := 19) (pc' := 34) rfl (hb hby o446) rfl (o82 (by decide)) (by decide) (by decide) j)))))) ?_
  show o17 p e below _ (T1674.setTop (mkF m 34 #[.val (.ref ad0), .val (.ref ad1), .val (.int 1), .val (.int 1)] []))
  refine o2 (fun u j => o1 X1674.here hx rfl (hb hby o447) rfl rfl (o1 X1674.here hx rfl (hb hby o448) rfl rfl (o4 X1674.here hx rfl (hb hby o449) rfl (XS.dupX1 X1674.here hx rfl (hb hby o450) rfl rfl rfl j)))) ?_
  have F1675 := (Exa.wr W1671 pe1)
  refine o32 (putF X1674 hx hZ hown (host := "") (Or.inl (o0 hw 83 rfl)) Via.refl e1674 F1673 F1675 (Or.inl (o0 hw 84 rfl)) (o0 hw 39 rfl) (ty := .int) o18 rfl rfl rfl rfl (hb hby o451)) ?_
  intro T1676 h1676 X1676 e1676 W1676
  have N1676 := Fr.snoc X1676 N1671 pg_ad0
  have F1677 : Fld Z h1676 ad0 o3 "size" "I" (.int 1) := Fld.same W1676 F1673
  refine o2 (fun u j => o49 X1676.here hx rfl (hb hby o452) j) ?_
  have ne1678 := (ne_exa pe5 pe1 o143)
  have F1679 := ((pa6.other W1671 ne1678).other W1676 ne1678)
  have q_ := id F1679
  obtain ⟨cl1680, Ar1680, q1680, S1680, N1680, H1680, G1680⟩ := q_
  have hi1680 : ¬ ((1 : Int32) < 0 ∨ cl1680.slots.size ≤ ((1 : Int32)).toNatClampNeg) := inb_of S1680 ⟨by decide, by decide⟩
  have q_ := stR X1676 hx hZ e1676 Ar1680 (j := (1 : Int32)) hi1680 rfl (Or.inl rfl) (g := (mkF m 42 #[.val (.ref ad0), .val (.ref ad1), .val (.int 1), .val (.int 1)] [.null, .int 1, .ref ad1])) rfl rfl (hb hby o453)
  obtain ⟨T1681, h1681, X1681, e1681, W1681, st1681⟩ := q_
  have N1681 := Fr.snoc X1681 N1676 pg_ad1
  have V1681 : Arv Z h1681 ad1 kc3 (.object "java/lang/Object") 10 [.ref ad4, .null, .null, .null, .null, .null, .null, .null, .null, .null] .null := Arv.set Ar1680 q1680 S1680 N1680 H1680 G1680 rfl W1681 1 rfl (Nat.le_of_ble_eq_true rfl)
  refine o2 (fun u j => st1681 u j) ?_
  have K1682 := (Keep.refl h0 [ad0, ad1]).wr W1671 (Or.inl (List.mem_of_getElem? (i := 0) rfl))
  have K1683 := K1682.wr W1676 (Or.inl (List.mem_of_getElem? (i := 0) rfl))
  have K1684 := K1683.wr W1681 (Or.inl (List.mem_of_getElem? (i := 1) rfl))
  have F1685 := (Exa.wr W1681 (Exa.wr W1676 F1675))
  have F1686 := (Fld.other W1681 (Fld.other W1676 F1672 (Or.inr (o116 hw))) (Or.inl (Ne.symm ne1678)))
  have F1687 := (Fld.other W1681 (Fld.other W1676 (Fld.other W1671 pf3 (Or.inr (o196 hw))) (Or.inr (o117 hw))) (Or.inl (Ne.symm ne1678)))
  have F1688 := (Fld.other W1681 F1677 (Or.inl (Ne.symm ne1678)))
  have F1689 := (Exa.wr W1681 (Exa.wr W1676 (Exa.wr W1671 pe5)))
  exact o48 X1681 hx hlk hret (hb hby o454) (by decide) (by decide) (by rw [e1681]; exact ⟨rfl, N1681, K1684, F1685, F1686, F1687, F1688, F1689, V1681⟩)
theorem o954 (l : Launch) (Z : State) (a0 : Array Value) (hw : o21 a0 Z) (ws : List Jvm.Cond) (wcs : Int32) (wd mOA mSL mAL : Addr) (kd : ClassId) (hS : o22 Z wcs wd mOA mSL mAL kd) (ad0 : Addr) (iv1 : Int32) (ad2 : Addr) (kc3 : ClassId) (ad4 ad5 : Addr) (h0 : Heap) (n0 : Nat) (O0 : Old Z n0 h0) (pe1 : Exa Z h0 ad0 o3) (pf2 : Fld Z h0 ad0 o8 o9 "I" (.int iv1)) (pf3 : Fld Z h0 ad0 o3 o13 o7 (.ref ad2)) (pf4 : Fld Z h0 ad0 o3 "size" "I" (.int 2)) (pe5 : Exa Z h0 ad2 o7) (pa6 : Arv Z h0 ad2 kc3 (.object "java/lang/Object") 10 [.ref ad4, .ref ad5, .null, .null, .null, .null, .null, .null, .null, .null] .null) (pg_ad0 : n0 ≤ ad0) (pg_ad2 : n0 ≤ ad2) :
    o16 l o577 jdk_38_method_29_code 4 (some (.object "java/lang/Object")) ws ⟨2, 0, 0, 27⟩ Z h0 #[.ref ad0, .int 1] (fun v h L => v = some (.ref ad5) ∧ Fr n0 L ∧ Keep h0 h [ad0, ad2] ∧ Exa Z h ad0 o3 ∧ Fld Z h ad0 o8 o9 "I" (.int (iv1 + (1 : Int32))) ∧ Fld Z h ad0 o3 o13 o7 (.ref ad2) ∧ Fld Z h ad0 o3 "size" "I" (.int 1) ∧ Exa Z h ad2 o7 ∧ Arv Z h ad2 kc3 (.object "java/lang/Object") 10 [.ref ad4, .null, .null, .null, .null, .null, .null, .null, .null, .null] .null) := by
  refine o15 (plainFor_of_name o24) ?_
  intro p e s m below meth c s₁ hx hby hml hown hnm hret hlk hZ e0 X0
  have N0 := Fr.nil n0
  refine o2 (fun u j => castTop (show entryFrame m #[.ref ad0, .int 1] 4 = mkF m 0 #[.val (.ref ad0), .val (.int 1), .unset, .unset] [] from rfl) j) ?_
  refine o2 (fun u j => o4 X0.here hx rfl (hb hby o496) rfl (o1 X0.here hx rfl (hb hby o497) rfl rfl j)) ?_
  refine o19 (getF X0 hx hZ hown (host := "") (Or.inl (o0 hw 83 rfl)) Via.refl e0 pf4 rfl rfl (hb hby o498)) ?_
  intro T1697 X1697 e1697
  refine o11 (o25 X1697 hx hZ (y := o592) hown (o0 hw 154 rfl) (o0 hw 155 rfl) (o0 hw 156 rfl) (o0 hw 157 rfl) o604 (o842 l Z a0 hw [] wcs wd mOA mSL mAL kd hS (1 : Int32) (2 : Int32) h0 n0 O0 (by decide) (by decide)) e1697 o67 (argsL := [.int 1, .int 2]) (rest := []) rfl rfl (g := (mkF m 5 #[.val (.ref ad0), .val (.int 1), .unset, .unset] [.int 2, .int 1])) rfl (by rw [hml]; rfl) rfl (hb hby o499) (W := 0) rfl (by decide) (by decide) (by decide) (by decide)) ?_
  intro T1698 v1698 L1698 X1698 hQ1698
  obtain ⟨rfl, M1698, e1698⟩ := hQ1698
  have N1698 := Fr.app N0 M1698
  refine o2 (fun u j => o55 X1698.here hx rfl (hb hby o500) rfl rfl (o1 X1698.here hx rfl (hb hby o501) rfl rfl j)) ?_
  refine o19 (getF X1698 hx hZ hown (host := "") (Or.inl (o0 hw 60 rfl)) Via.refl e1698 pf3 rfl rfl (hb hby o429)) ?_
  intro T1699 X1699 e1699
  refine o2 (fun u j => o31 X1699.here hx rfl (hb hby o430) rfl rfl (l' := #[.val (.ref ad0), .val (.int 1), .val (.ref ad2), .unset]) rfl (o1 X1699.here hx rfl (hb hby o431) rfl rfl (o4 X1699.here hx rfl (hb hby o432) rfl (o413 X1699 hx hZ e1699 pa6 (j := (1 : Int32)) (v := (.ref ad5)) ⟨by decide, by decide⟩ rfl rfl rfl (hb hby o433) (o31 X1699.here hx rfl (hb hby o434) rfl rfl (l' := #[.val (.ref ad0), .val (.int 1), .val (.ref ad2), .val (.ref ad5)]) rfl (o1 X1699.here hx rfl (hb hby o435) rfl rfl j)))))) ?_
  show o17 p e below _ (T1699.setTop (mkF m 19 #[.val (.ref ad0), .val (.int 1), .val (.ref ad2), .val (.ref ad5)] [.ref ad0]))
  refine o2 (fun u j => o1 X1699.here hx rfl (hb hby o436) rfl rfl (o4 X1699.here hx rfl (hb hby o437) rfl j)) ?_
  refine o11 (o62 X1699 hx hZ (y := o576) hown (o0 hw 162 rfl) (o0 hw 163 rfl) (mvT hZ (o0 hw 165 rfl)) (o0 hw 164 rfl) (o0 hw 40 rfl) (o0 hw 166 rfl) o42 (o953 l Z a0 hw [] wcs wd mOA mSL mAL kd hS ad0 ad2 iv1 kc3 ad4 ad5 h0 n0 O0 pe1 pf2 pf3 pf4 pe5 pa6 pg_ad0 pg_ad2) e1699 pe1 o651 (argsL := [.ref ad2, .int 1]) (rest := []) rfl rfl (g := (mkF m 21 #[.val (.ref ad0), .val (.int 1), .val (.ref ad2), .val (.ref ad5)] [.int 1, .ref ad2, .ref ad0])) rfl (by rw [hml]; rfl) rfl (hb hby o438) (W := 0) rfl (by decide) (by decide) (by decide) (by decide)) ?_
  intro T1700 v1700 L1700 X1700 hQ1700
  obtain ⟨rfl, M1700, K1700, F1701, F1702, F1703, F1704, F1705, F1706⟩ := hQ1700
  have N1700 := Fr.app N1698 M1700
  refine o2 (fun u j => o1 X1700.here hx rfl (hb hby o455) rfl rfl j) ?_
  have K1707 := (Keep.refl h0 [ad0, ad2]).trans K1700 (allS (Or.inl (List.mem_of_getElem? (i := 0) rfl)) (allS (Or.inl (List.mem_of_getElem? (i := 1) rfl)) all0))
  exact o20 X1700 hx hlk hret rfl (Or.inr (Or.inr (Or.inr (Or.inr ⟨rfl, rfl, rfl⟩)))) (hb hby o456) (by decide) (by decide) (by exact ⟨rfl, N1700, K1707, F1701, F1702, F1703, F1704, F1705, F1706⟩)
theorem o955 (l : Launch) (Z : State) (a0 : Array Value) (hw : o21 a0 Z) (ws : List Jvm.Cond) (wcs : Int32) (wd mOA mSL mAL : Addr) (kd : ClassId) (hS : o22 Z wcs wd mOA mSL mAL kd) (ad0 ad1 : Addr) (iv2 : Int32) (ad3 : Addr) (kc4 : ClassId) (ad5 ad6 : Addr) (h0 : Heap) (n0 : Nat) (O0 : Old Z n0 h0) (pf2 : Fld Z h0 ad0 o54 "path" o66 (.ref ad1)) (pe3 : Exa Z h0 ad1 o3) (pf4 : Fld Z h0 ad1 o8 o9 "I" (.int iv2)) (pf5 : Fld Z h0 ad1 o3 o13 o7 (.ref ad3)) (pf6 : Fld Z h0 ad1 o3 "size" "I" (.int 2)) (pe7 : Exa Z h0 ad3 o7) (pa8 : Arv Z h0 ad3 kc4 (.object "java/lang/Object") 10 [.ref ad5, .ref ad6, .null, .null, .null, .null, .null, .null, .null, .null] .null) (pg_ad1 : n0 ≤ ad1) (pg_ad3 : n0 ≤ ad3) :
    o16 l o255 prog_33_method_3_code 1 none ws ⟨3, 0, 0, 42⟩ Z h0 #[.ref ad0] (fun v h L => v = none ∧ Fr n0 L ∧ Keep h0 h [ad1, ad3] ∧ Exa Z h ad1 o3 ∧ Fld Z h ad1 o8 o9 "I" (.int (iv2 + (1 : Int32))) ∧ Fld Z h ad1 o3 o13 o7 (.ref ad3) ∧ Fld Z h ad1 o3 "size" "I" (.int 1) ∧ Exa Z h ad3 o7 ∧ Arv Z h ad3 kc4 (.object "java/lang/Object") 10 [.ref ad5, .null, .null, .null, .null, .null, .null, .null, .null, .null] .null) := by
  refine o15 (plainFor_of_name o76) ?_
  intro p e s m below meth c s₁ hx hby hml hown hnm hret hlk hZ e0 X0
  have N0 := Fr.nil n0
  refine o2 (fun u j => castTop (show entryFrame m #[.ref ad0] 1 = mkF m 0 #[.val (.ref ad0)] [] from rfl) j) ?_
  refine o2 (fun u j => o1 X0.here hx rfl (hb hby o491) rfl rfl j) ?_
  refine o19 (getF X0 hx hZ hown (host := "") (Or.inl (o0 hw 62 rfl)) Via.refl e0 pf2 rfl rfl (hb hby o492)) ?_
  intro T1715 X1715 e1715
  refine o2 (fun u j => o1 X1715.here hx rfl (hb hby o493) rfl rfl j) ?_
  refine o19 (getF X1715 hx hZ hown (host := "") (Or.inl (o0 hw 62 rfl)) Via.refl e1715 pf2 rfl rfl (hb hby o494)) ?_
  intro T1716 X1716 e1716
  refine o11 (o29 X1716 hx hZ (y := o186) (z := o154) hown (o0 hw 138 rfl) (o0 hw 139 rfl) (mvT hZ (o0 hw 140 rfl)) (o0 hw 141 rfl) (o0 hw 142 rfl) (o0 hw 143 rfl) (o0 hw 144 rfl) (o0 hw 81 rfl) (o0 hw 40 rfl) (o0 hw 145 rfl) o27 (o591 l Z a0 hw [] wcs wd mOA mSL mAL kd hS ad1 (2 : Int32) h0 n0 O0 pf6) e1716 pe3 o142 (argsL := []) (rest := [.ref ad1]) rfl rfl (g := (mkF m 8 #[.val (.ref ad0)] [.ref ad1, .ref ad1])) rfl (by rw [hml]; rfl) rfl (hb hby o495) (W := 1) rfl (by decide) (by decide) (by decide) (by decide)) ?_
  intro T1717 v1717 L1717 X1717 hQ1717
  obtain ⟨rfl, M1717, e1717⟩ := hQ1717
  have N1717 := Fr.app N0 M1717
  refine o2 (fun u j => o5 X1717.here hx rfl (hb hby o426) (o38 X1717.here hx rfl (hb hby o427) rfl j)) ?_
  refine o11 (o29 X1717 hx hZ (y := o677) (z := o577) hown (o0 hw 146 rfl) (o0 hw 147 rfl) (mvT hZ (o0 hw 148 rfl)) (o0 hw 149 rfl) (o0 hw 150 rfl) (o0 hw 151 rfl) (o0 hw 152 rfl) (o0 hw 81 rfl) (o0 hw 40 rfl) (o0 hw 153 rfl) o27 (o954 l Z a0 hw [] wcs wd mOA mSL mAL kd hS ad1 iv2 ad3 kc4 ad5 ad6 h0 n0 O0 pe3 pf4 pf5 pf6 pe7 pa8 pg_ad1 pg_ad3) e1717 pe3 o71 (argsL := [.int 1]) (rest := []) rfl rfl (g := (mkF m 15 #[.val (.ref ad0)] [.int 1, .ref ad1])) rfl (by rw [hml]; rfl) rfl (hb hby o428) (W := 0) rfl (by decide) (by decide) (by decide) (by decide)) ?_
  intro T1718 v1718 L1718 X1718 hQ1718
  obtain ⟨rfl, M1718, K1718, F1719, F1720, F1721, F1722, F1723, F1724⟩ := hQ1718
  have N1718 := Fr.app N1717 M1718
  refine o2 (fun u j => o55 X1718.here hx rfl (hb hby o457) rfl rfl j) ?_
  have K1725 := (Keep.refl h0 [ad1, ad3]).trans K1718 (allS (Or.inl (List.mem_of_getElem? (i := 0) rfl)) (allS (Or.inl (List.mem_of_getElem? (i := 1) rfl)) all0))
  exact o48 X1718 hx hlk hret (hb hby o458) (by decide) (by decide) (by exact ⟨rfl, N1718, K1725, F1719, F1720, F1721, F1722, F1723, F1724⟩)
theorem o533 : decode method_3_code 15 = .ok (.aload_n 0, 1) := by decide +kernel
theorem o534 : decode method_3_code 16 = .ok (.ifnonnull 5, 3) := by decide +kernel
theorem o535 : decode method_3_code 21 = .ok (.iload_n 3, 1) := by decide +kernel
theorem o536 : decode method_3_code 22 = .ok (.iload_n 2, 1) := by decide +kernel
theorem o537 : decode method_3_code 23 = .ok (.isub, 1) := by decide +kernel
theorem o538 : decode method_3_code 24 = .ok (.iconst 1, 1) := by decide +kernel
theorem o539 : decode method_3_code 25 = .ok (.iadd, 1) := by decide +kernel
theorem o540 : decode method_3_code 26 = .ok (.istore 5, 2) := by decide +kernel
theorem o541 : decode method_3_code 28 = .ok (.aload_n 0, 1) := by decide +kernel
theorem o542 : decode method_3_code 29 = .ok (.invokeinterface 33 1, 5) := by decide +kernel
theorem o543 : decode method_3_code 34 = .ok (.iload 5, 2) := by decide +kernel
theorem o544 : decode method_3_code 36 = .ok (.if_icmp .eq 5, 3) := by decide +kernel
theorem o545 : decode method_3_code 41 = .ok (.aload_n 0, 1) := by decide +kernel
theorem o546 : decode method_3_code 42 = .ok (.iconst 0, 1) := by decide +kernel
theorem o547 : decode method_3_code 43 = .ok (.invokeinterface 39 2, 5) := by decide +kernel
theorem o548 : decode method_3_code 48 = .ok (.checkcast 7, 3) := by decide +kernel
theorem o549 : decode method_3_code 51 = .ok (.aload_n 1, 1) := by decide +kernel
theorem o550 : decode method_3_code 52 = .ok (.invokevirtual 43, 3) := by decide +kernel
theorem o551 : decode method_3_code 55 = .ok (.ifCond .eq 23, 3) := by decide +kernel
theorem o552 : decode method_3_code 58 = .ok (.aload_n 0, 1) := by decide +kernel
theorem o553 : decode method_3_code 59 = .ok (.iload 5, 2) := by decide +kernel
theorem o554 : decode method_3_code 61 = .ok (.iconst 1, 1) := by decide +kernel
theorem o555 : decode method_3_code 62 = .ok (.isub, 1) := by decide +kernel
theorem o556 : decode method_3_code 63 = .ok (.invokeinterface 39 2, 5) := by decide +kernel
theorem o557 : decode method_3_code 68 = .ok (.checkcast 7, 3) := by decide +kernel
theorem o558 : decode method_3_code 71 = .ok (.aload_n 1, 1) := by decide +kernel
theorem o559 : decode method_3_code 72 = .ok (.invokevirtual 43, 3) := by decide +kernel
theorem o560 : decode method_3_code 75 = .ok (.ifCond .ne 5, 3) := by decide +kernel
theorem o561 : decode method_3_code 80 = .ok (.iload 5, 2) := by decide +kernel
theorem o562 : decode method_3_code 82 = .ok (.iconst 3, 1) := by decide +kernel
theorem o563 : decode method_3_code 83 = .ok (.if_icmp .ne 19, 3) := by decide +kernel
theorem o595 : decode method_3_code 102 = .ok (.iconst 1, 1) := by decide +kernel
theorem o596 : decode method_3_code 103 = .ok (.ireturn, 1) := by decide +kernel
theorem o956 (l : Launch) (Z : State) (a0 : Array Value) (hw : o21 a0 Z) (ws : List Jvm.Cond) (wcs : Int32) (wd mOA mSL mAL : Addr) (kd : ClassId) (hS : o22 Z wcs wd mOA mSL mAL kd) (ad0 ad1 : Addr) (ad2 ad4 : Addr) (kc7 : ClassId) (h0 : Heap) (n0 : Nat) (O0 : Old Z n0 h0) (pe1 : Exa Z h0 ad0 o3) (pf3 : Fld Z h0 ad0 o3 o13 o7 (.ref ad4)) (pf4 : Fld Z h0 ad0 o3 "size" "I" (.int 2)) (pe5 : Exa Z h0 ad1 o6) (pa12 : Arv Z h0 ad4 kc7 (.object "java/lang/Object") 2 [.ref ad1, .ref ad1] .null) :
    o16 l o187 method_3_code 6 (some .boolean) ws ⟨3, 0, 0, 40⟩ Z h0 #[.ref ad0, .ref ad1, .int 0, .int 1, .ref ad2] (fun v h L => v = some (.int 1) ∧ Fr n0 L ∧ h = h0) := by
  refine o15 (plainFor_of_name o580) ?_
  intro p e s m below meth c s₁ hx hby hml hown hnm hret hlk hZ e0 X0
  have N0 := Fr.nil n0
  refine o2 (fun u j => castTop (show entryFrame m #[.ref ad0, .ref ad1, .int 0, .int 1, .ref ad2] 6 = mkF m 0 #[.val (.ref ad0), .val (.ref ad1), .val (.int 0), .val (.int 1), .val (.ref ad2), .unset] [] from rfl) j) ?_
  refine o2 (fun u j => o4 X0.here hx rfl (hb hby o388) rfl (o4 X0.here hx rfl (hb hby o389) rfl (o23 X0.here hx rfl (pc0 := 2) (pc' := 15) rfl (hb hby o390) rfl (XT.ii_lt_t (by decide)) (by decide) (by decide) (o1 X0.here hx rfl (hb hby o533) rfl rfl (o60 X0.here hx rfl (pc0 := 16) (pc' := 21) rfl (hb hby o534) rfl (by decide) (by decide) (o4 X0.here hx rfl (hb hby o535) rfl j)))))) ?_
  show o17 p e below _ (s₁.setTop (mkF m 22 #[.val (.ref ad0), .val (.ref ad1), .val (.int 0), .val (.int 1), .val (.ref ad2), .unset] [.int 1]))
  refine o2 (fun u j => o4 X0.here hx rfl (hb hby o536) rfl (o38 X0.here hx rfl (hb hby o537) rfl (o5 X0.here hx rfl (hb hby o538) (o36 X0.here hx rfl (hb hby o539) rfl (o30 X0.here hx rfl (hb hby o540) rfl (l' := #[.val (.ref ad0), .val (.ref ad1), .val (.int 0), .val (.int 1), .val (.ref ad2), .val (.int 2)]) rfl (o1 X0.here hx rfl (hb hby o541) rfl rfl j)))))) ?_
  show o17 p e below _ (s₁.setTop (mkF m 29 #[.val (.ref ad0), .val (.ref ad1), .val (.int 0), .val (.int 1), .val (.ref ad2), .val (.int 2)] [.ref ad0]))
  refine o11 (o29 X0 hx hZ (y := o186) (z := o154) hown (o0 hw 267 rfl) (o0 hw 139 rfl) (mvT hZ (o0 hw 140 rfl)) (o0 hw 141 rfl) (o0 hw 142 rfl) (o0 hw 143 rfl) (o0 hw 144 rfl) (o0 hw 81 rfl) (o0 hw 40 rfl) (o0 hw 145 rfl) o27 (o591 l Z a0 hw [] wcs wd mOA mSL mAL kd hS ad0 (2 : Int32) h0 n0 O0 pf4) e0 pe1 o142 (argsL := []) (rest := []) rfl rfl (g := (mkF m 29 #[.val (.ref ad0), .val (.ref ad1), .val (.int 0), .val (.int 1), .val (.ref ad2), .val (.int 2)] [.ref ad0])) rfl (by rw [hml]; rfl) rfl (hb hby o542) (W := 0) rfl (by decide) (by decide) (by decide) (by decide)) ?_
  intro T1761 v1761 L1761 X1761 hQ1761
  obtain ⟨rfl, M1761, e1761⟩ := hQ1761
  have N1761 := Fr.app N0 M1761
  refine o2 (fun u j => o10 X1761.here hx rfl (hb hby o543) rfl (o23 X1761.here hx rfl (pc0 := 36) (pc' := 41) rfl (hb hby o544) rfl (XT.ii_eq_t (by decide)) (by decide) (by decide) (o1 X1761.here hx rfl (hb hby o545) rfl rfl (o5 X1761.here hx rfl (hb hby o546) j)))) ?_
  refine o11 (o29 X1761 hx hZ (y := o195) (z := o155) hown (o0 hw 268 rfl) (o0 hw 269 rfl) (mvT hZ (o0 hw 270 rfl)) (o0 hw 271 rfl) (o0 hw 272 rfl) (o0 hw 273 rfl) (o0 hw 274 rfl) (o0 hw 81 rfl) (o0 hw 40 rfl) (o0 hw 275 rfl) o27 (o471 l Z a0 hw [] wcs wd mOA mSL mAL kd hS ad0 ad4 kc7 (2 : Int32) [.ref ad1, .ref ad1] (0 : Int32) ad1 (2 : Int32) h0 n0 O0 pe1 pf4 (by decide) (by decide) pf3 pa12 ⟨by decide, by decide⟩ rfl) e1761 pe1 o71 (argsL := [.int 0]) (rest := []) rfl rfl (g := (mkF m 43 #[.val (.ref ad0), .val (.ref ad1), .val (.int 0), .val (.int 1), .val (.ref ad2), .val (.int 2)] [.int 0, .ref ad0])) rfl (by rw [hml]; rfl) rfl (hb hby o547) (W := 0) rfl (by decide) (by decide) (by decide) (by decide)) ?_
  intro T1762 v1762 L1762 X1762 hQ1762
  obtain ⟨rfl, M1762, e1762⟩ := hQ1762
  have N1762 := Fr.app N1761 M1762
  have q_ := castY X1762 hx hZ hown (o0 hw 1 rfl) e1762 (Ins.self pe5) (g := (mkF m 48 #[.val (.ref ad0), .val (.ref ad1), .val (.int 0), .val (.int 1), .val (.ref ad2), .val (.int 2)] [.ref ad1])) rfl rfl (hb hby o548)
  obtain ⟨T1763, X1763, e1763, st1763⟩ := q_
  refine o2 (fun u j => st1763 u j) ?_
  refine o2 (fun u j => o1 X1763.here hx rfl (hb hby o549) rfl rfl j) ?_
  refine o11 (o26 X1763 hx hZ (y := o41) (z := o41) hown (o0 hw 281 rfl) (o0 hw 282 rfl) (notFace_of_selects (args := #[]) (mvT hZ (o0 hw 283 rfl))) (o0 hw 283 rfl) (o0 hw 126 rfl) (o0 hw 3 rfl) (o0 hw 127 rfl) o70 (o256 l Z a0 hw [] wcs wd mOA mSL mAL kd hS ad1 h0 n0 O0 ) e1763 pe5 o46 (argsL := [.ref ad1]) (rest := []) rfl rfl (g := (mkF m 52 #[.val (.ref ad0), .val (.ref ad1), .val (.int 0), .val (.int 1), .val (.ref ad2), .val (.int 2)] [.ref ad1, .ref ad1])) rfl (by rw [hml]; rfl) rfl (hb hby o550) (W := 0) rfl (by decide) (by decide) (by decide) (by decide)) ?_
  intro T1764 v1764 L1764 X1764 hQ1764
  obtain ⟨rfl, M1764, e1764⟩ := hQ1764
  have N1764 := Fr.app N1762 M1764
  refine o2 (fun u j => o34 X1764.here hx rfl (hb hby o551) rfl (o33 (by decide)) (o1 X1764.here hx rfl (hb hby o552) rfl rfl (o10 X1764.here hx rfl (hb hby o553) rfl (o5 X1764.here hx rfl (hb hby o554) (o38 X1764.here hx rfl (hb hby o555) rfl j))))) ?_
  refine o11 (o29 X1764 hx hZ (y := o195) (z := o155) hown (o0 hw 268 rfl) (o0 hw 269 rfl) (mvT hZ (o0 hw 270 rfl)) (o0 hw 271 rfl) (o0 hw 272 rfl) (o0 hw 273 rfl) (o0 hw 274 rfl) (o0 hw 81 rfl) (o0 hw 40 rfl) (o0 hw 275 rfl) o27 (o471 l Z a0 hw [] wcs wd mOA mSL mAL kd hS ad0 ad4 kc7 (2 : Int32) [.ref ad1, .ref ad1] (1 : Int32) ad1 (2 : Int32) h0 n0 O0 pe1 pf4 (by decide) (by decide) pf3 pa12 ⟨by decide, by decide⟩ rfl) e1764 pe1 o71 (argsL := [.int 1]) (rest := []) rfl rfl (g := (mkF m 63 #[.val (.ref ad0), .val (.ref ad1), .val (.int 0), .val (.int 1), .val (.ref ad2), .val (.int 2)] [.int 1, .ref ad0])) rfl (by rw [hml]; rfl) rfl (hb hby o556) (W := 0) rfl (by decide) (by decide) (by decide) (by decide)) ?_
  intro T1765 v1765 L1765 X1765 hQ1765
  obtain ⟨rfl, M1765, e1765⟩ := hQ1765
  have N1765 := Fr.app N1764 M1765
  have q_ := castY X1765 hx hZ hown (o0 hw 1 rfl) e1765 (Ins.self pe5) (g := (mkF m 68 #[.val (.ref ad0), .val (.ref ad1), .val (.int 0), .val (.int 1), .val (.ref ad2), .val (.int 2)] [.ref ad1])) rfl rfl (hb hby o557)
  obtain ⟨T1766, X1766, e1766, st1766⟩ := q_
  refine o2 (fun u j => st1766 u j) ?_
  refine o2 (fun u j => o1 X1766.here hx rfl (hb hby o558) rfl rfl j) ?_
  refine o11 (o26 X1766 hx hZ (y := o41) (z := o41) hown (o0 hw 281 rfl) (o0 hw 282 rfl) (notFace_of_selects (args := #[]) (mvT hZ (o0 hw 283 rfl))) (o0 hw 283 rfl) (o0 hw 126 rfl) (o0 hw 3 rfl) (o0 hw 127 rfl) o70 (o256 l Z a0 hw [] wcs wd mOA mSL mAL kd hS ad1 h0 n0 O0 ) e1766 pe5 o46 (argsL := [.ref ad1]) (rest := []) rfl rfl (g := (mkF m 72 #[.val (.ref ad0), .val (.ref ad1), .val (.int 0), .val (.int 1), .val (.ref ad2), .val (.int 2)] [.ref ad1, .ref ad1])) rfl (by rw [hml]; rfl) rfl (hb hby o559) (W := 0) rfl (by decide) (by decide) (by decide) (by decide)) ?_
  intro T1767 v1767 L1767 X1767 hQ1767
  obtain ⟨rfl, M1767, e1767⟩ := hQ1767
  have N1767 := Fr.app N1765 M1767
  refine o2 (fun u j => o43 X1767.here hx rfl (pc0 := 75) (pc' := 80) rfl (hb hby o560) rfl (o138 (by decide)) (by decide) (by decide) (o10 X1767.here hx rfl (hb hby o561) rfl (o5 X1767.here hx rfl (hb hby o562) (o23 X1767.here hx rfl (pc0 := 83) (pc' := 102) rfl (hb hby o563) rfl (o139 (by decide)) (by decide) (by decide) (o5 X1767.here hx rfl (hb hby o595) j))))) ?_
  exact o20 X1767 hx hlk hret rfl (Or.inl ⟨rfl, by simp, _, rfl⟩) (hb hby o596) (by decide) (by decide) (by rw [e1767]; exact ⟨rfl, N1767, rfl⟩)
theorem o957 (l : Launch) (Z : State) (a0 : Array Value) (hw : o21 a0 Z) (ws : List Jvm.Cond) (wcs : Int32) (wd mOA mSL mAL : Addr) (kd : ClassId) (hS : o22 Z wcs wd mOA mSL mAL kd) (ad0 ad1 ad3 : Addr) (kc5 : ClassId) (ad6 : Addr) (h0 : Heap) (n0 : Nat) (O0 : Old Z n0 h0) (pf3 : Fld Z h0 ad0 o3 o13 o7 (.ref ad3)) (pe5 : Exa Z h0 ad1 o6) (pa9 : Arv Z h0 ad3 kc5 (.object "java/lang/Object") 10 [.ref ad1, .ref ad6, .null, .null, .null, .null, .null, .null, .null, .null] .null) :
    o16 l o61 jdk_38_method_12_code 6 (some .int) ws ⟨1, 0, 0, 14⟩ Z h0 #[.ref ad0, .ref ad1, .int 0, .int 2] (fun v h L => v = some (.int 0) ∧ Fr n0 L ∧ h = h0) := by
  refine o15 (plainFor_of_name o24) ?_
  intro p e s m below meth c s₁ hx hby hml hown hnm hret hlk hZ e0 X0
  have N0 := Fr.nil n0
  refine o2 (fun u j => castTop (show entryFrame m #[.ref ad0, .ref ad1, .int 0, .int 2] 6 = mkF m 0 #[.val (.ref ad0), .val (.ref ad1), .val (.int 0), .val (.int 2), .unset, .unset] [] from rfl) j) ?_
  refine o2 (fun u j => o1 X0.here hx rfl (hb hby o108) rfl rfl j) ?_
  refine o19 (getF X0 hx hZ hown (host := "") (Or.inl (o0 hw 60 rfl)) Via.refl e0 pf3 rfl rfl (hb hby o109)) ?_
  intro T1815 X1815 e1815
  refine o2 (fun u j => o37 X1815.here hx rfl (hb hby o110) rfl rfl (l' := #[.val (.ref ad0), .val (.ref ad1), .val (.int 0), .val (.int 2), .val (.ref ad3), .unset]) rfl (o1 X1815.here hx rfl (hb hby o111) rfl rfl (o60 X1815.here hx rfl (pc0 := 7) (pc' := 39) rfl (hb hby o112) rfl (by decide) (by decide) (o4 X1815.here hx rfl (hb hby o85) rfl (o30 X1815.here hx rfl (hb hby o86) rfl (l' := #[.val (.ref ad0), .val (.ref ad1), .val (.int 0), .val (.int 2), .val (.ref ad3), .val (.int 0)]) rfl (o10 X1815.here hx rfl (hb hby o56) rfl j)))))) ?_
  show o17 p e below _ (T1815.setTop (mkF m 44 #[.val (.ref ad0), .val (.ref ad1), .val (.int 0), .val (.int 2), .val (.ref ad3), .val (.int 0)] [.int 0]))
  refine o2 (fun u j => o4 X1815.here hx rfl (hb hby o57) rfl (o28 X1815.here hx rfl (hb hby o58) rfl (o53 (by decide)) (o1 X1815.here hx rfl (hb hby o91) rfl rfl (o12 X1815.here hx rfl (hb hby o92) rfl rfl (o10 X1815.here hx rfl (hb hby o93) rfl (o413 X1815 hx hZ e1815 pa9 (j := (0 : Int32)) (v := (.ref ad1)) ⟨by decide, by decide⟩ rfl rfl rfl (hb hby o94) j)))))) ?_
  show o17 p e below _ (T1815.setTop (mkF m 54 #[.val (.ref ad0), .val (.ref ad1), .val (.int 0), .val (.int 2), .val (.ref ad3), .val (.int 0)] [.ref ad1, .ref ad1]))
  refine o11 (o26 X1815 hx hZ (y := o368) (z := o41) hown (o0 hw 122 rfl) (o0 hw 123 rfl) (o574 (args := #[]) (mvT hZ (o0 hw 227 rfl)) rfl) (o0 hw 125 rfl) (o0 hw 126 rfl) (o0 hw 3 rfl) (o0 hw 127 rfl) o257 (o256 l Z a0 hw [] wcs wd mOA mSL mAL kd hS ad1 h0 n0 O0 ) e1815 pe5 o46 (argsL := [.ref ad1]) (rest := []) rfl rfl (g := (mkF m 54 #[.val (.ref ad0), .val (.ref ad1), .val (.int 0), .val (.int 2), .val (.ref ad3), .val (.int 0)] [.ref ad1, .ref ad1])) rfl (by rw [hml]; rfl) rfl (hb hby o95) (W := 0) rfl (by decide) (by decide) (by decide) (by decide)) ?_
  intro T1816 v1816 L1816 X1816 hQ1816
  obtain ⟨rfl, M1816, e1816⟩ := hQ1816
  have N1816 := Fr.app N0 M1816
  refine o2 (fun u j => o34 X1816.here hx rfl (hb hby o96) rfl (o33 (by decide)) (o10 X1816.here hx rfl (hb hby o258) rfl j)) ?_
  exact o20 X1816 hx hlk hret rfl (Or.inl ⟨rfl, by simp, _, rfl⟩) (hb hby o259) (by decide) (by decide) (by rw [e1816]; exact ⟨rfl, N1816, rfl⟩)
theorem o958 (l : Launch) (Z : State) (a0 : Array Value) (hw : o21 a0 Z) (ws : List Jvm.Cond) (wcs : Int32) (wd mOA mSL mAL : Addr) (kd : ClassId) (hS : o22 Z wcs wd mOA mSL mAL kd) (ad0 ad1 ad3 : Addr) (kc5 : ClassId) (ad6 : Addr) (h0 : Heap) (n0 : Nat) (O0 : Old Z n0 h0) (pe1 : Exa Z h0 ad0 o3) (pf3 : Fld Z h0 ad0 o3 o13 o7 (.ref ad3)) (pf4 : Fld Z h0 ad0 o3 "size" "I" (.int 2)) (pe5 : Exa Z h0 ad1 o6) (pa9 : Arv Z h0 ad3 kc5 (.object "java/lang/Object") 10 [.ref ad1, .ref ad6, .null, .null, .null, .null, .null, .null, .null, .null] .null) :
    o16 l o113 jdk_38_method_11_code 2 (some .int) ws ⟨2, 0, 0, 31⟩ Z h0 #[.ref ad0, .ref ad1] (fun v h L => v = some (.int 0) ∧ Fr n0 L ∧ h = h0) := by
  refine o15 (plainFor_of_name o24) ?_
  intro p e s m below meth c s₁ hx hby hml hown hnm hret hlk hZ e0 X0
  have N0 := Fr.nil n0
  refine o2 (fun u j => castTop (show entryFrame m #[.ref ad0, .ref ad1] 2 = mkF m 0 #[.val (.ref ad0), .val (.ref ad1)] [] from rfl) j) ?_
  refine o2 (fun u j => o1 X0.here hx rfl (hb hby o102) rfl rfl (o1 X0.here hx rfl (hb hby o103) rfl rfl (o5 X0.here hx rfl (hb hby o104) (o1 X0.here hx rfl (hb hby o105) rfl rfl j)))) ?_
  refine o19 (getF X0 hx hZ hown (host := "") (Or.inl (o0 hw 83 rfl)) Via.refl e0 pf4 rfl rfl (hb hby o106)) ?_
  intro T1818 X1818 e1818
  refine o11 (o26 X1818 hx hZ (y := o61) (z := o61) hown (o0 hw 85 rfl) (o0 hw 86 rfl) (notFace_of_selects (args := #[]) (mvT hZ (o0 hw 88 rfl))) (o0 hw 88 rfl) (o0 hw 87 rfl) (o0 hw 40 rfl) (o0 hw 89 rfl) o42 (o957 l Z a0 hw [] wcs wd mOA mSL mAL kd hS ad0 ad1 ad3 kc5 ad6 h0 n0 O0 pf3 pe5 pa9) e1818 pe1 o242 (argsL := [.ref ad1, .int 0, .int 2]) (rest := []) rfl rfl (g := (mkF m 7 #[.val (.ref ad0), .val (.ref ad1)] [.int 2, .int 0, .ref ad1, .ref ad0])) rfl (by rw [hml]; rfl) rfl (hb hby o107) (W := 0) rfl (by decide) (by decide) (by decide) (by decide)) ?_
  intro T1819 v1819 L1819 X1819 hQ1819
  obtain ⟨rfl, M1819, e1819⟩ := hQ1819
  have N1819 := Fr.app N0 M1819
  exact o20 X1819 hx hlk hret rfl (Or.inl ⟨rfl, by simp, _, rfl⟩) (hb hby o87) (by decide) (by decide) (by rw [e1819]; exact ⟨rfl, N1819, rfl⟩)
theorem o959 (l : Launch) (Z : State) (a0 : Array Value) (hw : o21 a0 Z) (ws : List Jvm.Cond) (wcs : Int32) (wd mOA mSL mAL : Addr) (kd : ClassId) (hS : o22 Z wcs wd mOA mSL mAL kd) (ad0 ad1 : Addr) (iv2 iv3 : Int32) (h0 : Heap) (n0 : Nat) (O0 : Old Z n0 h0) (pe1 : Exa Z h0 ad0 o14) (pf2 : Fld Z h0 ad0 o8 o9 "I" (.int iv2)) (pf3 : Fld Z h0 ad0 o14 "offset" "I" (.int 0)) (pf4 : Fld Z h0 ad0 o14 "parent" o64 .null) (pf5 : Fld Z h0 ad0 o14 "root" o47 .null) (pf6 : Fld Z h0 ad0 o14 "size" "I" (.int 0)) (pe7 : Exa Z h0 ad1 o3) (pf8 : Fld Z h0 ad1 o8 o9 "I" (.int iv3)) (pg_ad0 : n0 ≤ ad0) :
    o16 l o369 jdk_130_method_1_code 4 none ws ⟨3, 0, 0, 36⟩ Z h0 #[.ref ad0, .ref ad1, .int 0, .int 2] (fun v h L => v = none ∧ Fr n0 L ∧ Keep h0 h [ad0] ∧ Exa Z h ad0 o14 ∧ Fld Z h ad0 o8 o9 "I" (.int iv3) ∧ Fld Z h ad0 o14 "offset" "I" (.int 0) ∧ Fld Z h ad0 o14 "parent" o64 .null ∧ Fld Z h ad0 o14 "root" o47 (.ref ad1) ∧ Fld Z h ad0 o14 "size" "I" (.int 2)) := by
  refine o15 (plainFor_of_name o205) ?_
  intro p e s m below meth c s₁ hx hby hml hown hnm hret hlk hZ e0 X0
  have N0 := Fr.nil n0
  refine o2 (fun u j => castTop (show entryFrame m #[.ref ad0, .ref ad1, .int 0, .int 2] 4 = mkF m 0 #[.val (.ref ad0), .val (.ref ad1), .val (.int 0), .val (.int 2)] [] from rfl) j) ?_
  refine o2 (fun u j => o1 X0.here hx rfl (hb hby o335) rfl rfl j) ?_
  refine o11 (o50 X0 hx hZ (y := o199) rfl hown (o0 hw 187 rfl) (o0 hw 45 rfl) (o0 hw 48 rfl) (o0 hw 49 rfl) o141 (o828 l Z a0 hw [] wcs wd mOA mSL mAL kd hS ad0 iv2 h0 n0 O0 pe1 pf2 pf3 pf4 pf5 pf6 pg_ad0) e0 o59 (a := ad0) (argsL := []) (rest := []) rfl rfl (g := (mkF m 1 #[.val (.ref ad0), .val (.ref ad1), .val (.int 0), .val (.int 2)] [.ref ad0])) rfl (by rw [hml]; rfl) rfl (hb hby o336) (W := 0) rfl (by decide) (by decide) (by decide) (by decide)) ?_
  intro T1860 v1860 L1860 X1860 hQ1860
  obtain ⟨rfl, M1860, K1860, F1861, F1862, F1863, F1864, F1865, F1866⟩ := hQ1860
  have N1860 := Fr.app N0 M1860
  refine o2 (fun u j => o1 X1860.here hx rfl (hb hby o337) rfl rfl (o1 X1860.here hx rfl (hb hby o338) rfl rfl j)) ?_
  refine o32 (putF X1860 hx hZ hown (host := "") (Or.inl (o0 hw 191 rfl)) Via.refl rfl F1865 F1861 (Or.inr ⟨(o0 hw 192 rfl), rfl, hnm⟩) (o0 hw 181 rfl) (ty := (.object "java/util/ArrayList")) o78 rfl rfl rfl rfl (hb hby o339)) ?_
  intro T1867 h1867 X1867 e1867 W1867
  have N1867 := Fr.snoc X1867 N1860 pg_ad0
  have F1868 : Fld Z h1867 ad0 o14 "root" o47 (.ref ad1) := Fld.same W1867 F1865
  refine o2 (fun u j => o1 X1867.here hx rfl (hb hby o340) rfl rfl (o49 X1867.here hx rfl (hb hby o274) j)) ?_
  have F1869 := (Exa.wr W1867 F1861)
  have F1870 := (Fld.other W1867 F1864 (Or.inr (o608 hw)))
  refine o32 (putF X1867 hx hZ hown (host := "") (Or.inl (o0 hw 193 rfl)) Via.refl e1867 F1870 F1869 (Or.inr ⟨(o0 hw 194 rfl), rfl, hnm⟩) (o0 hw 181 rfl) (ty := (.object "java/util/ArrayList$SubList")) o79 rfl rfl rfl rfl (hb hby o275)) ?_
  intro T1871 h1871 X1871 e1871 W1871
  have N1871 := Fr.snoc X1871 N1867 pg_ad0
  have F1872 : Fld Z h1871 ad0 o14 "parent" o64 .null := Fld.same W1871 F1870
  refine o2 (fun u j => o1 X1871.here hx rfl (hb hby o276) rfl rfl (o4 X1871.here hx rfl (hb hby o277) rfl j)) ?_
  have F1873 := (Exa.wr W1871 F1869)
  have F1874 := (Fld.other W1871 (Fld.other W1867 F1863 (Or.inr (o609 hw))) (Or.inr (o610 hw)))
  refine o32 (putF X1871 hx hZ hown (host := "") (Or.inl (o0 hw 195 rfl)) Via.refl e1871 F1874 F1873 (Or.inr ⟨(o0 hw 196 rfl), rfl, hnm⟩) (o0 hw 181 rfl) (ty := .int) o18 rfl rfl rfl rfl (hb hby o278)) ?_
  intro T1875 h1875 X1875 e1875 W1875
  have N1875 := Fr.snoc X1875 N1871 pg_ad0
  have F1876 : Fld Z h1875 ad0 o14 "offset" "I" (.int 0) := Fld.same W1875 F1874
  refine o2 (fun u j => o1 X1875.here hx rfl (hb hby o279) rfl rfl (o4 X1875.here hx rfl (hb hby o280) rfl (o4 X1875.here hx rfl (hb hby o281) rfl (o38 X1875.here hx rfl (hb hby o282) rfl j)))) ?_
  have F1877 := (Exa.wr W1875 F1873)
  have F1878 := (Fld.other W1875 (Fld.other W1871 (Fld.other W1867 F1866 (Or.inr (o611 hw))) (Or.inr (o612 hw))) (Or.inr (o613 hw)))
  refine o32 (putF X1875 hx hZ hown (host := "") (Or.inl (o0 hw 197 rfl)) Via.refl e1875 F1878 F1877 (Or.inl (o0 hw 198 rfl)) (o0 hw 181 rfl) (ty := .int) o18 rfl rfl rfl rfl (hb hby o283)) ?_
  intro T1879 h1879 X1879 e1879 W1879
  have N1879 := Fr.snoc X1879 N1875 pg_ad0
  have F1880 : Fld Z h1879 ad0 o14 "size" "I" (.int 2) := Fld.same W1879 F1878
  refine o2 (fun u j => o1 X1879.here hx rfl (hb hby o284) rfl rfl (o1 X1879.here hx rfl (hb hby o285) rfl rfl j)) ?_
  have ne1881 := (ne_exa pe7 pe1 o614)
  have F1882 := (Fld.other W1879 (Fld.other W1875 (Fld.other W1871 (Fld.other W1867 (pf8.keep K1860 (ninS ne1881 nin0)) (Or.inl ne1881)) (Or.inl ne1881)) (Or.inl ne1881)) (Or.inl ne1881))
  refine o19 (getF X1879 hx hZ hown (host := "") (Or.inl (o0 hw 199 rfl)) (Via.of (o0 hw 99 rfl)) e1879 F1882 rfl rfl (hb hby o286)) ?_
  intro T1883 X1883 e1883
  have F1884 := (Exa.wr W1879 F1877)
  have F1885 := (Fld.other W1879 (Fld.other W1875 (Fld.other W1871 (Fld.other W1867 F1862 (Or.inr (o615 hw))) (Or.inr (o616 hw))) (Or.inr (o617 hw))) (Or.inr (o618 hw)))
  refine o32 (putF X1883 hx hZ hown (host := "") (Or.inl (o0 hw 200 rfl)) (Via.of (o0 hw 201 rfl)) e1883 F1885 F1884 (Or.inl (o0 hw 190 rfl)) (o0 hw 181 rfl) (ty := .int) o18 rfl rfl rfl rfl (hb hby o287)) ?_
  intro T1886 h1886 X1886 e1886 W1886
  have N1886 := Fr.snoc X1886 N1879 pg_ad0
  have F1887 : Fld Z h1886 ad0 o8 o9 "I" (.int iv3) := Fld.same W1886 F1885
  have K1888 := (Keep.refl h0 [ad0]).trans K1860 (allS (Or.inl (List.mem_of_getElem? (i := 0) rfl)) all0)
  have K1889 := K1888.wr W1867 (Or.inl (List.mem_of_getElem? (i := 0) rfl))
  have K1890 := K1889.wr W1871 (Or.inl (List.mem_of_getElem? (i := 0) rfl))
  have K1891 := K1890.wr W1875 (Or.inl (List.mem_of_getElem? (i := 0) rfl))
  have K1892 := K1891.wr W1879 (Or.inl (List.mem_of_getElem? (i := 0) rfl))
  have K1893 := K1892.wr W1886 (Or.inl (List.mem_of_getElem? (i := 0) rfl))
  have F1894 := (Exa.wr W1886 F1884)
  have F1895 := (Fld.other W1886 (Fld.other W1879 F1876 (Or.inr (o619 hw))) (Or.inr (o581 hw)))
  have F1896 := (Fld.other W1886 (Fld.other W1879 (Fld.other W1875 F1872 (Or.inr (o620 hw))) (Or.inr (o621 hw))) (Or.inr (o582 hw)))
  have F1897 := (Fld.other W1886 (Fld.other W1879 (Fld.other W1875 (Fld.other W1871 F1868 (Or.inr (o622 hw))) (Or.inr (o623 hw))) (Or.inr (o624 hw))) (Or.inr (o583 hw)))
  have F1898 := (Fld.other W1886 F1880 (Or.inr (o584 hw)))
  exact o48 X1886 hx hlk hret (hb hby o288) (by decide) (by decide) (by rw [e1886]; exact ⟨rfl, N1886, K1893, F1894, F1887, F1895, F1896, F1897, F1898⟩)
theorem o960 (l : Launch) (Z : State) (a0 : Array Value) (hw : o21 a0 Z) (ws : List Jvm.Cond) (wcs : Int32) (wd mOA mSL mAL : Addr) (kd : ClassId) (hS : o22 Z wcs wd mOA mSL mAL kd) (ad0 : Addr) (iv1 : Int32) (h0 : Heap) (n0 : Nat) (O0 : Old Z n0 h0) (pe1 : Exa Z h0 ad0 o3) (pf2 : Fld Z h0 ad0 o8 o9 "I" (.int iv1)) (pf4 : Fld Z h0 ad0 o3 "size" "I" (.int 2)) :
    o16 l o370 jdk_38_method_56_code 3 (some (.object "java/util/List")) ws ⟨4, 1, 5, 52⟩ Z h0 #[.ref ad0, .int 0, .int 2] (fun v h L => ∃ nz0 : Addr, v = some (.ref nz0) ∧ Fr n0 L ∧ Keep h0 h [] ∧ h0.size ≤ nz0 ∧ Exa Z h nz0 o14 ∧ Fld Z h nz0 o8 o9 "I" (.int iv1) ∧ Fld Z h nz0 o14 "offset" "I" (.int 0) ∧ Fld Z h nz0 o14 "parent" o64 .null ∧ Fld Z h nz0 o14 "root" o47 (.ref ad0) ∧ Fld Z h nz0 o14 "size" "I" (.int 2)) := by
  refine o15 (plainFor_of_name o24) ?_
  intro p e s m below meth c s₁ hx hby hml hown hnm hret hlk hZ e0 X0
  have N0 := Fr.nil n0
  refine o2 (fun u j => castTop (show entryFrame m #[.ref ad0, .int 0, .int 2] 3 = mkF m 0 #[.val (.ref ad0), .val (.int 0), .val (.int 2)] [] from rfl) j) ?_
  refine o2 (fun u j => o4 X0.here hx rfl (hb hby o329) rfl (o4 X0.here hx rfl (hb hby o330) rfl (o1 X0.here hx rfl (hb hby o331) rfl rfl j))) ?_
  refine o19 (getF X0 hx hZ hown (host := "") (Or.inl (o0 hw 83 rfl)) Via.refl e0 pf4 rfl rfl (hb hby o332)) ?_
  intro T1910 X1910 e1910
  refine o11 (o603 X1910 hx hZ (y := o639) (owner := "java/util/AbstractList") hown (o0 hw 176 rfl) (o0 hw 177 rfl) (o0 hw 178 rfl) (o0 hw 48 rfl) (o0 hw 179 rfl) o141 (o827 l Z a0 hw [] wcs wd mOA mSL mAL kd hS (0 : Int32) (2 : Int32) (2 : Int32) h0 n0 O0 (by decide) (by decide) (by decide)) e1910 o607 (argsL := [.int 0, .int 2, .int 2]) (rest := []) rfl rfl (g := (mkF m 6 #[.val (.ref ad0), .val (.int 0), .val (.int 2)] [.int 2, .int 2, .int 0])) rfl (by rw [hml]; rfl) rfl (hb hby o333) (W := 0) rfl (by decide) (by decide) (by decide) (by decide)) ?_
  intro T1911 v1911 L1911 X1911 hQ1911
  obtain ⟨rfl, M1911, e1911⟩ := hQ1911
  have N1911 := Fr.app N0 M1911
  have q_ := newO X1911 hx hZ hown (o0 hw 180 rfl) (o0 hw 181 rfl) (o0 hw 182 rfl) e1911 (g := (mkF m 9 #[.val (.ref ad0), .val (.int 0), .val (.int 2)] [])) rfl (hb hby o334) (by decide) (by decide)
  obtain ⟨T1912, h1912, X1912, e1912, E1912, A1912, D1912, U1912, st1912⟩ := q_
  have q_ : ∃ z, z = h0.size := ⟨_, rfl⟩
  obtain ⟨b1912, g1912⟩ := q_
  rw [← g1912] at A1912 D1912 U1912 st1912
  have F1912_modCount : Fld Z h1912 b1912 o8 o9 "I" (.int 0) := D1912 (Or.inl (o0 hw 190 rfl)) (ty := .int) o18
  have F1912_root : Fld Z h1912 b1912 o14 "root" o47 .null := D1912 (Or.inr (o0 hw 192 rfl)) (ty := (.object "java/util/ArrayList")) o78
  have F1912_parent : Fld Z h1912 b1912 o14 "parent" o64 .null := D1912 (Or.inr (o0 hw 194 rfl)) (ty := (.object "java/util/ArrayList$SubList")) o79
  have F1912_offset : Fld Z h1912 b1912 o14 "offset" "I" (.int 0) := D1912 (Or.inr (o0 hw 196 rfl)) (ty := .int) o18
  have F1912_size : Fld Z h1912 b1912 o14 "size" "I" (.int 0) := D1912 (Or.inl (o0 hw 198 rfl)) (ty := .int) o18
  refine o2 (fun u j => st1912 u j) ?_
  refine o2 (fun u j => o40 X1912.here hx rfl (hb hby o269) rfl rfl (o1 X1912.here hx rfl (hb hby o270) rfl rfl (o4 X1912.here hx rfl (hb hby o271) rfl (o4 X1912.here hx rfl (hb hby o272) rfl j)))) ?_
  have F1913 := (Exa.ext E1912 pe1)
  have F1914 := (Fld.ext E1912 pf2)
  have g1915 := Nat.le_trans (o52 O0) (Nat.le_of_eq g1912.symm)
  have O1917 := O0.ext E1912
  refine o11 (o50 X1912 hx hZ (y := o369) rfl hown (o0 hw 183 rfl) (o0 hw 184 rfl) (o0 hw 182 rfl) (o0 hw 186 rfl) o289 (o959 l Z a0 hw [] wcs wd mOA mSL mAL kd hS b1912 ad0 (0 : Int32) iv1 h1912 n0 O1917 A1912 F1912_modCount F1912_offset F1912_parent F1912_root F1912_size F1913 F1914 g1915) e1912 o625 (a := b1912) (argsL := [.ref ad0, .int 0, .int 2]) (rest := [.ref b1912]) rfl rfl (g := (mkF m 16 #[.val (.ref ad0), .val (.int 0), .val (.int 2)] [.int 2, .int 0, .ref ad0, .ref b1912, .ref b1912])) rfl (by rw [hml]; rfl) rfl (hb hby o273) (W := 1) rfl (by decide) (by decide) (by decide) (by decide)) ?_
  intro T1916 v1916 L1916 X1916 hQ1916
  obtain ⟨rfl, M1916, K1916, F1918, F1919, F1920, F1921, F1922, F1923⟩ := hQ1916
  have N1916 := Fr.app N1911 M1916
  have K1924 := (Keep.refl h0 []).ext E1912
  have z1926 := Nat.le_trans (Nat.le_refl _) (Nat.le_of_eq g1912.symm)
  have K1925 := K1924.trans K1916 (allS (Or.inr z1926) all0)
  exact o20 X1916 hx hlk hret rfl (Or.inr (Or.inr (Or.inr (Or.inr ⟨rfl, rfl, rfl⟩)))) (hb hby o290) (by decide) (by decide) (by exact ⟨b1912, rfl, N1916, K1925, z1926, F1918, F1919, F1920, F1921, F1922, F1923⟩)
theorem o961 (l : Launch) (Z : State) (a0 : Array Value) (hw : o21 a0 Z) (ws : List Jvm.Cond) (wcs : Int32) (wd mOA mSL mAL : Addr) (kd : ClassId) (hS : o22 Z wcs wd mOA mSL mAL kd) (ad0 : Addr) (kc1 : ClassId) (ad2 ad3 : Addr) (h0 : Heap) (n0 : Nat) (O0 : Old Z n0 h0) (pa2 : Arv Z h0 ad0 kc1 (.object "java/lang/Object") 10 [.ref ad2, .ref ad3, .null, .null, .null, .null, .null, .null, .null, .null] .null) (pe3 : Exa Z h0 ad2 o6) (pe6 : Exa Z h0 ad3 o6) :
    o16 l o371 jdk_65_method_130_code 6 (some (.array (.object "java/lang/Object"))) ws ⟨1, 1, 2, 27⟩ Z h0 #[.ref ad0, .int 0, .int 2, .ref mOA] (fun v h L => ∃ nz0 : Addr, ∃ kz1 : ClassId, v = some (.ref nz0) ∧ Fr n0 L ∧ Keep h0 h [] ∧ h0.size ≤ nz0 ∧ Exa Z h nz0 o7 ∧ Arv Z h nz0 kz1 (.object "java/lang/Object") 2 [.ref ad2, .ref ad3] .null ∧ Ovr Z kz1 "java/lang/Object") := by
  refine o15 (plainFor_of_name o72) ?_
  intro p e s m below meth c s₁ hx hby hml hown hnm hret hlk hZ e0 X0
  have N0 := Fr.nil n0
  refine o2 (fun u j => castTop (show entryFrame m #[.ref ad0, .int 0, .int 2, .ref mOA] 6 = mkF m 0 #[.val (.ref ad0), .val (.int 0), .val (.int 2), .val (.ref mOA), .unset, .unset] [] from rfl) j) ?_
  refine o2 (fun u j => o4 X0.here hx rfl (hb hby o303) rfl (o4 X0.here hx rfl (hb hby o304) rfl (o38 X0.here hx rfl (hb hby o305) rfl (o30 X0.here hx rfl (hb hby o306) rfl (l' := #[.val (.ref ad0), .val (.int 0), .val (.int 2), .val (.ref mOA), .val (.int 2), .unset]) rfl (o10 X0.here hx rfl (hb hby o307) rfl (o43 X0.here hx rfl (pc0 := 7) (pc' := 42) rfl (hb hby o308) rfl (o140 (by decide)) (by decide) (by decide) j)))))) ?_
  show o17 p e below _ (s₁.setTop (mkF m 42 #[.val (.ref ad0), .val (.int 0), .val (.int 2), .val (.ref mOA), .val (.int 2), .unset] []))
  refine o2 (fun u j => o1 X0.here hx rfl (hb hby o214) rfl rfl j) ?_
  have q_ := o114 X0 hx hZ hown (o0 hw 233 rfl) e0 hS.2.2.2.2.2.1 (g := (mkF m 43 #[.val (.ref ad0), .val (.int 0), .val (.int 2), .val (.ref mOA), .val (.int 2), .unset] [.ref mOA])) rfl (hb hby o215)
  obtain ⟨T1961, X1961, e1961, st1961⟩ := q_
  refine o2 (fun u j => st1961 u j) ?_
  refine o2 (fun u j => o97 X1961.here hx rfl (hb hby o216) rfl rfl rfl (o84 rfl) (o10 X1961.here hx rfl (hb hby o217) rfl j)) ?_
  have q_ := newRE X1961 hx hZ hown (show (Cond.classLink "java/util/Arrays" 2 "java/lang/Object").before a0 Z = true from (o0 hw 234 rfl)) (show (Cond.arrayOver (.object "java/lang/Object")).before a0 Z = true from (o0 hw 120 rfl)) e1961 (g := (mkF m 50 #[.val (.ref ad0), .val (.int 0), .val (.int 2), .val (.ref mOA), .val (.int 2), .unset] [.int 2])) rfl (hb hby o218) rfl (by decide) (cap := 2) (by decide) (by decide) (by decide) (by decide) (ad := "[Ljava/lang/Object;") o198
  obtain ⟨T1962, h1962, k1962, X1962, e1962, E1962, A1962, Y1962, O1962, st1962⟩ := q_
  have q_ : ∃ z, z = h0.size := ⟨_, rfl⟩
  obtain ⟨b1962, g1962⟩ := q_
  rw [← g1962] at A1962 Y1962 st1962
  have V1962 : Arv Z h1962 b1962 k1962 (.object "java/lang/Object") 2 [.null, .null] .null := (Arv.new A1962 (by decide)).pad (pad_rep [] .null 2)
  refine o2 (fun u j => st1962 u j) ?_
  refine o2 (fun u j => o35 X1962.here hx rfl (pc0 := 53) (pc' := 68) rfl (hb hby o219) (by decide) (by decide) (o37 X1962.here hx rfl (hb hby o220) rfl rfl (l' := #[.val (.ref ad0), .val (.int 0), .val (.int 2), .val (.ref mOA), .val (.int 2), .val (.ref b1962)]) rfl (o1 X1962.here hx rfl (hb hby o221) rfl rfl (o4 X1962.here hx rfl (hb hby o222) rfl (o12 X1962.here hx rfl (hb hby o223) rfl rfl (o5 X1962.here hx rfl (hb hby o224) j)))))) ?_
  show o17 p e below _ (T1962.setTop (mkF m 75 #[.val (.ref ad0), .val (.int 0), .val (.int 2), .val (.ref mOA), .val (.int 2), .val (.ref b1962)] [.int 0, .ref b1962, .int 0, .ref ad0]))
  refine o2 (fun u j => o1 X1962.here hx rfl (hb hby o225) rfl rfl j) ?_
  have F1963 := (pa2.ext E1962)
  refine o2 (fun u j => o65 X1962 hx hZ e1962 F1963 rfl rfl (hb hby o226) (o4 X1962.here hx rfl (hb hby o227) rfl (o38 X1962.here hx rfl (hb hby o228) rfl (o10 X1962.here hx rfl (hb hby o229) rfl j)))) ?_
  have O1966 := O0.ext E1962
  refine o11 (o25 X1962 hx hZ (y := o188) hown (o0 hw 235 rfl) (o0 hw 236 rfl) (o0 hw 117 rfl) (o0 hw 237 rfl) o115 (o830 l Z a0 hw [] wcs wd mOA mSL mAL kd hS (10 : Int32) (2 : Int32) h1962 n0 O1966 (by decide)) e1962 o67 (argsL := [.int 10, .int 2]) (rest := [.int 0, .ref b1962, .int 0, .ref ad0]) rfl rfl (g := (mkF m 81 #[.val (.ref ad0), .val (.int 0), .val (.int 2), .val (.ref mOA), .val (.int 2), .val (.ref b1962)] [.int 2, .int 10, .int 0, .ref b1962, .int 0, .ref ad0])) rfl (by rw [hml]; rfl) rfl (hb hby o230) (W := 4) rfl (by decide) (by decide) (by decide) (by decide)) ?_
  intro T1965 v1965 L1965 X1965 hQ1965
  obtain ⟨rfl, M1965, e1965⟩ := hQ1965
  have N1965 := Fr.app N0 M1965
  have q_ := id V1962
  obtain ⟨cl1968, Ar1968, q1968, S1968, N1968, H1968, G1968⟩ := q_
  have F1969 := (Exa.ext E1962 pe6)
  have F1970 := (Exa.ext E1962 pe3)
  have g1971 := Nat.le_trans (o52 O0) (Nat.le_of_eq g1962.symm)
  have q_ := cpA X1965 hx hZ hown (o0 hw 238 rfl) (o0 hw 241 rfl) (o0 hw 239 rfl) (o0 hw 240 rfl) e1965 F1963 V1962 (us := [.ref ad2, .ref ad3]) (Or.inr ⟨rfl, rfl, ⟨Sto.ofV Ar1968 q1968 O1962 (Ins.of_exa F1970 (o0 hw 121 rfl)), ⟨Sto.ofV Ar1968 q1968 O1962 (Ins.of_exa F1969 (o0 hw 121 rfl)), trivial⟩⟩⟩) (by decide) (by decide) (by decide) (by decide) (by decide) rfl (by decide) N1965 g1971 (g := (mkF m 84 #[.val (.ref ad0), .val (.int 0), .val (.int 2), .val (.ref mOA), .val (.int 2), .val (.ref b1962)] [.int 2, .int 0, .ref b1962, .int 0, .ref ad0])) rfl (by rw [hml]; rfl) rfl (hb hby o231) (by decide) (W := 0) (by show 2 * 0 + _ ≤ _; exact Nat.le_of_eq rfl) (by decide)
  obtain ⟨T1967, h1967, L1967, X1967, e1967, N1967, K1967, V1967, st1967⟩ := q_
  have V1972 : Arv Z h1967 b1962 k1962 (.object "java/lang/Object") 2 [.ref ad2, .ref ad3] .null := V1967
  refine o2 (fun u j => st1967 u j) ?_
  refine o2 (fun u j => o12 X1967.here hx rfl (hb hby o232) rfl rfl j) ?_
  have K1973 := (Keep.refl h0 []).ext E1962
  have z1975 := Nat.le_trans (Nat.le_refl _) (Nat.le_of_eq g1962.symm)
  have K1974 := K1973.trans K1967 (allS (Or.inr z1975) all0)
  have F1976 := (Y1962.keep K1967)
  exact o20 X1967 hx hlk hret rfl (Or.inr (Or.inr (Or.inr (Or.inr ⟨rfl, rfl, rfl⟩)))) (hb hby o233) (by decide) (by decide) (by rw [e1967]; exact ⟨b1962, k1962, rfl, N1967, K1974, z1975, F1976, V1972, O1962⟩)
theorem o962 (l : Launch) (Z : State) (a0 : Array Value) (hw : o21 a0 Z) (ws : List Jvm.Cond) (wcs : Int32) (wd mOA mSL mAL : Addr) (kd : ClassId) (hS : o22 Z wcs wd mOA mSL mAL kd) (ad0 : Addr) (kc1 : ClassId) (ad2 ad3 : Addr) (h0 : Heap) (n0 : Nat) (O0 : Old Z n0 h0) (pe1 : Exa Z h0 ad0 o7) (pa2 : Arv Z h0 ad0 kc1 (.object "java/lang/Object") 10 [.ref ad2, .ref ad3, .null, .null, .null, .null, .null, .null, .null, .null] .null) (pe3 : Exa Z h0 ad2 o6) (pe6 : Exa Z h0 ad3 o6) :
    o16 l o372 jdk_65_method_129_code 3 (some (.array (.object "java/lang/Object"))) ws ⟨2, 1, 2, 44⟩ Z h0 #[.ref ad0, .int 0, .int 2] (fun v h L => ∃ nz0 : Addr, ∃ kz1 : ClassId, v = some (.ref nz0) ∧ Fr n0 L ∧ Keep h0 h [] ∧ h0.size ≤ nz0 ∧ Exa Z h nz0 o7 ∧ Arv Z h nz0 kz1 (.object "java/lang/Object") 2 [.ref ad2, .ref ad3] .null ∧ Ovr Z kz1 "java/lang/Object") := by
  refine o15 (plainFor_of_name o72) ?_
  intro p e s m below meth c s₁ hx hby hml hown hnm hret hlk hZ e0 X0
  have N0 := Fr.nil n0
  refine o2 (fun u j => castTop (show entryFrame m #[.ref ad0, .int 0, .int 2] 3 = mkF m 0 #[.val (.ref ad0), .val (.int 0), .val (.int 2)] [] from rfl) j) ?_
  refine o2 (fun u j => o1 X0.here hx rfl (hb hby o297) rfl rfl (o4 X0.here hx rfl (hb hby o298) rfl (o4 X0.here hx rfl (hb hby o299) rfl (o1 X0.here hx rfl (hb hby o300) rfl rfl j)))) ?_
  have q_ := o564 X0 hx hZ hown (o0 hw 224 rfl) (o0 hw 225 rfl) (o0 hw 227 rfl) (o0 hw 226 rfl) (o0 hw 228 rfl) e0 pe1 hS.2.2.2.2.2.1 (g := (mkF m 4 #[.val (.ref ad0), .val (.int 0), .val (.int 2)] [.ref ad0, .int 2, .int 0, .ref ad0])) rfl (by rw [hml]; rfl) rfl (hb hby o301) (by decide) (W := 3) (by show 2 * 0 + _ ≤ _; exact Nat.le_of_eq rfl) (by decide)
  obtain ⟨T1984, X1984, e1984, st1984⟩ := q_
  refine o2 (fun u j => st1984 u j) ?_
  refine o11 (o25 X1984 hx hZ (y := o371) hown (o0 hw 230 rfl) (o0 hw 231 rfl) (o0 hw 222 rfl) (o0 hw 232 rfl) o69 (o961 l Z a0 hw [] wcs wd mOA mSL mAL kd hS ad0 kc1 ad2 ad3 h0 n0 O0 pa2 pe3 pe6) e1984 o627 (argsL := [.ref ad0, .int 0, .int 2, .ref mOA]) (rest := []) rfl rfl (g := (mkF m 7 #[.val (.ref ad0), .val (.int 0), .val (.int 2)] [.ref mOA, .int 2, .int 0, .ref ad0])) rfl (by rw [hml]; rfl) rfl (hb hby o302) (W := 0) rfl (by decide) (by decide) (by decide) (by decide)) ?_
  intro T1985 v1985 L1985 X1985 hQ1985
  obtain ⟨nz0_1986, kz1_1987, rfl, M1985, K1985, z1988, F1989, F1990, ov0_1991⟩ := hQ1985
  have N1985 := Fr.app N0 M1985
  have K1992 := (Keep.refl h0 []).trans K1985 all0
  have z1993 := Nat.le_trans (Nat.le_refl _) z1988
  exact o20 X1985 hx hlk hret rfl (Or.inr (Or.inr (Or.inr (Or.inr ⟨rfl, rfl, rfl⟩)))) (hb hby o234) (by decide) (by decide) (by exact ⟨nz0_1986, kz1_1987, rfl, N1985, K1992, z1993, F1989, F1990, ov0_1991⟩)
theorem o963 (l : Launch) (Z : State) (a0 : Array Value) (hw : o21 a0 Z) (ws : List Jvm.Cond) (wcs : Int32) (wd mOA mSL mAL : Addr) (kd : ClassId) (hS : o22 Z wcs wd mOA mSL mAL kd) (ad0 : Addr) (iv1 : Int32) (ad2 ad3 : Addr) (kc4 : ClassId) (ad5 ad6 : Addr) (h0 : Heap) (n0 : Nat) (O0 : Old Z n0 h0) (pe1 : Exa Z h0 ad0 o14) (pf2 : Fld Z h0 ad0 o8 o9 "I" (.int iv1)) (pf3 : Fld Z h0 ad0 o14 "offset" "I" (.int 0)) (pf5 : Fld Z h0 ad0 o14 "root" o47 (.ref ad2)) (pf6 : Fld Z h0 ad0 o14 "size" "I" (.int 2)) (pf8 : Fld Z h0 ad2 o8 o9 "I" (.int iv1)) (pf9 : Fld Z h0 ad2 o3 o13 o7 (.ref ad3)) (pe11 : Exa Z h0 ad3 o7) (pa12 : Arv Z h0 ad3 kc4 (.object "java/lang/Object") 10 [.ref ad5, .ref ad6, .null, .null, .null, .null, .null, .null, .null, .null] .null) (pe13 : Exa Z h0 ad5 o6) (pe16 : Exa Z h0 ad6 o6) :
    o16 l o373 jdk_130_method_16_code 1 (some (.array (.object "java/lang/Object"))) ws ⟨3, 1, 2, 58⟩ Z h0 #[.ref ad0] (fun v h L => ∃ nz0 : Addr, ∃ kz1 : ClassId, v = some (.ref nz0) ∧ Fr n0 L ∧ Keep h0 h [] ∧ h0.size ≤ nz0 ∧ Exa Z h nz0 o7 ∧ Arv Z h nz0 kz1 (.object "java/lang/Object") 2 [.ref ad5, .ref ad6] .null ∧ Ovr Z kz1 "java/lang/Object") := by
  refine o15 (plainFor_of_name o205) ?_
  intro p e s m below meth c s₁ hx hby hml hown hnm hret hlk hZ e0 X0
  have N0 := Fr.nil n0
  refine o2 (fun u j => castTop (show entryFrame m #[.ref ad0] 1 = mkF m 0 #[.val (.ref ad0)] [] from rfl) j) ?_
  refine o2 (fun u j => o1 X0.here hx rfl (hb hby o292) rfl rfl j) ?_
  refine o11 (o62 X0 hx hZ (y := o593) hown (o0 hw 214 rfl) (o0 hw 215 rfl) (mvT hZ (o0 hw 217 rfl)) (o0 hw 216 rfl) (o0 hw 182 rfl) (o0 hw 218 rfl) o289 (o829 l Z a0 hw [] wcs wd mOA mSL mAL kd hS ad0 iv1 ad2 h0 n0 O0 pf2 pf5 pf8) e0 pe1 o59 (argsL := []) (rest := []) rfl rfl (g := (mkF m 1 #[.val (.ref ad0)] [.ref ad0])) rfl (by rw [hml]; rfl) rfl (hb hby o293) (W := 0) rfl (by decide) (by decide) (by decide) (by decide)) ?_
  intro T2001 v2001 L2001 X2001 hQ2001
  obtain ⟨rfl, M2001, e2001⟩ := hQ2001
  have N2001 := Fr.app N0 M2001
  refine o2 (fun u j => o1 X2001.here hx rfl (hb hby o294) rfl rfl j) ?_
  refine o19 (getF X2001 hx hZ hown (host := "") (Or.inl (o0 hw 191 rfl)) Via.refl e2001 pf5 rfl rfl (hb hby o295)) ?_
  intro T2002 X2002 e2002
  refine o19 (getF X2002 hx hZ hown (host := "") (Or.inl (o0 hw 219 rfl)) Via.refl e2002 pf9 rfl rfl (hb hby o296)) ?_
  intro T2003 X2003 e2003
  refine o2 (fun u j => o1 X2003.here hx rfl (hb hby o206) rfl rfl j) ?_
  refine o19 (getF X2003 hx hZ hown (host := "") (Or.inl (o0 hw 195 rfl)) Via.refl e2003 pf3 rfl rfl (hb hby o207)) ?_
  intro T2004 X2004 e2004
  refine o2 (fun u j => o1 X2004.here hx rfl (hb hby o208) rfl rfl j) ?_
  refine o19 (getF X2004 hx hZ hown (host := "") (Or.inl (o0 hw 195 rfl)) Via.refl e2004 pf3 rfl rfl (hb hby o209)) ?_
  intro T2005 X2005 e2005
  refine o2 (fun u j => o1 X2005.here hx rfl (hb hby o210) rfl rfl j) ?_
  refine o19 (getF X2005 hx hZ hown (host := "") (Or.inl (o0 hw 197 rfl)) Via.refl e2005 pf6 rfl rfl (hb hby o211)) ?_
  intro T2006 X2006 e2006
  refine o2 (fun u j => o36 X2006.here hx rfl (hb hby o212) rfl j) ?_
  refine o11 (o25 X2006 hx hZ (y := o372) hown (o0 hw 220 rfl) (o0 hw 221 rfl) (o0 hw 222 rfl) (o0 hw 223 rfl) o69 (o962 l Z a0 hw [] wcs wd mOA mSL mAL kd hS ad3 kc4 ad5 ad6 h0 n0 O0 pe11 pa12 pe13 pe16) e2006 o628 (argsL := [.ref ad3, .int 0, .int 2]) (rest := []) rfl rfl (g := (mkF m 24 #[.val (.ref ad0)] [.int 2, .int 0, .ref ad3])) rfl (by rw [hml]; rfl) rfl (hb hby o213) (W := 0) rfl (by decide) (by decide) (by decide) (by decide)) ?_
  intro T2007 v2007 L2007 X2007 hQ2007
  obtain ⟨nz0_2008, kz1_2009, rfl, M2007, K2007, z2010, F2011, F2012, ov0_2013⟩ := hQ2007
  have N2007 := Fr.app N2001 M2007
  have K2014 := (Keep.refl h0 []).trans K2007 all0
  have z2015 := Nat.le_trans (Nat.le_refl _) z2010
  exact o20 X2007 hx hlk hret rfl (Or.inr (Or.inr (Or.inr (Or.inr ⟨rfl, rfl, rfl⟩)))) (hb hby o235) (by decide) (by decide) (by exact ⟨nz0_2008, kz1_2009, rfl, N2007, K2014, z2015, F2011, F2012, ov0_2013⟩)
theorem o964 (l : Launch) (Z : State) (a0 : Array Value) (hw : o21 a0 Z) (ws : List Jvm.Cond) (wcs : Int32) (wd mOA mSL mAL : Addr) (kd : ClassId) (hS : o22 Z wcs wd mOA mSL mAL kd) (ad0 : Addr) (kc1 : ClassId) (ad2 ad3 : Addr) (h0 : Heap) (n0 : Nat) (O0 : Old Z n0 h0) (pa2 : Arv Z h0 ad0 kc1 (.object "java/lang/Object") 2 [.ref ad2, .ref ad3] .null) (pe3 : Exa Z h0 ad2 o6) (pe6 : Exa Z h0 ad3 o6) :
    o16 l o194 jdk_65_method_120_code 4 (some (.array (.object "java/lang/Object"))) ws ⟨1, 1, 2, 27⟩ Z h0 #[.ref ad0, .int 2, .ref mOA] (fun v h L => ∃ nz0 : Addr, ∃ kz1 : ClassId, v = some (.ref nz0) ∧ Fr n0 L ∧ Keep h0 h [] ∧ h0.size ≤ nz0 ∧ Exa Z h nz0 o7 ∧ Arv Z h nz0 kz1 (.object "java/lang/Object") 2 [.ref ad2, .ref ad3] .null ∧ Ovr Z kz1 "java/lang/Object") := by
  refine o15 (plainFor_of_name o72) ?_
  intro p e s m below meth c s₁ hx hby hml hown hnm hret hlk hZ e0 X0
  have N0 := Fr.nil n0
  refine o2 (fun u j => castTop (show entryFrame m #[.ref ad0, .int 2, .ref mOA] 4 = mkF m 0 #[.val (.ref ad0), .val (.int 2), .val (.ref mOA), .unset] [] from rfl) j) ?_
  refine o2 (fun u j => o1 X0.here hx rfl (hb hby o189) rfl rfl j) ?_
  have q_ := o114 X0 hx hZ hown (o0 hw 233 rfl) e0 hS.2.2.2.2.2.1 (g := (mkF m 1 #[.val (.ref ad0), .val (.int 2), .val (.ref mOA), .unset] [.ref mOA])) rfl (hb hby o190)
  obtain ⟨T2059, X2059, e2059, st2059⟩ := q_
  refine o2 (fun u j => st2059 u j) ?_
  refine o2 (fun u j => o97 X2059.here hx rfl (hb hby o191) rfl rfl rfl (o84 rfl) (o4 X2059.here hx rfl (hb hby o192) rfl j)) ?_
  have q_ := newRE X2059 hx hZ hown (show (Cond.classLink "java/util/Arrays" 2 "java/lang/Object").before a0 Z = true from (o0 hw 234 rfl)) (show (Cond.arrayOver (.object "java/lang/Object")).before a0 Z = true from (o0 hw 120 rfl)) e2059 (g := (mkF m 7 #[.val (.ref ad0), .val (.int 2), .val (.ref mOA), .unset] [.int 2])) rfl (hb hby o193) rfl (by decide) (cap := 2) (by decide) (by decide) (by decide) (by decide) (ad := "[Ljava/lang/Object;") o198
  obtain ⟨T2060, h2060, k2060, X2060, e2060, E2060, A2060, Y2060, O2060, st2060⟩ := q_
  have q_ : ∃ z, z = h0.size := ⟨_, rfl⟩
  obtain ⟨b2060, g2060⟩ := q_
  rw [← g2060] at A2060 Y2060 st2060
  have V2060 : Arv Z h2060 b2060 k2060 (.object "java/lang/Object") 2 [.null, .null] .null := (Arv.new A2060 (by decide)).pad (pad_rep [] .null 2)
  refine o2 (fun u j => st2060 u j) ?_
  refine o2 (fun u j => o35 X2060.here hx rfl (pc0 := 10) (pc' := 24) rfl (hb hby o157) (by decide) (by decide) (o31 X2060.here hx rfl (hb hby o158) rfl rfl (l' := #[.val (.ref ad0), .val (.int 2), .val (.ref mOA), .val (.ref b2060)]) rfl (o1 X2060.here hx rfl (hb hby o159) rfl rfl (o5 X2060.here hx rfl (hb hby o160) (o1 X2060.here hx rfl (hb hby o161) rfl rfl (o5 X2060.here hx rfl (hb hby o162) j)))))) ?_
  show o17 p e below _ (T2060.setTop (mkF m 29 #[.val (.ref ad0), .val (.int 2), .val (.ref mOA), .val (.ref b2060)] [.int 0, .ref b2060, .int 0, .ref ad0]))
  refine o2 (fun u j => o1 X2060.here hx rfl (hb hby o163) rfl rfl j) ?_
  have F2061 := (pa2.ext E2060)
  refine o2 (fun u j => o65 X2060 hx hZ e2060 F2061 rfl rfl (hb hby o164) (o4 X2060.here hx rfl (hb hby o165) rfl j)) ?_
  have O2064 := O0.ext E2060
  refine o11 (o25 X2060 hx hZ (y := o188) hown (o0 hw 235 rfl) (o0 hw 236 rfl) (o0 hw 117 rfl) (o0 hw 237 rfl) o115 (o714 l Z a0 hw [] wcs wd mOA mSL mAL kd hS (2 : Int32) (2 : Int32) h2060 n0 O2064 (by decide)) e2060 o67 (argsL := [.int 2, .int 2]) (rest := [.int 0, .ref b2060, .int 0, .ref ad0]) rfl rfl (g := (mkF m 32 #[.val (.ref ad0), .val (.int 2), .val (.ref mOA), .val (.ref b2060)] [.int 2, .int 2, .int 0, .ref b2060, .int 0, .ref ad0])) rfl (by rw [hml]; rfl) rfl (hb hby o166) (W := 4) rfl (by decide) (by decide) (by decide) (by decide)) ?_
  intro T2063 v2063 L2063 X2063 hQ2063
  obtain ⟨rfl, M2063, e2063⟩ := hQ2063
  have N2063 := Fr.app N0 M2063
  have q_ := id V2060
  obtain ⟨cl2066, Ar2066, q2066, S2066, N2066, H2066, G2066⟩ := q_
  have F2067 := (Exa.ext E2060 pe6)
  have F2068 := (Exa.ext E2060 pe3)
  have g2069 := Nat.le_trans (o52 O0) (Nat.le_of_eq g2060.symm)
  have q_ := cpA X2063 hx hZ hown (o0 hw 238 rfl) (o0 hw 241 rfl) (o0 hw 239 rfl) (o0 hw 240 rfl) e2063 F2061 V2060 (us := [.ref ad2, .ref ad3]) (Or.inr ⟨rfl, rfl, ⟨Sto.ofV Ar2066 q2066 O2060 (Ins.of_exa F2068 (o0 hw 121 rfl)), ⟨Sto.ofV Ar2066 q2066 O2060 (Ins.of_exa F2067 (o0 hw 121 rfl)), trivial⟩⟩⟩) (by decide) (by decide) (by decide) (by decide) (by decide) rfl (by decide) N2063 g2069 (g := (mkF m 35 #[.val (.ref ad0), .val (.int 2), .val (.ref mOA), .val (.ref b2060)] [.int 2, .int 0, .ref b2060, .int 0, .ref ad0])) rfl (by rw [hml]; rfl) rfl (hb hby o167) (by decide) (W := 0) (by show 2 * 0 + _ ≤ _; exact Nat.le_of_eq rfl) (by decide)
  obtain ⟨T2065, h2065, L2065, X2065, e2065, N2065, K2065, V2065, st2065⟩ := q_
  have V2070 : Arv Z h2065 b2060 k2060 (.object "java/lang/Object") 2 [.ref ad2, .ref ad3] .null := V2065
  refine o2 (fun u j => st2065 u j) ?_
  refine o2 (fun u j => o1 X2065.here hx rfl (hb hby o168) rfl rfl j) ?_
  have K2071 := (Keep.refl h0 []).ext E2060
  have z2073 := Nat.le_trans (Nat.le_refl _) (Nat.le_of_eq g2060.symm)
  have K2072 := K2071.trans K2065 (allS (Or.inr z2073) all0)
  have F2074 := (Y2060.keep K2065)
  exact o20 X2065 hx hlk hret rfl (Or.inr (Or.inr (Or.inr (Or.inr ⟨rfl, rfl, rfl⟩)))) (hb hby o169) (by decide) (by decide) (by rw [e2065]; exact ⟨b2060, k2060, rfl, N2065, K2072, z2073, F2074, V2070, O2060⟩)
theorem o965 (l : Launch) (Z : State) (a0 : Array Value) (hw : o21 a0 Z) (ws : List Jvm.Cond) (wcs : Int32) (wd mOA mSL mAL : Addr) (kd : ClassId) (hS : o22 Z wcs wd mOA mSL mAL kd) (ad0 ad1 : Addr) (iv2 iv3 : Int32) (ad4 ad5 : Addr) (kc6 : ClassId) (ad7 ad8 : Addr) (h0 : Heap) (n0 : Nat) (O0 : Old Z n0 h0) (pe1 : Exa Z h0 ad0 o3) (pf2 : Fld Z h0 ad0 o8 o9 "I" (.int iv2)) (pf3 : Fld Z h0 ad0 o3 o13 o7 .null) (pf4 : Fld Z h0 ad0 o3 "size" "I" (.int 0)) (pe5 : Exa Z h0 ad1 o14) (pf6 : Fld Z h0 ad1 o8 o9 "I" (.int iv3)) (pf7 : Fld Z h0 ad1 o14 "offset" "I" (.int 0)) (pf9 : Fld Z h0 ad1 o14 "root" o47 (.ref ad4)) (pf10 : Fld Z h0 ad1 o14 "size" "I" (.int 2)) (pf12 : Fld Z h0 ad4 o8 o9 "I" (.int iv3)) (pf13 : Fld Z h0 ad4 o3 o13 o7 (.ref ad5)) (pe15 : Exa Z h0 ad5 o7) (pa16 : Arv Z h0 ad5 kc6 (.object "java/lang/Object") 10 [.ref ad7, .ref ad8, .null, .null, .null, .null, .null, .null, .null, .null] .null) (pe17 : Exa Z h0 ad7 o6) (pe20 : Exa Z h0 ad8 o6) (pg_ad0 : n0 ≤ ad0) (pn_ad4_ad0 : ad4 ≠ ad0) :
    o16 l o374 jdk_38_method_3_code 3 none ws ⟨4, 2, 4, 70⟩ Z h0 #[.ref ad0, .ref ad1] (fun v h L => ∃ nz0 : Addr, ∃ kz1 : ClassId, v = none ∧ Fr n0 L ∧ Keep h0 h [ad0] ∧ h0.size ≤ nz0 ∧ Exa Z h ad0 o3 ∧ Fld Z h ad0 o8 o9 "I" (.int 0) ∧ Fld Z h ad0 o3 o13 o7 (.ref nz0) ∧ Fld Z h ad0 o3 "size" "I" (.int 2) ∧ Exa Z h nz0 o7 ∧ Arv Z h nz0 kz1 (.object "java/lang/Object") 2 [.ref ad7, .ref ad8] .null ∧ Ovr Z kz1 "java/lang/Object") := by
  refine o15 (plainFor_of_name o24) ?_
  intro p e s m below meth c s₁ hx hby hml hown hnm hret hlk hZ e0 X0
  have N0 := Fr.nil n0
  refine o2 (fun u j => castTop (show entryFrame m #[.ref ad0, .ref ad1] 3 = mkF m 0 #[.val (.ref ad0), .val (.ref ad1), .unset] [] from rfl) j) ?_
  refine o2 (fun u j => o1 X0.here hx rfl (hb hby o391) rfl rfl j) ?_
  refine o11 (o50 X0 hx hZ (y := o199) rfl hown (o0 hw 44 rfl) (o0 hw 45 rfl) (o0 hw 48 rfl) (o0 hw 49 rfl) o141 (o834 l Z a0 hw [] wcs wd mOA mSL mAL kd hS ad0 iv2 h0 n0 O0 pe1 pf2 pf3 pf4 pg_ad0) e0 o59 (a := ad0) (argsL := []) (rest := []) rfl rfl (g := (mkF m 1 #[.val (.ref ad0), .val (.ref ad1), .unset] [.ref ad0])) rfl (by rw [hml]; rfl) rfl (hb hby o392) (W := 0) rfl (by decide) (by decide) (by decide) (by decide)) ?_
  intro T2092 v2092 L2092 X2092 hQ2092
  obtain ⟨rfl, M2092, K2092, F2093, F2094, F2095, F2096⟩ := hQ2092
  have N2092 := Fr.app N0 M2092
  refine o2 (fun u j => o1 X2092.here hx rfl (hb hby o393) rfl rfl j) ?_
  have F2097 := (pe5.keep K2092)
  have ne2098 := (ne_exa pe5 pe1 o309)
  have F2099 := (pf6.keep K2092 (ninS ne2098 nin0))
  have F2100 := (pf7.keep K2092 (ninS ne2098 nin0))
  have F2101 := (pf9.keep K2092 (ninS ne2098 nin0))
  have F2102 := (pf10.keep K2092 (ninS ne2098 nin0))
  have F2103 := (pf12.keep K2092 (ninS pn_ad4_ad0 nin0))
  have F2104 := (pf13.keep K2092 (ninS pn_ad4_ad0 nin0))
  have F2105 := (pe15.keep K2092)
  have ne2106 := (ne_exa pe15 pe1 o143)
  have F2107 := (pa16.keep K2092 (ninS ne2106 nin0))
  have F2108 := (pe17.keep K2092)
  have F2109 := (pe20.keep K2092)
  have O2111 := O0.keep K2092 (allS pg_ad0 all0)
  refine o11 (o29 X2092 hx hZ (y := o641) (z := o373) hown (o0 hw 205 rfl) (o0 hw 206 rfl) (mvT hZ (o0 hw 207 rfl)) (o0 hw 208 rfl) (o0 hw 209 rfl) (o0 hw 210 rfl) (o0 hw 211 rfl) (o0 hw 212 rfl) (o0 hw 182 rfl) (o0 hw 213 rfl) o310 (o963 l Z a0 hw [] wcs wd mOA mSL mAL kd hS ad1 iv3 ad4 ad5 kc6 ad7 ad8 T2092.heap n0 O2111 F2097 F2099 F2100 F2101 F2102 F2103 F2104 F2105 F2107 F2108 F2109) rfl F2097 o250 (argsL := []) (rest := []) rfl rfl (g := (mkF m 5 #[.val (.ref ad0), .val (.ref ad1), .unset] [.ref ad1])) rfl (by rw [hml]; rfl) rfl (hb hby o394) (W := 0) rfl (by decide) (by decide) (by decide) (by decide)) ?_
  intro T2110 v2110 L2110 X2110 hQ2110
  obtain ⟨nz0_2112, kz1_2113, rfl, M2110, K2110, z2114, F2115, F2116, ov0_2117⟩ := hQ2110
  have N2110 := Fr.app N2092 M2110
  refine o2 (fun u j => o31 X2110.here hx rfl (hb hby o341) rfl rfl (l' := #[.val (.ref ad0), .val (.ref ad1), .val (.ref nz0_2112)]) rfl (o1 X2110.here hx rfl (hb hby o342) rfl rfl (o1 X2110.here hx rfl (hb hby o343) rfl rfl (o65 X2110 hx hZ rfl F2116 rfl rfl (hb hby o344) (XS.dupX1 X2110.here hx rfl (hb hby o345) rfl rfl rfl j))))) ?_
  have F2119 := (F2093.keep K2110)
  have F2120 := (F2096.keep K2110 nin0)
  refine o32 (putF X2110 hx hZ hown (host := "") (Or.inl (o0 hw 83 rfl)) Via.refl rfl F2120 F2119 (Or.inl (o0 hw 84 rfl)) (o0 hw 39 rfl) (ty := .int) o18 rfl rfl rfl rfl (hb hby o346)) ?_
  intro T2121 h2121 X2121 e2121 W2121
  have N2121 := Fr.snoc X2121 N2110 pg_ad0
  have F2122 : Fld Z h2121 ad0 o3 "size" "I" (.int 2) := Fld.same W2121 F2120
  refine o2 (fun u j => o34 X2121.here hx rfl (hb hby o347) rfl (o33 (by decide)) (o1 X2121.here hx rfl (hb hby o348) rfl rfl j)) ?_
  have F2123 := (Exa.wr W2121 (F2097.keep K2110))
  have q_ := o637 X2121 hx hZ (xi := o642) hown (o0 hw 242 rfl) (o0 hw 225 rfl) (o711 hZ (o0 hw 243 rfl)) (o0 hw 244 rfl) (o0 hw 226 rfl) (o0 hw 245 rfl) (o0 hw 246 rfl) (o0 hw 212 rfl) (o0 hw 228 rfl) o310 o629 rfl rfl e2121 F2123 hS.2.2.2.2.2.2.1 (g := (mkF m 22 #[.val (.ref ad0), .val (.ref ad1), .val (.ref nz0_2112)] [.ref ad1])) rfl (by rw [hml]; rfl) rfl (hb hby o349) (by decide) (W := 0) (by show 2 * 0 + _ ≤ _; exact Nat.le_of_eq rfl) (by decide)
  obtain ⟨T2124, X2124, e2124, st2124⟩ := q_
  refine o2 (fun u j => st2124 u j) ?_
  have q_ := o114 X2124 hx hZ hown (o0 hw 247 rfl) e2124 hS.2.2.2.2.2.2.2 (g := (mkF m 27 #[.val (.ref ad0), .val (.ref ad1), .val (.ref nz0_2112)] [.ref mSL])) rfl (hb hby o350)
  obtain ⟨T2125, X2125, e2125, st2125⟩ := q_
  refine o2 (fun u j => st2125 u j) ?_
  refine o2 (fun u j => XT.acmpYes X2125.here hx rfl (pc0 := 29) (pc' := 40) rfl (hb hby o351) rfl rfl rfl (XT.aa_ne_t (o647 (Mir.ne hS.2.2.2.2.2.2.1 hS.2.2.2.2.2.2.2 o309))) (by decide) (by decide) (o1 X2125.here hx rfl (hb hby o352) rfl rfl (o1 X2125.here hx rfl (hb hby o353) rfl rfl (o1 X2125.here hx rfl (hb hby o354) rfl rfl j)))) ?_
  refine o19 (getF X2125 hx hZ hown (host := "") (Or.inl (o0 hw 83 rfl)) Via.refl e2125 F2122 rfl rfl (hb hby o355)) ?_
  intro T2126 X2126 e2126
  have q_ := o114 X2126 hx hZ hown (o0 hw 249 rfl) e2126 hS.2.2.2.2.2.1 (g := (mkF m 46 #[.val (.ref ad0), .val (.ref ad1), .val (.ref nz0_2112)] [.int 2, .ref nz0_2112, .ref ad0])) rfl (hb hby o356)
  obtain ⟨T2127, X2127, e2127, st2127⟩ := q_
  refine o2 (fun u j => st2127 u j) ?_
  have ne2128 := (Ne.symm (Nat.ne_of_lt (Nat.lt_of_lt_of_le F2093.lt z2114)))
  have F2129 := (F2116.other W2121 ne2128)
  have F2130 := (Exa.wr W2121 (F2108.keep K2110))
  have F2131 := (Exa.wr W2121 (F2109.keep K2110))
  have O2133 := O2111.keep K2110 all0
  have O2134 := O2133.wr W2121 pg_ad0
  refine o11 (o25 X2127 hx hZ (y := o194) hown (o0 hw 250 rfl) (o0 hw 251 rfl) (o0 hw 222 rfl) (o0 hw 252 rfl) o69 (o964 l Z a0 hw [] wcs wd mOA mSL mAL kd hS nz0_2112 kz1_2113 ad7 ad8 h2121 n0 O2134 F2129 F2130 F2131) e2127 o395 (argsL := [.ref nz0_2112, .int 2, .ref mOA]) (rest := [.ref ad0]) rfl rfl (g := (mkF m 48 #[.val (.ref ad0), .val (.ref ad1), .val (.ref nz0_2112)] [.ref mOA, .int 2, .ref nz0_2112, .ref ad0])) rfl (by rw [hml]; rfl) rfl (hb hby o357) (W := 1) rfl (by decide) (by decide) (by decide) (by decide)) ?_
  intro T2132 v2132 L2132 X2132 hQ2132
  obtain ⟨nz0_2135, kz1_2136, rfl, M2132, K2132, z2137, F2138, F2139, ov0_2140⟩ := hQ2132
  have N2132 := Fr.app N2121 M2132
  have F2141 := ((Exa.wr W2121 F2119).keep K2132)
  have F2142 := ((Fld.other W2121 (F2095.keep K2110 nin0) (Or.inr (o117 hw))).keep K2132 nin0)
  refine o32 (putF X2132 hx hZ hown (host := "") (Or.inl (o0 hw 60 rfl)) Via.refl rfl F2142 F2141 (Or.inl (o0 hw 61 rfl)) (o0 hw 39 rfl) (ty := (.array (.object "java/lang/Object"))) o68 rfl rfl rfl rfl (hb hby o358)) ?_
  intro T2143 h2143 X2143 e2143 W2143
  have N2143 := Fr.snoc X2143 N2132 pg_ad0
  have F2144 : Fld Z h2143 ad0 o3 o13 o7 (.ref nz0_2135) := Fld.same W2143 F2142
  refine o2 (fun u j => o35 X2143.here hx rfl (pc0 := 54) (pc' := 64) rfl (hb hby o359) (by decide) (by decide) j) ?_
  have K2145 := (Keep.refl h0 [ad0]).trans K2092 (allS (Or.inl (List.mem_of_getElem? (i := 0) rfl)) all0)
  have K2146 := K2145.trans K2110 all0
  have K2147 := K2146.wr W2121 (Or.inl (List.mem_of_getElem? (i := 0) rfl))
  have K2148 := K2147.trans K2132 all0
  have K2149 := K2148.wr W2143 (Or.inl (List.mem_of_getElem? (i := 0) rfl))
  have z2150 := Nat.le_trans (Nat.le_trans (Nat.le_trans K2092.1 K2110.1) (Nat.le_of_eq W2121.size.symm)) z2137
  have F2151 := (Exa.wr W2143 F2141)
  have F2152 := (Fld.other W2143 ((Fld.other W2121 (F2094.keep K2110 nin0) (Or.inr (o116 hw))).keep K2132 nin0) (Or.inr (o200 hw)))
  have F2153 := (Fld.other W2143 (F2122.keep K2132 nin0) (Or.inr (o201 hw)))
  have F2154 := (Exa.wr W2143 F2138)
  have ne2155 := (Ne.symm (Nat.ne_of_lt (Nat.lt_of_lt_of_le F2122.lt z2137)))
  have F2156 := (F2139.other W2143 ne2155)
  exact o48 X2143 hx hlk hret (hb hby o360) (by decide) (by decide) (by rw [e2143]; exact ⟨nz0_2135, kz1_2136, rfl, N2143, K2149, z2150, F2151, F2152, F2144, F2153, F2154, F2156, ov0_2140⟩)
theorem o966 (l : Launch) (Z : State) (a0 : Array Value) (hw : o21 a0 Z) (ws : List Jvm.Cond) (wcs : Int32) (wd mOA mSL mAL : Addr) (kd : ClassId) (hS : o22 Z wcs wd mOA mSL mAL kd)  (h0 : Heap) (n0 : Nat) (O0 : Old Z n0 h0)  :
    o16 l o578 jdk_48_method_27_code 4 (some .int) ws ⟨1, 0, 0, 14⟩ Z h0 #[.int 2, .int 1, .int 1] (fun v h L => v = some (.int 3) ∧ Fr n0 L ∧ h = h0) := by
  refine o15 (plainFor_of_name o653) ?_
  intro p e s m below meth c s₁ hx hby hml hown hnm hret hlk hZ e0 X0
  have N0 := Fr.nil n0
  refine o2 (fun u j => castTop (show entryFrame m #[.int 2, .int 1, .int 1] 4 = mkF m 0 #[.val (.int 2), .val (.int 1), .val (.int 1), .unset] [] from rfl) j) ?_
  refine o2 (fun u j => o4 X0.here hx rfl (hb hby o516) rfl (o4 X0.here hx rfl (hb hby o517) rfl (o4 X0.here hx rfl (hb hby o518) rfl j))) ?_
  refine o11 (o25 X0 hx hZ (y := o575) hown (o0 hw 257 rfl) (o0 hw 116 rfl) (o0 hw 117 rfl) (o0 hw 118 rfl) o115 (o848 l Z a0 hw [] wcs wd mOA mSL mAL kd hS (1 : Int32) (1 : Int32) h0 n0 O0 (by decide)) e0 o67 (argsL := [.int 1, .int 1]) (rest := [.int 2]) rfl rfl (g := (mkF m 3 #[.val (.int 2), .val (.int 1), .val (.int 1), .unset] [.int 1, .int 1, .int 2])) rfl (by rw [hml]; rfl) rfl (hb hby o519) (W := 1) rfl (by decide) (by decide) (by decide) (by decide)) ?_
  intro T2193 v2193 L2193 X2193 hQ2193
  obtain ⟨rfl, M2193, e2193⟩ := hQ2193
  have N2193 := Fr.app N0 M2193
  refine o2 (fun u j => o36 X2193.here hx rfl (hb hby o520) rfl (o45 X2193.here hx rfl (hb hby o521) rfl (l' := #[.val (.int 2), .val (.int 1), .val (.int 1), .val (.int 3)]) rfl (o5 X2193.here hx rfl (hb hby o522) (o4 X2193.here hx rfl (hb hby o523) rfl (o28 X2193.here hx rfl (hb hby o459) rfl (o53 (by decide)) (o4 X2193.here hx rfl (hb hby o460) rfl j)))))) ?_
  show o17 p e below _ (T2193.setTop (mkF m 14 #[.val (.int 2), .val (.int 1), .val (.int 1), .val (.int 3)] [.int 3]))
  refine o2 (X2193.ldcInt hx hown (mvT hZ (o0 hw 258 rfl)) rfl (hb hby o461)) ?_
  show o17 p e below _ (T2193.setTop (mkF m 16 #[.val (.int 2), .val (.int 1), .val (.int 1), .val (.int 3)] [.int 2147483639, .int 3]))
  refine o2 (fun u j => o28 X2193.here hx rfl (hb hby o462) rfl (XT.ii_gt_f (by decide)) (o4 X2193.here hx rfl (hb hby o463) rfl j)) ?_
  exact o20 X2193 hx hlk hret rfl (Or.inl ⟨rfl, by simp, _, rfl⟩) (hb hby o464) (by decide) (by decide) (by rw [e2193]; exact ⟨rfl, N2193, rfl⟩)
theorem o967 (l : Launch) (Z : State) (a0 : Array Value) (hw : o21 a0 Z) (ws : List Jvm.Cond) (wcs : Int32) (wd mOA mSL mAL : Addr) (kd : ClassId) (hS : o22 Z wcs wd mOA mSL mAL kd) (ad0 : Addr) (kc1 : ClassId) (ad2 ad3 : Addr) (h0 : Heap) (n0 : Nat) (O0 : Old Z n0 h0) (pa2 : Arv Z h0 ad0 kc1 (.object "java/lang/Object") 2 [.ref ad2, .ref ad3] .null) (pe3 : Exa Z h0 ad2 o6) (pe6 : Exa Z h0 ad3 o6) :
    o16 l o194 jdk_65_method_120_code 4 (some (.array (.object "java/lang/Object"))) ws ⟨1, 1, 3, 27⟩ Z h0 #[.ref ad0, .int 3, .ref mOA] (fun v h L => ∃ nz0 : Addr, ∃ kz1 : ClassId, v = some (.ref nz0) ∧ Fr n0 L ∧ Keep h0 h [] ∧ h0.size ≤ nz0 ∧ Exa Z h nz0 o7 ∧ Arv Z h nz0 kz1 (.object "java/lang/Object") 3 [.ref ad2, .ref ad3, .null] .null ∧ Ovr Z kz1 "java/lang/Object") := by
  refine o15 (plainFor_of_name o72) ?_
  intro p e s m below meth c s₁ hx hby hml hown hnm hret hlk hZ e0 X0
  have N0 := Fr.nil n0
  refine o2 (fun u j => castTop (show entryFrame m #[.ref ad0, .int 3, .ref mOA] 4 = mkF m 0 #[.val (.ref ad0), .val (.int 3), .val (.ref mOA), .unset] [] from rfl) j) ?_
  refine o2 (fun u j => o1 X0.here hx rfl (hb hby o189) rfl rfl j) ?_
  have q_ := o114 X0 hx hZ hown (o0 hw 233 rfl) e0 hS.2.2.2.2.2.1 (g := (mkF m 1 #[.val (.ref ad0), .val (.int 3), .val (.ref mOA), .unset] [.ref mOA])) rfl (hb hby o190)
  obtain ⟨T2209, X2209, e2209, st2209⟩ := q_
  refine o2 (fun u j => st2209 u j) ?_
  refine o2 (fun u j => o97 X2209.here hx rfl (hb hby o191) rfl rfl rfl (o84 rfl) (o4 X2209.here hx rfl (hb hby o192) rfl j)) ?_
  have q_ := newRE X2209 hx hZ hown (show (Cond.classLink "java/util/Arrays" 2 "java/lang/Object").before a0 Z = true from (o0 hw 234 rfl)) (show (Cond.arrayOver (.object "java/lang/Object")).before a0 Z = true from (o0 hw 120 rfl)) e2209 (g := (mkF m 7 #[.val (.ref ad0), .val (.int 3), .val (.ref mOA), .unset] [.int 3])) rfl (hb hby o193) rfl (by decide) (cap := 3) (by decide) (by decide) (by decide) (by decide) (ad := "[Ljava/lang/Object;") o198
  obtain ⟨T2210, h2210, k2210, X2210, e2210, E2210, A2210, Y2210, O2210, st2210⟩ := q_
  have q_ : ∃ z, z = h0.size := ⟨_, rfl⟩
  obtain ⟨b2210, g2210⟩ := q_
  rw [← g2210] at A2210 Y2210 st2210
  have V2210 : Arv Z h2210 b2210 k2210 (.object "java/lang/Object") 3 [.null, .null, .null] .null := (Arv.new A2210 (by decide)).pad (pad_rep [] .null 3)
  refine o2 (fun u j => st2210 u j) ?_
  refine o2 (fun u j => o35 X2210.here hx rfl (pc0 := 10) (pc' := 24) rfl (hb hby o157) (by decide) (by decide) (o31 X2210.here hx rfl (hb hby o158) rfl rfl (l' := #[.val (.ref ad0), .val (.int 3), .val (.ref mOA), .val (.ref b2210)]) rfl (o1 X2210.here hx rfl (hb hby o159) rfl rfl (o5 X2210.here hx rfl (hb hby o160) (o1 X2210.here hx rfl (hb hby o161) rfl rfl (o5 X2210.here hx rfl (hb hby o162) j)))))) ?_
  show o17 p e below _ (T2210.setTop (mkF m 29 #[.val (.ref ad0), .val (.int 3), .val (.ref mOA), .val (.ref b2210)] [.int 0, .ref b2210, .int 0, .ref ad0]))
  refine o2 (fun u j => o1 X2210.here hx rfl (hb hby o163) rfl rfl j) ?_
  have F2211 := (pa2.ext E2210)
  refine o2 (fun u j => o65 X2210 hx hZ e2210 F2211 rfl rfl (hb hby o164) (o4 X2210.here hx rfl (hb hby o165) rfl j)) ?_
  have O2214 := O0.ext E2210
  refine o11 (o25 X2210 hx hZ (y := o188) hown (o0 hw 235 rfl) (o0 hw 236 rfl) (o0 hw 117 rfl) (o0 hw 237 rfl) o115 (o714 l Z a0 hw [] wcs wd mOA mSL mAL kd hS (2 : Int32) (3 : Int32) h2210 n0 O2214 (by decide)) e2210 o67 (argsL := [.int 2, .int 3]) (rest := [.int 0, .ref b2210, .int 0, .ref ad0]) rfl rfl (g := (mkF m 32 #[.val (.ref ad0), .val (.int 3), .val (.ref mOA), .val (.ref b2210)] [.int 3, .int 2, .int 0, .ref b2210, .int 0, .ref ad0])) rfl (by rw [hml]; rfl) rfl (hb hby o166) (W := 4) rfl (by decide) (by decide) (by decide) (by decide)) ?_
  intro T2213 v2213 L2213 X2213 hQ2213
  obtain ⟨rfl, M2213, e2213⟩ := hQ2213
  have N2213 := Fr.app N0 M2213
  have q_ := id V2210
  obtain ⟨cl2216, Ar2216, q2216, S2216, N2216, H2216, G2216⟩ := q_
  have F2217 := (Exa.ext E2210 pe6)
  have F2218 := (Exa.ext E2210 pe3)
  have g2219 := Nat.le_trans (o52 O0) (Nat.le_of_eq g2210.symm)
  have q_ := cpA X2213 hx hZ hown (o0 hw 238 rfl) (o0 hw 241 rfl) (o0 hw 239 rfl) (o0 hw 240 rfl) e2213 F2211 V2210 (us := [.ref ad2, .ref ad3]) (Or.inr ⟨rfl, rfl, ⟨Sto.ofV Ar2216 q2216 O2210 (Ins.of_exa F2218 (o0 hw 121 rfl)), ⟨Sto.ofV Ar2216 q2216 O2210 (Ins.of_exa F2217 (o0 hw 121 rfl)), trivial⟩⟩⟩) (by decide) (by decide) (by decide) (by decide) (by decide) rfl (by decide) N2213 g2219 (g := (mkF m 35 #[.val (.ref ad0), .val (.int 3), .val (.ref mOA), .val (.ref b2210)] [.int 2, .int 0, .ref b2210, .int 0, .ref ad0])) rfl (by rw [hml]; rfl) rfl (hb hby o167) (by decide) (W := 0) (by show 2 * 0 + _ ≤ _; exact Nat.le_of_eq rfl) (by decide)
  obtain ⟨T2215, h2215, L2215, X2215, e2215, N2215, K2215, V2215, st2215⟩ := q_
  have V2220 : Arv Z h2215 b2210 k2210 (.object "java/lang/Object") 3 [.ref ad2, .ref ad3, .null] .null := V2215
  refine o2 (fun u j => st2215 u j) ?_
  refine o2 (fun u j => o1 X2215.here hx rfl (hb hby o168) rfl rfl j) ?_
  have K2221 := (Keep.refl h0 []).ext E2210
  have z2223 := Nat.le_trans (Nat.le_refl _) (Nat.le_of_eq g2210.symm)
  have K2222 := K2221.trans K2215 (allS (Or.inr z2223) all0)
  have F2224 := (Y2210.keep K2215)
  exact o20 X2215 hx hlk hret rfl (Or.inr (Or.inr (Or.inr (Or.inr ⟨rfl, rfl, rfl⟩)))) (hb hby o169) (by decide) (by decide) (by rw [e2215]; exact ⟨b2210, k2210, rfl, N2215, K2222, z2223, F2224, V2220, O2210⟩)
theorem o968 (l : Launch) (Z : State) (a0 : Array Value) (hw : o21 a0 Z) (ws : List Jvm.Cond) (wcs : Int32) (wd mOA mSL mAL : Addr) (kd : ClassId) (hS : o22 Z wcs wd mOA mSL mAL kd) (ad0 : Addr) (kc1 : ClassId) (ad2 ad3 : Addr) (h0 : Heap) (n0 : Nat) (O0 : Old Z n0 h0) (pe1 : Exa Z h0 ad0 o7) (pa2 : Arv Z h0 ad0 kc1 (.object "java/lang/Object") 2 [.ref ad2, .ref ad3] .null) (pe3 : Exa Z h0 ad2 o6) (pe6 : Exa Z h0 ad3 o6) :
    o16 l o579 jdk_65_method_119_code 2 (some (.array (.object "java/lang/Object"))) ws ⟨2, 1, 3, 42⟩ Z h0 #[.ref ad0, .int 3] (fun v h L => ∃ nz0 : Addr, ∃ kz1 : ClassId, v = some (.ref nz0) ∧ Fr n0 L ∧ Keep h0 h [] ∧ h0.size ≤ nz0 ∧ Exa Z h nz0 o7 ∧ Arv Z h nz0 kz1 (.object "java/lang/Object") 3 [.ref ad2, .ref ad3, .null] .null ∧ Ovr Z kz1 "java/lang/Object") := by
  refine o15 (plainFor_of_name o72) ?_
  intro p e s m below meth c s₁ hx hby hml hown hnm hret hlk hZ e0 X0
  have N0 := Fr.nil n0
  refine o2 (fun u j => castTop (show entryFrame m #[.ref ad0, .int 3] 2 = mkF m 0 #[.val (.ref ad0), .val (.int 3)] [] from rfl) j) ?_
  refine o2 (fun u j => o1 X0.here hx rfl (hb hby o465) rfl rfl (o4 X0.here hx rfl (hb hby o466) rfl (o1 X0.here hx rfl (hb hby o467) rfl rfl j))) ?_
  have q_ := o564 X0 hx hZ hown (o0 hw 224 rfl) (o0 hw 225 rfl) (o0 hw 227 rfl) (o0 hw 226 rfl) (o0 hw 228 rfl) e0 pe1 hS.2.2.2.2.2.1 (g := (mkF m 3 #[.val (.ref ad0), .val (.int 3)] [.ref ad0, .int 3, .ref ad0])) rfl (by rw [hml]; rfl) rfl (hb hby o468) (by decide) (W := 2) (by show 2 * 0 + _ ≤ _; exact Nat.le_of_eq rfl) (by decide)
  obtain ⟨T2232, X2232, e2232, st2232⟩ := q_
  refine o2 (fun u j => st2232 u j) ?_
  refine o11 (o25 X2232 hx hZ (y := o194) hown (o0 hw 262 rfl) (o0 hw 251 rfl) (o0 hw 222 rfl) (o0 hw 252 rfl) o69 (o967 l Z a0 hw [] wcs wd mOA mSL mAL kd hS ad0 kc1 ad2 ad3 h0 n0 O0 pa2 pe3 pe6) e2232 o395 (argsL := [.ref ad0, .int 3, .ref mOA]) (rest := []) rfl rfl (g := (mkF m 6 #[.val (.ref ad0), .val (.int 3)] [.ref mOA, .int 3, .ref ad0])) rfl (by rw [hml]; rfl) rfl (hb hby o469) (W := 0) rfl (by decide) (by decide) (by decide) (by decide)) ?_
  intro T2233 v2233 L2233 X2233 hQ2233
  obtain ⟨nz0_2234, kz1_2235, rfl, M2233, K2233, z2236, F2237, F2238, ov0_2239⟩ := hQ2233
  have N2233 := Fr.app N0 M2233
  have K2240 := (Keep.refl h0 []).trans K2233 all0
  have z2241 := Nat.le_trans (Nat.le_refl _) z2236
  exact o20 X2233 hx hlk hret rfl (Or.inr (Or.inr (Or.inr (Or.inr ⟨rfl, rfl, rfl⟩)))) (hb hby o470) (by decide) (by decide) (by exact ⟨nz0_2234, kz1_2235, rfl, N2233, K2240, z2241, F2237, F2238, ov0_2239⟩)
theorem o969 (l : Launch) (Z : State) (a0 : Array Value) (hw : o21 a0 Z) (ws : List Jvm.Cond) (wcs : Int32) (wd mOA mSL mAL : Addr) (kd : ClassId) (hS : o22 Z wcs wd mOA mSL mAL kd) (ad0 : Addr) (iv1 : Int32) (ad2 : Addr) (kc3 : ClassId) (ad4 ad5 : Addr) (h0 : Heap) (n0 : Nat) (O0 : Old Z n0 h0) (pe1 : Exa Z h0 ad0 o3) (pf2 : Fld Z h0 ad0 o8 o9 "I" (.int iv1)) (pf3 : Fld Z h0 ad0 o3 o13 o7 (.ref ad2)) (pf4 : Fld Z h0 ad0 o3 "size" "I" (.int 2)) (pe5 : Exa Z h0 ad2 o7) (pa6 : Arv Z h0 ad2 kc3 (.object "java/lang/Object") 2 [.ref ad4, .ref ad5] .null) (pe7 : Exa Z h0 ad4 o6) (pe10 : Exa Z h0 ad5 o6) (pg_ad0 : n0 ≤ ad0) :
    o16 l o365 jdk_38_method_6_code 4 (some (.array (.object "java/lang/Object"))) ws ⟨3, 1, 3, 56⟩ Z h0 #[.ref ad0, .int 3] (fun v h L => ∃ nz0 : Addr, ∃ kz1 : ClassId, v = some (.ref nz0) ∧ Fr n0 L ∧ Keep h0 h [ad0] ∧ h0.size ≤ nz0 ∧ Exa Z h ad0 o3 ∧ Fld Z h ad0 o8 o9 "I" (.int iv1) ∧ Fld Z h ad0 o3 o13 o7 (.ref nz0) ∧ Fld Z h ad0 o3 "size" "I" (.int 2) ∧ Exa Z h nz0 o7 ∧ Arv Z h nz0 kz1 (.object "java/lang/Object") 3 [.ref ad4, .ref ad5, .null] .null ∧ Ovr Z kz1 "java/lang/Object") := by
  refine o15 (plainFor_of_name o24) ?_
  intro p e s m below meth c s₁ hx hby hml hown hnm hret hlk hZ e0 X0
  have N0 := Fr.nil n0
  refine o2 (fun u j => castTop (show entryFrame m #[.ref ad0, .int 3] 4 = mkF m 0 #[.val (.ref ad0), .val (.int 3), .unset, .unset] [] from rfl) j) ?_
  refine o2 (fun u j => o1 X0.here hx rfl (hb hby o381) rfl rfl j) ?_
  refine o19 (getF X0 hx hZ hown (host := "") (Or.inl (o0 hw 60 rfl)) Via.refl e0 pf3 rfl rfl (hb hby o382)) ?_
  intro T2253 X2253 e2253
  refine o2 (fun u j => o65 X2253 hx hZ e2253 pa6 rfl rfl (hb hby o383) (o45 X2253.here hx rfl (hb hby o384) rfl (l' := #[.val (.ref ad0), .val (.int 3), .val (.int 2), .unset]) rfl (o4 X2253.here hx rfl (hb hby o385) rfl (o43 X2253.here hx rfl (pc0 := 7) (pc' := 20) rfl (hb hby o386) rfl (XT.i0_gt_t (by decide)) (by decide) (by decide) (o4 X2253.here hx rfl (hb hby o508) rfl (o4 X2253.here hx rfl (hb hby o509) rfl j)))))) ?_
  show o17 p e below _ (T2253.setTop (mkF m 22 #[.val (.ref ad0), .val (.int 3), .val (.int 2), .unset] [.int 3, .int 2]))
  refine o2 (fun u j => o4 X2253.here hx rfl (hb hby o510) rfl (o38 X2253.here hx rfl (hb hby o511) rfl (o4 X2253.here hx rfl (hb hby o512) rfl (o5 X2253.here hx rfl (hb hby o513) (XS.ishr X2253.here hx rfl (hb hby o514) rfl j))))) ?_
  refine o11 (o25 X2253 hx hZ (y := o578) hown (o0 hw 253 rfl) (o0 hw 254 rfl) (o0 hw 255 rfl) (o0 hw 256 rfl) o654 (o966 l Z a0 hw [] wcs wd mOA mSL mAL kd hS  h0 n0 O0 ) e2253 o655 (argsL := [.int 2, .int 1, .int 1]) (rest := []) rfl rfl (g := (mkF m 27 #[.val (.ref ad0), .val (.int 3), .val (.int 2), .unset] [.int 1, .int 1, .int 2])) rfl (by rw [hml]; rfl) rfl (hb hby o515) (W := 0) rfl (by decide) (by decide) (by decide) (by decide)) ?_
  intro T2255 v2255 L2255 X2255 hQ2255
  obtain ⟨rfl, M2255, e2255⟩ := hQ2255
  have N2255 := Fr.app N0 M2255
  refine o2 (fun u j => o45 X2255.here hx rfl (hb hby o524) rfl (l' := #[.val (.ref ad0), .val (.int 3), .val (.int 2), .val (.int 3)]) rfl (o1 X2255.here hx rfl (hb hby o525) rfl rfl (o1 X2255.here hx rfl (hb hby o526) rfl rfl j))) ?_
  refine o19 (getF X2255 hx hZ hown (host := "") (Or.inl (o0 hw 60 rfl)) Via.refl e2255 pf3 rfl rfl (hb hby o527)) ?_
  intro T2256 X2256 e2256
  refine o2 (fun u j => o4 X2256.here hx rfl (hb hby o528) rfl j) ?_
  refine o11 (o25 X2256 hx hZ (y := o579) hown (o0 hw 259 rfl) (o0 hw 260 rfl) (o0 hw 222 rfl) (o0 hw 261 rfl) o69 (o968 l Z a0 hw [] wcs wd mOA mSL mAL kd hS ad2 kc3 ad4 ad5 h0 n0 O0 pe5 pa6 pe7 pe10) e2256 o656 (argsL := [.ref ad2, .int 3]) (rest := [.ref ad0]) rfl rfl (g := (mkF m 37 #[.val (.ref ad0), .val (.int 3), .val (.int 2), .val (.int 3)] [.int 3, .ref ad2, .ref ad0])) rfl (by rw [hml]; rfl) rfl (hb hby o529) (W := 1) rfl (by decide) (by decide) (by decide) (by decide)) ?_
  intro T2257 v2257 L2257 X2257 hQ2257
  obtain ⟨nz0_2258, kz1_2259, rfl, M2257, K2257, z2260, F2261, F2262, ov0_2263⟩ := hQ2257
  have N2257 := Fr.app N2255 M2257
  refine o2 (fun u j => XS.dupX1 X2257.here hx rfl (hb hby o530) rfl rfl rfl j) ?_
  have F2264 := (pe1.keep K2257)
  have F2265 := (pf3.keep K2257 nin0)
  refine o32 (putF X2257 hx hZ hown (host := "") (Or.inl (o0 hw 60 rfl)) Via.refl rfl F2265 F2264 (Or.inl (o0 hw 61 rfl)) (o0 hw 39 rfl) (ty := (.array (.object "java/lang/Object"))) o68 rfl rfl rfl rfl (hb hby o531)) ?_
  intro T2266 h2266 X2266 e2266 W2266
  have N2266 := Fr.snoc X2266 N2257 pg_ad0
  have F2267 : Fld Z h2266 ad0 o3 o13 o7 (.ref nz0_2258) := Fld.same W2266 F2265
  have K2268 := (Keep.refl h0 [ad0]).trans K2257 all0
  have K2269 := K2268.wr W2266 (Or.inl (List.mem_of_getElem? (i := 0) rfl))
  have z2270 := Nat.le_trans (Nat.le_refl _) z2260
  have F2271 := (Exa.wr W2266 F2264)
  have F2272 := (Fld.other W2266 (pf2.keep K2257 nin0) (Or.inr (o200 hw)))
  have F2273 := (Fld.other W2266 (pf4.keep K2257 nin0) (Or.inr (o201 hw)))
  have F2274 := (Exa.wr W2266 F2261)
  have ne2275 := (Ne.symm (Nat.ne_of_lt (Nat.lt_of_lt_of_le pe1.lt z2260)))
  have F2276 := (F2262.other W2266 ne2275)
  exact o20 X2266 hx hlk hret rfl (Or.inr (Or.inr (Or.inr (Or.inr ⟨rfl, rfl, rfl⟩)))) (hb hby o532) (by decide) (by decide) (by rw [e2266]; exact ⟨nz0_2258, kz1_2259, rfl, N2266, K2269, z2270, F2271, F2272, F2267, F2273, F2274, F2276, ov0_2263⟩)
theorem o970 (l : Launch) (Z : State) (a0 : Array Value) (hw : o21 a0 Z) (ws : List Jvm.Cond) (wcs : Int32) (wd mOA mSL mAL : Addr) (kd : ClassId) (hS : o22 Z wcs wd mOA mSL mAL kd) (ad0 : Addr) (iv1 : Int32) (ad2 : Addr) (kc3 : ClassId) (ad4 ad5 : Addr) (h0 : Heap) (n0 : Nat) (O0 : Old Z n0 h0) (pe1 : Exa Z h0 ad0 o3) (pf2 : Fld Z h0 ad0 o8 o9 "I" (.int iv1)) (pf3 : Fld Z h0 ad0 o3 o13 o7 (.ref ad2)) (pf4 : Fld Z h0 ad0 o3 "size" "I" (.int 2)) (pe5 : Exa Z h0 ad2 o7) (pa6 : Arv Z h0 ad2 kc3 (.object "java/lang/Object") 2 [.ref ad4, .ref ad5] .null) (pe7 : Exa Z h0 ad4 o6) (pe10 : Exa Z h0 ad5 o6) (pg_ad0 : n0 ≤ ad0) :
    o16 l o366 jdk_38_method_7_code 1 (some (.array (.object "java/lang/Object"))) ws ⟨4, 1, 3, 71⟩ Z h0 #[.ref ad0] (fun v h L => ∃ nz0 : Addr, ∃ kz1 : ClassId, v = some (.ref nz0) ∧ Fr n0 L ∧ Keep h0 h [ad0] ∧ h0.size ≤ nz0 ∧ Exa Z h ad0 o3 ∧ Fld Z h ad0 o8 o9 "I" (.int iv1) ∧ Fld Z h ad0 o3 o13 o7 (.ref nz0) ∧ Fld Z h ad0 o3 "size" "I" (.int 2) ∧ Exa Z h nz0 o7 ∧ Arv Z h nz0 kz1 (.object "java/lang/Object") 3 [.ref ad4, .ref ad5, .null] .null ∧ Ovr Z kz1 "java/lang/Object") := by
  refine o15 (plainFor_of_name o24) ?_
  intro p e s m below meth c s₁ hx hby hml hown hnm hret hlk hZ e0 X0
  have N0 := Fr.nil n0
  refine o2 (fun u j => castTop (show entryFrame m #[.ref ad0] 1 = mkF m 0 #[.val (.ref ad0)] [] from rfl) j) ?_
  refine o2 (fun u j => o1 X0.here hx rfl (hb hby o375) rfl rfl (o1 X0.here hx rfl (hb hby o376) rfl rfl j)) ?_
  refine o19 (getF X0 hx hZ hown (host := "") (Or.inl (o0 hw 83 rfl)) Via.refl e0 pf4 rfl rfl (hb hby o377)) ?_
  intro T2288 X2288 e2288
  refine o2 (fun u j => o5 X2288.here hx rfl (hb hby o378) (o36 X2288.here hx rfl (hb hby o379) rfl j)) ?_
  refine o11 (o62 X2288 hx hZ (y := o365) hown (o0 hw 110 rfl) (o0 hw 111 rfl) (mvT hZ (o0 hw 113 rfl)) (o0 hw 112 rfl) (o0 hw 40 rfl) (o0 hw 114 rfl) o42 (o969 l Z a0 hw [] wcs wd mOA mSL mAL kd hS ad0 iv1 ad2 kc3 ad4 ad5 h0 n0 O0 pe1 pf2 pf3 pf4 pe5 pa6 pe7 pe10 pg_ad0) e2288 pe1 o606 (argsL := [.int 3]) (rest := []) rfl rfl (g := (mkF m 7 #[.val (.ref ad0)] [.int 3, .ref ad0])) rfl (by rw [hml]; rfl) rfl (hb hby o380) (W := 0) rfl (by decide) (by decide) (by decide) (by decide)) ?_
  intro T2289 v2289 L2289 X2289 hQ2289
  obtain ⟨nz0_2290, kz1_2291, rfl, M2289, K2289, z2292, F2293, F2294, F2295, F2296, F2297, F2298, ov0_2299⟩ := hQ2289
  have N2289 := Fr.app N0 M2289
  have K2300 := (Keep.refl h0 [ad0]).trans K2289 (allS (Or.inl (List.mem_of_getElem? (i := 0) rfl)) all0)
  have z2301 := Nat.le_trans (Nat.le_refl _) z2292
  exact o20 X2289 hx hlk hret rfl (Or.inr (Or.inr (Or.inr (Or.inr ⟨rfl, rfl, rfl⟩)))) (hb hby o328) (by decide) (by decide) (by exact ⟨nz0_2290, kz1_2291, rfl, N2289, K2300, z2301, F2293, F2294, F2295, F2296, F2297, F2298, ov0_2299⟩)
theorem o971 (l : Launch) (Z : State) (a0 : Array Value) (hw : o21 a0 Z) (ws : List Jvm.Cond) (wcs : Int32) (wd mOA mSL mAL : Addr) (kd : ClassId) (hS : o22 Z wcs wd mOA mSL mAL kd) (ad0 ad1 ad2 : Addr) (iv3 : Int32) (kc5 : ClassId) (ad6 : Addr) (h0 : Heap) (n0 : Nat) (O0 : Old Z n0 h0) (pe1 : Exa Z h0 ad0 o3) (pf2 : Fld Z h0 ad0 o8 o9 "I" (.int iv3)) (pf3 : Fld Z h0 ad0 o3 o13 o7 (.ref ad2)) (pf4 : Fld Z h0 ad0 o3 "size" "I" (.int 2)) (pe5 : Exa Z h0 ad1 o6) (pe8 : Exa Z h0 ad2 o7) (pa9 : Arv Z h0 ad2 kc5 (.object "java/lang/Object") 2 [.ref ad1, .ref ad6] .null) (pe12 : Exa Z h0 ad6 o6) (pg_ad0 : n0 ≤ ad0) :
    o16 l o156 jdk_38_method_24_code 4 none ws ⟨5, 1, 3, 83⟩ Z h0 #[.ref ad0, .ref ad1, .ref ad2, .int 2] (fun v h L => ∃ nz0 : Addr, ∃ kz1 : ClassId, v = none ∧ Fr n0 L ∧ Keep h0 h [ad0] ∧ h0.size ≤ nz0 ∧ Exa Z h ad0 o3 ∧ Fld Z h ad0 o8 o9 "I" (.int iv3) ∧ Fld Z h ad0 o3 o13 o7 (.ref nz0) ∧ Fld Z h ad0 o3 "size" "I" (.int 3) ∧ Exa Z h nz0 o7 ∧ Arv Z h nz0 kz1 (.object "java/lang/Object") 3 [.ref ad1, .ref ad6, .ref ad1] .null ∧ Ovr Z kz1 "java/lang/Object") := by
  refine o15 (plainFor_of_name o24) ?_
  intro p e s m below meth c s₁ hx hby hml hown hnm hret hlk hZ e0 X0
  have N0 := Fr.nil n0
  refine o2 (fun u j => castTop (show entryFrame m #[.ref ad0, .ref ad1, .ref ad2, .int 2] 4 = mkF m 0 #[.val (.ref ad0), .val (.ref ad1), .val (.ref ad2), .val (.int 2)] [] from rfl) j) ?_
  refine o2 (fun u j => o4 X0.here hx rfl (hb hby o150) rfl (o1 X0.here hx rfl (hb hby o151) rfl rfl (o65 X0 hx hZ e0 pa9 rfl rfl (hb hby o152) (o28 X0.here hx rfl (hb hby o153) rfl (o83 (by decide)) (o1 X0.here hx rfl (hb hby o326) rfl rfl j))))) ?_
  refine o11 (o62 X0 hx hZ (y := o366) hown (o0 hw 105 rfl) (o0 hw 106 rfl) (mvT hZ (o0 hw 108 rfl)) (o0 hw 107 rfl) (o0 hw 40 rfl) (o0 hw 109 rfl) o42 (o970 l Z a0 hw [] wcs wd mOA mSL mAL kd hS ad0 iv3 ad2 kc5 ad1 ad6 h0 n0 O0 pe1 pf2 pf3 pf4 pe8 pa9 pe5 pe12 pg_ad0) e0 pe1 o250 (argsL := []) (rest := []) rfl rfl (g := (mkF m 7 #[.val (.ref ad0), .val (.ref ad1), .val (.ref ad2), .val (.int 2)] [.ref ad0])) rfl (by rw [hml]; rfl) rfl (hb hby o327) (W := 0) rfl (by decide) (by decide) (by decide) (by decide)) ?_
  intro T2323 v2323 L2323 X2323 hQ2323
  obtain ⟨nz0_2324, kz1_2325, rfl, M2323, K2323, z2326, F2327, F2328, F2329, F2330, F2331, F2332, ov0_2333⟩ := hQ2323
  have N2323 := Fr.app N0 M2323
  refine o2 (fun u j => o31 X2323.here hx rfl (hb hby o251) rfl rfl (l' := #[.val (.ref ad0), .val (.ref ad1), .val (.ref nz0_2324), .val (.int 2)]) rfl (o1 X2323.here hx rfl (hb hby o125) rfl rfl (o4 X2323.here hx rfl (hb hby o126) rfl (o1 X2323.here hx rfl (hb hby o127) rfl rfl j)))) ?_
  have q_ := id F2332
  obtain ⟨cl2334, Ar2334, q2334, S2334, N2334, H2334, G2334⟩ := q_
  have hi2334 : ¬ ((2 : Int32) < 0 ∨ cl2334.slots.size ≤ ((2 : Int32)).toNatClampNeg) := inb_of S2334 ⟨by decide, by decide⟩
  have F2335 := (pe5.keep K2323)
  have q_ := stR X2323 hx hZ rfl Ar2334 (j := (2 : Int32)) hi2334 rfl (Sto.ofV Ar2334 q2334 ov0_2333 (Ins.of_exa F2335 (o0 hw 121 rfl))) (g := (mkF m 14 #[.val (.ref ad0), .val (.ref ad1), .val (.ref nz0_2324), .val (.int 2)] [.ref ad1, .int 2, .ref nz0_2324])) rfl rfl (hb hby o128)
  obtain ⟨T2336, h2336, X2336, e2336, W2336, st2336⟩ := q_
  have g2337 := Nat.le_trans (o52 O0) z2326
  have N2336 := Fr.snoc X2336 N2323 g2337
  have V2336 : Arv Z h2336 nz0_2324 kz1_2325 (.object "java/lang/Object") 3 [.ref ad1, .ref ad6, .ref ad1] .null := Arv.set Ar2334 q2334 S2334 N2334 H2334 G2334 rfl W2336 2 rfl (Nat.le_of_ble_eq_true rfl)
  refine o2 (fun u j => st2336 u j) ?_
  refine o2 (fun u j => o1 X2336.here hx rfl (hb hby o129) rfl rfl (o4 X2336.here hx rfl (hb hby o130) rfl (o5 X2336.here hx rfl (hb hby o131) (o36 X2336.here hx rfl (hb hby o132) rfl j)))) ?_
  have F2338 := (Exa.wr W2336 F2327)
  have ne2339 := (Nat.ne_of_lt (Nat.lt_of_lt_of_le pe1.lt z2326))
  have F2340 := (Fld.other W2336 F2330 (Or.inl ne2339))
  refine o32 (putF X2336 hx hZ hown (host := "") (Or.inl (o0 hw 83 rfl)) Via.refl e2336 F2340 F2338 (Or.inl (o0 hw 84 rfl)) (o0 hw 39 rfl) (ty := .int) o18 rfl rfl rfl rfl (hb hby o133)) ?_
  intro T2341 h2341 X2341 e2341 W2341
  have N2341 := Fr.snoc X2341 N2336 pg_ad0
  have F2342 : Fld Z h2341 ad0 o3 "size" "I" (.int 3) := Fld.same W2341 F2340
  have K2343 := (Keep.refl h0 [ad0]).trans K2323 (allS (Or.inl (List.mem_of_getElem? (i := 0) rfl)) all0)
  have z2345 := Nat.le_trans (Nat.le_refl _) z2326
  have K2344 := K2343.wr W2336 (Or.inr z2345)
  have K2346 := K2344.wr W2341 (Or.inl (List.mem_of_getElem? (i := 0) rfl))
  have F2347 := (Exa.wr W2341 F2338)
  have F2348 := (Fld.other W2341 (Fld.other W2336 F2328 (Or.inl ne2339)) (Or.inr (o116 hw)))
  have F2349 := (Fld.other W2341 (Fld.other W2336 F2329 (Or.inl ne2339)) (Or.inr (o117 hw)))
  have F2350 := (Exa.wr W2341 (Exa.wr W2336 F2331))
  have F2351 := (V2336.other W2341 (Ne.symm ne2339))
  exact o48 X2341 hx hlk hret (hb hby o134) (by decide) (by decide) (by rw [e2341]; exact ⟨nz0_2324, kz1_2325, rfl, N2341, K2346, z2345, F2347, F2348, F2349, F2342, F2350, F2351, ov0_2333⟩)
theorem o972 (l : Launch) (Z : State) (a0 : Array Value) (hw : o21 a0 Z) (ws : List Jvm.Cond) (wcs : Int32) (wd mOA mSL mAL : Addr) (kd : ClassId) (hS : o22 Z wcs wd mOA mSL mAL kd) (ad0 ad1 : Addr) (iv2 : Int32) (ad3 : Addr) (kc5 : ClassId) (ad6 : Addr) (h0 : Heap) (n0 : Nat) (O0 : Old Z n0 h0) (pe1 : Exa Z h0 ad0 o3) (pf2 : Fld Z h0 ad0 o8 o9 "I" (.int iv2)) (pf3 : Fld Z h0 ad0 o3 o13 o7 (.ref ad3)) (pf4 : Fld Z h0 ad0 o3 "size" "I" (.int 2)) (pe5 : Exa Z h0 ad1 o6) (pe8 : Exa Z h0 ad3 o7) (pa9 : Arv Z h0 ad3 kc5 (.object "java/lang/Object") 2 [.ref ad1, .ref ad6] .null) (pe12 : Exa Z h0 ad6 o6) (pg_ad0 : n0 ≤ ad0) :
    o16 l o137 jdk_38_method_25_code 2 (some .boolean) ws ⟨6, 1, 3, 98⟩ Z h0 #[.ref ad0, .ref ad1] (fun v h L => ∃ nz0 : Addr, ∃ kz1 : ClassId, v = some (.int 1) ∧ Fr n0 L ∧ Keep h0 h [ad0] ∧ h0.size ≤ nz0 ∧ Exa Z h ad0 o3 ∧ Fld Z h ad0 o8 o9 "I" (.int (iv2 + (1 : Int32))) ∧ Fld Z h ad0 o3 o13 o7 (.ref nz0) ∧ Fld Z h ad0 o3 "size" "I" (.int 3) ∧ Exa Z h nz0 o7 ∧ Arv Z h nz0 kz1 (.object "java/lang/Object") 3 [.ref ad1, .ref ad6, .ref ad1] .null ∧ Ovr Z kz1 "java/lang/Object") := by
  refine o15 (plainFor_of_name o24) ?_
  intro p e s m below meth c s₁ hx hby hml hown hnm hret hlk hZ e0 X0
  have N0 := Fr.nil n0
  refine o2 (fun u j => castTop (show entryFrame m #[.ref ad0, .ref ad1] 2 = mkF m 0 #[.val (.ref ad0), .val (.ref ad1)] [] from rfl) j) ?_
  refine o2 (fun u j => o1 X0.here hx rfl (hb hby o144) rfl rfl (o40 X0.here hx rfl (hb hby o145) rfl rfl j)) ?_
  refine o19 (getF X0 hx hZ hown (host := "") (Or.inl (o0 hw 98 rfl)) (Via.of (o0 hw 99 rfl)) e0 pf2 rfl rfl (hb hby o146)) ?_
  intro T2370 X2370 e2370
  refine o2 (fun u j => o5 X2370.here hx rfl (hb hby o147) (o36 X2370.here hx rfl (hb hby o148) rfl j)) ?_
  refine o32 (putF X2370 hx hZ hown (host := "") (Or.inl (o0 hw 98 rfl)) (Via.of (o0 hw 99 rfl)) e2370 pf2 pe1 (Or.inl (o0 hw 58 rfl)) (o0 hw 39 rfl) (ty := .int) o18 rfl rfl rfl rfl (hb hby o149)) ?_
  intro T2371 h2371 X2371 e2371 W2371
  have N2371 := Fr.snoc X2371 N0 pg_ad0
  have F2372 : Fld Z h2371 ad0 o8 o9 "I" (.int (iv2 + (1 : Int32))) := Fld.same W2371 pf2
  refine o2 (fun u j => o1 X2371.here hx rfl (hb hby o118) rfl rfl (o1 X2371.here hx rfl (hb hby o119) rfl rfl (o1 X2371.here hx rfl (hb hby o120) rfl rfl j))) ?_
  have F2373 := (Fld.other W2371 pf3 (Or.inr (o196 hw)))
  refine o19 (getF X2371 hx hZ hown (host := "") (Or.inl (o0 hw 60 rfl)) Via.refl e2371 F2373 rfl rfl (hb hby o121)) ?_
  intro T2374 X2374 e2374
  refine o2 (fun u j => o1 X2374.here hx rfl (hb hby o122) rfl rfl j) ?_
  have F2375 := (Fld.other W2371 pf4 (Or.inr (o197 hw)))
  refine o19 (getF X2374 hx hZ hown (host := "") (Or.inl (o0 hw 83 rfl)) Via.refl e2374 F2375 rfl rfl (hb hby o123)) ?_
  intro T2376 X2376 e2376
  have F2377 := (Exa.wr W2371 pe1)
  have F2378 := (Exa.wr W2371 pe5)
  have F2379 := (Exa.wr W2371 pe8)
  have ne2380 := (ne_exa pe8 pe1 o143)
  have F2381 := (pa9.other W2371 ne2380)
  have F2382 := (Exa.wr W2371 pe12)
  have O2384 := O0.wr W2371 pg_ad0
  refine o11 (o62 X2376 hx hZ (y := o156) hown (o0 hw 100 rfl) (o0 hw 101 rfl) (mvT hZ (o0 hw 103 rfl)) (o0 hw 102 rfl) (o0 hw 40 rfl) (o0 hw 104 rfl) o42 (o971 l Z a0 hw [] wcs wd mOA mSL mAL kd hS ad0 ad1 ad3 (iv2 + (1 : Int32)) kc5 ad6 h2371 n0 O2384 F2377 F2372 F2373 F2375 F2378 F2379 F2381 F2382 pg_ad0) e2376 F2377 o387 (argsL := [.ref ad1, .ref ad3, .int 2]) (rest := []) rfl rfl (g := (mkF m 20 #[.val (.ref ad0), .val (.ref ad1)] [.int 2, .ref ad3, .ref ad1, .ref ad0])) rfl (by rw [hml]; rfl) rfl (hb hby o124) (W := 0) rfl (by decide) (by decide) (by decide) (by decide)) ?_
  intro T2383 v2383 L2383 X2383 hQ2383
  obtain ⟨nz0_2385, kz1_2386, rfl, M2383, K2383, z2387, F2388, F2389, F2390, F2391, F2392, F2393, ov0_2394⟩ := hQ2383
  have N2383 := Fr.app N2371 M2383
  refine o2 (fun u j => o5 X2383.here hx rfl (hb hby o135) j) ?_
  have K2395 := (Keep.refl h0 [ad0]).wr W2371 (Or.inl (List.mem_of_getElem? (i := 0) rfl))
  have K2396 := K2395.trans K2383 (allS (Or.inl (List.mem_of_getElem? (i := 0) rfl)) all0)
  have z2397 := Nat.le_trans (Nat.le_of_eq W2371.size.symm) z2387
  exact o20 X2383 hx hlk hret rfl (Or.inl ⟨rfl, by simp, _, rfl⟩) (hb hby o136) (by decide) (by decide) (by exact ⟨nz0_2385, kz1_2386, rfl, N2383, K2396, z2397, F2388, F2389, F2390, F2391, F2392, F2393, ov0_2394⟩)
theorem o890 (l : Launch) (Z : State) (a0 : Array Value) (hw : o21 a0 Z) (ws : List Jvm.Cond) (wcs : Int32) (wd mOA mSL mAL : Addr) (kd : ClassId) (hS : o22 Z wcs wd mOA mSL mAL kd) (ad0 ad1 ad2 : Addr) (iv4 : Int32) (ad5 : Addr) (kc9 : ClassId) (ad10 : Addr) (h0 : Heap) (n0 : Nat) (O0 : Old Z n0 h0) (pf2 : Fld Z h0 ad0 o54 "path" o66 (.ref ad2)) (pe3 : Exa Z h0 ad1 o6) (pe6 : Exa Z h0 ad2 o3) (pf7 : Fld Z h0 ad2 o8 o9 "I" (.int iv4)) (pf8 : Fld Z h0 ad2 o3 o13 o7 (.ref ad5)) (pf9 : Fld Z h0 ad2 o3 "size" "I" (.int 2)) (pe12 : Exa Z h0 ad5 o7) (pa13 : Arv Z h0 ad5 kc9 (.object "java/lang/Object") 10 [.ref ad1, .ref ad10, .null, .null, .null, .null, .null, .null, .null, .null] .null) (pe14 : Exa Z h0 ad10 o6) :
    o16 l o39 prog_33_method_4_code 4 (some (.object "java/util/List")) ws ⟨7, 5, 15, 111⟩ Z h0 #[.ref ad0, .ref ad1] (fun v h L => ∃ nz0 : Addr, ∃ nz1 : Addr, ∃ kz2 : ClassId, v = some (.ref nz0) ∧ Fr n0 L ∧ Keep h0 h [] ∧ h0.size ≤ nz0 ∧ h0.size ≤ nz1 ∧ Exa Z h nz0 o3 ∧ Fld Z h nz0 o8 o9 "I" (.int ((0 : Int32) + (1 : Int32))) ∧ Fld Z h nz0 o3 o13 o7 (.ref nz1) ∧ Fld Z h nz0 o3 "size" "I" (.int 3) ∧ Exa Z h nz1 o7 ∧ Arv Z h nz1 kz2 (.object "java/lang/Object") 3 [.ref ad1, .ref ad10, .ref ad1] .null ∧ Ovr Z kz2 "java/lang/Object") := by
  refine o15 (plainFor_of_name o76) ?_
  intro p e s m below meth c s₁ hx hby hml hown hnm hret hlk hZ e0 X0
  have N0 := Fr.nil n0
  refine o2 (fun u j => castTop (show entryFrame m #[.ref ad0, .ref ad1] 4 = mkF m 0 #[.val (.ref ad0), .val (.ref ad1), .unset, .unset] [] from rfl) j) ?_
  refine o2 (fun u j => o1 X0.here hx rfl (hb hby o98) rfl rfl j) ?_
  refine o19 (getF X0 hx hZ hown (host := "") (Or.inl (o0 hw 62 rfl)) Via.refl e0 pf2 rfl rfl (hb hby o99)) ?_
  intro T2412 X2412 e2412
  refine o2 (fun u j => o1 X2412.here hx rfl (hb hby o100) rfl rfl j) ?_
  refine o11 (o29 X2412 hx hZ (y := o364) (z := o113) hown (o0 hw 74 rfl) (o0 hw 75 rfl) (mvT hZ (o0 hw 76 rfl)) (o0 hw 77 rfl) (o0 hw 78 rfl) (o0 hw 79 rfl) (o0 hw 80 rfl) (o0 hw 81 rfl) (o0 hw 40 rfl) (o0 hw 82 rfl) o27 (o958 l Z a0 hw [] wcs wd mOA mSL mAL kd hS ad2 ad1 ad5 kc9 ad10 h0 n0 O0 pe6 pf8 pf9 pe3 pa13) e2412 pe6 o243 (argsL := [.ref ad1]) (rest := []) rfl rfl (g := (mkF m 5 #[.val (.ref ad0), .val (.ref ad1), .unset, .unset] [.ref ad1, .ref ad2])) rfl (by rw [hml]; rfl) rfl (hb hby o101) (W := 0) rfl (by decide) (by decide) (by decide) (by decide)) ?_
  intro T2413 v2413 L2413 X2413 hQ2413
  obtain ⟨rfl, M2413, e2413⟩ := hQ2413
  have N2413 := Fr.app N0 M2413
  refine o2 (fun u j => o45 X2413.here hx rfl (hb hby o88) rfl (l' := #[.val (.ref ad0), .val (.ref ad1), .val (.int 0), .unset]) rfl (o4 X2413.here hx rfl (hb hby o89) rfl (o43 X2413.here hx rfl (pc0 := 12) (pc' := 17) rfl (hb hby o90) rfl (o140 (by decide)) (by decide) (by decide) j))) ?_
  have q_ := newO X2413 hx hZ hown (o0 hw 38 rfl) (o0 hw 39 rfl) (o0 hw 40 rfl) e2413 (g := (mkF m 17 #[.val (.ref ad0), .val (.ref ad1), .val (.int 0), .unset] [])) rfl (hb hby o260) (by decide) (by decide)
  obtain ⟨T2414, h2414, X2414, e2414, E2414, A2414, D2414, U2414, st2414⟩ := q_
  have q_ : ∃ z, z = h0.size := ⟨_, rfl⟩
  obtain ⟨b2414, g2414⟩ := q_
  rw [← g2414] at A2414 D2414 U2414 st2414
  have F2414_modCount : Fld Z h2414 b2414 o8 o9 "I" (.int 0) := D2414 (Or.inl (o0 hw 58 rfl)) (ty := .int) o18
  have F2414_elementData : Fld Z h2414 b2414 o3 o13 o7 .null := D2414 (Or.inl (o0 hw 61 rfl)) (ty := (.array (.object "java/lang/Object"))) o68
  have F2414_size : Fld Z h2414 b2414 o3 "size" "I" (.int 0) := D2414 (Or.inl (o0 hw 84 rfl)) (ty := .int) o18
  refine o2 (fun u j => st2414 u j) ?_
  refine o2 (fun u j => o40 X2414.here hx rfl (hb hby o261) rfl rfl (o1 X2414.here hx rfl (hb hby o262) rfl rfl j)) ?_
  have F2415 := (Fld.ext E2414 pf2)
  refine o19 (getF X2414 hx hZ hown (host := "") (Or.inl (o0 hw 62 rfl)) Via.refl e2414 F2415 rfl rfl (hb hby o263)) ?_
  intro T2416 X2416 e2416
  refine o2 (fun u j => o4 X2416.here hx rfl (hb hby o264) rfl (o1 X2416.here hx rfl (hb hby o265) rfl rfl j)) ?_
  refine o19 (getF X2416 hx hZ hown (host := "") (Or.inl (o0 hw 62 rfl)) Via.refl e2416 F2415 rfl rfl (hb hby o266)) ?_
  intro T2417 X2417 e2417
  have F2418 := (Fld.ext E2414 pf9)
  have O2420 := O0.ext E2414
  have F2421 := (Exa.ext E2414 pe6)
  refine o11 (o29 X2417 hx hZ (y := o186) (z := o154) hown (o0 hw 138 rfl) (o0 hw 139 rfl) (mvT hZ (o0 hw 140 rfl)) (o0 hw 141 rfl) (o0 hw 142 rfl) (o0 hw 143 rfl) (o0 hw 144 rfl) (o0 hw 81 rfl) (o0 hw 40 rfl) (o0 hw 145 rfl) o27 (o591 l Z a0 hw [] wcs wd mOA mSL mAL kd hS ad2 (2 : Int32) h2414 n0 O2420 F2418) e2417 F2421 o142 (argsL := []) (rest := [.int 0, .ref ad2, .ref b2414, .ref b2414]) rfl rfl (g := (mkF m 30 #[.val (.ref ad0), .val (.ref ad1), .val (.int 0), .unset] [.ref ad2, .int 0, .ref ad2, .ref b2414, .ref b2414])) rfl (by rw [hml]; rfl) rfl (hb hby o267) (W := 4) rfl (by decide) (by decide) (by decide) (by decide)) ?_
  intro T2419 v2419 L2419 X2419 hQ2419
  obtain ⟨rfl, M2419, e2419⟩ := hQ2419
  have N2419 := Fr.app N2413 M2419
  have F2422 := (Fld.ext E2414 pf7)
  refine o11 (o29 X2419 hx hZ (y := o640) (z := o370) hown (o0 hw 168 rfl) (o0 hw 169 rfl) (mvT hZ (o0 hw 170 rfl)) (o0 hw 171 rfl) (o0 hw 172 rfl) (o0 hw 173 rfl) (o0 hw 174 rfl) (o0 hw 81 rfl) (o0 hw 40 rfl) (o0 hw 175 rfl) o27 (o960 l Z a0 hw [] wcs wd mOA mSL mAL kd hS ad2 iv4 h2414 n0 O2420 F2421 F2422 F2418) e2419 F2421 o626 (argsL := [.int 0, .int 2]) (rest := [.ref b2414, .ref b2414]) rfl rfl (g := (mkF m 35 #[.val (.ref ad0), .val (.ref ad1), .val (.int 0), .unset] [.int 2, .int 0, .ref ad2, .ref b2414, .ref b2414])) rfl (by rw [hml]; rfl) rfl (hb hby o268) (W := 2) rfl (by decide) (by decide) (by decide) (by decide)) ?_
  intro T2423 v2423 L2423 X2423 hQ2423
  obtain ⟨nz0_2424, rfl, M2423, K2423, z2425, F2426, F2427, F2428, F2429, F2430, F2431⟩ := hQ2423
  have N2423 := Fr.app N2419 M2423
  have F2432 := (A2414.keep K2423)
  have F2433 := (F2414_modCount.keep K2423 nin0)
  have F2434 := (F2414_elementData.keep K2423 nin0)
  have F2435 := (F2414_size.keep K2423 nin0)
  have F2436 := (F2422.keep K2423 nin0)
  have F2437 := ((Fld.ext E2414 pf8).keep K2423 nin0)
  have F2438 := ((Exa.ext E2414 pe12).keep K2423)
  have F2439 := ((pa13.ext E2414).keep K2423 nin0)
  have F2440 := ((Exa.ext E2414 pe3).keep K2423)
  have F2441 := ((Exa.ext E2414 pe14).keep K2423)
  have g2442 := Nat.le_trans (o52 O0) (Nat.le_of_eq g2414.symm)
  have ne2443 := (Nat.ne_of_lt (Nat.lt_of_lt_of_le pe6.lt (Nat.le_of_eq g2414.symm)))
  have O2445 := O2420.keep K2423 all0
  refine o11 (o50 X2423 hx hZ (y := o374) rfl hown (o0 hw 202 rfl) (o0 hw 203 rfl) (o0 hw 40 rfl) (o0 hw 204 rfl) o42 (o965 l Z a0 hw [] wcs wd mOA mSL mAL kd hS b2414 nz0_2424 (0 : Int32) iv4 ad2 ad5 kc9 ad1 ad10 T2423.heap n0 O2445 F2432 F2433 F2434 F2435 F2426 F2427 F2428 F2430 F2431 F2436 F2437 F2438 F2439 F2440 F2441 g2442 ne2443) rfl o630 (a := b2414) (argsL := [.ref nz0_2424]) (rest := [.ref b2414]) rfl rfl (g := (mkF m 40 #[.val (.ref ad0), .val (.ref ad1), .val (.int 0), .unset] [.ref nz0_2424, .ref b2414, .ref b2414])) rfl (by rw [hml]; rfl) rfl (hb hby o291) (W := 1) rfl (by decide) (by decide) (by decide) (by decide)) ?_
  intro T2444 v2444 L2444 X2444 hQ2444
  obtain ⟨nz0_2446, kz1_2447, rfl, M2444, K2444, z2448, F2449, F2450, F2451, F2452, F2453, F2454, ov0_2455⟩ := hQ2444
  have N2444 := Fr.app N2423 M2444
  refine o2 (fun u j => o31 X2444.here hx rfl (hb hby o311) rfl rfl (l' := #[.val (.ref ad0), .val (.ref ad1), .val (.int 0), .val (.ref b2414)]) rfl (o1 X2444.here hx rfl (hb hby o312) rfl rfl (o1 X2444.here hx rfl (hb hby o313) rfl rfl j))) ?_
  have F2456 := (F2440.keep K2444)
  have F2457 := (F2441.keep K2444)
  have O2459 := O2445.keep K2444 (allS g2442 all0)
  refine o11 (o29 X2444 hx hZ (y := o367) (z := o137) hown (o0 hw 90 rfl) (o0 hw 91 rfl) (mvT hZ (o0 hw 92 rfl)) (o0 hw 93 rfl) (o0 hw 94 rfl) (o0 hw 95 rfl) (o0 hw 96 rfl) (o0 hw 81 rfl) (o0 hw 40 rfl) (o0 hw 97 rfl) o27 (o972 l Z a0 hw [] wcs wd mOA mSL mAL kd hS b2414 ad1 (0 : Int32) nz0_2446 kz1_2447 ad10 T2444.heap n0 O2459 F2449 F2450 F2451 F2452 F2456 F2453 F2454 F2457 g2442) rfl F2449 o46 (argsL := [.ref ad1]) (rest := []) rfl rfl (g := (mkF m 46 #[.val (.ref ad0), .val (.ref ad1), .val (.int 0), .val (.ref b2414)] [.ref ad1, .ref b2414])) rfl (by rw [hml]; rfl) rfl (hb hby o314) (W := 0) rfl (by decide) (by decide) (by decide) (by decide)) ?_
  intro T2458 v2458 L2458 X2458 hQ2458
  obtain ⟨nz0_2460, kz1_2461, rfl, M2458, K2458, z2462, F2463, F2464, F2465, F2466, F2467, F2468, ov0_2469⟩ := hQ2458
  have N2458 := Fr.app N2444 M2458
  refine o2 (fun u j => o55 X2458.here hx rfl (hb hby o315) rfl rfl (o1 X2458.here hx rfl (hb hby o316) rfl rfl j)) ?_
  have K2470 := (Keep.refl h0 []).ext E2414
  have K2471 := K2470.trans K2423 all0
  have z2473 := Nat.le_trans (Nat.le_refl _) (Nat.le_of_eq g2414.symm)
  have K2472 := K2471.trans K2444 (allS (Or.inr z2473) all0)
  have K2474 := K2472.trans K2458 (allS (Or.inr z2473) all0)
  have z2475 := Nat.le_trans (Nat.le_trans (Nat.le_trans E2414.1 K2423.1) K2444.1) z2462
  exact o20 X2458 hx hlk hret rfl (Or.inr (Or.inr (Or.inr (Or.inr ⟨rfl, rfl, rfl⟩)))) (hb hby o317) (by decide) (by decide) (by exact ⟨b2414, nz0_2460, kz1_2461, rfl, N2458, K2474, z2473, z2475, F2463, F2464, F2465, F2466, F2467, F2468, ov0_2469⟩)
theorem o973 (l : Launch) (Z : State) (a0 : Array Value) (hw : o21 a0 Z) (ws : List Jvm.Cond) (wcs : Int32) (wd mOA mSL mAL : Addr) (kd : ClassId) (hS : o22 Z wcs wd mOA mSL mAL kd) (ad0 ad1 : Addr) (ad3 ad4 : Addr) (kc5 : ClassId) (ad6 ad7 : Addr) (kc8 : ClassId) (iv9 : Int32) (lv10 : List Value) (ad11 ad12 : Addr) (kc13 : ClassId) (iv14 : Int32) (lv15 : List Value) (kc16 : ClassId) (iv17 : Int32) (lv18 : List Value) (h0 : Heap) (n0 : Nat) (O0 : Old Z n0 h0) (pf3 : Fld Z h0 ad0 o3 o13 o7 (.ref ad3)) (pe5 : Exa Z h0 ad1 o6) (pf6 : Fld Z h0 ad1 o6 "coder" "B" (.int 0)) (pf7 : Fld Z h0 ad1 o6 "value" "[B" (.ref ad4)) (pa9 : Arv Z h0 ad3 kc5 (.object "java/lang/Object") 10 [.ref ad6, .ref ad7, .null, .null, .null, .null, .null, .null, .null, .null] .null) (pa11 : Arv Z h0 ad4 kc8 .byte iv9 lv10 (.int 0)) (pe12 : Exa Z h0 ad6 o6) (pf13 : Fld Z h0 ad6 o6 "coder" "B" (.int 0)) (pf14 : Fld Z h0 ad6 o6 "value" "[B" (.ref ad11)) (pe15 : Exa Z h0 ad7 o6) (pf16 : Fld Z h0 ad7 o6 "coder" "B" (.int 0)) (pf17 : Fld Z h0 ad7 o6 "value" "[B" (.ref ad12)) (pa19 : Arv Z h0 ad11 kc13 .byte iv14 lv15 (.int 0)) (pa21 : Arv Z h0 ad12 kc16 .byte iv17 lv18 (.int 0)) (pk_0 : ¬ iv9 = iv14) (pk_1 : ¬ iv9 = iv17) (pn_ad1_ad6 : ad1 ≠ ad6) (pn_ad1_ad7 : ad1 ≠ ad7) :
    o16 l o61 jdk_38_method_12_code 6 (some .int) ws ⟨2, 0, 0, 28⟩ Z h0 #[.ref ad0, .ref ad1, .int 0, .int 2] (fun v h L => v = some (.int (-1)) ∧ Fr n0 L ∧ h = h0) := by
  refine o15 (plainFor_of_name o24) ?_
  intro p e s m below meth c s₁ hx hby hml hown hnm hret hlk hZ e0 X0
  have N0 := Fr.nil n0
  refine o2 (fun u j => castTop (show entryFrame m #[.ref ad0, .ref ad1, .int 0, .int 2] 6 = mkF m 0 #[.val (.ref ad0), .val (.ref ad1), .val (.int 0), .val (.int 2), .unset, .unset] [] from rfl) j) ?_
  refine o2 (fun u j => o1 X0.here hx rfl (hb hby o108) rfl rfl j) ?_
  refine o19 (getF X0 hx hZ hown (host := "") (Or.inl (o0 hw 60 rfl)) Via.refl e0 pf3 rfl rfl (hb hby o109)) ?_
  intro T2601 X2601 e2601
  refine o2 (fun u j => o37 X2601.here hx rfl (hb hby o110) rfl rfl (l' := #[.val (.ref ad0), .val (.ref ad1), .val (.int 0), .val (.int 2), .val (.ref ad3), .unset]) rfl (o1 X2601.here hx rfl (hb hby o111) rfl rfl (o60 X2601.here hx rfl (pc0 := 7) (pc' := 39) rfl (hb hby o112) rfl (by decide) (by decide) (o4 X2601.here hx rfl (hb hby o85) rfl (o30 X2601.here hx rfl (hb hby o86) rfl (l' := #[.val (.ref ad0), .val (.ref ad1), .val (.int 0), .val (.int 2), .val (.ref ad3), .val (.int 0)]) rfl (o10 X2601.here hx rfl (hb hby o56) rfl j)))))) ?_
  show o17 p e below _ (T2601.setTop (mkF m 44 #[.val (.ref ad0), .val (.ref ad1), .val (.int 0), .val (.int 2), .val (.ref ad3), .val (.int 0)] [.int 0]))
  refine o2 (fun u j => o4 X2601.here hx rfl (hb hby o57) rfl (o28 X2601.here hx rfl (hb hby o58) rfl (o53 (by decide)) (o1 X2601.here hx rfl (hb hby o91) rfl rfl (o12 X2601.here hx rfl (hb hby o92) rfl rfl (o10 X2601.here hx rfl (hb hby o93) rfl (o413 X2601 hx hZ e2601 pa9 (j := (0 : Int32)) (v := (.ref ad6)) ⟨by decide, by decide⟩ rfl rfl rfl (hb hby o94) j)))))) ?_
  show o17 p e below _ (T2601.setTop (mkF m 54 #[.val (.ref ad0), .val (.ref ad1), .val (.int 0), .val (.int 2), .val (.ref ad3), .val (.int 0)] [.ref ad6, .ref ad1]))
  refine o11 (o26 X2601 hx hZ (y := o368) (z := o41) hown (o0 hw 122 rfl) (o0 hw 123 rfl) (o574 (args := #[]) (mvT hZ (o0 hw 227 rfl)) rfl) (o0 hw 125 rfl) (o0 hw 126 rfl) (o0 hw 3 rfl) (o0 hw 127 rfl) o257 (o831 l Z a0 hw [] wcs wd mOA mSL mAL kd hS ad1 ad6 ad4 ad11 kc8 iv9 lv10 kc13 iv14 lv15 h0 n0 O0 pf6 pf7 pe12 pf13 pf14 pa11 pa19 pk_0 pn_ad1_ad6) e2601 pe5 o46 (argsL := [.ref ad6]) (rest := []) rfl rfl (g := (mkF m 54 #[.val (.ref ad0), .val (.ref ad1), .val (.int 0), .val (.int 2), .val (.ref ad3), .val (.int 0)] [.ref ad6, .ref ad1])) rfl (by rw [hml]; rfl) rfl (hb hby o95) (W := 0) rfl (by decide) (by decide) (by decide) (by decide)) ?_
  intro T2602 v2602 L2602 X2602 hQ2602
  obtain ⟨rfl, M2602, e2602⟩ := hQ2602
  have N2602 := Fr.app N0 M2602
  refine o2 (fun u j => o43 X2602.here hx rfl (pc0 := 57) (pc' := 63) rfl (hb hby o96) rfl (XT.i0_eq_t (by decide)) (by decide) (by decide) (o51 X2602.here hx rfl (hb hby o318) rfl (l' := #[.val (.ref ad0), .val (.ref ad1), .val (.int 0), .val (.int 2), .val (.ref ad3), .val (.int 1)]) rfl (o35 X2602.here hx rfl (pc0 := 66) (pc' := 42) rfl (hb hby o319) (by decide) (by decide) (o10 X2602.here hx rfl (hb hby o56) rfl (o4 X2602.here hx rfl (hb hby o57) rfl (o28 X2602.here hx rfl (hb hby o58) rfl (o53 (by decide)) j)))))) ?_
  show o17 p e below _ (T2602.setTop (mkF m 48 #[.val (.ref ad0), .val (.ref ad1), .val (.int 0), .val (.int 2), .val (.ref ad3), .val (.int 1)] []))
  refine o2 (fun u j => o1 X2602.here hx rfl (hb hby o91) rfl rfl (o12 X2602.here hx rfl (hb hby o92) rfl rfl (o10 X2602.here hx rfl (hb hby o93) rfl (o413 X2602 hx hZ e2602 pa9 (j := (1 : Int32)) (v := (.ref ad7)) ⟨by decide, by decide⟩ rfl rfl rfl (hb hby o94) j)))) ?_
  refine o11 (o26 X2602 hx hZ (y := o368) (z := o41) hown (o0 hw 122 rfl) (o0 hw 123 rfl) (o574 (args := #[]) (mvT hZ (o0 hw 227 rfl)) rfl) (o0 hw 125 rfl) (o0 hw 126 rfl) (o0 hw 3 rfl) (o0 hw 127 rfl) o257 (o831 l Z a0 hw [] wcs wd mOA mSL mAL kd hS ad1 ad7 ad4 ad12 kc8 iv9 lv10 kc16 iv17 lv18 h0 n0 O0 pf6 pf7 pe15 pf16 pf17 pa11 pa21 pk_1 pn_ad1_ad7) e2602 pe5 o46 (argsL := [.ref ad7]) (rest := []) rfl rfl (g := (mkF m 54 #[.val (.ref ad0), .val (.ref ad1), .val (.int 0), .val (.int 2), .val (.ref ad3), .val (.int 1)] [.ref ad7, .ref ad1])) rfl (by rw [hml]; rfl) rfl (hb hby o95) (W := 0) rfl (by decide) (by decide) (by decide) (by decide)) ?_
  intro T2603 v2603 L2603 X2603 hQ2603
  obtain ⟨rfl, M2603, e2603⟩ := hQ2603
  have N2603 := Fr.app N2602 M2603
  refine o2 (fun u j => o43 X2603.here hx rfl (pc0 := 57) (pc' := 63) rfl (hb hby o96) rfl (XT.i0_eq_t (by decide)) (by decide) (by decide) (o51 X2603.here hx rfl (hb hby o318) rfl (l' := #[.val (.ref ad0), .val (.ref ad1), .val (.int 0), .val (.int 2), .val (.ref ad3), .val (.int 2)]) rfl (o35 X2603.here hx rfl (pc0 := 66) (pc' := 42) rfl (hb hby o319) (by decide) (by decide) (o10 X2603.here hx rfl (hb hby o56) rfl (o4 X2603.here hx rfl (hb hby o57) rfl (o23 X2603.here hx rfl (pc0 := 45) (pc' := 69) rfl (hb hby o58) rfl (XT.ii_ge_t (by decide)) (by decide) (by decide) j)))))) ?_
  show o17 p e below _ (T2603.setTop (mkF m 69 #[.val (.ref ad0), .val (.ref ad1), .val (.int 0), .val (.int 2), .val (.ref ad3), .val (.int 2)] []))
  refine o2 (fun u j => o5 X2603.here hx rfl (hb hby o240) j) ?_
  exact o20 X2603 hx hlk hret rfl (Or.inl ⟨rfl, by simp, _, rfl⟩) (hb hby o241) (by decide) (by decide) (by rw [e2603]; exact ⟨rfl, N2603, rfl⟩)
theorem o974 (l : Launch) (Z : State) (a0 : Array Value) (hw : o21 a0 Z) (ws : List Jvm.Cond) (wcs : Int32) (wd mOA mSL mAL : Addr) (kd : ClassId) (hS : o22 Z wcs wd mOA mSL mAL kd) (ad0 ad1 : Addr) (ad3 ad4 : Addr) (kc5 : ClassId) (ad6 ad7 : Addr) (kc8 : ClassId) (iv9 : Int32) (lv10 : List Value) (ad11 ad12 : Addr) (kc13 : ClassId) (iv14 : Int32) (lv15 : List Value) (kc16 : ClassId) (iv17 : Int32) (lv18 : List Value) (h0 : Heap) (n0 : Nat) (O0 : Old Z n0 h0) (pe1 : Exa Z h0 ad0 o3) (pf3 : Fld Z h0 ad0 o3 o13 o7 (.ref ad3)) (pf4 : Fld Z h0 ad0 o3 "size" "I" (.int 2)) (pe5 : Exa Z h0 ad1 o6) (pf6 : Fld Z h0 ad1 o6 "coder" "B" (.int 0)) (pf7 : Fld Z h0 ad1 o6 "value" "[B" (.ref ad4)) (pa9 : Arv Z h0 ad3 kc5 (.object "java/lang/Object") 10 [.ref ad6, .ref ad7, .null, .null, .null, .null, .null, .null, .null, .null] .null) (pa11 : Arv Z h0 ad4 kc8 .byte iv9 lv10 (.int 0)) (pe12 : Exa Z h0 ad6 o6) (pf13 : Fld Z h0 ad6 o6 "coder" "B" (.int 0)) (pf14 : Fld Z h0 ad6 o6 "value" "[B" (.ref ad11)) (pe15 : Exa Z h0 ad7 o6) (pf16 : Fld Z h0 ad7 o6 "coder" "B" (.int 0)) (pf17 : Fld Z h0 ad7 o6 "value" "[B" (.ref ad12)) (pa19 : Arv Z h0 ad11 kc13 .byte iv14 lv15 (.int 0)) (pa21 : Arv Z h0 ad12 kc16 .byte iv17 lv18 (.int 0)) (pk_0 : ¬ iv9 = iv14) (pk_1 : ¬ iv9 = iv17) (pn_ad1_ad6 : ad1 ≠ ad6) (pn_ad1_ad7 : ad1 ≠ ad7) :
    o16 l o113 jdk_38_method_11_code 2 (some .int) ws ⟨3, 0, 0, 45⟩ Z h0 #[.ref ad0, .ref ad1] (fun v h L => v = some (.int (-1)) ∧ Fr n0 L ∧ h = h0) := by
  refine o15 (plainFor_of_name o24) ?_
  intro p e s m below meth c s₁ hx hby hml hown hnm hret hlk hZ e0 X0
  have N0 := Fr.nil n0
  refine o2 (fun u j => castTop (show entryFrame m #[.ref ad0, .ref ad1] 2 = mkF m 0 #[.val (.ref ad0), .val (.ref ad1)] [] from rfl) j) ?_
  refine o2 (fun u j => o1 X0.here hx rfl (hb hby o102) rfl rfl (o1 X0.here hx rfl (hb hby o103) rfl rfl (o5 X0.here hx rfl (hb hby o104) (o1 X0.here hx rfl (hb hby o105) rfl rfl j)))) ?_
  refine o19 (getF X0 hx hZ hown (host := "") (Or.inl (o0 hw 83 rfl)) Via.refl e0 pf4 rfl rfl (hb hby o106)) ?_
  intro T2605 X2605 e2605
  refine o11 (o26 X2605 hx hZ (y := o61) (z := o61) hown (o0 hw 85 rfl) (o0 hw 86 rfl) (notFace_of_selects (args := #[]) (mvT hZ (o0 hw 88 rfl))) (o0 hw 88 rfl) (o0 hw 87 rfl) (o0 hw 40 rfl) (o0 hw 89 rfl) o42 (o973 l Z a0 hw [] wcs wd mOA mSL mAL kd hS ad0 ad1 ad3 ad4 kc5 ad6 ad7 kc8 iv9 lv10 ad11 ad12 kc13 iv14 lv15 kc16 iv17 lv18 h0 n0 O0 pf3 pe5 pf6 pf7 pa9 pa11 pe12 pf13 pf14 pe15 pf16 pf17 pa19 pa21 pk_0 pk_1 pn_ad1_ad6 pn_ad1_ad7) e2605 pe1 o242 (argsL := [.ref ad1, .int 0, .int 2]) (rest := []) rfl rfl (g := (mkF m 7 #[.val (.ref ad0), .val (.ref ad1)] [.int 2, .int 0, .ref ad1, .ref ad0])) rfl (by rw [hml]; rfl) rfl (hb hby o107) (W := 0) rfl (by decide) (by decide) (by decide) (by decide)) ?_
  intro T2606 v2606 L2606 X2606 hQ2606
  obtain ⟨rfl, M2606, e2606⟩ := hQ2606
  have N2606 := Fr.app N0 M2606
  exact o20 X2606 hx hlk hret rfl (Or.inl ⟨rfl, by simp, _, rfl⟩) (hb hby o87) (by decide) (by decide) (by rw [e2606]; exact ⟨rfl, N2606, rfl⟩)
theorem o891 (l : Launch) (Z : State) (a0 : Array Value) (hw : o21 a0 Z) (ws : List Jvm.Cond) (wcs : Int32) (wd mOA mSL mAL : Addr) (kd : ClassId) (hS : o22 Z wcs wd mOA mSL mAL kd) (ad0 ad1 : Addr) (ad2 ad3 ad5 : Addr) (kc6 : ClassId) (iv7 : Int32) (lv8 : List Value) (kc9 : ClassId) (ad10 ad11 : Addr) (ad12 ad13 : Addr) (kc14 : ClassId) (iv15 : Int32) (lv16 : List Value) (kc17 : ClassId) (iv18 : Int32) (lv19 : List Value) (h0 : Heap) (n0 : Nat) (O0 : Old Z n0 h0) (pf2 : Fld Z h0 ad0 o54 "path" o66 (.ref ad2)) (pe3 : Exa Z h0 ad1 o6) (pf4 : Fld Z h0 ad1 o6 "coder" "B" (.int 0)) (pf5 : Fld Z h0 ad1 o6 "value" "[B" (.ref ad3)) (pe6 : Exa Z h0 ad2 o3) (pf8 : Fld Z h0 ad2 o3 o13 o7 (.ref ad5)) (pf9 : Fld Z h0 ad2 o3 "size" "I" (.int 2)) (pa11 : Arv Z h0 ad3 kc6 .byte iv7 lv8 (.int 0)) (pa13 : Arv Z h0 ad5 kc9 (.object "java/lang/Object") 10 [.ref ad10, .ref ad11, .null, .null, .null, .null, .null, .null, .null, .null] .null) (pe14 : Exa Z h0 ad10 o6) (pf15 : Fld Z h0 ad10 o6 "coder" "B" (.int 0)) (pf16 : Fld Z h0 ad10 o6 "value" "[B" (.ref ad12)) (pe17 : Exa Z h0 ad11 o6) (pf18 : Fld Z h0 ad11 o6 "coder" "B" (.int 0)) (pf19 : Fld Z h0 ad11 o6 "value" "[B" (.ref ad13)) (pa21 : Arv Z h0 ad12 kc14 .byte iv15 lv16 (.int 0)) (pa23 : Arv Z h0 ad13 kc17 .byte iv18 lv19 (.int 0)) (pk_0 : ¬ iv7 = iv15) (pk_1 : ¬ iv7 = iv18) (pn_ad1_ad10 : ad1 ≠ ad10) (pn_ad1_ad11 : ad1 ≠ ad11) :
    o16 l o39 prog_33_method_4_code 4 (some (.object "java/util/List")) ws ⟨4, 0, 0, 58⟩ Z h0 #[.ref ad0, .ref ad1] (fun v h L => v = some .null ∧ Fr n0 L ∧ h = h0) := by
  refine o15 (plainFor_of_name o76) ?_
  intro p e s m below meth c s₁ hx hby hml hown hnm hret hlk hZ e0 X0
  have N0 := Fr.nil n0
  refine o2 (fun u j => castTop (show entryFrame m #[.ref ad0, .ref ad1] 4 = mkF m 0 #[.val (.ref ad0), .val (.ref ad1), .unset, .unset] [] from rfl) j) ?_
  refine o2 (fun u j => o1 X0.here hx rfl (hb hby o98) rfl rfl j) ?_
  refine o19 (getF X0 hx hZ hown (host := "") (Or.inl (o0 hw 62 rfl)) Via.refl e0 pf2 rfl rfl (hb hby o99)) ?_
  intro T2608 X2608 e2608
  refine o2 (fun u j => o1 X2608.here hx rfl (hb hby o100) rfl rfl j) ?_
  refine o11 (o29 X2608 hx hZ (y := o364) (z := o113) hown (o0 hw 74 rfl) (o0 hw 75 rfl) (mvT hZ (o0 hw 76 rfl)) (o0 hw 77 rfl) (o0 hw 78 rfl) (o0 hw 79 rfl) (o0 hw 80 rfl) (o0 hw 81 rfl) (o0 hw 40 rfl) (o0 hw 82 rfl) o27 (o974 l Z a0 hw [] wcs wd mOA mSL mAL kd hS ad2 ad1 ad5 ad3 kc9 ad10 ad11 kc6 iv7 lv8 ad12 ad13 kc14 iv15 lv16 kc17 iv18 lv19 h0 n0 O0 pe6 pf8 pf9 pe3 pf4 pf5 pa13 pa11 pe14 pf15 pf16 pe17 pf18 pf19 pa21 pa23 pk_0 pk_1 pn_ad1_ad10 pn_ad1_ad11) e2608 pe6 o243 (argsL := [.ref ad1]) (rest := []) rfl rfl (g := (mkF m 5 #[.val (.ref ad0), .val (.ref ad1), .unset, .unset] [.ref ad1, .ref ad2])) rfl (by rw [hml]; rfl) rfl (hb hby o101) (W := 0) rfl (by decide) (by decide) (by decide) (by decide)) ?_
  intro T2609 v2609 L2609 X2609 hQ2609
  obtain ⟨rfl, M2609, e2609⟩ := hQ2609
  have N2609 := Fr.app N0 M2609
  refine o2 (fun u j => o45 X2609.here hx rfl (hb hby o88) rfl (l' := #[.val (.ref ad0), .val (.ref ad1), .val (.int (-1)), .unset]) rfl (o4 X2609.here hx rfl (hb hby o89) rfl (o34 X2609.here hx rfl (hb hby o90) rfl (XT.i0_ge_f (by decide)) (o49 X2609.here hx rfl (hb hby o244) j)))) ?_
  exact o20 X2609 hx hlk hret rfl (Or.inr (Or.inr (Or.inr (Or.inr ⟨rfl, rfl, rfl⟩)))) (hb hby o245) (by decide) (by decide) (by rw [e2609]; exact ⟨rfl, N2609, rfl⟩)
theorem o975 (l : Launch) (Z : State) (a0 : Array Value) (hw : o21 a0 Z) (ws : List Jvm.Cond) (wcs : Int32) (wd mOA mSL mAL : Addr) (kd : ClassId) (hS : o22 Z wcs wd mOA mSL mAL kd) (ad0 ad1 ad2 : Addr) (iv3 : Int32) (kc5 : ClassId) (ad6 ad7 : Addr) (h0 : Heap) (n0 : Nat) (O0 : Old Z n0 h0) (pe1 : Exa Z h0 ad0 o3) (pf2 : Fld Z h0 ad0 o8 o9 "I" (.int iv3)) (pf3 : Fld Z h0 ad0 o3 o13 o7 (.ref ad2)) (pf4 : Fld Z h0 ad0 o3 "size" "I" (.int 2)) (pe5 : Exa Z h0 ad1 o6) (pe8 : Exa Z h0 ad2 o7) (pa9 : Arv Z h0 ad2 kc5 (.object "java/lang/Object") 10 [.ref ad6, .ref ad7, .null, .null, .null, .null, .null, .null, .null, .null] .null) (po9 : Ovr Z kc5 "java/lang/Object") (pg_ad2 : n0 ≤ ad2) (pg_ad0 : n0 ≤ ad0) :
    o16 l o156 jdk_38_method_24_code 4 none ws ⟨0, 0, 0, 0⟩ Z h0 #[.ref ad0, .ref ad1, .ref ad2, .int 2] (fun v h L => v = none ∧ Fr n0 L ∧ Keep h0 h [ad2, ad0] ∧ Exa Z h ad2 o7 ∧ Arv Z h ad2 kc5 (.object "java/lang/Object") 10 [.ref ad6, .ref ad7, .ref ad1, .null, .null, .null, .null, .null, .null, .null] .null ∧ Exa Z h ad0 o3 ∧ Fld Z h ad0 o8 o9 "I" (.int iv3) ∧ Fld Z h ad0 o3 o13 o7 (.ref ad2) ∧ Fld Z h ad0 o3 "size" "I" (.int 3)) := by
  refine o15 (plainFor_of_name o24) ?_
  intro p e s m below meth c s₁ hx hby hml hown hnm hret hlk hZ e0 X0
  have N0 := Fr.nil n0
  refine o2 (fun u j => castTop (show entryFrame m #[.ref ad0, .ref ad1, .ref ad2, .int 2] 4 = mkF m 0 #[.val (.ref ad0), .val (.ref ad1), .val (.ref ad2), .val (.int 2)] [] from rfl) j) ?_
  refine o2 (fun u j => o4 X0.here hx rfl (hb hby o150) rfl (o1 X0.here hx rfl (hb hby o151) rfl rfl (o65 X0 hx hZ e0 pa9 rfl rfl (hb hby o152) (o23 X0.here hx rfl (pc0 := 3) (pc' := 11) rfl (hb hby o153) rfl (o139 (by decide)) (by decide) (by decide) (o1 X0.here hx rfl (hb hby o125) rfl rfl (o4 X0.here hx rfl (hb hby o126) rfl j)))))) ?_
  show o17 p e below _ (s₁.setTop (mkF m 13 #[.val (.ref ad0), .val (.ref ad1), .val (.ref ad2), .val (.int 2)] [.int 2, .ref ad2]))
  refine o2 (fun u j => o1 X0.here hx rfl (hb hby o127) rfl rfl j) ?_
  have q_ := id pa9
  obtain ⟨cl2628, Ar2628, q2628, S2628, N2628, H2628, G2628⟩ := q_
  have hi2628 : ¬ ((2 : Int32) < 0 ∨ cl2628.slots.size ≤ ((2 : Int32)).toNatClampNeg) := inb_of S2628 ⟨by decide, by decide⟩
  have q_ := stR X0 hx hZ e0 Ar2628 (j := (2 : Int32)) hi2628 rfl (Sto.ofV Ar2628 q2628 po9 (Ins.of_exa pe5 (o0 hw 121 rfl))) (g := (mkF m 14 #[.val (.ref ad0), .val (.ref ad1), .val (.ref ad2), .val (.int 2)] [.ref ad1, .int 2, .ref ad2])) rfl rfl (hb hby o128)
  obtain ⟨T2629, h2629, X2629, e2629, W2629, st2629⟩ := q_
  have N2629 := Fr.snoc X2629 N0 pg_ad2
  have V2629 : Arv Z h2629 ad2 kc5 (.object "java/lang/Object") 10 [.ref ad6, .ref ad7, .ref ad1, .null, .null, .null, .null, .null, .null, .null] .null := Arv.set Ar2628 q2628 S2628 N2628 H2628 G2628 rfl W2629 2 rfl (Nat.le_of_ble_eq_true rfl)
  refine o2 (fun u j => st2629 u j) ?_
  refine o2 (fun u j => o1 X2629.here hx rfl (hb hby o129) rfl rfl (o4 X2629.here hx rfl (hb hby o130) rfl (o5 X2629.here hx rfl (hb hby o131) (o36 X2629.here hx rfl (hb hby o132) rfl j)))) ?_
  have F2630 := (Exa.wr W2629 pe1)
  have ne2631 := (ne_exa pe1 pe8 o652)
  have F2632 := (Fld.other W2629 pf4 (Or.inl ne2631))
  refine o32 (putF X2629 hx hZ hown (host := "") (Or.inl (o0 hw 83 rfl)) Via.refl e2629 F2632 F2630 (Or.inl (o0 hw 84 rfl)) (o0 hw 39 rfl) (ty := .int) o18 rfl rfl rfl rfl (hb hby o133)) ?_
  intro T2633 h2633 X2633 e2633 W2633
  have N2633 := Fr.snoc X2633 N2629 pg_ad0
  have F2634 : Fld Z h2633 ad0 o3 "size" "I" (.int 3) := Fld.same W2633 F2632
  have K2635 := (Keep.refl h0 [ad2, ad0]).wr W2629 (Or.inl (List.mem_of_getElem? (i := 0) rfl))
  have K2636 := K2635.wr W2633 (Or.inl (List.mem_of_getElem? (i := 1) rfl))
  have F2637 := (Exa.wr W2633 (Exa.wr W2629 pe8))
  have F2638 := (V2629.other W2633 (Ne.symm ne2631))
  have F2639 := (Exa.wr W2633 F2630)
  have F2640 := (Fld.other W2633 (Fld.other W2629 pf2 (Or.inl ne2631)) (Or.inr (o116 hw)))
  have F2641 := (Fld.other W2633 (Fld.other W2629 pf3 (Or.inl ne2631)) (Or.inr (o117 hw)))
  exact o48 X2633 hx hlk hret (hb hby o134) (by decide) (by decide) (by rw [e2633]; exact ⟨rfl, N2633, K2636, F2637, F2638, F2639, F2640, F2641, F2634⟩)
theorem o976 (l : Launch) (Z : State) (a0 : Array Value) (hw : o21 a0 Z) (ws : List Jvm.Cond) (wcs : Int32) (wd mOA mSL mAL : Addr) (kd : ClassId) (hS : o22 Z wcs wd mOA mSL mAL kd) (ad0 ad1 : Addr) (iv2 : Int32) (ad3 : Addr) (kc5 : ClassId) (ad6 ad7 : Addr) (h0 : Heap) (n0 : Nat) (O0 : Old Z n0 h0) (pe1 : Exa Z h0 ad0 o3) (pf2 : Fld Z h0 ad0 o8 o9 "I" (.int iv2)) (pf3 : Fld Z h0 ad0 o3 o13 o7 (.ref ad3)) (pf4 : Fld Z h0 ad0 o3 "size" "I" (.int 2)) (pe5 : Exa Z h0 ad1 o6) (pe8 : Exa Z h0 ad3 o7) (pa9 : Arv Z h0 ad3 kc5 (.object "java/lang/Object") 10 [.ref ad6, .ref ad7, .null, .null, .null, .null, .null, .null, .null, .null] .null) (po9 : Ovr Z kc5 "java/lang/Object") (pg_ad0 : n0 ≤ ad0) (pg_ad3 : n0 ≤ ad3) :
    o16 l o137 jdk_38_method_25_code 2 (some .boolean) ws ⟨1, 0, 0, 15⟩ Z h0 #[.ref ad0, .ref ad1] (fun v h L => v = some (.int 1) ∧ Fr n0 L ∧ Keep h0 h [ad0, ad3] ∧ Exa Z h ad0 o3 ∧ Fld Z h ad0 o8 o9 "I" (.int (iv2 + (1 : Int32))) ∧ Fld Z h ad0 o3 o13 o7 (.ref ad3) ∧ Fld Z h ad0 o3 "size" "I" (.int 3) ∧ Exa Z h ad3 o7 ∧ Arv Z h ad3 kc5 (.object "java/lang/Object") 10 [.ref ad6, .ref ad7, .ref ad1, .null, .null, .null, .null, .null, .null, .null] .null) := by
  refine o15 (plainFor_of_name o24) ?_
  intro p e s m below meth c s₁ hx hby hml hown hnm hret hlk hZ e0 X0
  have N0 := Fr.nil n0
  refine o2 (fun u j => castTop (show entryFrame m #[.ref ad0, .ref ad1] 2 = mkF m 0 #[.val (.ref ad0), .val (.ref ad1)] [] from rfl) j) ?_
  refine o2 (fun u j => o1 X0.here hx rfl (hb hby o144) rfl rfl (o40 X0.here hx rfl (hb hby o145) rfl rfl j)) ?_
  refine o19 (getF X0 hx hZ hown (host := "") (Or.inl (o0 hw 98 rfl)) (Via.of (o0 hw 99 rfl)) e0 pf2 rfl rfl (hb hby o146)) ?_
  intro T2655 X2655 e2655
  refine o2 (fun u j => o5 X2655.here hx rfl (hb hby o147) (o36 X2655.here hx rfl (hb hby o148) rfl j)) ?_
  refine o32 (putF X2655 hx hZ hown (host := "") (Or.inl (o0 hw 98 rfl)) (Via.of (o0 hw 99 rfl)) e2655 pf2 pe1 (Or.inl (o0 hw 58 rfl)) (o0 hw 39 rfl) (ty := .int) o18 rfl rfl rfl rfl (hb hby o149)) ?_
  intro T2656 h2656 X2656 e2656 W2656
  have N2656 := Fr.snoc X2656 N0 pg_ad0
  have F2657 : Fld Z h2656 ad0 o8 o9 "I" (.int (iv2 + (1 : Int32))) := Fld.same W2656 pf2
  refine o2 (fun u j => o1 X2656.here hx rfl (hb hby o118) rfl rfl (o1 X2656.here hx rfl (hb hby o119) rfl rfl (o1 X2656.here hx rfl (hb hby o120) rfl rfl j))) ?_
  have F2658 := (Fld.other W2656 pf3 (Or.inr (o196 hw)))
  refine o19 (getF X2656 hx hZ hown (host := "") (Or.inl (o0 hw 60 rfl)) Via.refl e2656 F2658 rfl rfl (hb hby o121)) ?_
  intro T2659 X2659 e2659
  refine o2 (fun u j => o1 X2659.here hx rfl (hb hby o122) rfl rfl j) ?_
  have F2660 := (Fld.other W2656 pf4 (Or.inr (o197 hw)))
  refine o19 (getF X2659 hx hZ hown (host := "") (Or.inl (o0 hw 83 rfl)) Via.refl e2659 F2660 rfl rfl (hb hby o123)) ?_
  intro T2661 X2661 e2661
  have F2662 := (Exa.wr W2656 pe1)
  have F2663 := (Exa.wr W2656 pe5)
  have F2664 := (Exa.wr W2656 pe8)
  have ne2665 := (ne_exa pe8 pe1 o143)
  have F2666 := (pa9.other W2656 ne2665)
  have O2668 := O0.wr W2656 pg_ad0
  refine o11 (o62 X2661 hx hZ (y := o156) hown (o0 hw 100 rfl) (o0 hw 101 rfl) (mvT hZ (o0 hw 103 rfl)) (o0 hw 102 rfl) (o0 hw 40 rfl) (o0 hw 104 rfl) o42 (o975 l Z a0 hw [] wcs wd mOA mSL mAL kd hS ad0 ad1 ad3 (iv2 + (1 : Int32)) kc5 ad6 ad7 h2656 n0 O2668 F2662 F2657 F2658 F2660 F2663 F2664 F2666 po9 pg_ad3 pg_ad0) e2661 F2662 o387 (argsL := [.ref ad1, .ref ad3, .int 2]) (rest := []) rfl rfl (g := (mkF m 20 #[.val (.ref ad0), .val (.ref ad1)] [.int 2, .ref ad3, .ref ad1, .ref ad0])) rfl (by rw [hml]; rfl) rfl (hb hby o124) (W := 0) rfl (by decide) (by decide) (by decide) (by decide)) ?_
  intro T2667 v2667 L2667 X2667 hQ2667
  obtain ⟨rfl, M2667, K2667, F2669, F2670, F2671, F2672, F2673, F2674⟩ := hQ2667
  have N2667 := Fr.app N2656 M2667
  refine o2 (fun u j => o5 X2667.here hx rfl (hb hby o135) j) ?_
  have K2675 := (Keep.refl h0 [ad0, ad3]).wr W2656 (Or.inl (List.mem_of_getElem? (i := 0) rfl))
  have K2676 := K2675.trans K2667 (allS (Or.inl (List.mem_of_getElem? (i := 1) rfl)) (allS (Or.inl (List.mem_of_getElem? (i := 0) rfl)) all0))
  exact o20 X2667 hx hlk hret rfl (Or.inl ⟨rfl, by simp, _, rfl⟩) (hb hby o136) (by decide) (by decide) (by exact ⟨rfl, N2667, K2676, F2671, F2672, F2673, F2674, F2669, F2670⟩)
theorem o892 (l : Launch) (Z : State) (a0 : Array Value) (hw : o21 a0 Z) (ws : List Jvm.Cond) (wcs : Int32) (wd mOA mSL mAL : Addr) (kd : ClassId) (hS : o22 Z wcs wd mOA mSL mAL kd) (ad0 ad1 : Addr) (ad2 ad3 : Addr) (iv4 : Int32) (ad5 : Addr) (kc6 : ClassId) (iv7 : Int32) (lv8 : List Value) (kc9 : ClassId) (ad10 ad11 : Addr) (ad12 ad13 : Addr) (kc14 : ClassId) (iv15 : Int32) (lv16 : List Value) (kc17 : ClassId) (iv18 : Int32) (lv19 : List Value) (h0 : Heap) (n0 : Nat) (O0 : Old Z n0 h0) (pe1 : Exa Z h0 ad0 o54) (pf2 : Fld Z h0 ad0 o54 "path" o66 (.ref ad2)) (pe3 : Exa Z h0 ad1 o6) (pf4 : Fld Z h0 ad1 o6 "coder" "B" (.int 0)) (pf5 : Fld Z h0 ad1 o6 "value" "[B" (.ref ad3)) (pe6 : Exa Z h0 ad2 o3) (pf7 : Fld Z h0 ad2 o8 o9 "I" (.int iv4)) (pf8 : Fld Z h0 ad2 o3 o13 o7 (.ref ad5)) (pf9 : Fld Z h0 ad2 o3 "size" "I" (.int 2)) (pa11 : Arv Z h0 ad3 kc6 .byte iv7 lv8 (.int 0)) (pe12 : Exa Z h0 ad5 o7) (pa13 : Arv Z h0 ad5 kc9 (.object "java/lang/Object") 10 [.ref ad10, .ref ad11, .null, .null, .null, .null, .null, .null, .null, .null] .null) (pe14 : Exa Z h0 ad10 o6) (pf15 : Fld Z h0 ad10 o6 "coder" "B" (.int 0)) (pf16 : Fld Z h0 ad10 o6 "value" "[B" (.ref ad12)) (pe17 : Exa Z h0 ad11 o6) (pf18 : Fld Z h0 ad11 o6 "coder" "B" (.int 0)) (pf19 : Fld Z h0 ad11 o6 "value" "[B" (.ref ad13)) (pa21 : Arv Z h0 ad12 kc14 .byte iv15 lv16 (.int 0)) (pa23 : Arv Z h0 ad13 kc17 .byte iv18 lv19 (.int 0)) (po13 : Ovr Z kc9 "java/lang/Object") (pk_0 : ¬ iv7 = iv15) (pk_1 : ¬ iv7 = iv18) (pg_ad2 : n0 ≤ ad2) (pg_ad5 : n0 ≤ ad5) (pn_ad1_ad10 : ad1 ≠ ad10) (pn_ad1_ad11 : ad1 ≠ ad11) :
    o16 l o63 prog_33_method_2_code 3 (some (.object "com/example/temanggung/temanggung/beans/factory/Creating")) ws ⟨5, 0, 0, 73⟩ Z h0 #[.ref ad0, .ref ad1] (fun v h L => v = some (.ref ad0) ∧ Fr n0 L ∧ Keep h0 h [ad2, ad5] ∧ Exa Z h ad2 o3 ∧ Fld Z h ad2 o8 o9 "I" (.int (iv4 + (1 : Int32))) ∧ Fld Z h ad2 o3 o13 o7 (.ref ad5) ∧ Fld Z h ad2 o3 "size" "I" (.int 3) ∧ Exa Z h ad5 o7 ∧ Arv Z h ad5 kc9 (.object "java/lang/Object") 10 [.ref ad10, .ref ad11, .ref ad1, .null, .null, .null, .null, .null, .null, .null] .null) := by
  refine o15 (plainFor_of_name o76) ?_
  intro p e s m below meth c s₁ hx hby hml hown hnm hret hlk hZ e0 X0
  have N0 := Fr.nil n0
  refine o2 (fun u j => castTop (show entryFrame m #[.ref ad0, .ref ad1] 3 = mkF m 0 #[.val (.ref ad0), .val (.ref ad1), .unset] [] from rfl) j) ?_
  refine o2 (fun u j => o1 X0.here hx rfl (hb hby o320) rfl rfl (o1 X0.here hx rfl (hb hby o321) rfl rfl j)) ?_
  refine o11 (o26 X0 hx hZ (y := o39) (z := o39) hown (o0 hw 69 rfl) (o0 hw 70 rfl) (notFace_of_selects (args := #[]) (mvT hZ (o0 hw 72 rfl))) (o0 hw 72 rfl) (o0 hw 71 rfl) (o0 hw 33 rfl) (o0 hw 73 rfl) o44 (o891 l Z a0 hw [] wcs wd mOA mSL mAL kd hS ad0 ad1 ad2 ad3 ad5 kc6 iv7 lv8 kc9 ad10 ad11 ad12 ad13 kc14 iv15 lv16 kc17 iv18 lv19 h0 n0 O0 pf2 pe3 pf4 pf5 pe6 pf8 pf9 pa11 pa13 pe14 pf15 pf16 pe17 pf18 pf19 pa21 pa23 pk_0 pk_1 pn_ad1_ad10 pn_ad1_ad11) e0 pe1 o77 (argsL := [.ref ad1]) (rest := []) rfl rfl (g := (mkF m 2 #[.val (.ref ad0), .val (.ref ad1), .unset] [.ref ad1, .ref ad0])) rfl (by rw [hml]; rfl) rfl (hb hby o322) (W := 0) rfl (by decide) (by decide) (by decide) (by decide)) ?_
  intro T2684 v2684 L2684 X2684 hQ2684
  obtain ⟨rfl, M2684, e2684⟩ := hQ2684
  have N2684 := Fr.app N0 M2684
  refine o2 (fun u j => o31 X2684.here hx rfl (hb hby o323) rfl rfl (l' := #[.val (.ref ad0), .val (.ref ad1), .val .null]) rfl (o1 X2684.here hx rfl (hb hby o324) rfl rfl (XS.ifnullYes X2684.here hx rfl (pc0 := 7) (pc' := 19) rfl (hb hby o325) rfl (by decide) (by decide) (o1 X2684.here hx rfl (hb hby o246) rfl rfl j)))) ?_
  refine o19 (getF X2684 hx hZ hown (host := "") (Or.inl (o0 hw 62 rfl)) Via.refl e2684 pf2 rfl rfl (hb hby o247)) ?_
  intro T2685 X2685 e2685
  refine o2 (fun u j => o1 X2685.here hx rfl (hb hby o248) rfl rfl j) ?_
  refine o11 (o29 X2685 hx hZ (y := o367) (z := o137) hown (o0 hw 90 rfl) (o0 hw 91 rfl) (mvT hZ (o0 hw 92 rfl)) (o0 hw 93 rfl) (o0 hw 94 rfl) (o0 hw 95 rfl) (o0 hw 96 rfl) (o0 hw 81 rfl) (o0 hw 40 rfl) (o0 hw 97 rfl) o27 (o976 l Z a0 hw [] wcs wd mOA mSL mAL kd hS ad2 ad1 iv4 ad5 kc9 ad10 ad11 h0 n0 O0 pe6 pf7 pf8 pf9 pe3 pe12 pa13 po13 pg_ad2 pg_ad5) e2685 pe6 o46 (argsL := [.ref ad1]) (rest := []) rfl rfl (g := (mkF m 24 #[.val (.ref ad0), .val (.ref ad1), .val .null] [.ref ad1, .ref ad2])) rfl (by rw [hml]; rfl) rfl (hb hby o249) (W := 0) rfl (by decide) (by decide) (by decide) (by decide)) ?_
  intro T2686 v2686 L2686 X2686 hQ2686
  obtain ⟨rfl, M2686, K2686, F2687, F2688, F2689, F2690, F2691, F2692⟩ := hQ2686
  have N2686 := Fr.app N2684 M2686
  refine o2 (fun u j => o55 X2686.here hx rfl (hb hby o252) rfl rfl (o1 X2686.here hx rfl (hb hby o253) rfl rfl j)) ?_
  have K2693 := (Keep.refl h0 [ad2, ad5]).trans K2686 (allS (Or.inl (List.mem_of_getElem? (i := 0) rfl)) (allS (Or.inl (List.mem_of_getElem? (i := 1) rfl)) all0))
  exact o20 X2686 hx hlk hret rfl (Or.inr (Or.inr (Or.inr (Or.inr ⟨rfl, rfl, rfl⟩)))) (hb hby o254) (by decide) (by decide) (by exact ⟨rfl, N2686, K2693, F2687, F2688, F2689, F2690, F2691, F2692⟩)
theorem o977 (l : Launch) (Z : State) (a0 : Array Value) (hw : o21 a0 Z) (ws : List Jvm.Cond) (wcs : Int32) (wd mOA mSL mAL : Addr) (kd : ClassId) (hS : o22 Z wcs wd mOA mSL mAL kd) (ad0 ad1 : Addr) (iv2 : Int32) (kc3 : ClassId) (ad4 ad5 ad6 : Addr) (h0 : Heap) (n0 : Nat) (O0 : Old Z n0 h0) (pe1 : Exa Z h0 ad0 o3) (pf2 : Fld Z h0 ad0 o8 o9 "I" (.int iv2)) (pf3 : Fld Z h0 ad0 o3 o13 o7 (.ref ad1)) (pf4 : Fld Z h0 ad0 o3 "size" "I" (.int 3)) (pe5 : Exa Z h0 ad1 o7) (pa6 : Arv Z h0 ad1 kc3 (.object "java/lang/Object") 10 [.ref ad4, .ref ad5, .ref ad6, .null, .null, .null, .null, .null, .null, .null] .null) (pg_ad0 : n0 ≤ ad0) (pg_ad1 : n0 ≤ ad1) :
    o16 l o576 jdk_38_method_39_code 4 none ws ⟨0, 0, 0, 0⟩ Z h0 #[.ref ad0, .ref ad1, .int 2] (fun v h L => v = none ∧ Fr n0 L ∧ Keep h0 h [ad0, ad1] ∧ Exa Z h ad0 o3 ∧ Fld Z h ad0 o8 o9 "I" (.int (iv2 + (1 : Int32))) ∧ Fld Z h ad0 o3 o13 o7 (.ref ad1) ∧ Fld Z h ad0 o3 "size" "I" (.int 2) ∧ Exa Z h ad1 o7 ∧ Arv Z h ad1 kc3 (.object "java/lang/Object") 10 [.ref ad4, .ref ad5, .null, .null, .null, .null, .null, .null, .null, .null] .null) := by
  refine o15 (plainFor_of_name o24) ?_
  intro p e s m below meth c s₁ hx hby hml hown hnm hret hlk hZ e0 X0
  have N0 := Fr.nil n0
  refine o2 (fun u j => castTop (show entryFrame m #[.ref ad0, .ref ad1, .int 2] 4 = mkF m 0 #[.val (.ref ad0), .val (.ref ad1), .val (.int 2), .unset] [] from rfl) j) ?_
  refine o2 (fun u j => o1 X0.here hx rfl (hb hby o502) rfl rfl (o40 X0.here hx rfl (hb hby o503) rfl rfl j)) ?_
  refine o19 (getF X0 hx hZ hown (host := "") (Or.inl (o0 hw 98 rfl)) (Via.of (o0 hw 99 rfl)) e0 pf2 rfl rfl (hb hby o504)) ?_
  intro T2745 X2745 e2745
  refine o2 (fun u j => o5 X2745.here hx rfl (hb hby o505) (o36 X2745.here hx rfl (hb hby o506) rfl j)) ?_
  refine o32 (putF X2745 hx hZ hown (host := "") (Or.inl (o0 hw 98 rfl)) (Via.of (o0 hw 99 rfl)) e2745 pf2 pe1 (Or.inl (o0 hw 58 rfl)) (o0 hw 39 rfl) (ty := .int) o18 rfl rfl rfl rfl (hb hby o507)) ?_
  intro T2746 h2746 X2746 e2746 W2746
  have N2746 := Fr.snoc X2746 N0 pg_ad0
  have F2747 : Fld Z h2746 ad0 o8 o9 "I" (.int (iv2 + (1 : Int32))) := Fld.same W2746 pf2
  refine o2 (fun u j => o1 X2746.here hx rfl (hb hby o439) rfl rfl j) ?_
  have F2748 := (Fld.other W2746 pf4 (Or.inr (o197 hw)))
  refine o19 (getF X2746 hx hZ hown (host := "") (Or.inl (o0 hw 83 rfl)) Via.refl e2746 F2748 rfl rfl (hb hby o440)) ?_
  intro T2749 X2749 e2749
  refine o2 (fun u j => o5 X2749.here hx rfl (hb hby o441) (o38 X2749.here hx rfl (hb hby o442) rfl (o40 X2749.here hx rfl (hb hby o443) rfl rfl (o45 X2749.here hx rfl (hb hby o444) rfl (l' := #[.val (.ref ad0), .val (.ref ad1), .val (.int 2), .val (.int 2)]) rfl (o4 X2749.here hx rfl (hb hby o445) rfl (o23 X2749.here hx rfl (pc0 := 19) (pc' := 34) rfl (hb hby o446) rfl (o82 (by decide)) (by decide) (by decide) j)))))) ?_
  show o17 p e below _ (T2749.setTop (mkF m 34 #[.val (.ref ad0), .val (.ref ad1), .val (.int 2), .val (.int 2)] []))
  refine o2 (fun u j => o1 X2749.here hx rfl (hb hby o447) rfl rfl (o1 X2749.here hx rfl (hb hby o448) rfl rfl (o4 X2749.here hx rfl (hb hby o449) rfl (XS.dupX1 X2749.here hx rfl (hb hby o450) rfl rfl rfl j)))) ?_
  have F2750 := (Exa.wr W2746 pe1)
  refine o32 (putF X2749 hx hZ hown (host := "") (Or.inl (o0 hw 83 rfl)) Via.refl e2749 F2748 F2750 (Or.inl (o0 hw 84 rfl)) (o0 hw 39 rfl) (ty := .int) o18 rfl rfl rfl rfl (hb hby o451)) ?_
  intro T2751 h2751 X2751 e2751 W2751
  have N2751 := Fr.snoc X2751 N2746 pg_ad0
  have F2752 : Fld Z h2751 ad0 o3 "size" "I" (.int 2) := Fld.same W2751 F2748
  refine o2 (fun u j => o49 X2751.here hx rfl (hb hby o452) j) ?_
  have ne2753 := (ne_exa pe5 pe1 o143)
  have F2754 := ((pa6.other W2746 ne2753).other W2751 ne2753)
  have q_ := id F2754
  obtain ⟨cl2755, Ar2755, q2755, S2755, N2755, H2755, G2755⟩ := q_
  have hi2755 : ¬ ((2 : Int32) < 0 ∨ cl2755.slots.size ≤ ((2 : Int32)).toNatClampNeg) := inb_of S2755 ⟨by decide, by decide⟩
  have q_ := stR X2751 hx hZ e2751 Ar2755 (j := (2 : Int32)) hi2755 rfl (Or.inl rfl) (g := (mkF m 42 #[.val (.ref ad0), .val (.ref ad1), .val (.int 2), .val (.int 2)] [.null, .int 2, .ref ad1])) rfl rfl (hb hby o453)
  obtain ⟨T2756, h2756, X2756, e2756, W2756, st2756⟩ := q_
  have N2756 := Fr.snoc X2756 N2751 pg_ad1
  have V2756 : Arv Z h2756 ad1 kc3 (.object "java/lang/Object") 10 [.ref ad4, .ref ad5, .null, .null, .null, .null, .null, .null, .null, .null] .null := Arv.set Ar2755 q2755 S2755 N2755 H2755 G2755 rfl W2756 2 rfl (Nat.le_of_ble_eq_true rfl)
  refine o2 (fun u j => st2756 u j) ?_
  have K2757 := (Keep.refl h0 [ad0, ad1]).wr W2746 (Or.inl (List.mem_of_getElem? (i := 0) rfl))
  have K2758 := K2757.wr W2751 (Or.inl (List.mem_of_getElem? (i := 0) rfl))
  have K2759 := K2758.wr W2756 (Or.inl (List.mem_of_getElem? (i := 1) rfl))
  have F2760 := (Exa.wr W2756 (Exa.wr W2751 F2750))
  have F2761 := (Fld.other W2756 (Fld.other W2751 F2747 (Or.inr (o116 hw))) (Or.inl (Ne.symm ne2753)))
  have F2762 := (Fld.other W2756 (Fld.other W2751 (Fld.other W2746 pf3 (Or.inr (o196 hw))) (Or.inr (o117 hw))) (Or.inl (Ne.symm ne2753)))
  have F2763 := (Fld.other W2756 F2752 (Or.inl (Ne.symm ne2753)))
  have F2764 := (Exa.wr W2756 (Exa.wr W2751 (Exa.wr W2746 pe5)))
  exact o48 X2756 hx hlk hret (hb hby o454) (by decide) (by decide) (by rw [e2756]; exact ⟨rfl, N2756, K2759, F2760, F2761, F2762, F2763, F2764, V2756⟩)
theorem o978 (l : Launch) (Z : State) (a0 : Array Value) (hw : o21 a0 Z) (ws : List Jvm.Cond) (wcs : Int32) (wd mOA mSL mAL : Addr) (kd : ClassId) (hS : o22 Z wcs wd mOA mSL mAL kd) (ad0 : Addr) (iv1 : Int32) (ad2 : Addr) (kc3 : ClassId) (ad4 ad5 ad6 : Addr) (h0 : Heap) (n0 : Nat) (O0 : Old Z n0 h0) (pe1 : Exa Z h0 ad0 o3) (pf2 : Fld Z h0 ad0 o8 o9 "I" (.int iv1)) (pf3 : Fld Z h0 ad0 o3 o13 o7 (.ref ad2)) (pf4 : Fld Z h0 ad0 o3 "size" "I" (.int 3)) (pe5 : Exa Z h0 ad2 o7) (pa6 : Arv Z h0 ad2 kc3 (.object "java/lang/Object") 10 [.ref ad4, .ref ad5, .ref ad6, .null, .null, .null, .null, .null, .null, .null] .null) (pg_ad0 : n0 ≤ ad0) (pg_ad2 : n0 ≤ ad2) :
    o16 l o577 jdk_38_method_29_code 4 (some (.object "java/lang/Object")) ws ⟨2, 0, 0, 27⟩ Z h0 #[.ref ad0, .int 2] (fun v h L => v = some (.ref ad6) ∧ Fr n0 L ∧ Keep h0 h [ad0, ad2] ∧ Exa Z h ad0 o3 ∧ Fld Z h ad0 o8 o9 "I" (.int (iv1 + (1 : Int32))) ∧ Fld Z h ad0 o3 o13 o7 (.ref ad2) ∧ Fld Z h ad0 o3 "size" "I" (.int 2) ∧ Exa Z h ad2 o7 ∧ Arv Z h ad2 kc3 (.object "java/lang/Object") 10 [.ref ad4, .ref ad5, .null, .null, .null, .null, .null, .null, .null, .null] .null) := by
  refine o15 (plainFor_of_name o24) ?_
  intro p e s m below meth c s₁ hx hby hml hown hnm hret hlk hZ e0 X0
  have N0 := Fr.nil n0
  refine o2 (fun u j => castTop (show entryFrame m #[.ref ad0, .int 2] 4 = mkF m 0 #[.val (.ref ad0), .val (.int 2), .unset, .unset] [] from rfl) j) ?_
  refine o2 (fun u j => o4 X0.here hx rfl (hb hby o496) rfl (o1 X0.here hx rfl (hb hby o497) rfl rfl j)) ?_
  refine o19 (getF X0 hx hZ hown (host := "") (Or.inl (o0 hw 83 rfl)) Via.refl e0 pf4 rfl rfl (hb hby o498)) ?_
  intro T2772 X2772 e2772
  refine o11 (o25 X2772 hx hZ (y := o592) hown (o0 hw 154 rfl) (o0 hw 155 rfl) (o0 hw 156 rfl) (o0 hw 157 rfl) o604 (o842 l Z a0 hw [] wcs wd mOA mSL mAL kd hS (2 : Int32) (3 : Int32) h0 n0 O0 (by decide) (by decide)) e2772 o67 (argsL := [.int 2, .int 3]) (rest := []) rfl rfl (g := (mkF m 5 #[.val (.ref ad0), .val (.int 2), .unset, .unset] [.int 3, .int 2])) rfl (by rw [hml]; rfl) rfl (hb hby o499) (W := 0) rfl (by decide) (by decide) (by decide) (by decide)) ?_
  intro T2773 v2773 L2773 X2773 hQ2773
  obtain ⟨rfl, M2773, e2773⟩ := hQ2773
  have N2773 := Fr.app N0 M2773
  refine o2 (fun u j => o55 X2773.here hx rfl (hb hby o500) rfl rfl (o1 X2773.here hx rfl (hb hby o501) rfl rfl j)) ?_
  refine o19 (getF X2773 hx hZ hown (host := "") (Or.inl (o0 hw 60 rfl)) Via.refl e2773 pf3 rfl rfl (hb hby o429)) ?_
  intro T2774 X2774 e2774
  refine o2 (fun u j => o31 X2774.here hx rfl (hb hby o430) rfl rfl (l' := #[.val (.ref ad0), .val (.int 2), .val (.ref ad2), .unset]) rfl (o1 X2774.here hx rfl (hb hby o431) rfl rfl (o4 X2774.here hx rfl (hb hby o432) rfl (o413 X2774 hx hZ e2774 pa6 (j := (2 : Int32)) (v := (.ref ad6)) ⟨by decide, by decide⟩ rfl rfl rfl (hb hby o433) (o31 X2774.here hx rfl (hb hby o434) rfl rfl (l' := #[.val (.ref ad0), .val (.int 2), .val (.ref ad2), .val (.ref ad6)]) rfl (o1 X2774.here hx rfl (hb hby o435) rfl rfl j)))))) ?_
  show o17 p e below _ (T2774.setTop (mkF m 19 #[.val (.ref ad0), .val (.int 2), .val (.ref ad2), .val (.ref ad6)] [.ref ad0]))
  refine o2 (fun u j => o1 X2774.here hx rfl (hb hby o436) rfl rfl (o4 X2774.here hx rfl (hb hby o437) rfl j)) ?_
  refine o11 (o62 X2774 hx hZ (y := o576) hown (o0 hw 162 rfl) (o0 hw 163 rfl) (mvT hZ (o0 hw 165 rfl)) (o0 hw 164 rfl) (o0 hw 40 rfl) (o0 hw 166 rfl) o42 (o977 l Z a0 hw [] wcs wd mOA mSL mAL kd hS ad0 ad2 iv1 kc3 ad4 ad5 ad6 h0 n0 O0 pe1 pf2 pf3 pf4 pe5 pa6 pg_ad0 pg_ad2) e2774 pe1 o651 (argsL := [.ref ad2, .int 2]) (rest := []) rfl rfl (g := (mkF m 21 #[.val (.ref ad0), .val (.int 2), .val (.ref ad2), .val (.ref ad6)] [.int 2, .ref ad2, .ref ad0])) rfl (by rw [hml]; rfl) rfl (hb hby o438) (W := 0) rfl (by decide) (by decide) (by decide) (by decide)) ?_
  intro T2775 v2775 L2775 X2775 hQ2775
  obtain ⟨rfl, M2775, K2775, F2776, F2777, F2778, F2779, F2780, F2781⟩ := hQ2775
  have N2775 := Fr.app N2773 M2775
  refine o2 (fun u j => o1 X2775.here hx rfl (hb hby o455) rfl rfl j) ?_
  have K2782 := (Keep.refl h0 [ad0, ad2]).trans K2775 (allS (Or.inl (List.mem_of_getElem? (i := 0) rfl)) (allS (Or.inl (List.mem_of_getElem? (i := 1) rfl)) all0))
  exact o20 X2775 hx hlk hret rfl (Or.inr (Or.inr (Or.inr (Or.inr ⟨rfl, rfl, rfl⟩)))) (hb hby o456) (by decide) (by decide) (by exact ⟨rfl, N2775, K2782, F2776, F2777, F2778, F2779, F2780, F2781⟩)
theorem o979 (l : Launch) (Z : State) (a0 : Array Value) (hw : o21 a0 Z) (ws : List Jvm.Cond) (wcs : Int32) (wd mOA mSL mAL : Addr) (kd : ClassId) (hS : o22 Z wcs wd mOA mSL mAL kd) (ad0 ad1 : Addr) (iv2 : Int32) (ad3 : Addr) (kc4 : ClassId) (ad5 ad6 ad7 : Addr) (h0 : Heap) (n0 : Nat) (O0 : Old Z n0 h0) (pf2 : Fld Z h0 ad0 o54 "path" o66 (.ref ad1)) (pe3 : Exa Z h0 ad1 o3) (pf4 : Fld Z h0 ad1 o8 o9 "I" (.int iv2)) (pf5 : Fld Z h0 ad1 o3 o13 o7 (.ref ad3)) (pf6 : Fld Z h0 ad1 o3 "size" "I" (.int 3)) (pe7 : Exa Z h0 ad3 o7) (pa8 : Arv Z h0 ad3 kc4 (.object "java/lang/Object") 10 [.ref ad5, .ref ad6, .ref ad7, .null, .null, .null, .null, .null, .null, .null] .null) (pg_ad1 : n0 ≤ ad1) (pg_ad3 : n0 ≤ ad3) :
    o16 l o255 prog_33_method_3_code 1 none ws ⟨3, 0, 0, 42⟩ Z h0 #[.ref ad0] (fun v h L => v = none ∧ Fr n0 L ∧ Keep h0 h [ad1, ad3] ∧ Exa Z h ad1 o3 ∧ Fld Z h ad1 o8 o9 "I" (.int (iv2 + (1 : Int32))) ∧ Fld Z h ad1 o3 o13 o7 (.ref ad3) ∧ Fld Z h ad1 o3 "size" "I" (.int 2) ∧ Exa Z h ad3 o7 ∧ Arv Z h ad3 kc4 (.object "java/lang/Object") 10 [.ref ad5, .ref ad6, .null, .null, .null, .null, .null, .null, .null, .null] .null) := by
  refine o15 (plainFor_of_name o76) ?_
  intro p e s m below meth c s₁ hx hby hml hown hnm hret hlk hZ e0 X0
  have N0 := Fr.nil n0
  refine o2 (fun u j => castTop (show entryFrame m #[.ref ad0] 1 = mkF m 0 #[.val (.ref ad0)] [] from rfl) j) ?_
  refine o2 (fun u j => o1 X0.here hx rfl (hb hby o491) rfl rfl j) ?_
  refine o19 (getF X0 hx hZ hown (host := "") (Or.inl (o0 hw 62 rfl)) Via.refl e0 pf2 rfl rfl (hb hby o492)) ?_
  intro T2790 X2790 e2790
  refine o2 (fun u j => o1 X2790.here hx rfl (hb hby o493) rfl rfl j) ?_
  refine o19 (getF X2790 hx hZ hown (host := "") (Or.inl (o0 hw 62 rfl)) Via.refl e2790 pf2 rfl rfl (hb hby o494)) ?_
  intro T2791 X2791 e2791
  refine o11 (o29 X2791 hx hZ (y := o186) (z := o154) hown (o0 hw 138 rfl) (o0 hw 139 rfl) (mvT hZ (o0 hw 140 rfl)) (o0 hw 141 rfl) (o0 hw 142 rfl) (o0 hw 143 rfl) (o0 hw 144 rfl) (o0 hw 81 rfl) (o0 hw 40 rfl) (o0 hw 145 rfl) o27 (o591 l Z a0 hw [] wcs wd mOA mSL mAL kd hS ad1 (3 : Int32) h0 n0 O0 pf6) e2791 pe3 o142 (argsL := []) (rest := [.ref ad1]) rfl rfl (g := (mkF m 8 #[.val (.ref ad0)] [.ref ad1, .ref ad1])) rfl (by rw [hml]; rfl) rfl (hb hby o495) (W := 1) rfl (by decide) (by decide) (by decide) (by decide)) ?_
  intro T2792 v2792 L2792 X2792 hQ2792
  obtain ⟨rfl, M2792, e2792⟩ := hQ2792
  have N2792 := Fr.app N0 M2792
  refine o2 (fun u j => o5 X2792.here hx rfl (hb hby o426) (o38 X2792.here hx rfl (hb hby o427) rfl j)) ?_
  refine o11 (o29 X2792 hx hZ (y := o677) (z := o577) hown (o0 hw 146 rfl) (o0 hw 147 rfl) (mvT hZ (o0 hw 148 rfl)) (o0 hw 149 rfl) (o0 hw 150 rfl) (o0 hw 151 rfl) (o0 hw 152 rfl) (o0 hw 81 rfl) (o0 hw 40 rfl) (o0 hw 153 rfl) o27 (o978 l Z a0 hw [] wcs wd mOA mSL mAL kd hS ad1 iv2 ad3 kc4 ad5 ad6 ad7 h0 n0 O0 pe3 pf4 pf5 pf6 pe7 pa8 pg_ad1 pg_ad3) e2792 pe3 o71 (argsL := [.int 2]) (rest := []) rfl rfl (g := (mkF m 15 #[.val (.ref ad0)] [.int 2, .ref ad1])) rfl (by rw [hml]; rfl) rfl (hb hby o428) (W := 0) rfl (by decide) (by decide) (by decide) (by decide)) ?_
  intro T2793 v2793 L2793 X2793 hQ2793
  obtain ⟨rfl, M2793, K2793, F2794, F2795, F2796, F2797, F2798, F2799⟩ := hQ2793
  have N2793 := Fr.app N2792 M2793
  refine o2 (fun u j => o55 X2793.here hx rfl (hb hby o457) rfl rfl j) ?_
  have K2800 := (Keep.refl h0 [ad1, ad3]).trans K2793 (allS (Or.inl (List.mem_of_getElem? (i := 0) rfl)) (allS (Or.inl (List.mem_of_getElem? (i := 1) rfl)) all0))
  exact o48 X2793 hx hlk hret (hb hby o458) (by decide) (by decide) (by exact ⟨rfl, N2793, K2800, F2794, F2795, F2796, F2797, F2798, F2799⟩)
theorem o776 : decode method_3_code 86 = .ok (.aload_n 0, 1) := by decide +kernel
theorem o777 : decode method_3_code 87 = .ok (.iconst 1, 1) := by decide +kernel
theorem o778 : decode method_3_code 88 = .ok (.invokeinterface 39 2, 5) := by decide +kernel
theorem o779 : decode method_3_code 93 = .ok (.checkcast 7, 3) := by decide +kernel
theorem o780 : decode method_3_code 96 = .ok (.aload 4, 2) := by decide +kernel
theorem o781 : decode method_3_code 98 = .ok (.invokevirtual 43, 3) := by decide +kernel
theorem o710 : decode method_3_code 101 = .ok (.ireturn, 1) := by decide +kernel
theorem o980 (l : Launch) (Z : State) (a0 : Array Value) (hw : o21 a0 Z) (ws : List Jvm.Cond) (wcs : Int32) (wd mOA mSL mAL : Addr) (kd : ClassId) (hS : o22 Z wcs wd mOA mSL mAL kd) (ad0 ad1 : Addr) (ad2 ad4 : Addr) (kc7 : ClassId) (h0 : Heap) (n0 : Nat) (O0 : Old Z n0 h0) (pe1 : Exa Z h0 ad0 o3) (pf3 : Fld Z h0 ad0 o3 o13 o7 (.ref ad4)) (pf4 : Fld Z h0 ad0 o3 "size" "I" (.int 3)) (pe5 : Exa Z h0 ad1 o6) (pe8 : Exa Z h0 ad2 o6) (pa12 : Arv Z h0 ad4 kc7 (.object "java/lang/Object") 3 [.ref ad1, .ref ad2, .ref ad1] .null) :
    o16 l o187 method_3_code 6 (some .boolean) ws ⟨3, 0, 0, 40⟩ Z h0 #[.ref ad0, .ref ad1, .int 0, .int 2, .ref ad2] (fun v h L => v = some (.int 1) ∧ Fr n0 L ∧ h = h0) := by
  refine o15 (plainFor_of_name o580) ?_
  intro p e s m below meth c s₁ hx hby hml hown hnm hret hlk hZ e0 X0
  have N0 := Fr.nil n0
  refine o2 (fun u j => castTop (show entryFrame m #[.ref ad0, .ref ad1, .int 0, .int 2, .ref ad2] 6 = mkF m 0 #[.val (.ref ad0), .val (.ref ad1), .val (.int 0), .val (.int 2), .val (.ref ad2), .unset] [] from rfl) j) ?_
  refine o2 (fun u j => o4 X0.here hx rfl (hb hby o388) rfl (o4 X0.here hx rfl (hb hby o389) rfl (o23 X0.here hx rfl (pc0 := 2) (pc' := 15) rfl (hb hby o390) rfl (XT.ii_lt_t (by decide)) (by decide) (by decide) (o1 X0.here hx rfl (hb hby o533) rfl rfl (o60 X0.here hx rfl (pc0 := 16) (pc' := 21) rfl (hb hby o534) rfl (by decide) (by decide) (o4 X0.here hx rfl (hb hby o535) rfl j)))))) ?_
  show o17 p e below _ (s₁.setTop (mkF m 22 #[.val (.ref ad0), .val (.ref ad1), .val (.int 0), .val (.int 2), .val (.ref ad2), .unset] [.int 2]))
  refine o2 (fun u j => o4 X0.here hx rfl (hb hby o536) rfl (o38 X0.here hx rfl (hb hby o537) rfl (o5 X0.here hx rfl (hb hby o538) (o36 X0.here hx rfl (hb hby o539) rfl (o30 X0.here hx rfl (hb hby o540) rfl (l' := #[.val (.ref ad0), .val (.ref ad1), .val (.int 0), .val (.int 2), .val (.ref ad2), .val (.int 3)]) rfl (o1 X0.here hx rfl (hb hby o541) rfl rfl j)))))) ?_
  show o17 p e below _ (s₁.setTop (mkF m 29 #[.val (.ref ad0), .val (.ref ad1), .val (.int 0), .val (.int 2), .val (.ref ad2), .val (.int 3)] [.ref ad0]))
  refine o11 (o29 X0 hx hZ (y := o186) (z := o154) hown (o0 hw 267 rfl) (o0 hw 139 rfl) (mvT hZ (o0 hw 140 rfl)) (o0 hw 141 rfl) (o0 hw 142 rfl) (o0 hw 143 rfl) (o0 hw 144 rfl) (o0 hw 81 rfl) (o0 hw 40 rfl) (o0 hw 145 rfl) o27 (o591 l Z a0 hw [] wcs wd mOA mSL mAL kd hS ad0 (3 : Int32) h0 n0 O0 pf4) e0 pe1 o142 (argsL := []) (rest := []) rfl rfl (g := (mkF m 29 #[.val (.ref ad0), .val (.ref ad1), .val (.int 0), .val (.int 2), .val (.ref ad2), .val (.int 3)] [.ref ad0])) rfl (by rw [hml]; rfl) rfl (hb hby o542) (W := 0) rfl (by decide) (by decide) (by decide) (by decide)) ?_
  intro T2839 v2839 L2839 X2839 hQ2839
  obtain ⟨rfl, M2839, e2839⟩ := hQ2839
  have N2839 := Fr.app N0 M2839
  refine o2 (fun u j => o10 X2839.here hx rfl (hb hby o543) rfl (o23 X2839.here hx rfl (pc0 := 36) (pc' := 41) rfl (hb hby o544) rfl (XT.ii_eq_t (by decide)) (by decide) (by decide) (o1 X2839.here hx rfl (hb hby o545) rfl rfl (o5 X2839.here hx rfl (hb hby o546) j)))) ?_
  refine o11 (o29 X2839 hx hZ (y := o195) (z := o155) hown (o0 hw 268 rfl) (o0 hw 269 rfl) (mvT hZ (o0 hw 270 rfl)) (o0 hw 271 rfl) (o0 hw 272 rfl) (o0 hw 273 rfl) (o0 hw 274 rfl) (o0 hw 81 rfl) (o0 hw 40 rfl) (o0 hw 275 rfl) o27 (o471 l Z a0 hw [] wcs wd mOA mSL mAL kd hS ad0 ad4 kc7 (3 : Int32) [.ref ad1, .ref ad2, .ref ad1] (0 : Int32) ad1 (3 : Int32) h0 n0 O0 pe1 pf4 (by decide) (by decide) pf3 pa12 ⟨by decide, by decide⟩ rfl) e2839 pe1 o71 (argsL := [.int 0]) (rest := []) rfl rfl (g := (mkF m 43 #[.val (.ref ad0), .val (.ref ad1), .val (.int 0), .val (.int 2), .val (.ref ad2), .val (.int 3)] [.int 0, .ref ad0])) rfl (by rw [hml]; rfl) rfl (hb hby o547) (W := 0) rfl (by decide) (by decide) (by decide) (by decide)) ?_
  intro T2840 v2840 L2840 X2840 hQ2840
  obtain ⟨rfl, M2840, e2840⟩ := hQ2840
  have N2840 := Fr.app N2839 M2840
  have q_ := castY X2840 hx hZ hown (o0 hw 1 rfl) e2840 (Ins.self pe5) (g := (mkF m 48 #[.val (.ref ad0), .val (.ref ad1), .val (.int 0), .val (.int 2), .val (.ref ad2), .val (.int 3)] [.ref ad1])) rfl rfl (hb hby o548)
  obtain ⟨T2841, X2841, e2841, st2841⟩ := q_
  refine o2 (fun u j => st2841 u j) ?_
  refine o2 (fun u j => o1 X2841.here hx rfl (hb hby o549) rfl rfl j) ?_
  refine o11 (o26 X2841 hx hZ (y := o41) (z := o41) hown (o0 hw 281 rfl) (o0 hw 282 rfl) (notFace_of_selects (args := #[]) (mvT hZ (o0 hw 283 rfl))) (o0 hw 283 rfl) (o0 hw 126 rfl) (o0 hw 3 rfl) (o0 hw 127 rfl) o70 (o256 l Z a0 hw [] wcs wd mOA mSL mAL kd hS ad1 h0 n0 O0 ) e2841 pe5 o46 (argsL := [.ref ad1]) (rest := []) rfl rfl (g := (mkF m 52 #[.val (.ref ad0), .val (.ref ad1), .val (.int 0), .val (.int 2), .val (.ref ad2), .val (.int 3)] [.ref ad1, .ref ad1])) rfl (by rw [hml]; rfl) rfl (hb hby o550) (W := 0) rfl (by decide) (by decide) (by decide) (by decide)) ?_
  intro T2842 v2842 L2842 X2842 hQ2842
  obtain ⟨rfl, M2842, e2842⟩ := hQ2842
  have N2842 := Fr.app N2840 M2842
  refine o2 (fun u j => o34 X2842.here hx rfl (hb hby o551) rfl (o33 (by decide)) (o1 X2842.here hx rfl (hb hby o552) rfl rfl (o10 X2842.here hx rfl (hb hby o553) rfl (o5 X2842.here hx rfl (hb hby o554) (o38 X2842.here hx rfl (hb hby o555) rfl j))))) ?_
  refine o11 (o29 X2842 hx hZ (y := o195) (z := o155) hown (o0 hw 268 rfl) (o0 hw 269 rfl) (mvT hZ (o0 hw 270 rfl)) (o0 hw 271 rfl) (o0 hw 272 rfl) (o0 hw 273 rfl) (o0 hw 274 rfl) (o0 hw 81 rfl) (o0 hw 40 rfl) (o0 hw 275 rfl) o27 (o471 l Z a0 hw [] wcs wd mOA mSL mAL kd hS ad0 ad4 kc7 (3 : Int32) [.ref ad1, .ref ad2, .ref ad1] (2 : Int32) ad1 (3 : Int32) h0 n0 O0 pe1 pf4 (by decide) (by decide) pf3 pa12 ⟨by decide, by decide⟩ rfl) e2842 pe1 o71 (argsL := [.int 2]) (rest := []) rfl rfl (g := (mkF m 63 #[.val (.ref ad0), .val (.ref ad1), .val (.int 0), .val (.int 2), .val (.ref ad2), .val (.int 3)] [.int 2, .ref ad0])) rfl (by rw [hml]; rfl) rfl (hb hby o556) (W := 0) rfl (by decide) (by decide) (by decide) (by decide)) ?_
  intro T2843 v2843 L2843 X2843 hQ2843
  obtain ⟨rfl, M2843, e2843⟩ := hQ2843
  have N2843 := Fr.app N2842 M2843
  have q_ := castY X2843 hx hZ hown (o0 hw 1 rfl) e2843 (Ins.self pe5) (g := (mkF m 68 #[.val (.ref ad0), .val (.ref ad1), .val (.int 0), .val (.int 2), .val (.ref ad2), .val (.int 3)] [.ref ad1])) rfl rfl (hb hby o557)
  obtain ⟨T2844, X2844, e2844, st2844⟩ := q_
  refine o2 (fun u j => st2844 u j) ?_
  refine o2 (fun u j => o1 X2844.here hx rfl (hb hby o558) rfl rfl j) ?_
  refine o11 (o26 X2844 hx hZ (y := o41) (z := o41) hown (o0 hw 281 rfl) (o0 hw 282 rfl) (notFace_of_selects (args := #[]) (mvT hZ (o0 hw 283 rfl))) (o0 hw 283 rfl) (o0 hw 126 rfl) (o0 hw 3 rfl) (o0 hw 127 rfl) o70 (o256 l Z a0 hw [] wcs wd mOA mSL mAL kd hS ad1 h0 n0 O0 ) e2844 pe5 o46 (argsL := [.ref ad1]) (rest := []) rfl rfl (g := (mkF m 72 #[.val (.ref ad0), .val (.ref ad1), .val (.int 0), .val (.int 2), .val (.ref ad2), .val (.int 3)] [.ref ad1, .ref ad1])) rfl (by rw [hml]; rfl) rfl (hb hby o559) (W := 0) rfl (by decide) (by decide) (by decide) (by decide)) ?_
  intro T2845 v2845 L2845 X2845 hQ2845
  obtain ⟨rfl, M2845, e2845⟩ := hQ2845
  have N2845 := Fr.app N2843 M2845
  refine o2 (fun u j => o43 X2845.here hx rfl (pc0 := 75) (pc' := 80) rfl (hb hby o560) rfl (o138 (by decide)) (by decide) (by decide) (o10 X2845.here hx rfl (hb hby o561) rfl (o5 X2845.here hx rfl (hb hby o562) (o28 X2845.here hx rfl (hb hby o563) rfl (o83 (by decide)) (o1 X2845.here hx rfl (hb hby o776) rfl rfl (o5 X2845.here hx rfl (hb hby o777) j)))))) ?_
  show o17 p e below _ (T2845.setTop (mkF m 88 #[.val (.ref ad0), .val (.ref ad1), .val (.int 0), .val (.int 2), .val (.ref ad2), .val (.int 3)] [.int 1, .ref ad0]))
  refine o11 (o29 X2845 hx hZ (y := o195) (z := o155) hown (o0 hw 268 rfl) (o0 hw 269 rfl) (mvT hZ (o0 hw 270 rfl)) (o0 hw 271 rfl) (o0 hw 272 rfl) (o0 hw 273 rfl) (o0 hw 274 rfl) (o0 hw 81 rfl) (o0 hw 40 rfl) (o0 hw 275 rfl) o27 (o471 l Z a0 hw [] wcs wd mOA mSL mAL kd hS ad0 ad4 kc7 (3 : Int32) [.ref ad1, .ref ad2, .ref ad1] (1 : Int32) ad2 (3 : Int32) h0 n0 O0 pe1 pf4 (by decide) (by decide) pf3 pa12 ⟨by decide, by decide⟩ rfl) e2845 pe1 o71 (argsL := [.int 1]) (rest := []) rfl rfl (g := (mkF m 88 #[.val (.ref ad0), .val (.ref ad1), .val (.int 0), .val (.int 2), .val (.ref ad2), .val (.int 3)] [.int 1, .ref ad0])) rfl (by rw [hml]; rfl) rfl (hb hby o778) (W := 0) rfl (by decide) (by decide) (by decide) (by decide)) ?_
  intro T2846 v2846 L2846 X2846 hQ2846
  obtain ⟨rfl, M2846, e2846⟩ := hQ2846
  have N2846 := Fr.app N2845 M2846
  have q_ := castY X2846 hx hZ hown (o0 hw 1 rfl) e2846 (Ins.self pe8) (g := (mkF m 93 #[.val (.ref ad0), .val (.ref ad1), .val (.int 0), .val (.int 2), .val (.ref ad2), .val (.int 3)] [.ref ad2])) rfl rfl (hb hby o779)
  obtain ⟨T2847, X2847, e2847, st2847⟩ := q_
  refine o2 (fun u j => st2847 u j) ?_
  refine o2 (fun u j => o12 X2847.here hx rfl (hb hby o780) rfl rfl j) ?_
  refine o11 (o26 X2847 hx hZ (y := o41) (z := o41) hown (o0 hw 281 rfl) (o0 hw 282 rfl) (notFace_of_selects (args := #[]) (mvT hZ (o0 hw 283 rfl))) (o0 hw 283 rfl) (o0 hw 126 rfl) (o0 hw 3 rfl) (o0 hw 127 rfl) o70 (o256 l Z a0 hw [] wcs wd mOA mSL mAL kd hS ad2 h0 n0 O0 ) e2847 pe8 o46 (argsL := [.ref ad2]) (rest := []) rfl rfl (g := (mkF m 98 #[.val (.ref ad0), .val (.ref ad1), .val (.int 0), .val (.int 2), .val (.ref ad2), .val (.int 3)] [.ref ad2, .ref ad2])) rfl (by rw [hml]; rfl) rfl (hb hby o781) (W := 0) rfl (by decide) (by decide) (by decide) (by decide)) ?_
  intro T2848 v2848 L2848 X2848 hQ2848
  obtain ⟨rfl, M2848, e2848⟩ := hQ2848
  have N2848 := Fr.app N2846 M2848
  exact o20 X2848 hx hlk hret rfl (Or.inl ⟨rfl, by simp, _, rfl⟩) (hb hby o710) (by decide) (by decide) (by rw [e2848]; exact ⟨rfl, N2848, rfl⟩)
theorem o981 (l : Launch) (Z : State) (a0 : Array Value) (hw : o21 a0 Z) (ws : List Jvm.Cond) (wcs : Int32) (wd mOA mSL mAL : Addr) (kd : ClassId) (hS : o22 Z wcs wd mOA mSL mAL kd) (ad0 ad1 : Addr) (ad3 ad4 : Addr) (kc5 : ClassId) (ad6 : Addr) (kc7 : ClassId) (iv8 : Int32) (lv9 : List Value) (ad10 : Addr) (kc11 : ClassId) (iv12 : Int32) (lv13 : List Value) (h0 : Heap) (n0 : Nat) (O0 : Old Z n0 h0) (pf3 : Fld Z h0 ad0 o3 o13 o7 (.ref ad3)) (pe5 : Exa Z h0 ad1 o6) (pf6 : Fld Z h0 ad1 o6 "coder" "B" (.int 0)) (pf7 : Fld Z h0 ad1 o6 "value" "[B" (.ref ad4)) (pa9 : Arv Z h0 ad3 kc5 (.object "java/lang/Object") 10 [.ref ad6, .ref ad1, .null, .null, .null, .null, .null, .null, .null, .null] .null) (pa11 : Arv Z h0 ad4 kc7 .byte iv8 lv9 (.int 0)) (pe12 : Exa Z h0 ad6 o6) (pf13 : Fld Z h0 ad6 o6 "coder" "B" (.int 0)) (pf14 : Fld Z h0 ad6 o6 "value" "[B" (.ref ad10)) (pa16 : Arv Z h0 ad10 kc11 .byte iv12 lv13 (.int 0)) (pk_0 : ¬ iv8 = iv12) (pn_ad1_ad6 : ad1 ≠ ad6) :
    o16 l o61 jdk_38_method_12_code 6 (some .int) ws ⟨2, 0, 0, 28⟩ Z h0 #[.ref ad0, .ref ad1, .int 0, .int 2] (fun v h L => v = some (.int 1) ∧ Fr n0 L ∧ h = h0) := by
  refine o15 (plainFor_of_name o24) ?_
  intro p e s m below meth c s₁ hx hby hml hown hnm hret hlk hZ e0 X0
  have N0 := Fr.nil n0
  refine o2 (fun u j => castTop (show entryFrame m #[.ref ad0, .ref ad1, .int 0, .int 2] 6 = mkF m 0 #[.val (.ref ad0), .val (.ref ad1), .val (.int 0), .val (.int 2), .unset, .unset] [] from rfl) j) ?_
  refine o2 (fun u j => o1 X0.here hx rfl (hb hby o108) rfl rfl j) ?_
  refine o19 (getF X0 hx hZ hown (host := "") (Or.inl (o0 hw 60 rfl)) Via.refl e0 pf3 rfl rfl (hb hby o109)) ?_
  intro T2858 X2858 e2858
  refine o2 (fun u j => o37 X2858.here hx rfl (hb hby o110) rfl rfl (l' := #[.val (.ref ad0), .val (.ref ad1), .val (.int 0), .val (.int 2), .val (.ref ad3), .unset]) rfl (o1 X2858.here hx rfl (hb hby o111) rfl rfl (o60 X2858.here hx rfl (pc0 := 7) (pc' := 39) rfl (hb hby o112) rfl (by decide) (by decide) (o4 X2858.here hx rfl (hb hby o85) rfl (o30 X2858.here hx rfl (hb hby o86) rfl (l' := #[.val (.ref ad0), .val (.ref ad1), .val (.int 0), .val (.int 2), .val (.ref ad3), .val (.int 0)]) rfl (o10 X2858.here hx rfl (hb hby o56) rfl j)))))) ?_
  show o17 p e below _ (T2858.setTop (mkF m 44 #[.val (.ref ad0), .val (.ref ad1), .val (.int 0), .val (.int 2), .val (.ref ad3), .val (.int 0)] [.int 0]))
  refine o2 (fun u j => o4 X2858.here hx rfl (hb hby o57) rfl (o28 X2858.here hx rfl (hb hby o58) rfl (o53 (by decide)) (o1 X2858.here hx rfl (hb hby o91) rfl rfl (o12 X2858.here hx rfl (hb hby o92) rfl rfl (o10 X2858.here hx rfl (hb hby o93) rfl (o413 X2858 hx hZ e2858 pa9 (j := (0 : Int32)) (v := (.ref ad6)) ⟨by decide, by decide⟩ rfl rfl rfl (hb hby o94) j)))))) ?_
  show o17 p e below _ (T2858.setTop (mkF m 54 #[.val (.ref ad0), .val (.ref ad1), .val (.int 0), .val (.int 2), .val (.ref ad3), .val (.int 0)] [.ref ad6, .ref ad1]))
  refine o11 (o26 X2858 hx hZ (y := o368) (z := o41) hown (o0 hw 122 rfl) (o0 hw 123 rfl) (o574 (args := #[]) (mvT hZ (o0 hw 227 rfl)) rfl) (o0 hw 125 rfl) (o0 hw 126 rfl) (o0 hw 3 rfl) (o0 hw 127 rfl) o257 (o831 l Z a0 hw [] wcs wd mOA mSL mAL kd hS ad1 ad6 ad4 ad10 kc7 iv8 lv9 kc11 iv12 lv13 h0 n0 O0 pf6 pf7 pe12 pf13 pf14 pa11 pa16 pk_0 pn_ad1_ad6) e2858 pe5 o46 (argsL := [.ref ad6]) (rest := []) rfl rfl (g := (mkF m 54 #[.val (.ref ad0), .val (.ref ad1), .val (.int 0), .val (.int 2), .val (.ref ad3), .val (.int 0)] [.ref ad6, .ref ad1])) rfl (by rw [hml]; rfl) rfl (hb hby o95) (W := 0) rfl (by decide) (by decide) (by decide) (by decide)) ?_
  intro T2859 v2859 L2859 X2859 hQ2859
  obtain ⟨rfl, M2859, e2859⟩ := hQ2859
  have N2859 := Fr.app N0 M2859
  refine o2 (fun u j => o43 X2859.here hx rfl (pc0 := 57) (pc' := 63) rfl (hb hby o96) rfl (XT.i0_eq_t (by decide)) (by decide) (by decide) (o51 X2859.here hx rfl (hb hby o318) rfl (l' := #[.val (.ref ad0), .val (.ref ad1), .val (.int 0), .val (.int 2), .val (.ref ad3), .val (.int 1)]) rfl (o35 X2859.here hx rfl (pc0 := 66) (pc' := 42) rfl (hb hby o319) (by decide) (by decide) (o10 X2859.here hx rfl (hb hby o56) rfl (o4 X2859.here hx rfl (hb hby o57) rfl (o28 X2859.here hx rfl (hb hby o58) rfl (o53 (by decide)) j)))))) ?_
  show o17 p e below _ (T2859.setTop (mkF m 48 #[.val (.ref ad0), .val (.ref ad1), .val (.int 0), .val (.int 2), .val (.ref ad3), .val (.int 1)] []))
  refine o2 (fun u j => o1 X2859.here hx rfl (hb hby o91) rfl rfl (o12 X2859.here hx rfl (hb hby o92) rfl rfl (o10 X2859.here hx rfl (hb hby o93) rfl (o413 X2859 hx hZ e2859 pa9 (j := (1 : Int32)) (v := (.ref ad1)) ⟨by decide, by decide⟩ rfl rfl rfl (hb hby o94) j)))) ?_
  refine o11 (o26 X2859 hx hZ (y := o368) (z := o41) hown (o0 hw 122 rfl) (o0 hw 123 rfl) (o574 (args := #[]) (mvT hZ (o0 hw 227 rfl)) rfl) (o0 hw 125 rfl) (o0 hw 126 rfl) (o0 hw 3 rfl) (o0 hw 127 rfl) o257 (o256 l Z a0 hw [] wcs wd mOA mSL mAL kd hS ad1 h0 n0 O0 ) e2859 pe5 o46 (argsL := [.ref ad1]) (rest := []) rfl rfl (g := (mkF m 54 #[.val (.ref ad0), .val (.ref ad1), .val (.int 0), .val (.int 2), .val (.ref ad3), .val (.int 1)] [.ref ad1, .ref ad1])) rfl (by rw [hml]; rfl) rfl (hb hby o95) (W := 0) rfl (by decide) (by decide) (by decide) (by decide)) ?_
  intro T2860 v2860 L2860 X2860 hQ2860
  obtain ⟨rfl, M2860, e2860⟩ := hQ2860
  have N2860 := Fr.app N2859 M2860
  refine o2 (fun u j => o34 X2860.here hx rfl (hb hby o96) rfl (o33 (by decide)) (o10 X2860.here hx rfl (hb hby o258) rfl j)) ?_
  exact o20 X2860 hx hlk hret rfl (Or.inl ⟨rfl, by simp, _, rfl⟩) (hb hby o259) (by decide) (by decide) (by rw [e2860]; exact ⟨rfl, N2860, rfl⟩)
theorem o982 (l : Launch) (Z : State) (a0 : Array Value) (hw : o21 a0 Z) (ws : List Jvm.Cond) (wcs : Int32) (wd mOA mSL mAL : Addr) (kd : ClassId) (hS : o22 Z wcs wd mOA mSL mAL kd) (ad0 ad1 : Addr) (ad3 ad4 : Addr) (kc5 : ClassId) (ad6 : Addr) (kc7 : ClassId) (iv8 : Int32) (lv9 : List Value) (ad10 : Addr) (kc11 : ClassId) (iv12 : Int32) (lv13 : List Value) (h0 : Heap) (n0 : Nat) (O0 : Old Z n0 h0) (pe1 : Exa Z h0 ad0 o3) (pf3 : Fld Z h0 ad0 o3 o13 o7 (.ref ad3)) (pf4 : Fld Z h0 ad0 o3 "size" "I" (.int 2)) (pe5 : Exa Z h0 ad1 o6) (pf6 : Fld Z h0 ad1 o6 "coder" "B" (.int 0)) (pf7 : Fld Z h0 ad1 o6 "value" "[B" (.ref ad4)) (pa9 : Arv Z h0 ad3 kc5 (.object "java/lang/Object") 10 [.ref ad6, .ref ad1, .null, .null, .null, .null, .null, .null, .null, .null] .null) (pa11 : Arv Z h0 ad4 kc7 .byte iv8 lv9 (.int 0)) (pe12 : Exa Z h0 ad6 o6) (pf13 : Fld Z h0 ad6 o6 "coder" "B" (.int 0)) (pf14 : Fld Z h0 ad6 o6 "value" "[B" (.ref ad10)) (pa16 : Arv Z h0 ad10 kc11 .byte iv12 lv13 (.int 0)) (pk_0 : ¬ iv8 = iv12) (pn_ad1_ad6 : ad1 ≠ ad6) :
    o16 l o113 jdk_38_method_11_code 2 (some .int) ws ⟨3, 0, 0, 45⟩ Z h0 #[.ref ad0, .ref ad1] (fun v h L => v = some (.int 1) ∧ Fr n0 L ∧ h = h0) := by
  refine o15 (plainFor_of_name o24) ?_
  intro p e s m below meth c s₁ hx hby hml hown hnm hret hlk hZ e0 X0
  have N0 := Fr.nil n0
  refine o2 (fun u j => castTop (show entryFrame m #[.ref ad0, .ref ad1] 2 = mkF m 0 #[.val (.ref ad0), .val (.ref ad1)] [] from rfl) j) ?_
  refine o2 (fun u j => o1 X0.here hx rfl (hb hby o102) rfl rfl (o1 X0.here hx rfl (hb hby o103) rfl rfl (o5 X0.here hx rfl (hb hby o104) (o1 X0.here hx rfl (hb hby o105) rfl rfl j)))) ?_
  refine o19 (getF X0 hx hZ hown (host := "") (Or.inl (o0 hw 83 rfl)) Via.refl e0 pf4 rfl rfl (hb hby o106)) ?_
  intro T2862 X2862 e2862
  refine o11 (o26 X2862 hx hZ (y := o61) (z := o61) hown (o0 hw 85 rfl) (o0 hw 86 rfl) (notFace_of_selects (args := #[]) (mvT hZ (o0 hw 88 rfl))) (o0 hw 88 rfl) (o0 hw 87 rfl) (o0 hw 40 rfl) (o0 hw 89 rfl) o42 (o981 l Z a0 hw [] wcs wd mOA mSL mAL kd hS ad0 ad1 ad3 ad4 kc5 ad6 kc7 iv8 lv9 ad10 kc11 iv12 lv13 h0 n0 O0 pf3 pe5 pf6 pf7 pa9 pa11 pe12 pf13 pf14 pa16 pk_0 pn_ad1_ad6) e2862 pe1 o242 (argsL := [.ref ad1, .int 0, .int 2]) (rest := []) rfl rfl (g := (mkF m 7 #[.val (.ref ad0), .val (.ref ad1)] [.int 2, .int 0, .ref ad1, .ref ad0])) rfl (by rw [hml]; rfl) rfl (hb hby o107) (W := 0) rfl (by decide) (by decide) (by decide) (by decide)) ?_
  intro T2863 v2863 L2863 X2863 hQ2863
  obtain ⟨rfl, M2863, e2863⟩ := hQ2863
  have N2863 := Fr.app N0 M2863
  exact o20 X2863 hx hlk hret rfl (Or.inl ⟨rfl, by simp, _, rfl⟩) (hb hby o87) (by decide) (by decide) (by rw [e2863]; exact ⟨rfl, N2863, rfl⟩)
theorem o983 (l : Launch) (Z : State) (a0 : Array Value) (hw : o21 a0 Z) (ws : List Jvm.Cond) (wcs : Int32) (wd mOA mSL mAL : Addr) (kd : ClassId) (hS : o22 Z wcs wd mOA mSL mAL kd) (ad0 ad1 : Addr) (iv2 iv3 : Int32) (h0 : Heap) (n0 : Nat) (O0 : Old Z n0 h0) (pe1 : Exa Z h0 ad0 o14) (pf2 : Fld Z h0 ad0 o8 o9 "I" (.int iv2)) (pf3 : Fld Z h0 ad0 o14 "offset" "I" (.int 0)) (pf4 : Fld Z h0 ad0 o14 "parent" o64 .null) (pf5 : Fld Z h0 ad0 o14 "root" o47 .null) (pf6 : Fld Z h0 ad0 o14 "size" "I" (.int 0)) (pe7 : Exa Z h0 ad1 o3) (pf8 : Fld Z h0 ad1 o8 o9 "I" (.int iv3)) (pg_ad0 : n0 ≤ ad0) :
    o16 l o369 jdk_130_method_1_code 4 none ws ⟨3, 0, 0, 36⟩ Z h0 #[.ref ad0, .ref ad1, .int 1, .int 2] (fun v h L => v = none ∧ Fr n0 L ∧ Keep h0 h [ad0] ∧ Exa Z h ad0 o14 ∧ Fld Z h ad0 o8 o9 "I" (.int iv3) ∧ Fld Z h ad0 o14 "offset" "I" (.int 1) ∧ Fld Z h ad0 o14 "parent" o64 .null ∧ Fld Z h ad0 o14 "root" o47 (.ref ad1) ∧ Fld Z h ad0 o14 "size" "I" (.int 1)) := by
  refine o15 (plainFor_of_name o205) ?_
  intro p e s m below meth c s₁ hx hby hml hown hnm hret hlk hZ e0 X0
  have N0 := Fr.nil n0
  refine o2 (fun u j => castTop (show entryFrame m #[.ref ad0, .ref ad1, .int 1, .int 2] 4 = mkF m 0 #[.val (.ref ad0), .val (.ref ad1), .val (.int 1), .val (.int 2)] [] from rfl) j) ?_
  refine o2 (fun u j => o1 X0.here hx rfl (hb hby o335) rfl rfl j) ?_
  refine o11 (o50 X0 hx hZ (y := o199) rfl hown (o0 hw 187 rfl) (o0 hw 45 rfl) (o0 hw 48 rfl) (o0 hw 49 rfl) o141 (o828 l Z a0 hw [] wcs wd mOA mSL mAL kd hS ad0 iv2 h0 n0 O0 pe1 pf2 pf3 pf4 pf5 pf6 pg_ad0) e0 o59 (a := ad0) (argsL := []) (rest := []) rfl rfl (g := (mkF m 1 #[.val (.ref ad0), .val (.ref ad1), .val (.int 1), .val (.int 2)] [.ref ad0])) rfl (by rw [hml]; rfl) rfl (hb hby o336) (W := 0) rfl (by decide) (by decide) (by decide) (by decide)) ?_
  intro T2904 v2904 L2904 X2904 hQ2904
  obtain ⟨rfl, M2904, K2904, F2905, F2906, F2907, F2908, F2909, F2910⟩ := hQ2904
  have N2904 := Fr.app N0 M2904
  refine o2 (fun u j => o1 X2904.here hx rfl (hb hby o337) rfl rfl (o1 X2904.here hx rfl (hb hby o338) rfl rfl j)) ?_
  refine o32 (putF X2904 hx hZ hown (host := "") (Or.inl (o0 hw 191 rfl)) Via.refl rfl F2909 F2905 (Or.inr ⟨(o0 hw 192 rfl), rfl, hnm⟩) (o0 hw 181 rfl) (ty := (.object "java/util/ArrayList")) o78 rfl rfl rfl rfl (hb hby o339)) ?_
  intro T2911 h2911 X2911 e2911 W2911
  have N2911 := Fr.snoc X2911 N2904 pg_ad0
  have F2912 : Fld Z h2911 ad0 o14 "root" o47 (.ref ad1) := Fld.same W2911 F2909
  refine o2 (fun u j => o1 X2911.here hx rfl (hb hby o340) rfl rfl (o49 X2911.here hx rfl (hb hby o274) j)) ?_
  have F2913 := (Exa.wr W2911 F2905)
  have F2914 := (Fld.other W2911 F2908 (Or.inr (o608 hw)))
  refine o32 (putF X2911 hx hZ hown (host := "") (Or.inl (o0 hw 193 rfl)) Via.refl e2911 F2914 F2913 (Or.inr ⟨(o0 hw 194 rfl), rfl, hnm⟩) (o0 hw 181 rfl) (ty := (.object "java/util/ArrayList$SubList")) o79 rfl rfl rfl rfl (hb hby o275)) ?_
  intro T2915 h2915 X2915 e2915 W2915
  have N2915 := Fr.snoc X2915 N2911 pg_ad0
  have F2916 : Fld Z h2915 ad0 o14 "parent" o64 .null := Fld.same W2915 F2914
  refine o2 (fun u j => o1 X2915.here hx rfl (hb hby o276) rfl rfl (o4 X2915.here hx rfl (hb hby o277) rfl j)) ?_
  have F2917 := (Exa.wr W2915 F2913)
  have F2918 := (Fld.other W2915 (Fld.other W2911 F2907 (Or.inr (o609 hw))) (Or.inr (o610 hw)))
  refine o32 (putF X2915 hx hZ hown (host := "") (Or.inl (o0 hw 195 rfl)) Via.refl e2915 F2918 F2917 (Or.inr ⟨(o0 hw 196 rfl), rfl, hnm⟩) (o0 hw 181 rfl) (ty := .int) o18 rfl rfl rfl rfl (hb hby o278)) ?_
  intro T2919 h2919 X2919 e2919 W2919
  have N2919 := Fr.snoc X2919 N2915 pg_ad0
  have F2920 : Fld Z h2919 ad0 o14 "offset" "I" (.int 1) := Fld.same W2919 F2918
  refine o2 (fun u j => o1 X2919.here hx rfl (hb hby o279) rfl rfl (o4 X2919.here hx rfl (hb hby o280) rfl (o4 X2919.here hx rfl (hb hby o281) rfl (o38 X2919.here hx rfl (hb hby o282) rfl j)))) ?_
  have F2921 := (Exa.wr W2919 F2917)
  have F2922 := (Fld.other W2919 (Fld.other W2915 (Fld.other W2911 F2910 (Or.inr (o611 hw))) (Or.inr (o612 hw))) (Or.inr (o613 hw)))
  refine o32 (putF X2919 hx hZ hown (host := "") (Or.inl (o0 hw 197 rfl)) Via.refl e2919 F2922 F2921 (Or.inl (o0 hw 198 rfl)) (o0 hw 181 rfl) (ty := .int) o18 rfl rfl rfl rfl (hb hby o283)) ?_
  intro T2923 h2923 X2923 e2923 W2923
  have N2923 := Fr.snoc X2923 N2919 pg_ad0
  have F2924 : Fld Z h2923 ad0 o14 "size" "I" (.int 1) := Fld.same W2923 F2922
  refine o2 (fun u j => o1 X2923.here hx rfl (hb hby o284) rfl rfl (o1 X2923.here hx rfl (hb hby o285) rfl rfl j)) ?_
  have ne2925 := (ne_exa pe7 pe1 o614)
  have F2926 := (Fld.other W2923 (Fld.other W2919 (Fld.other W2915 (Fld.other W2911 (pf8.keep K2904 (ninS ne2925 nin0)) (Or.inl ne2925)) (Or.inl ne2925)) (Or.inl ne2925)) (Or.inl ne2925))
  refine o19 (getF X2923 hx hZ hown (host := "") (Or.inl (o0 hw 199 rfl)) (Via.of (o0 hw 99 rfl)) e2923 F2926 rfl rfl (hb hby o286)) ?_
  intro T2927 X2927 e2927
  have F2928 := (Exa.wr W2923 F2921)
  have F2929 := (Fld.other W2923 (Fld.other W2919 (Fld.other W2915 (Fld.other W2911 F2906 (Or.inr (o615 hw))) (Or.inr (o616 hw))) (Or.inr (o617 hw))) (Or.inr (o618 hw)))
  refine o32 (putF X2927 hx hZ hown (host := "") (Or.inl (o0 hw 200 rfl)) (Via.of (o0 hw 201 rfl)) e2927 F2929 F2928 (Or.inl (o0 hw 190 rfl)) (o0 hw 181 rfl) (ty := .int) o18 rfl rfl rfl rfl (hb hby o287)) ?_
  intro T2930 h2930 X2930 e2930 W2930
  have N2930 := Fr.snoc X2930 N2923 pg_ad0
  have F2931 : Fld Z h2930 ad0 o8 o9 "I" (.int iv3) := Fld.same W2930 F2929
  have K2932 := (Keep.refl h0 [ad0]).trans K2904 (allS (Or.inl (List.mem_of_getElem? (i := 0) rfl)) all0)
  have K2933 := K2932.wr W2911 (Or.inl (List.mem_of_getElem? (i := 0) rfl))
  have K2934 := K2933.wr W2915 (Or.inl (List.mem_of_getElem? (i := 0) rfl))
  have K2935 := K2934.wr W2919 (Or.inl (List.mem_of_getElem? (i := 0) rfl))
  have K2936 := K2935.wr W2923 (Or.inl (List.mem_of_getElem? (i := 0) rfl))
  have K2937 := K2936.wr W2930 (Or.inl (List.mem_of_getElem? (i := 0) rfl))
  have F2938 := (Exa.wr W2930 F2928)
  have F2939 := (Fld.other W2930 (Fld.other W2923 F2920 (Or.inr (o619 hw))) (Or.inr (o581 hw)))
  have F2940 := (Fld.other W2930 (Fld.other W2923 (Fld.other W2919 F2916 (Or.inr (o620 hw))) (Or.inr (o621 hw))) (Or.inr (o582 hw)))
  have F2941 := (Fld.other W2930 (Fld.other W2923 (Fld.other W2919 (Fld.other W2915 F2912 (Or.inr (o622 hw))) (Or.inr (o623 hw))) (Or.inr (o624 hw))) (Or.inr (o583 hw)))
  have F2942 := (Fld.other W2930 F2924 (Or.inr (o584 hw)))
  exact o48 X2930 hx hlk hret (hb hby o288) (by decide) (by decide) (by rw [e2930]; exact ⟨rfl, N2930, K2937, F2938, F2931, F2939, F2940, F2941, F2942⟩)
theorem o984 (l : Launch) (Z : State) (a0 : Array Value) (hw : o21 a0 Z) (ws : List Jvm.Cond) (wcs : Int32) (wd mOA mSL mAL : Addr) (kd : ClassId) (hS : o22 Z wcs wd mOA mSL mAL kd) (ad0 : Addr) (iv1 : Int32) (h0 : Heap) (n0 : Nat) (O0 : Old Z n0 h0) (pe1 : Exa Z h0 ad0 o3) (pf2 : Fld Z h0 ad0 o8 o9 "I" (.int iv1)) (pf4 : Fld Z h0 ad0 o3 "size" "I" (.int 2)) :
    o16 l o370 jdk_38_method_56_code 3 (some (.object "java/util/List")) ws ⟨4, 1, 5, 52⟩ Z h0 #[.ref ad0, .int 1, .int 2] (fun v h L => ∃ nz0 : Addr, v = some (.ref nz0) ∧ Fr n0 L ∧ Keep h0 h [] ∧ h0.size ≤ nz0 ∧ Exa Z h nz0 o14 ∧ Fld Z h nz0 o8 o9 "I" (.int iv1) ∧ Fld Z h nz0 o14 "offset" "I" (.int 1) ∧ Fld Z h nz0 o14 "parent" o64 .null ∧ Fld Z h nz0 o14 "root" o47 (.ref ad0) ∧ Fld Z h nz0 o14 "size" "I" (.int 1)) := by
  refine o15 (plainFor_of_name o24) ?_
  intro p e s m below meth c s₁ hx hby hml hown hnm hret hlk hZ e0 X0
  have N0 := Fr.nil n0
  refine o2 (fun u j => castTop (show entryFrame m #[.ref ad0, .int 1, .int 2] 3 = mkF m 0 #[.val (.ref ad0), .val (.int 1), .val (.int 2)] [] from rfl) j) ?_
  refine o2 (fun u j => o4 X0.here hx rfl (hb hby o329) rfl (o4 X0.here hx rfl (hb hby o330) rfl (o1 X0.here hx rfl (hb hby o331) rfl rfl j))) ?_
  refine o19 (getF X0 hx hZ hown (host := "") (Or.inl (o0 hw 83 rfl)) Via.refl e0 pf4 rfl rfl (hb hby o332)) ?_
  intro T2954 X2954 e2954
  refine o11 (o603 X2954 hx hZ (y := o639) (owner := "java/util/AbstractList") hown (o0 hw 176 rfl) (o0 hw 177 rfl) (o0 hw 178 rfl) (o0 hw 48 rfl) (o0 hw 179 rfl) o141 (o827 l Z a0 hw [] wcs wd mOA mSL mAL kd hS (1 : Int32) (2 : Int32) (2 : Int32) h0 n0 O0 (by decide) (by decide) (by decide)) e2954 o607 (argsL := [.int 1, .int 2, .int 2]) (rest := []) rfl rfl (g := (mkF m 6 #[.val (.ref ad0), .val (.int 1), .val (.int 2)] [.int 2, .int 2, .int 1])) rfl (by rw [hml]; rfl) rfl (hb hby o333) (W := 0) rfl (by decide) (by decide) (by decide) (by decide)) ?_
  intro T2955 v2955 L2955 X2955 hQ2955
  obtain ⟨rfl, M2955, e2955⟩ := hQ2955
  have N2955 := Fr.app N0 M2955
  have q_ := newO X2955 hx hZ hown (o0 hw 180 rfl) (o0 hw 181 rfl) (o0 hw 182 rfl) e2955 (g := (mkF m 9 #[.val (.ref ad0), .val (.int 1), .val (.int 2)] [])) rfl (hb hby o334) (by decide) (by decide)
  obtain ⟨T2956, h2956, X2956, e2956, E2956, A2956, D2956, U2956, st2956⟩ := q_
  have q_ : ∃ z, z = h0.size := ⟨_, rfl⟩
  obtain ⟨b2956, g2956⟩ := q_
  rw [← g2956] at A2956 D2956 U2956 st2956
  have F2956_modCount : Fld Z h2956 b2956 o8 o9 "I" (.int 0) := D2956 (Or.inl (o0 hw 190 rfl)) (ty := .int) o18
  have F2956_root : Fld Z h2956 b2956 o14 "root" o47 .null := D2956 (Or.inr (o0 hw 192 rfl)) (ty := (.object "java/util/ArrayList")) o78
  have F2956_parent : Fld Z h2956 b2956 o14 "parent" o64 .null := D2956 (Or.inr (o0 hw 194 rfl)) (ty := (.object "java/util/ArrayList$SubList")) o79
  have F2956_offset : Fld Z h2956 b2956 o14 "offset" "I" (.int 0) := D2956 (Or.inr (o0 hw 196 rfl)) (ty := .int) o18
  have F2956_size : Fld Z h2956 b2956 o14 "size" "I" (.int 0) := D2956 (Or.inl (o0 hw 198 rfl)) (ty := .int) o18
  refine o2 (fun u j => st2956 u j) ?_
  refine o2 (fun u j => o40 X2956.here hx rfl (hb hby o269) rfl rfl (o1 X2956.here hx rfl (hb hby o270) rfl rfl (o4 X2956.here hx rfl (hb hby o271) rfl (o4 X2956.here hx rfl (hb hby o272) rfl j)))) ?_
  have F2957 := (Exa.ext E2956 pe1)
  have F2958 := (Fld.ext E2956 pf2)
  have g2959 := Nat.le_trans (o52 O0) (Nat.le_of_eq g2956.symm)
  have O2961 := O0.ext E2956
  refine o11 (o50 X2956 hx hZ (y := o369) rfl hown (o0 hw 183 rfl) (o0 hw 184 rfl) (o0 hw 182 rfl) (o0 hw 186 rfl) o289 (o983 l Z a0 hw [] wcs wd mOA mSL mAL kd hS b2956 ad0 (0 : Int32) iv1 h2956 n0 O2961 A2956 F2956_modCount F2956_offset F2956_parent F2956_root F2956_size F2957 F2958 g2959) e2956 o625 (a := b2956) (argsL := [.ref ad0, .int 1, .int 2]) (rest := [.ref b2956]) rfl rfl (g := (mkF m 16 #[.val (.ref ad0), .val (.int 1), .val (.int 2)] [.int 2, .int 1, .ref ad0, .ref b2956, .ref b2956])) rfl (by rw [hml]; rfl) rfl (hb hby o273) (W := 1) rfl (by decide) (by decide) (by decide) (by decide)) ?_
  intro T2960 v2960 L2960 X2960 hQ2960
  obtain ⟨rfl, M2960, K2960, F2962, F2963, F2964, F2965, F2966, F2967⟩ := hQ2960
  have N2960 := Fr.app N2955 M2960
  have K2968 := (Keep.refl h0 []).ext E2956
  have z2970 := Nat.le_trans (Nat.le_refl _) (Nat.le_of_eq g2956.symm)
  have K2969 := K2968.trans K2960 (allS (Or.inr z2970) all0)
  exact o20 X2960 hx hlk hret rfl (Or.inr (Or.inr (Or.inr (Or.inr ⟨rfl, rfl, rfl⟩)))) (hb hby o290) (by decide) (by decide) (by exact ⟨b2956, rfl, N2960, K2969, z2970, F2962, F2963, F2964, F2965, F2966, F2967⟩)
theorem o985 (l : Launch) (Z : State) (a0 : Array Value) (hw : o21 a0 Z) (ws : List Jvm.Cond) (wcs : Int32) (wd mOA mSL mAL : Addr) (kd : ClassId) (hS : o22 Z wcs wd mOA mSL mAL kd) (ad0 : Addr) (kc1 : ClassId) (ad2 ad3 : Addr) (h0 : Heap) (n0 : Nat) (O0 : Old Z n0 h0) (pa2 : Arv Z h0 ad0 kc1 (.object "java/lang/Object") 10 [.ref ad2, .ref ad3, .null, .null, .null, .null, .null, .null, .null, .null] .null) (pe6 : Exa Z h0 ad3 o6) :
    o16 l o371 jdk_65_method_130_code 6 (some (.array (.object "java/lang/Object"))) ws ⟨1, 1, 1, 27⟩ Z h0 #[.ref ad0, .int 1, .int 2, .ref mOA] (fun v h L => ∃ nz0 : Addr, ∃ kz1 : ClassId, v = some (.ref nz0) ∧ Fr n0 L ∧ Keep h0 h [] ∧ h0.size ≤ nz0 ∧ Exa Z h nz0 o7 ∧ Arv Z h nz0 kz1 (.object "java/lang/Object") 1 [.ref ad3] .null ∧ Ovr Z kz1 "java/lang/Object") := by
  refine o15 (plainFor_of_name o72) ?_
  intro p e s m below meth c s₁ hx hby hml hown hnm hret hlk hZ e0 X0
  have N0 := Fr.nil n0
  refine o2 (fun u j => castTop (show entryFrame m #[.ref ad0, .int 1, .int 2, .ref mOA] 6 = mkF m 0 #[.val (.ref ad0), .val (.int 1), .val (.int 2), .val (.ref mOA), .unset, .unset] [] from rfl) j) ?_
  refine o2 (fun u j => o4 X0.here hx rfl (hb hby o303) rfl (o4 X0.here hx rfl (hb hby o304) rfl (o38 X0.here hx rfl (hb hby o305) rfl (o30 X0.here hx rfl (hb hby o306) rfl (l' := #[.val (.ref ad0), .val (.int 1), .val (.int 2), .val (.ref mOA), .val (.int 1), .unset]) rfl (o10 X0.here hx rfl (hb hby o307) rfl (o43 X0.here hx rfl (pc0 := 7) (pc' := 42) rfl (hb hby o308) rfl (o140 (by decide)) (by decide) (by decide) j)))))) ?_
  show o17 p e below _ (s₁.setTop (mkF m 42 #[.val (.ref ad0), .val (.int 1), .val (.int 2), .val (.ref mOA), .val (.int 1), .unset] []))
  refine o2 (fun u j => o1 X0.here hx rfl (hb hby o214) rfl rfl j) ?_
  have q_ := o114 X0 hx hZ hown (o0 hw 233 rfl) e0 hS.2.2.2.2.2.1 (g := (mkF m 43 #[.val (.ref ad0), .val (.int 1), .val (.int 2), .val (.ref mOA), .val (.int 1), .unset] [.ref mOA])) rfl (hb hby o215)
  obtain ⟨T3004, X3004, e3004, st3004⟩ := q_
  refine o2 (fun u j => st3004 u j) ?_
  refine o2 (fun u j => o97 X3004.here hx rfl (hb hby o216) rfl rfl rfl (o84 rfl) (o10 X3004.here hx rfl (hb hby o217) rfl j)) ?_
  have q_ := newRE X3004 hx hZ hown (show (Cond.classLink "java/util/Arrays" 2 "java/lang/Object").before a0 Z = true from (o0 hw 234 rfl)) (show (Cond.arrayOver (.object "java/lang/Object")).before a0 Z = true from (o0 hw 120 rfl)) e3004 (g := (mkF m 50 #[.val (.ref ad0), .val (.int 1), .val (.int 2), .val (.ref mOA), .val (.int 1), .unset] [.int 1])) rfl (hb hby o218) rfl (by decide) (cap := 1) (by decide) (by decide) (by decide) (by decide) (ad := "[Ljava/lang/Object;") o198
  obtain ⟨T3005, h3005, k3005, X3005, e3005, E3005, A3005, Y3005, O3005, st3005⟩ := q_
  have q_ : ∃ z, z = h0.size := ⟨_, rfl⟩
  obtain ⟨b3005, g3005⟩ := q_
  rw [← g3005] at A3005 Y3005 st3005
  have V3005 : Arv Z h3005 b3005 k3005 (.object "java/lang/Object") 1 [.null] .null := (Arv.new A3005 (by decide)).pad (pad_rep [] .null 1)
  refine o2 (fun u j => st3005 u j) ?_
  refine o2 (fun u j => o35 X3005.here hx rfl (pc0 := 53) (pc' := 68) rfl (hb hby o219) (by decide) (by decide) (o37 X3005.here hx rfl (hb hby o220) rfl rfl (l' := #[.val (.ref ad0), .val (.int 1), .val (.int 2), .val (.ref mOA), .val (.int 1), .val (.ref b3005)]) rfl (o1 X3005.here hx rfl (hb hby o221) rfl rfl (o4 X3005.here hx rfl (hb hby o222) rfl (o12 X3005.here hx rfl (hb hby o223) rfl rfl (o5 X3005.here hx rfl (hb hby o224) j)))))) ?_
  show o17 p e below _ (T3005.setTop (mkF m 75 #[.val (.ref ad0), .val (.int 1), .val (.int 2), .val (.ref mOA), .val (.int 1), .val (.ref b3005)] [.int 0, .ref b3005, .int 1, .ref ad0]))
  refine o2 (fun u j => o1 X3005.here hx rfl (hb hby o225) rfl rfl j) ?_
  have F3006 := (pa2.ext E3005)
  refine o2 (fun u j => o65 X3005 hx hZ e3005 F3006 rfl rfl (hb hby o226) (o4 X3005.here hx rfl (hb hby o227) rfl (o38 X3005.here hx rfl (hb hby o228) rfl (o10 X3005.here hx rfl (hb hby o229) rfl j)))) ?_
  have O3009 := O0.ext E3005
  refine o11 (o25 X3005 hx hZ (y := o188) hown (o0 hw 235 rfl) (o0 hw 236 rfl) (o0 hw 117 rfl) (o0 hw 237 rfl) o115 (o830 l Z a0 hw [] wcs wd mOA mSL mAL kd hS (9 : Int32) (1 : Int32) h3005 n0 O3009 (by decide)) e3005 o67 (argsL := [.int 9, .int 1]) (rest := [.int 0, .ref b3005, .int 1, .ref ad0]) rfl rfl (g := (mkF m 81 #[.val (.ref ad0), .val (.int 1), .val (.int 2), .val (.ref mOA), .val (.int 1), .val (.ref b3005)] [.int 1, .int 9, .int 0, .ref b3005, .int 1, .ref ad0])) rfl (by rw [hml]; rfl) rfl (hb hby o230) (W := 4) rfl (by decide) (by decide) (by decide) (by decide)) ?_
  intro T3008 v3008 L3008 X3008 hQ3008
  obtain ⟨rfl, M3008, e3008⟩ := hQ3008
  have N3008 := Fr.app N0 M3008
  have q_ := id V3005
  obtain ⟨cl3011, Ar3011, q3011, S3011, N3011, H3011, G3011⟩ := q_
  have F3012 := (Exa.ext E3005 pe6)
  have g3013 := Nat.le_trans (o52 O0) (Nat.le_of_eq g3005.symm)
  have q_ := cpA X3008 hx hZ hown (o0 hw 238 rfl) (o0 hw 241 rfl) (o0 hw 239 rfl) (o0 hw 240 rfl) e3008 F3006 V3005 (us := [.ref ad3]) (Or.inr ⟨rfl, rfl, ⟨Sto.ofV Ar3011 q3011 O3005 (Ins.of_exa F3012 (o0 hw 121 rfl)), trivial⟩⟩) (by decide) (by decide) (by decide) (by decide) (by decide) rfl (by decide) N3008 g3013 (g := (mkF m 84 #[.val (.ref ad0), .val (.int 1), .val (.int 2), .val (.ref mOA), .val (.int 1), .val (.ref b3005)] [.int 1, .int 0, .ref b3005, .int 1, .ref ad0])) rfl (by rw [hml]; rfl) rfl (hb hby o231) (by decide) (W := 0) (by show 2 * 0 + _ ≤ _; exact Nat.le_of_eq rfl) (by decide)
  obtain ⟨T3010, h3010, L3010, X3010, e3010, N3010, K3010, V3010, st3010⟩ := q_
  have V3014 : Arv Z h3010 b3005 k3005 (.object "java/lang/Object") 1 [.ref ad3] .null := V3010
  refine o2 (fun u j => st3010 u j) ?_
  refine o2 (fun u j => o12 X3010.here hx rfl (hb hby o232) rfl rfl j) ?_
  have K3015 := (Keep.refl h0 []).ext E3005
  have z3017 := Nat.le_trans (Nat.le_refl _) (Nat.le_of_eq g3005.symm)
  have K3016 := K3015.trans K3010 (allS (Or.inr z3017) all0)
  have F3018 := (Y3005.keep K3010)
  exact o20 X3010 hx hlk hret rfl (Or.inr (Or.inr (Or.inr (Or.inr ⟨rfl, rfl, rfl⟩)))) (hb hby o233) (by decide) (by decide) (by rw [e3010]; exact ⟨b3005, k3005, rfl, N3010, K3016, z3017, F3018, V3014, O3005⟩)
theorem o986 (l : Launch) (Z : State) (a0 : Array Value) (hw : o21 a0 Z) (ws : List Jvm.Cond) (wcs : Int32) (wd mOA mSL mAL : Addr) (kd : ClassId) (hS : o22 Z wcs wd mOA mSL mAL kd) (ad0 : Addr) (kc1 : ClassId) (ad2 ad3 : Addr) (h0 : Heap) (n0 : Nat) (O0 : Old Z n0 h0) (pe1 : Exa Z h0 ad0 o7) (pa2 : Arv Z h0 ad0 kc1 (.object "java/lang/Object") 10 [.ref ad2, .ref ad3, .null, .null, .null, .null, .null, .null, .null, .null] .null) (pe6 : Exa Z h0 ad3 o6) :
    o16 l o372 jdk_65_method_129_code 3 (some (.array (.object "java/lang/Object"))) ws ⟨2, 1, 1, 44⟩ Z h0 #[.ref ad0, .int 1, .int 2] (fun v h L => ∃ nz0 : Addr, ∃ kz1 : ClassId, v = some (.ref nz0) ∧ Fr n0 L ∧ Keep h0 h [] ∧ h0.size ≤ nz0 ∧ Exa Z h nz0 o7 ∧ Arv Z h nz0 kz1 (.object "java/lang/Object") 1 [.ref ad3] .null ∧ Ovr Z kz1 "java/lang/Object") := by
  refine o15 (plainFor_of_name o72) ?_
  intro p e s m below meth c s₁ hx hby hml hown hnm hret hlk hZ e0 X0
  have N0 := Fr.nil n0
  refine o2 (fun u j => castTop (show entryFrame m #[.ref ad0, .int 1, .int 2] 3 = mkF m 0 #[.val (.ref ad0), .val (.int 1), .val (.int 2)] [] from rfl) j) ?_
  refine o2 (fun u j => o1 X0.here hx rfl (hb hby o297) rfl rfl (o4 X0.here hx rfl (hb hby o298) rfl (o4 X0.here hx rfl (hb hby o299) rfl (o1 X0.here hx rfl (hb hby o300) rfl rfl j)))) ?_
  have q_ := o564 X0 hx hZ hown (o0 hw 224 rfl) (o0 hw 225 rfl) (o0 hw 227 rfl) (o0 hw 226 rfl) (o0 hw 228 rfl) e0 pe1 hS.2.2.2.2.2.1 (g := (mkF m 4 #[.val (.ref ad0), .val (.int 1), .val (.int 2)] [.ref ad0, .int 2, .int 1, .ref ad0])) rfl (by rw [hml]; rfl) rfl (hb hby o301) (by decide) (W := 3) (by show 2 * 0 + _ ≤ _; exact Nat.le_of_eq rfl) (by decide)
  obtain ⟨T3026, X3026, e3026, st3026⟩ := q_
  refine o2 (fun u j => st3026 u j) ?_
  refine o11 (o25 X3026 hx hZ (y := o371) hown (o0 hw 230 rfl) (o0 hw 231 rfl) (o0 hw 222 rfl) (o0 hw 232 rfl) o69 (o985 l Z a0 hw [] wcs wd mOA mSL mAL kd hS ad0 kc1 ad2 ad3 h0 n0 O0 pa2 pe6) e3026 o627 (argsL := [.ref ad0, .int 1, .int 2, .ref mOA]) (rest := []) rfl rfl (g := (mkF m 7 #[.val (.ref ad0), .val (.int 1), .val (.int 2)] [.ref mOA, .int 2, .int 1, .ref ad0])) rfl (by rw [hml]; rfl) rfl (hb hby o302) (W := 0) rfl (by decide) (by decide) (by decide) (by decide)) ?_
  intro T3027 v3027 L3027 X3027 hQ3027
  obtain ⟨nz0_3028, kz1_3029, rfl, M3027, K3027, z3030, F3031, F3032, ov0_3033⟩ := hQ3027
  have N3027 := Fr.app N0 M3027
  have K3034 := (Keep.refl h0 []).trans K3027 all0
  have z3035 := Nat.le_trans (Nat.le_refl _) z3030
  exact o20 X3027 hx hlk hret rfl (Or.inr (Or.inr (Or.inr (Or.inr ⟨rfl, rfl, rfl⟩)))) (hb hby o234) (by decide) (by decide) (by exact ⟨nz0_3028, kz1_3029, rfl, N3027, K3034, z3035, F3031, F3032, ov0_3033⟩)
theorem o987 (l : Launch) (Z : State) (a0 : Array Value) (hw : o21 a0 Z) (ws : List Jvm.Cond) (wcs : Int32) (wd mOA mSL mAL : Addr) (kd : ClassId) (hS : o22 Z wcs wd mOA mSL mAL kd) (ad0 : Addr) (iv1 : Int32) (ad2 ad3 : Addr) (kc4 : ClassId) (ad5 ad6 : Addr) (h0 : Heap) (n0 : Nat) (O0 : Old Z n0 h0) (pe1 : Exa Z h0 ad0 o14) (pf2 : Fld Z h0 ad0 o8 o9 "I" (.int iv1)) (pf3 : Fld Z h0 ad0 o14 "offset" "I" (.int 1)) (pf5 : Fld Z h0 ad0 o14 "root" o47 (.ref ad2)) (pf6 : Fld Z h0 ad0 o14 "size" "I" (.int 1)) (pf8 : Fld Z h0 ad2 o8 o9 "I" (.int iv1)) (pf9 : Fld Z h0 ad2 o3 o13 o7 (.ref ad3)) (pe11 : Exa Z h0 ad3 o7) (pa12 : Arv Z h0 ad3 kc4 (.object "java/lang/Object") 10 [.ref ad5, .ref ad6, .null, .null, .null, .null, .null, .null, .null, .null] .null) (pe16 : Exa Z h0 ad6 o6) :
    o16 l o373 jdk_130_method_16_code 1 (some (.array (.object "java/lang/Object"))) ws ⟨3, 1, 1, 58⟩ Z h0 #[.ref ad0] (fun v h L => ∃ nz0 : Addr, ∃ kz1 : ClassId, v = some (.ref nz0) ∧ Fr n0 L ∧ Keep h0 h [] ∧ h0.size ≤ nz0 ∧ Exa Z h nz0 o7 ∧ Arv Z h nz0 kz1 (.object "java/lang/Object") 1 [.ref ad6] .null ∧ Ovr Z kz1 "java/lang/Object") := by
  refine o15 (plainFor_of_name o205) ?_
  intro p e s m below meth c s₁ hx hby hml hown hnm hret hlk hZ e0 X0
  have N0 := Fr.nil n0
  refine o2 (fun u j => castTop (show entryFrame m #[.ref ad0] 1 = mkF m 0 #[.val (.ref ad0)] [] from rfl) j) ?_
  refine o2 (fun u j => o1 X0.here hx rfl (hb hby o292) rfl rfl j) ?_
  refine o11 (o62 X0 hx hZ (y := o593) hown (o0 hw 214 rfl) (o0 hw 215 rfl) (mvT hZ (o0 hw 217 rfl)) (o0 hw 216 rfl) (o0 hw 182 rfl) (o0 hw 218 rfl) o289 (o829 l Z a0 hw [] wcs wd mOA mSL mAL kd hS ad0 iv1 ad2 h0 n0 O0 pf2 pf5 pf8) e0 pe1 o59 (argsL := []) (rest := []) rfl rfl (g := (mkF m 1 #[.val (.ref ad0)] [.ref ad0])) rfl (by rw [hml]; rfl) rfl (hb hby o293) (W := 0) rfl (by decide) (by decide) (by decide) (by decide)) ?_
  intro T3043 v3043 L3043 X3043 hQ3043
  obtain ⟨rfl, M3043, e3043⟩ := hQ3043
  have N3043 := Fr.app N0 M3043
  refine o2 (fun u j => o1 X3043.here hx rfl (hb hby o294) rfl rfl j) ?_
  refine o19 (getF X3043 hx hZ hown (host := "") (Or.inl (o0 hw 191 rfl)) Via.refl e3043 pf5 rfl rfl (hb hby o295)) ?_
  intro T3044 X3044 e3044
  refine o19 (getF X3044 hx hZ hown (host := "") (Or.inl (o0 hw 219 rfl)) Via.refl e3044 pf9 rfl rfl (hb hby o296)) ?_
  intro T3045 X3045 e3045
  refine o2 (fun u j => o1 X3045.here hx rfl (hb hby o206) rfl rfl j) ?_
  refine o19 (getF X3045 hx hZ hown (host := "") (Or.inl (o0 hw 195 rfl)) Via.refl e3045 pf3 rfl rfl (hb hby o207)) ?_
  intro T3046 X3046 e3046
  refine o2 (fun u j => o1 X3046.here hx rfl (hb hby o208) rfl rfl j) ?_
  refine o19 (getF X3046 hx hZ hown (host := "") (Or.inl (o0 hw 195 rfl)) Via.refl e3046 pf3 rfl rfl (hb hby o209)) ?_
  intro T3047 X3047 e3047
  refine o2 (fun u j => o1 X3047.here hx rfl (hb hby o210) rfl rfl j) ?_
  refine o19 (getF X3047 hx hZ hown (host := "") (Or.inl (o0 hw 197 rfl)) Via.refl e3047 pf6 rfl rfl (hb hby o211)) ?_
  intro T3048 X3048 e3048
  refine o2 (fun u j => o36 X3048.here hx rfl (hb hby o212) rfl j) ?_
  refine o11 (o25 X3048 hx hZ (y := o372) hown (o0 hw 220 rfl) (o0 hw 221 rfl) (o0 hw 222 rfl) (o0 hw 223 rfl) o69 (o986 l Z a0 hw [] wcs wd mOA mSL mAL kd hS ad3 kc4 ad5 ad6 h0 n0 O0 pe11 pa12 pe16) e3048 o628 (argsL := [.ref ad3, .int 1, .int 2]) (rest := []) rfl rfl (g := (mkF m 24 #[.val (.ref ad0)] [.int 2, .int 1, .ref ad3])) rfl (by rw [hml]; rfl) rfl (hb hby o213) (W := 0) rfl (by decide) (by decide) (by decide) (by decide)) ?_
  intro T3049 v3049 L3049 X3049 hQ3049
  obtain ⟨nz0_3050, kz1_3051, rfl, M3049, K3049, z3052, F3053, F3054, ov0_3055⟩ := hQ3049
  have N3049 := Fr.app N3043 M3049
  have K3056 := (Keep.refl h0 []).trans K3049 all0
  have z3057 := Nat.le_trans (Nat.le_refl _) z3052
  exact o20 X3049 hx hlk hret rfl (Or.inr (Or.inr (Or.inr (Or.inr ⟨rfl, rfl, rfl⟩)))) (hb hby o235) (by decide) (by decide) (by exact ⟨nz0_3050, kz1_3051, rfl, N3049, K3056, z3057, F3053, F3054, ov0_3055⟩)
theorem o988 (l : Launch) (Z : State) (a0 : Array Value) (hw : o21 a0 Z) (ws : List Jvm.Cond) (wcs : Int32) (wd mOA mSL mAL : Addr) (kd : ClassId) (hS : o22 Z wcs wd mOA mSL mAL kd) (ad0 ad1 : Addr) (iv2 iv3 : Int32) (ad4 ad5 : Addr) (kc6 : ClassId) (ad7 ad8 : Addr) (h0 : Heap) (n0 : Nat) (O0 : Old Z n0 h0) (pe1 : Exa Z h0 ad0 o3) (pf2 : Fld Z h0 ad0 o8 o9 "I" (.int iv2)) (pf3 : Fld Z h0 ad0 o3 o13 o7 .null) (pf4 : Fld Z h0 ad0 o3 "size" "I" (.int 0)) (pe5 : Exa Z h0 ad1 o14) (pf6 : Fld Z h0 ad1 o8 o9 "I" (.int iv3)) (pf7 : Fld Z h0 ad1 o14 "offset" "I" (.int 1)) (pf9 : Fld Z h0 ad1 o14 "root" o47 (.ref ad4)) (pf10 : Fld Z h0 ad1 o14 "size" "I" (.int 1)) (pf12 : Fld Z h0 ad4 o8 o9 "I" (.int iv3)) (pf13 : Fld Z h0 ad4 o3 o13 o7 (.ref ad5)) (pe15 : Exa Z h0 ad5 o7) (pa16 : Arv Z h0 ad5 kc6 (.object "java/lang/Object") 10 [.ref ad7, .ref ad8, .null, .null, .null, .null, .null, .null, .null, .null] .null) (pe20 : Exa Z h0 ad8 o6) (pg_ad0 : n0 ≤ ad0) (pn_ad4_ad0 : ad4 ≠ ad0) :
    o16 l o374 jdk_38_method_3_code 3 none ws ⟨4, 2, 2, 70⟩ Z h0 #[.ref ad0, .ref ad1] (fun v h L => ∃ nz0 : Addr, ∃ kz1 : ClassId, v = none ∧ Fr n0 L ∧ Keep h0 h [ad0] ∧ h0.size ≤ nz0 ∧ Exa Z h ad0 o3 ∧ Fld Z h ad0 o8 o9 "I" (.int 0) ∧ Fld Z h ad0 o3 o13 o7 (.ref nz0) ∧ Fld Z h ad0 o3 "size" "I" (.int 1) ∧ Exa Z h nz0 o7 ∧ Arv Z h nz0 kz1 (.object "java/lang/Object") 1 [.ref ad8] .null ∧ Ovr Z kz1 "java/lang/Object") := by
  refine o15 (plainFor_of_name o24) ?_
  intro p e s m below meth c s₁ hx hby hml hown hnm hret hlk hZ e0 X0
  have N0 := Fr.nil n0
  refine o2 (fun u j => castTop (show entryFrame m #[.ref ad0, .ref ad1] 3 = mkF m 0 #[.val (.ref ad0), .val (.ref ad1), .unset] [] from rfl) j) ?_
  refine o2 (fun u j => o1 X0.here hx rfl (hb hby o391) rfl rfl j) ?_
  refine o11 (o50 X0 hx hZ (y := o199) rfl hown (o0 hw 44 rfl) (o0 hw 45 rfl) (o0 hw 48 rfl) (o0 hw 49 rfl) o141 (o834 l Z a0 hw [] wcs wd mOA mSL mAL kd hS ad0 iv2 h0 n0 O0 pe1 pf2 pf3 pf4 pg_ad0) e0 o59 (a := ad0) (argsL := []) (rest := []) rfl rfl (g := (mkF m 1 #[.val (.ref ad0), .val (.ref ad1), .unset] [.ref ad0])) rfl (by rw [hml]; rfl) rfl (hb hby o392) (W := 0) rfl (by decide) (by decide) (by decide) (by decide)) ?_
  intro T3104 v3104 L3104 X3104 hQ3104
  obtain ⟨rfl, M3104, K3104, F3105, F3106, F3107, F3108⟩ := hQ3104
  have N3104 := Fr.app N0 M3104
  refine o2 (fun u j => o1 X3104.here hx rfl (hb hby o393) rfl rfl j) ?_
  have F3109 := (pe5.keep K3104)
  have ne3110 := (ne_exa pe5 pe1 o309)
  have F3111 := (pf6.keep K3104 (ninS ne3110 nin0))
  have F3112 := (pf7.keep K3104 (ninS ne3110 nin0))
  have F3113 := (pf9.keep K3104 (ninS ne3110 nin0))
  have F3114 := (pf10.keep K3104 (ninS ne3110 nin0))
  have F3115 := (pf12.keep K3104 (ninS pn_ad4_ad0 nin0))
  have F3116 := (pf13.keep K3104 (ninS pn_ad4_ad0 nin0))
  have F3117 := (pe15.keep K3104)
  have ne3118 := (ne_exa pe15 pe1 o143)
  have F3119 := (pa16.keep K3104 (ninS ne3118 nin0))
  have F3120 := (pe20.keep K3104)
  have O3122 := O0.keep K3104 (allS pg_ad0 all0)
  refine o11 (o29 X3104 hx hZ (y := o641) (z := o373) hown (o0 hw 205 rfl) (o0 hw 206 rfl) (mvT hZ (o0 hw 207 rfl)) (o0 hw 208 rfl) (o0 hw 209 rfl) (o0 hw 210 rfl) (o0 hw 211 rfl) (o0 hw 212 rfl) (o0 hw 182 rfl) (o0 hw 213 rfl) o310 (o987 l Z a0 hw [] wcs wd mOA mSL mAL kd hS ad1 iv3 ad4 ad5 kc6 ad7 ad8 T3104.heap n0 O3122 F3109 F3111 F3112 F3113 F3114 F3115 F3116 F3117 F3119 F3120) rfl F3109 o250 (argsL := []) (rest := []) rfl rfl (g := (mkF m 5 #[.val (.ref ad0), .val (.ref ad1), .unset] [.ref ad1])) rfl (by rw [hml]; rfl) rfl (hb hby o394) (W := 0) rfl (by decide) (by decide) (by decide) (by decide)) ?_
  intro T3121 v3121 L3121 X3121 hQ3121
  obtain ⟨nz0_3123, kz1_3124, rfl, M3121, K3121, z3125, F3126, F3127, ov0_3128⟩ := hQ3121
  have N3121 := Fr.app N3104 M3121
  refine o2 (fun u j => o31 X3121.here hx rfl (hb hby o341) rfl rfl (l' := #[.val (.ref ad0), .val (.ref ad1), .val (.ref nz0_3123)]) rfl (o1 X3121.here hx rfl (hb hby o342) rfl rfl (o1 X3121.here hx rfl (hb hby o343) rfl rfl (o65 X3121 hx hZ rfl F3127 rfl rfl (hb hby o344) (XS.dupX1 X3121.here hx rfl (hb hby o345) rfl rfl rfl j))))) ?_
  have F3130 := (F3105.keep K3121)
  have F3131 := (F3108.keep K3121 nin0)
  refine o32 (putF X3121 hx hZ hown (host := "") (Or.inl (o0 hw 83 rfl)) Via.refl rfl F3131 F3130 (Or.inl (o0 hw 84 rfl)) (o0 hw 39 rfl) (ty := .int) o18 rfl rfl rfl rfl (hb hby o346)) ?_
  intro T3132 h3132 X3132 e3132 W3132
  have N3132 := Fr.snoc X3132 N3121 pg_ad0
  have F3133 : Fld Z h3132 ad0 o3 "size" "I" (.int 1) := Fld.same W3132 F3131
  refine o2 (fun u j => o34 X3132.here hx rfl (hb hby o347) rfl (o33 (by decide)) (o1 X3132.here hx rfl (hb hby o348) rfl rfl j)) ?_
  have F3134 := (Exa.wr W3132 (F3109.keep K3121))
  have q_ := o637 X3132 hx hZ (xi := o642) hown (o0 hw 242 rfl) (o0 hw 225 rfl) (o711 hZ (o0 hw 243 rfl)) (o0 hw 244 rfl) (o0 hw 226 rfl) (o0 hw 245 rfl) (o0 hw 246 rfl) (o0 hw 212 rfl) (o0 hw 228 rfl) o310 o629 rfl rfl e3132 F3134 hS.2.2.2.2.2.2.1 (g := (mkF m 22 #[.val (.ref ad0), .val (.ref ad1), .val (.ref nz0_3123)] [.ref ad1])) rfl (by rw [hml]; rfl) rfl (hb hby o349) (by decide) (W := 0) (by show 2 * 0 + _ ≤ _; exact Nat.le_of_eq rfl) (by decide)
  obtain ⟨T3135, X3135, e3135, st3135⟩ := q_
  refine o2 (fun u j => st3135 u j) ?_
  have q_ := o114 X3135 hx hZ hown (o0 hw 247 rfl) e3135 hS.2.2.2.2.2.2.2 (g := (mkF m 27 #[.val (.ref ad0), .val (.ref ad1), .val (.ref nz0_3123)] [.ref mSL])) rfl (hb hby o350)
  obtain ⟨T3136, X3136, e3136, st3136⟩ := q_
  refine o2 (fun u j => st3136 u j) ?_
  refine o2 (fun u j => XT.acmpYes X3136.here hx rfl (pc0 := 29) (pc' := 40) rfl (hb hby o351) rfl rfl rfl (XT.aa_ne_t (o647 (Mir.ne hS.2.2.2.2.2.2.1 hS.2.2.2.2.2.2.2 o309))) (by decide) (by decide) (o1 X3136.here hx rfl (hb hby o352) rfl rfl (o1 X3136.here hx rfl (hb hby o353) rfl rfl (o1 X3136.here hx rfl (hb hby o354) rfl rfl j)))) ?_
  refine o19 (getF X3136 hx hZ hown (host := "") (Or.inl (o0 hw 83 rfl)) Via.refl e3136 F3133 rfl rfl (hb hby o355)) ?_
  intro T3137 X3137 e3137
  have q_ := o114 X3137 hx hZ hown (o0 hw 249 rfl) e3137 hS.2.2.2.2.2.1 (g := (mkF m 46 #[.val (.ref ad0), .val (.ref ad1), .val (.ref nz0_3123)] [.int 1, .ref nz0_3123, .ref ad0])) rfl (hb hby o356)
  obtain ⟨T3138, X3138, e3138, st3138⟩ := q_
  refine o2 (fun u j => st3138 u j) ?_
  have ne3139 := (Ne.symm (Nat.ne_of_lt (Nat.lt_of_lt_of_le F3105.lt z3125)))
  have F3140 := (F3127.other W3132 ne3139)
  have F3141 := (Exa.wr W3132 (F3120.keep K3121))
  have O3143 := O3122.keep K3121 all0
  have O3144 := O3143.wr W3132 pg_ad0
  refine o11 (o25 X3138 hx hZ (y := o194) hown (o0 hw 250 rfl) (o0 hw 251 rfl) (o0 hw 222 rfl) (o0 hw 252 rfl) o69 (o887 l Z a0 hw [] wcs wd mOA mSL mAL kd hS nz0_3123 kz1_3124 ad8 h3132 n0 O3144 F3140 F3141) e3138 o395 (argsL := [.ref nz0_3123, .int 1, .ref mOA]) (rest := [.ref ad0]) rfl rfl (g := (mkF m 48 #[.val (.ref ad0), .val (.ref ad1), .val (.ref nz0_3123)] [.ref mOA, .int 1, .ref nz0_3123, .ref ad0])) rfl (by rw [hml]; rfl) rfl (hb hby o357) (W := 1) rfl (by decide) (by decide) (by decide) (by decide)) ?_
  intro T3142 v3142 L3142 X3142 hQ3142
  obtain ⟨nz0_3145, kz1_3146, rfl, M3142, K3142, z3147, F3148, F3149, ov0_3150⟩ := hQ3142
  have N3142 := Fr.app N3132 M3142
  have F3151 := ((Exa.wr W3132 F3130).keep K3142)
  have F3152 := ((Fld.other W3132 (F3107.keep K3121 nin0) (Or.inr (o117 hw))).keep K3142 nin0)
  refine o32 (putF X3142 hx hZ hown (host := "") (Or.inl (o0 hw 60 rfl)) Via.refl rfl F3152 F3151 (Or.inl (o0 hw 61 rfl)) (o0 hw 39 rfl) (ty := (.array (.object "java/lang/Object"))) o68 rfl rfl rfl rfl (hb hby o358)) ?_
  intro T3153 h3153 X3153 e3153 W3153
  have N3153 := Fr.snoc X3153 N3142 pg_ad0
  have F3154 : Fld Z h3153 ad0 o3 o13 o7 (.ref nz0_3145) := Fld.same W3153 F3152
  refine o2 (fun u j => o35 X3153.here hx rfl (pc0 := 54) (pc' := 64) rfl (hb hby o359) (by decide) (by decide) j) ?_
  have K3155 := (Keep.refl h0 [ad0]).trans K3104 (allS (Or.inl (List.mem_of_getElem? (i := 0) rfl)) all0)
  have K3156 := K3155.trans K3121 all0
  have K3157 := K3156.wr W3132 (Or.inl (List.mem_of_getElem? (i := 0) rfl))
  have K3158 := K3157.trans K3142 all0
  have K3159 := K3158.wr W3153 (Or.inl (List.mem_of_getElem? (i := 0) rfl))
  have z3160 := Nat.le_trans (Nat.le_trans (Nat.le_trans K3104.1 K3121.1) (Nat.le_of_eq W3132.size.symm)) z3147
  have F3161 := (Exa.wr W3153 F3151)
  have F3162 := (Fld.other W3153 ((Fld.other W3132 (F3106.keep K3121 nin0) (Or.inr (o116 hw))).keep K3142 nin0) (Or.inr (o200 hw)))
  have F3163 := (Fld.other W3153 (F3133.keep K3142 nin0) (Or.inr (o201 hw)))
  have F3164 := (Exa.wr W3153 F3148)
  have ne3165 := (Ne.symm (Nat.ne_of_lt (Nat.lt_of_lt_of_le F3133.lt z3147)))
  have F3166 := (F3149.other W3153 ne3165)
  exact o48 X3153 hx hlk hret (hb hby o360) (by decide) (by decide) (by rw [e3153]; exact ⟨nz0_3145, kz1_3146, rfl, N3153, K3159, z3160, F3161, F3162, F3154, F3163, F3164, F3166, ov0_3150⟩)
theorem o989 (l : Launch) (Z : State) (a0 : Array Value) (hw : o21 a0 Z) (ws : List Jvm.Cond) (wcs : Int32) (wd mOA mSL mAL : Addr) (kd : ClassId) (hS : o22 Z wcs wd mOA mSL mAL kd) (ad0 ad1 : Addr) (ad2 ad3 : Addr) (iv4 : Int32) (ad5 : Addr) (kc6 : ClassId) (iv7 : Int32) (lv8 : List Value) (kc9 : ClassId) (ad10 ad11 : Addr) (kc12 : ClassId) (iv13 : Int32) (lv14 : List Value) (h0 : Heap) (n0 : Nat) (O0 : Old Z n0 h0) (pf2 : Fld Z h0 ad0 o54 "path" o66 (.ref ad2)) (pe3 : Exa Z h0 ad1 o6) (pf4 : Fld Z h0 ad1 o6 "coder" "B" (.int 0)) (pf5 : Fld Z h0 ad1 o6 "value" "[B" (.ref ad3)) (pe6 : Exa Z h0 ad2 o3) (pf7 : Fld Z h0 ad2 o8 o9 "I" (.int iv4)) (pf8 : Fld Z h0 ad2 o3 o13 o7 (.ref ad5)) (pf9 : Fld Z h0 ad2 o3 "size" "I" (.int 2)) (pa11 : Arv Z h0 ad3 kc6 .byte iv7 lv8 (.int 0)) (pe12 : Exa Z h0 ad5 o7) (pa13 : Arv Z h0 ad5 kc9 (.object "java/lang/Object") 10 [.ref ad10, .ref ad1, .null, .null, .null, .null, .null, .null, .null, .null] .null) (pe14 : Exa Z h0 ad10 o6) (pf15 : Fld Z h0 ad10 o6 "coder" "B" (.int 0)) (pf16 : Fld Z h0 ad10 o6 "value" "[B" (.ref ad11)) (pa18 : Arv Z h0 ad11 kc12 .byte iv13 lv14 (.int 0)) (pk_0 : ¬ iv7 = iv13) (pn_ad1_ad10 : ad1 ≠ ad10) :
    o16 l o39 prog_33_method_4_code 4 (some (.object "java/util/List")) ws ⟨7, 5, 12, 111⟩ Z h0 #[.ref ad0, .ref ad1] (fun v h L => ∃ nz0 : Addr, ∃ nz1 : Addr, ∃ kz2 : ClassId, v = some (.ref nz0) ∧ Fr n0 L ∧ Keep h0 h [] ∧ h0.size ≤ nz0 ∧ h0.size ≤ nz1 ∧ Exa Z h nz0 o3 ∧ Fld Z h nz0 o8 o9 "I" (.int ((0 : Int32) + (1 : Int32))) ∧ Fld Z h nz0 o3 o13 o7 (.ref nz1) ∧ Fld Z h nz0 o3 "size" "I" (.int 2) ∧ Exa Z h nz1 o7 ∧ Arv Z h nz1 kz2 (.object "java/lang/Object") 2 [.ref ad1, .ref ad1] .null ∧ Ovr Z kz2 "java/lang/Object") := by
  refine o15 (plainFor_of_name o76) ?_
  intro p e s m below meth c s₁ hx hby hml hown hnm hret hlk hZ e0 X0
  have N0 := Fr.nil n0
  refine o2 (fun u j => castTop (show entryFrame m #[.ref ad0, .ref ad1] 4 = mkF m 0 #[.val (.ref ad0), .val (.ref ad1), .unset, .unset] [] from rfl) j) ?_
  refine o2 (fun u j => o1 X0.here hx rfl (hb hby o98) rfl rfl j) ?_
  refine o19 (getF X0 hx hZ hown (host := "") (Or.inl (o0 hw 62 rfl)) Via.refl e0 pf2 rfl rfl (hb hby o99)) ?_
  intro T3203 X3203 e3203
  refine o2 (fun u j => o1 X3203.here hx rfl (hb hby o100) rfl rfl j) ?_
  refine o11 (o29 X3203 hx hZ (y := o364) (z := o113) hown (o0 hw 74 rfl) (o0 hw 75 rfl) (mvT hZ (o0 hw 76 rfl)) (o0 hw 77 rfl) (o0 hw 78 rfl) (o0 hw 79 rfl) (o0 hw 80 rfl) (o0 hw 81 rfl) (o0 hw 40 rfl) (o0 hw 82 rfl) o27 (o982 l Z a0 hw [] wcs wd mOA mSL mAL kd hS ad2 ad1 ad5 ad3 kc9 ad10 kc6 iv7 lv8 ad11 kc12 iv13 lv14 h0 n0 O0 pe6 pf8 pf9 pe3 pf4 pf5 pa13 pa11 pe14 pf15 pf16 pa18 pk_0 pn_ad1_ad10) e3203 pe6 o243 (argsL := [.ref ad1]) (rest := []) rfl rfl (g := (mkF m 5 #[.val (.ref ad0), .val (.ref ad1), .unset, .unset] [.ref ad1, .ref ad2])) rfl (by rw [hml]; rfl) rfl (hb hby o101) (W := 0) rfl (by decide) (by decide) (by decide) (by decide)) ?_
  intro T3204 v3204 L3204 X3204 hQ3204
  obtain ⟨rfl, M3204, e3204⟩ := hQ3204
  have N3204 := Fr.app N0 M3204
  refine o2 (fun u j => o45 X3204.here hx rfl (hb hby o88) rfl (l' := #[.val (.ref ad0), .val (.ref ad1), .val (.int 1), .unset]) rfl (o4 X3204.here hx rfl (hb hby o89) rfl (o43 X3204.here hx rfl (pc0 := 12) (pc' := 17) rfl (hb hby o90) rfl (o140 (by decide)) (by decide) (by decide) j))) ?_
  have q_ := newO X3204 hx hZ hown (o0 hw 38 rfl) (o0 hw 39 rfl) (o0 hw 40 rfl) e3204 (g := (mkF m 17 #[.val (.ref ad0), .val (.ref ad1), .val (.int 1), .unset] [])) rfl (hb hby o260) (by decide) (by decide)
  obtain ⟨T3205, h3205, X3205, e3205, E3205, A3205, D3205, U3205, st3205⟩ := q_
  have q_ : ∃ z, z = h0.size := ⟨_, rfl⟩
  obtain ⟨b3205, g3205⟩ := q_
  rw [← g3205] at A3205 D3205 U3205 st3205
  have F3205_modCount : Fld Z h3205 b3205 o8 o9 "I" (.int 0) := D3205 (Or.inl (o0 hw 58 rfl)) (ty := .int) o18
  have F3205_elementData : Fld Z h3205 b3205 o3 o13 o7 .null := D3205 (Or.inl (o0 hw 61 rfl)) (ty := (.array (.object "java/lang/Object"))) o68
  have F3205_size : Fld Z h3205 b3205 o3 "size" "I" (.int 0) := D3205 (Or.inl (o0 hw 84 rfl)) (ty := .int) o18
  refine o2 (fun u j => st3205 u j) ?_
  refine o2 (fun u j => o40 X3205.here hx rfl (hb hby o261) rfl rfl (o1 X3205.here hx rfl (hb hby o262) rfl rfl j)) ?_
  have F3206 := (Fld.ext E3205 pf2)
  refine o19 (getF X3205 hx hZ hown (host := "") (Or.inl (o0 hw 62 rfl)) Via.refl e3205 F3206 rfl rfl (hb hby o263)) ?_
  intro T3207 X3207 e3207
  refine o2 (fun u j => o4 X3207.here hx rfl (hb hby o264) rfl (o1 X3207.here hx rfl (hb hby o265) rfl rfl j)) ?_
  refine o19 (getF X3207 hx hZ hown (host := "") (Or.inl (o0 hw 62 rfl)) Via.refl e3207 F3206 rfl rfl (hb hby o266)) ?_
  intro T3208 X3208 e3208
  have F3209 := (Fld.ext E3205 pf9)
  have O3211 := O0.ext E3205
  have F3212 := (Exa.ext E3205 pe6)
  refine o11 (o29 X3208 hx hZ (y := o186) (z := o154) hown (o0 hw 138 rfl) (o0 hw 139 rfl) (mvT hZ (o0 hw 140 rfl)) (o0 hw 141 rfl) (o0 hw 142 rfl) (o0 hw 143 rfl) (o0 hw 144 rfl) (o0 hw 81 rfl) (o0 hw 40 rfl) (o0 hw 145 rfl) o27 (o591 l Z a0 hw [] wcs wd mOA mSL mAL kd hS ad2 (2 : Int32) h3205 n0 O3211 F3209) e3208 F3212 o142 (argsL := []) (rest := [.int 1, .ref ad2, .ref b3205, .ref b3205]) rfl rfl (g := (mkF m 30 #[.val (.ref ad0), .val (.ref ad1), .val (.int 1), .unset] [.ref ad2, .int 1, .ref ad2, .ref b3205, .ref b3205])) rfl (by rw [hml]; rfl) rfl (hb hby o267) (W := 4) rfl (by decide) (by decide) (by decide) (by decide)) ?_
  intro T3210 v3210 L3210 X3210 hQ3210
  obtain ⟨rfl, M3210, e3210⟩ := hQ3210
  have N3210 := Fr.app N3204 M3210
  have F3213 := (Fld.ext E3205 pf7)
  refine o11 (o29 X3210 hx hZ (y := o640) (z := o370) hown (o0 hw 168 rfl) (o0 hw 169 rfl) (mvT hZ (o0 hw 170 rfl)) (o0 hw 171 rfl) (o0 hw 172 rfl) (o0 hw 173 rfl) (o0 hw 174 rfl) (o0 hw 81 rfl) (o0 hw 40 rfl) (o0 hw 175 rfl) o27 (o984 l Z a0 hw [] wcs wd mOA mSL mAL kd hS ad2 iv4 h3205 n0 O3211 F3212 F3213 F3209) e3210 F3212 o626 (argsL := [.int 1, .int 2]) (rest := [.ref b3205, .ref b3205]) rfl rfl (g := (mkF m 35 #[.val (.ref ad0), .val (.ref ad1), .val (.int 1), .unset] [.int 2, .int 1, .ref ad2, .ref b3205, .ref b3205])) rfl (by rw [hml]; rfl) rfl (hb hby o268) (W := 2) rfl (by decide) (by decide) (by decide) (by decide)) ?_
  intro T3214 v3214 L3214 X3214 hQ3214
  obtain ⟨nz0_3215, rfl, M3214, K3214, z3216, F3217, F3218, F3219, F3220, F3221, F3222⟩ := hQ3214
  have N3214 := Fr.app N3210 M3214
  have F3223 := (A3205.keep K3214)
  have F3224 := (F3205_modCount.keep K3214 nin0)
  have F3225 := (F3205_elementData.keep K3214 nin0)
  have F3226 := (F3205_size.keep K3214 nin0)
  have F3227 := (F3213.keep K3214 nin0)
  have F3228 := ((Fld.ext E3205 pf8).keep K3214 nin0)
  have F3229 := ((Exa.ext E3205 pe12).keep K3214)
  have F3230 := ((pa13.ext E3205).keep K3214 nin0)
  have F3231 := ((Exa.ext E3205 pe3).keep K3214)
  have g3232 := Nat.le_trans (o52 O0) (Nat.le_of_eq g3205.symm)
  have ne3233 := (Nat.ne_of_lt (Nat.lt_of_lt_of_le pe6.lt (Nat.le_of_eq g3205.symm)))
  have O3235 := O3211.keep K3214 all0
  refine o11 (o50 X3214 hx hZ (y := o374) rfl hown (o0 hw 202 rfl) (o0 hw 203 rfl) (o0 hw 40 rfl) (o0 hw 204 rfl) o42 (o988 l Z a0 hw [] wcs wd mOA mSL mAL kd hS b3205 nz0_3215 (0 : Int32) iv4 ad2 ad5 kc9 ad10 ad1 T3214.heap n0 O3235 F3223 F3224 F3225 F3226 F3217 F3218 F3219 F3221 F3222 F3227 F3228 F3229 F3230 F3231 g3232 ne3233) rfl o630 (a := b3205) (argsL := [.ref nz0_3215]) (rest := [.ref b3205]) rfl rfl (g := (mkF m 40 #[.val (.ref ad0), .val (.ref ad1), .val (.int 1), .unset] [.ref nz0_3215, .ref b3205, .ref b3205])) rfl (by rw [hml]; rfl) rfl (hb hby o291) (W := 1) rfl (by decide) (by decide) (by decide) (by decide)) ?_
  intro T3234 v3234 L3234 X3234 hQ3234
  obtain ⟨nz0_3236, kz1_3237, rfl, M3234, K3234, z3238, F3239, F3240, F3241, F3242, F3243, F3244, ov0_3245⟩ := hQ3234
  have N3234 := Fr.app N3214 M3234
  refine o2 (fun u j => o31 X3234.here hx rfl (hb hby o311) rfl rfl (l' := #[.val (.ref ad0), .val (.ref ad1), .val (.int 1), .val (.ref b3205)]) rfl (o1 X3234.here hx rfl (hb hby o312) rfl rfl (o1 X3234.here hx rfl (hb hby o313) rfl rfl j))) ?_
  have F3246 := (F3231.keep K3234)
  have O3248 := O3235.keep K3234 (allS g3232 all0)
  refine o11 (o29 X3234 hx hZ (y := o367) (z := o137) hown (o0 hw 90 rfl) (o0 hw 91 rfl) (mvT hZ (o0 hw 92 rfl)) (o0 hw 93 rfl) (o0 hw 94 rfl) (o0 hw 95 rfl) (o0 hw 96 rfl) (o0 hw 81 rfl) (o0 hw 40 rfl) (o0 hw 97 rfl) o27 (o888 l Z a0 hw [] wcs wd mOA mSL mAL kd hS b3205 ad1 (0 : Int32) nz0_3236 kz1_3237 T3234.heap n0 O3248 F3239 F3240 F3241 F3242 F3246 F3243 F3244 g3232) rfl F3239 o46 (argsL := [.ref ad1]) (rest := []) rfl rfl (g := (mkF m 46 #[.val (.ref ad0), .val (.ref ad1), .val (.int 1), .val (.ref b3205)] [.ref ad1, .ref b3205])) rfl (by rw [hml]; rfl) rfl (hb hby o314) (W := 0) rfl (by decide) (by decide) (by decide) (by decide)) ?_
  intro T3247 v3247 L3247 X3247 hQ3247
  obtain ⟨nz0_3249, kz1_3250, rfl, M3247, K3247, z3251, F3252, F3253, F3254, F3255, F3256, F3257, ov0_3258⟩ := hQ3247
  have N3247 := Fr.app N3234 M3247
  refine o2 (fun u j => o55 X3247.here hx rfl (hb hby o315) rfl rfl (o1 X3247.here hx rfl (hb hby o316) rfl rfl j)) ?_
  have K3259 := (Keep.refl h0 []).ext E3205
  have K3260 := K3259.trans K3214 all0
  have z3262 := Nat.le_trans (Nat.le_refl _) (Nat.le_of_eq g3205.symm)
  have K3261 := K3260.trans K3234 (allS (Or.inr z3262) all0)
  have K3263 := K3261.trans K3247 (allS (Or.inr z3262) all0)
  have z3264 := Nat.le_trans (Nat.le_trans (Nat.le_trans E3205.1 K3214.1) K3234.1) z3251
  exact o20 X3247 hx hlk hret rfl (Or.inr (Or.inr (Or.inr (Or.inr ⟨rfl, rfl, rfl⟩)))) (hb hby o317) (by decide) (by decide) (by exact ⟨b3205, nz0_3249, kz1_3250, rfl, N3247, K3263, z3262, z3264, F3252, F3253, F3254, F3255, F3256, F3257, ov0_3258⟩)
theorem o990 (l : Launch) (Z : State) (a0 : Array Value) (hw : o21 a0 Z) (ws : List Jvm.Cond) (wcs : Int32) (wd mOA mSL mAL : Addr) (kd : ClassId) (hS : o22 Z wcs wd mOA mSL mAL kd) (ad0 ad1 : Addr) (ad2 ad4 : Addr) (kc7 : ClassId) (h0 : Heap) (n0 : Nat) (O0 : Old Z n0 h0) (pe1 : Exa Z h0 ad0 o3) (pf3 : Fld Z h0 ad0 o3 o13 o7 (.ref ad4)) (pf4 : Fld Z h0 ad0 o3 "size" "I" (.int 2)) (pe5 : Exa Z h0 ad1 o6) (pa12 : Arv Z h0 ad4 kc7 (.object "java/lang/Object") 2 [.ref ad1, .ref ad1] .null) :
    o16 l o187 method_3_code 6 (some .boolean) ws ⟨3, 0, 0, 40⟩ Z h0 #[.ref ad0, .ref ad1, .int 1, .int 2, .ref ad2] (fun v h L => v = some (.int 1) ∧ Fr n0 L ∧ h = h0) := by
  refine o15 (plainFor_of_name o580) ?_
  intro p e s m below meth c s₁ hx hby hml hown hnm hret hlk hZ e0 X0
  have N0 := Fr.nil n0
  refine o2 (fun u j => castTop (show entryFrame m #[.ref ad0, .ref ad1, .int 1, .int 2, .ref ad2] 6 = mkF m 0 #[.val (.ref ad0), .val (.ref ad1), .val (.int 1), .val (.int 2), .val (.ref ad2), .unset] [] from rfl) j) ?_
  refine o2 (fun u j => o4 X0.here hx rfl (hb hby o388) rfl (o4 X0.here hx rfl (hb hby o389) rfl (o23 X0.here hx rfl (pc0 := 2) (pc' := 15) rfl (hb hby o390) rfl (XT.ii_lt_t (by decide)) (by decide) (by decide) (o1 X0.here hx rfl (hb hby o533) rfl rfl (o60 X0.here hx rfl (pc0 := 16) (pc' := 21) rfl (hb hby o534) rfl (by decide) (by decide) (o4 X0.here hx rfl (hb hby o535) rfl j)))))) ?_
  show o17 p e below _ (s₁.setTop (mkF m 22 #[.val (.ref ad0), .val (.ref ad1), .val (.int 1), .val (.int 2), .val (.ref ad2), .unset] [.int 2]))
  refine o2 (fun u j => o4 X0.here hx rfl (hb hby o536) rfl (o38 X0.here hx rfl (hb hby o537) rfl (o5 X0.here hx rfl (hb hby o538) (o36 X0.here hx rfl (hb hby o539) rfl (o30 X0.here hx rfl (hb hby o540) rfl (l' := #[.val (.ref ad0), .val (.ref ad1), .val (.int 1), .val (.int 2), .val (.ref ad2), .val (.int 2)]) rfl (o1 X0.here hx rfl (hb hby o541) rfl rfl j)))))) ?_
  show o17 p e below _ (s₁.setTop (mkF m 29 #[.val (.ref ad0), .val (.ref ad1), .val (.int 1), .val (.int 2), .val (.ref ad2), .val (.int 2)] [.ref ad0]))
  refine o11 (o29 X0 hx hZ (y := o186) (z := o154) hown (o0 hw 267 rfl) (o0 hw 139 rfl) (mvT hZ (o0 hw 140 rfl)) (o0 hw 141 rfl) (o0 hw 142 rfl) (o0 hw 143 rfl) (o0 hw 144 rfl) (o0 hw 81 rfl) (o0 hw 40 rfl) (o0 hw 145 rfl) o27 (o591 l Z a0 hw [] wcs wd mOA mSL mAL kd hS ad0 (2 : Int32) h0 n0 O0 pf4) e0 pe1 o142 (argsL := []) (rest := []) rfl rfl (g := (mkF m 29 #[.val (.ref ad0), .val (.ref ad1), .val (.int 1), .val (.int 2), .val (.ref ad2), .val (.int 2)] [.ref ad0])) rfl (by rw [hml]; rfl) rfl (hb hby o542) (W := 0) rfl (by decide) (by decide) (by decide) (by decide)) ?_
  intro T3299 v3299 L3299 X3299 hQ3299
  obtain ⟨rfl, M3299, e3299⟩ := hQ3299
  have N3299 := Fr.app N0 M3299
  refine o2 (fun u j => o10 X3299.here hx rfl (hb hby o543) rfl (o23 X3299.here hx rfl (pc0 := 36) (pc' := 41) rfl (hb hby o544) rfl (XT.ii_eq_t (by decide)) (by decide) (by decide) (o1 X3299.here hx rfl (hb hby o545) rfl rfl (o5 X3299.here hx rfl (hb hby o546) j)))) ?_
  refine o11 (o29 X3299 hx hZ (y := o195) (z := o155) hown (o0 hw 268 rfl) (o0 hw 269 rfl) (mvT hZ (o0 hw 270 rfl)) (o0 hw 271 rfl) (o0 hw 272 rfl) (o0 hw 273 rfl) (o0 hw 274 rfl) (o0 hw 81 rfl) (o0 hw 40 rfl) (o0 hw 275 rfl) o27 (o471 l Z a0 hw [] wcs wd mOA mSL mAL kd hS ad0 ad4 kc7 (2 : Int32) [.ref ad1, .ref ad1] (0 : Int32) ad1 (2 : Int32) h0 n0 O0 pe1 pf4 (by decide) (by decide) pf3 pa12 ⟨by decide, by decide⟩ rfl) e3299 pe1 o71 (argsL := [.int 0]) (rest := []) rfl rfl (g := (mkF m 43 #[.val (.ref ad0), .val (.ref ad1), .val (.int 1), .val (.int 2), .val (.ref ad2), .val (.int 2)] [.int 0, .ref ad0])) rfl (by rw [hml]; rfl) rfl (hb hby o547) (W := 0) rfl (by decide) (by decide) (by decide) (by decide)) ?_
  intro T3300 v3300 L3300 X3300 hQ3300
  obtain ⟨rfl, M3300, e3300⟩ := hQ3300
  have N3300 := Fr.app N3299 M3300
  have q_ := castY X3300 hx hZ hown (o0 hw 1 rfl) e3300 (Ins.self pe5) (g := (mkF m 48 #[.val (.ref ad0), .val (.ref ad1), .val (.int 1), .val (.int 2), .val (.ref ad2), .val (.int 2)] [.ref ad1])) rfl rfl (hb hby o548)
  obtain ⟨T3301, X3301, e3301, st3301⟩ := q_
  refine o2 (fun u j => st3301 u j) ?_
  refine o2 (fun u j => o1 X3301.here hx rfl (hb hby o549) rfl rfl j) ?_
  refine o11 (o26 X3301 hx hZ (y := o41) (z := o41) hown (o0 hw 281 rfl) (o0 hw 282 rfl) (notFace_of_selects (args := #[]) (mvT hZ (o0 hw 283 rfl))) (o0 hw 283 rfl) (o0 hw 126 rfl) (o0 hw 3 rfl) (o0 hw 127 rfl) o70 (o256 l Z a0 hw [] wcs wd mOA mSL mAL kd hS ad1 h0 n0 O0 ) e3301 pe5 o46 (argsL := [.ref ad1]) (rest := []) rfl rfl (g := (mkF m 52 #[.val (.ref ad0), .val (.ref ad1), .val (.int 1), .val (.int 2), .val (.ref ad2), .val (.int 2)] [.ref ad1, .ref ad1])) rfl (by rw [hml]; rfl) rfl (hb hby o550) (W := 0) rfl (by decide) (by decide) (by decide) (by decide)) ?_
  intro T3302 v3302 L3302 X3302 hQ3302
  obtain ⟨rfl, M3302, e3302⟩ := hQ3302
  have N3302 := Fr.app N3300 M3302
  refine o2 (fun u j => o34 X3302.here hx rfl (hb hby o551) rfl (o33 (by decide)) (o1 X3302.here hx rfl (hb hby o552) rfl rfl (o10 X3302.here hx rfl (hb hby o553) rfl (o5 X3302.here hx rfl (hb hby o554) (o38 X3302.here hx rfl (hb hby o555) rfl j))))) ?_
  refine o11 (o29 X3302 hx hZ (y := o195) (z := o155) hown (o0 hw 268 rfl) (o0 hw 269 rfl) (mvT hZ (o0 hw 270 rfl)) (o0 hw 271 rfl) (o0 hw 272 rfl) (o0 hw 273 rfl) (o0 hw 274 rfl) (o0 hw 81 rfl) (o0 hw 40 rfl) (o0 hw 275 rfl) o27 (o471 l Z a0 hw [] wcs wd mOA mSL mAL kd hS ad0 ad4 kc7 (2 : Int32) [.ref ad1, .ref ad1] (1 : Int32) ad1 (2 : Int32) h0 n0 O0 pe1 pf4 (by decide) (by decide) pf3 pa12 ⟨by decide, by decide⟩ rfl) e3302 pe1 o71 (argsL := [.int 1]) (rest := []) rfl rfl (g := (mkF m 63 #[.val (.ref ad0), .val (.ref ad1), .val (.int 1), .val (.int 2), .val (.ref ad2), .val (.int 2)] [.int 1, .ref ad0])) rfl (by rw [hml]; rfl) rfl (hb hby o556) (W := 0) rfl (by decide) (by decide) (by decide) (by decide)) ?_
  intro T3303 v3303 L3303 X3303 hQ3303
  obtain ⟨rfl, M3303, e3303⟩ := hQ3303
  have N3303 := Fr.app N3302 M3303
  have q_ := castY X3303 hx hZ hown (o0 hw 1 rfl) e3303 (Ins.self pe5) (g := (mkF m 68 #[.val (.ref ad0), .val (.ref ad1), .val (.int 1), .val (.int 2), .val (.ref ad2), .val (.int 2)] [.ref ad1])) rfl rfl (hb hby o557)
  obtain ⟨T3304, X3304, e3304, st3304⟩ := q_
  refine o2 (fun u j => st3304 u j) ?_
  refine o2 (fun u j => o1 X3304.here hx rfl (hb hby o558) rfl rfl j) ?_
  refine o11 (o26 X3304 hx hZ (y := o41) (z := o41) hown (o0 hw 281 rfl) (o0 hw 282 rfl) (notFace_of_selects (args := #[]) (mvT hZ (o0 hw 283 rfl))) (o0 hw 283 rfl) (o0 hw 126 rfl) (o0 hw 3 rfl) (o0 hw 127 rfl) o70 (o256 l Z a0 hw [] wcs wd mOA mSL mAL kd hS ad1 h0 n0 O0 ) e3304 pe5 o46 (argsL := [.ref ad1]) (rest := []) rfl rfl (g := (mkF m 72 #[.val (.ref ad0), .val (.ref ad1), .val (.int 1), .val (.int 2), .val (.ref ad2), .val (.int 2)] [.ref ad1, .ref ad1])) rfl (by rw [hml]; rfl) rfl (hb hby o559) (W := 0) rfl (by decide) (by decide) (by decide) (by decide)) ?_
  intro T3305 v3305 L3305 X3305 hQ3305
  obtain ⟨rfl, M3305, e3305⟩ := hQ3305
  have N3305 := Fr.app N3303 M3305
  refine o2 (fun u j => o43 X3305.here hx rfl (pc0 := 75) (pc' := 80) rfl (hb hby o560) rfl (o138 (by decide)) (by decide) (by decide) (o10 X3305.here hx rfl (hb hby o561) rfl (o5 X3305.here hx rfl (hb hby o562) (o23 X3305.here hx rfl (pc0 := 83) (pc' := 102) rfl (hb hby o563) rfl (o139 (by decide)) (by decide) (by decide) (o5 X3305.here hx rfl (hb hby o595) j))))) ?_
  exact o20 X3305 hx hlk hret rfl (Or.inl ⟨rfl, by simp, _, rfl⟩) (hb hby o596) (by decide) (by decide) (by rw [e3305]; exact ⟨rfl, N3305, rfl⟩)
theorem o991 (l : Launch) (Z : State) (a0 : Array Value) (hw : o21 a0 Z) (ws : List Jvm.Cond) (wcs : Int32) (wd mOA mSL mAL : Addr) (kd : ClassId) (hS : o22 Z wcs wd mOA mSL mAL kd) (ad0 ad1 ad3 : Addr) (kc5 : ClassId) (ad6 ad7 : Addr) (h0 : Heap) (n0 : Nat) (O0 : Old Z n0 h0) (pf3 : Fld Z h0 ad0 o3 o13 o7 (.ref ad3)) (pe5 : Exa Z h0 ad1 o6) (pa9 : Arv Z h0 ad3 kc5 (.object "java/lang/Object") 10 [.ref ad1, .ref ad6, .ref ad7, .null, .null, .null, .null, .null, .null, .null] .null) :
    o16 l o61 jdk_38_method_12_code 6 (some .int) ws ⟨1, 0, 0, 14⟩ Z h0 #[.ref ad0, .ref ad1, .int 0, .int 3] (fun v h L => v = some (.int 0) ∧ Fr n0 L ∧ h = h0) := by
  refine o15 (plainFor_of_name o24) ?_
  intro p e s m below meth c s₁ hx hby hml hown hnm hret hlk hZ e0 X0
  have N0 := Fr.nil n0
  refine o2 (fun u j => castTop (show entryFrame m #[.ref ad0, .ref ad1, .int 0, .int 3] 6 = mkF m 0 #[.val (.ref ad0), .val (.ref ad1), .val (.int 0), .val (.int 3), .unset, .unset] [] from rfl) j) ?_
  refine o2 (fun u j => o1 X0.here hx rfl (hb hby o108) rfl rfl j) ?_
  refine o19 (getF X0 hx hZ hown (host := "") (Or.inl (o0 hw 60 rfl)) Via.refl e0 pf3 rfl rfl (hb hby o109)) ?_
  intro T3341 X3341 e3341
  refine o2 (fun u j => o37 X3341.here hx rfl (hb hby o110) rfl rfl (l' := #[.val (.ref ad0), .val (.ref ad1), .val (.int 0), .val (.int 3), .val (.ref ad3), .unset]) rfl (o1 X3341.here hx rfl (hb hby o111) rfl rfl (o60 X3341.here hx rfl (pc0 := 7) (pc' := 39) rfl (hb hby o112) rfl (by decide) (by decide) (o4 X3341.here hx rfl (hb hby o85) rfl (o30 X3341.here hx rfl (hb hby o86) rfl (l' := #[.val (.ref ad0), .val (.ref ad1), .val (.int 0), .val (.int 3), .val (.ref ad3), .val (.int 0)]) rfl (o10 X3341.here hx rfl (hb hby o56) rfl j)))))) ?_
  show o17 p e below _ (T3341.setTop (mkF m 44 #[.val (.ref ad0), .val (.ref ad1), .val (.int 0), .val (.int 3), .val (.ref ad3), .val (.int 0)] [.int 0]))
  refine o2 (fun u j => o4 X3341.here hx rfl (hb hby o57) rfl (o28 X3341.here hx rfl (hb hby o58) rfl (o53 (by decide)) (o1 X3341.here hx rfl (hb hby o91) rfl rfl (o12 X3341.here hx rfl (hb hby o92) rfl rfl (o10 X3341.here hx rfl (hb hby o93) rfl (o413 X3341 hx hZ e3341 pa9 (j := (0 : Int32)) (v := (.ref ad1)) ⟨by decide, by decide⟩ rfl rfl rfl (hb hby o94) j)))))) ?_
  show o17 p e below _ (T3341.setTop (mkF m 54 #[.val (.ref ad0), .val (.ref ad1), .val (.int 0), .val (.int 3), .val (.ref ad3), .val (.int 0)] [.ref ad1, .ref ad1]))
  refine o11 (o26 X3341 hx hZ (y := o368) (z := o41) hown (o0 hw 122 rfl) (o0 hw 123 rfl) (o574 (args := #[]) (mvT hZ (o0 hw 227 rfl)) rfl) (o0 hw 125 rfl) (o0 hw 126 rfl) (o0 hw 3 rfl) (o0 hw 127 rfl) o257 (o256 l Z a0 hw [] wcs wd mOA mSL mAL kd hS ad1 h0 n0 O0 ) e3341 pe5 o46 (argsL := [.ref ad1]) (rest := []) rfl rfl (g := (mkF m 54 #[.val (.ref ad0), .val (.ref ad1), .val (.int 0), .val (.int 3), .val (.ref ad3), .val (.int 0)] [.ref ad1, .ref ad1])) rfl (by rw [hml]; rfl) rfl (hb hby o95) (W := 0) rfl (by decide) (by decide) (by decide) (by decide)) ?_
  intro T3342 v3342 L3342 X3342 hQ3342
  obtain ⟨rfl, M3342, e3342⟩ := hQ3342
  have N3342 := Fr.app N0 M3342
  refine o2 (fun u j => o34 X3342.here hx rfl (hb hby o96) rfl (o33 (by decide)) (o10 X3342.here hx rfl (hb hby o258) rfl j)) ?_
  exact o20 X3342 hx hlk hret rfl (Or.inl ⟨rfl, by simp, _, rfl⟩) (hb hby o259) (by decide) (by decide) (by rw [e3342]; exact ⟨rfl, N3342, rfl⟩)
theorem o992 (l : Launch) (Z : State) (a0 : Array Value) (hw : o21 a0 Z) (ws : List Jvm.Cond) (wcs : Int32) (wd mOA mSL mAL : Addr) (kd : ClassId) (hS : o22 Z wcs wd mOA mSL mAL kd) (ad0 ad1 ad3 : Addr) (kc5 : ClassId) (ad6 ad7 : Addr) (h0 : Heap) (n0 : Nat) (O0 : Old Z n0 h0) (pe1 : Exa Z h0 ad0 o3) (pf3 : Fld Z h0 ad0 o3 o13 o7 (.ref ad3)) (pf4 : Fld Z h0 ad0 o3 "size" "I" (.int 3)) (pe5 : Exa Z h0 ad1 o6) (pa9 : Arv Z h0 ad3 kc5 (.object "java/lang/Object") 10 [.ref ad1, .ref ad6, .ref ad7, .null, .null, .null, .null, .null, .null, .null] .null) :
    o16 l o113 jdk_38_method_11_code 2 (some .int) ws ⟨2, 0, 0, 31⟩ Z h0 #[.ref ad0, .ref ad1] (fun v h L => v = some (.int 0) ∧ Fr n0 L ∧ h = h0) := by
  refine o15 (plainFor_of_name o24) ?_
  intro p e s m below meth c s₁ hx hby hml hown hnm hret hlk hZ e0 X0
  have N0 := Fr.nil n0
  refine o2 (fun u j => castTop (show entryFrame m #[.ref ad0, .ref ad1] 2 = mkF m 0 #[.val (.ref ad0), .val (.ref ad1)] [] from rfl) j) ?_
  refine o2 (fun u j => o1 X0.here hx rfl (hb hby o102) rfl rfl (o1 X0.here hx rfl (hb hby o103) rfl rfl (o5 X0.here hx rfl (hb hby o104) (o1 X0.here hx rfl (hb hby o105) rfl rfl j)))) ?_
  refine o19 (getF X0 hx hZ hown (host := "") (Or.inl (o0 hw 83 rfl)) Via.refl e0 pf4 rfl rfl (hb hby o106)) ?_
  intro T3344 X3344 e3344
  refine o11 (o26 X3344 hx hZ (y := o61) (z := o61) hown (o0 hw 85 rfl) (o0 hw 86 rfl) (notFace_of_selects (args := #[]) (mvT hZ (o0 hw 88 rfl))) (o0 hw 88 rfl) (o0 hw 87 rfl) (o0 hw 40 rfl) (o0 hw 89 rfl) o42 (o991 l Z a0 hw [] wcs wd mOA mSL mAL kd hS ad0 ad1 ad3 kc5 ad6 ad7 h0 n0 O0 pf3 pe5 pa9) e3344 pe1 o242 (argsL := [.ref ad1, .int 0, .int 3]) (rest := []) rfl rfl (g := (mkF m 7 #[.val (.ref ad0), .val (.ref ad1)] [.int 3, .int 0, .ref ad1, .ref ad0])) rfl (by rw [hml]; rfl) rfl (hb hby o107) (W := 0) rfl (by decide) (by decide) (by decide) (by decide)) ?_
  intro T3345 v3345 L3345 X3345 hQ3345
  obtain ⟨rfl, M3345, e3345⟩ := hQ3345
  have N3345 := Fr.app N0 M3345
  exact o20 X3345 hx hlk hret rfl (Or.inl ⟨rfl, by simp, _, rfl⟩) (hb hby o87) (by decide) (by decide) (by rw [e3345]; exact ⟨rfl, N3345, rfl⟩)
theorem o993 (l : Launch) (Z : State) (a0 : Array Value) (hw : o21 a0 Z) (ws : List Jvm.Cond) (wcs : Int32) (wd mOA mSL mAL : Addr) (kd : ClassId) (hS : o22 Z wcs wd mOA mSL mAL kd) (ad0 ad1 : Addr) (iv2 iv3 : Int32) (h0 : Heap) (n0 : Nat) (O0 : Old Z n0 h0) (pe1 : Exa Z h0 ad0 o14) (pf2 : Fld Z h0 ad0 o8 o9 "I" (.int iv2)) (pf3 : Fld Z h0 ad0 o14 "offset" "I" (.int 0)) (pf4 : Fld Z h0 ad0 o14 "parent" o64 .null) (pf5 : Fld Z h0 ad0 o14 "root" o47 .null) (pf6 : Fld Z h0 ad0 o14 "size" "I" (.int 0)) (pe7 : Exa Z h0 ad1 o3) (pf8 : Fld Z h0 ad1 o8 o9 "I" (.int iv3)) (pg_ad0 : n0 ≤ ad0) :
    o16 l o369 jdk_130_method_1_code 4 none ws ⟨3, 0, 0, 36⟩ Z h0 #[.ref ad0, .ref ad1, .int 0, .int 3] (fun v h L => v = none ∧ Fr n0 L ∧ Keep h0 h [ad0] ∧ Exa Z h ad0 o14 ∧ Fld Z h ad0 o8 o9 "I" (.int iv3) ∧ Fld Z h ad0 o14 "offset" "I" (.int 0) ∧ Fld Z h ad0 o14 "parent" o64 .null ∧ Fld Z h ad0 o14 "root" o47 (.ref ad1) ∧ Fld Z h ad0 o14 "size" "I" (.int 3)) := by
  refine o15 (plainFor_of_name o205) ?_
  intro p e s m below meth c s₁ hx hby hml hown hnm hret hlk hZ e0 X0
  have N0 := Fr.nil n0
  refine o2 (fun u j => castTop (show entryFrame m #[.ref ad0, .ref ad1, .int 0, .int 3] 4 = mkF m 0 #[.val (.ref ad0), .val (.ref ad1), .val (.int 0), .val (.int 3)] [] from rfl) j) ?_
  refine o2 (fun u j => o1 X0.here hx rfl (hb hby o335) rfl rfl j) ?_
  refine o11 (o50 X0 hx hZ (y := o199) rfl hown (o0 hw 187 rfl) (o0 hw 45 rfl) (o0 hw 48 rfl) (o0 hw 49 rfl) o141 (o828 l Z a0 hw [] wcs wd mOA mSL mAL kd hS ad0 iv2 h0 n0 O0 pe1 pf2 pf3 pf4 pf5 pf6 pg_ad0) e0 o59 (a := ad0) (argsL := []) (rest := []) rfl rfl (g := (mkF m 1 #[.val (.ref ad0), .val (.ref ad1), .val (.int 0), .val (.int 3)] [.ref ad0])) rfl (by rw [hml]; rfl) rfl (hb hby o336) (W := 0) rfl (by decide) (by decide) (by decide) (by decide)) ?_
  intro T3386 v3386 L3386 X3386 hQ3386
  obtain ⟨rfl, M3386, K3386, F3387, F3388, F3389, F3390, F3391, F3392⟩ := hQ3386
  have N3386 := Fr.app N0 M3386
  refine o2 (fun u j => o1 X3386.here hx rfl (hb hby o337) rfl rfl (o1 X3386.here hx rfl (hb hby o338) rfl rfl j)) ?_
  refine o32 (putF X3386 hx hZ hown (host := "") (Or.inl (o0 hw 191 rfl)) Via.refl rfl F3391 F3387 (Or.inr ⟨(o0 hw 192 rfl), rfl, hnm⟩) (o0 hw 181 rfl) (ty := (.object "java/util/ArrayList")) o78 rfl rfl rfl rfl (hb hby o339)) ?_
  intro T3393 h3393 X3393 e3393 W3393
  have N3393 := Fr.snoc X3393 N3386 pg_ad0
  have F3394 : Fld Z h3393 ad0 o14 "root" o47 (.ref ad1) := Fld.same W3393 F3391
  refine o2 (fun u j => o1 X3393.here hx rfl (hb hby o340) rfl rfl (o49 X3393.here hx rfl (hb hby o274) j)) ?_
  have F3395 := (Exa.wr W3393 F3387)
  have F3396 := (Fld.other W3393 F3390 (Or.inr (o608 hw)))
  refine o32 (putF X3393 hx hZ hown (host := "") (Or.inl (o0 hw 193 rfl)) Via.refl e3393 F3396 F3395 (Or.inr ⟨(o0 hw 194 rfl), rfl, hnm⟩) (o0 hw 181 rfl) (ty := (.object "java/util/ArrayList$SubList")) o79 rfl rfl rfl rfl (hb hby o275)) ?_
  intro T3397 h3397 X3397 e3397 W3397
  have N3397 := Fr.snoc X3397 N3393 pg_ad0
  have F3398 : Fld Z h3397 ad0 o14 "parent" o64 .null := Fld.same W3397 F3396
  refine o2 (fun u j => o1 X3397.here hx rfl (hb hby o276) rfl rfl (o4 X3397.here hx rfl (hb hby o277) rfl j)) ?_
  have F3399 := (Exa.wr W3397 F3395)
  have F3400 := (Fld.other W3397 (Fld.other W3393 F3389 (Or.inr (o609 hw))) (Or.inr (o610 hw)))
  refine o32 (putF X3397 hx hZ hown (host := "") (Or.inl (o0 hw 195 rfl)) Via.refl e3397 F3400 F3399 (Or.inr ⟨(o0 hw 196 rfl), rfl, hnm⟩) (o0 hw 181 rfl) (ty := .int) o18 rfl rfl rfl rfl (hb hby o278)) ?_
  intro T3401 h3401 X3401 e3401 W3401
  have N3401 := Fr.snoc X3401 N3397 pg_ad0
  have F3402 : Fld Z h3401 ad0 o14 "offset" "I" (.int 0) := Fld.same W3401 F3400
  refine o2 (fun u j => o1 X3401.here hx rfl (hb hby o279) rfl rfl (o4 X3401.here hx rfl (hb hby o280) rfl (o4 X3401.here hx rfl (hb hby o281) rfl (o38 X3401.here hx rfl (hb hby o282) rfl j)))) ?_
  have F3403 := (Exa.wr W3401 F3399)
  have F3404 := (Fld.other W3401 (Fld.other W3397 (Fld.other W3393 F3392 (Or.inr (o611 hw))) (Or.inr (o612 hw))) (Or.inr (o613 hw)))
  refine o32 (putF X3401 hx hZ hown (host := "") (Or.inl (o0 hw 197 rfl)) Via.refl e3401 F3404 F3403 (Or.inl (o0 hw 198 rfl)) (o0 hw 181 rfl) (ty := .int) o18 rfl rfl rfl rfl (hb hby o283)) ?_
  intro T3405 h3405 X3405 e3405 W3405
  have N3405 := Fr.snoc X3405 N3401 pg_ad0
  have F3406 : Fld Z h3405 ad0 o14 "size" "I" (.int 3) := Fld.same W3405 F3404
  refine o2 (fun u j => o1 X3405.here hx rfl (hb hby o284) rfl rfl (o1 X3405.here hx rfl (hb hby o285) rfl rfl j)) ?_
  have ne3407 := (ne_exa pe7 pe1 o614)
  have F3408 := (Fld.other W3405 (Fld.other W3401 (Fld.other W3397 (Fld.other W3393 (pf8.keep K3386 (ninS ne3407 nin0)) (Or.inl ne3407)) (Or.inl ne3407)) (Or.inl ne3407)) (Or.inl ne3407))
  refine o19 (getF X3405 hx hZ hown (host := "") (Or.inl (o0 hw 199 rfl)) (Via.of (o0 hw 99 rfl)) e3405 F3408 rfl rfl (hb hby o286)) ?_
  intro T3409 X3409 e3409
  have F3410 := (Exa.wr W3405 F3403)
  have F3411 := (Fld.other W3405 (Fld.other W3401 (Fld.other W3397 (Fld.other W3393 F3388 (Or.inr (o615 hw))) (Or.inr (o616 hw))) (Or.inr (o617 hw))) (Or.inr (o618 hw)))
  refine o32 (putF X3409 hx hZ hown (host := "") (Or.inl (o0 hw 200 rfl)) (Via.of (o0 hw 201 rfl)) e3409 F3411 F3410 (Or.inl (o0 hw 190 rfl)) (o0 hw 181 rfl) (ty := .int) o18 rfl rfl rfl rfl (hb hby o287)) ?_
  intro T3412 h3412 X3412 e3412 W3412
  have N3412 := Fr.snoc X3412 N3405 pg_ad0
  have F3413 : Fld Z h3412 ad0 o8 o9 "I" (.int iv3) := Fld.same W3412 F3411
  have K3414 := (Keep.refl h0 [ad0]).trans K3386 (allS (Or.inl (List.mem_of_getElem? (i := 0) rfl)) all0)
  have K3415 := K3414.wr W3393 (Or.inl (List.mem_of_getElem? (i := 0) rfl))
  have K3416 := K3415.wr W3397 (Or.inl (List.mem_of_getElem? (i := 0) rfl))
  have K3417 := K3416.wr W3401 (Or.inl (List.mem_of_getElem? (i := 0) rfl))
  have K3418 := K3417.wr W3405 (Or.inl (List.mem_of_getElem? (i := 0) rfl))
  have K3419 := K3418.wr W3412 (Or.inl (List.mem_of_getElem? (i := 0) rfl))
  have F3420 := (Exa.wr W3412 F3410)
  have F3421 := (Fld.other W3412 (Fld.other W3405 F3402 (Or.inr (o619 hw))) (Or.inr (o581 hw)))
  have F3422 := (Fld.other W3412 (Fld.other W3405 (Fld.other W3401 F3398 (Or.inr (o620 hw))) (Or.inr (o621 hw))) (Or.inr (o582 hw)))
  have F3423 := (Fld.other W3412 (Fld.other W3405 (Fld.other W3401 (Fld.other W3397 F3394 (Or.inr (o622 hw))) (Or.inr (o623 hw))) (Or.inr (o624 hw))) (Or.inr (o583 hw)))
  have F3424 := (Fld.other W3412 F3406 (Or.inr (o584 hw)))
  exact o48 X3412 hx hlk hret (hb hby o288) (by decide) (by decide) (by rw [e3412]; exact ⟨rfl, N3412, K3419, F3420, F3413, F3421, F3422, F3423, F3424⟩)
theorem o908 (l : Launch) (Z : State) (a0 : Array Value) (hw : o21 a0 Z) (ws : List Jvm.Cond) (wcs : Int32) (wd mOA mSL mAL : Addr) (kd : ClassId) (hS : o22 Z wcs wd mOA mSL mAL kd) (ad0 : Addr) (iv1 : Int32) (h0 : Heap) (n0 : Nat) (O0 : Old Z n0 h0) (pe1 : Exa Z h0 ad0 o3) (pf2 : Fld Z h0 ad0 o8 o9 "I" (.int iv1)) (pf4 : Fld Z h0 ad0 o3 "size" "I" (.int 3)) :
    o16 l o370 jdk_38_method_56_code 3 (some (.object "java/util/List")) ws ⟨4, 1, 5, 52⟩ Z h0 #[.ref ad0, .int 0, .int 3] (fun v h L => ∃ nz0 : Addr, v = some (.ref nz0) ∧ Fr n0 L ∧ Keep h0 h [] ∧ h0.size ≤ nz0 ∧ Exa Z h nz0 o14 ∧ Fld Z h nz0 o8 o9 "I" (.int iv1) ∧ Fld Z h nz0 o14 "offset" "I" (.int 0) ∧ Fld Z h nz0 o14 "parent" o64 .null ∧ Fld Z h nz0 o14 "root" o47 (.ref ad0) ∧ Fld Z h nz0 o14 "size" "I" (.int 3)) := by
  refine o15 (plainFor_of_name o24) ?_
  intro p e s m below meth c s₁ hx hby hml hown hnm hret hlk hZ e0 X0
  have N0 := Fr.nil n0
  refine o2 (fun u j => castTop (show entryFrame m #[.ref ad0, .int 0, .int 3] 3 = mkF m 0 #[.val (.ref ad0), .val (.int 0), .val (.int 3)] [] from rfl) j) ?_
  refine o2 (fun u j => o4 X0.here hx rfl (hb hby o329) rfl (o4 X0.here hx rfl (hb hby o330) rfl (o1 X0.here hx rfl (hb hby o331) rfl rfl j))) ?_
  refine o19 (getF X0 hx hZ hown (host := "") (Or.inl (o0 hw 83 rfl)) Via.refl e0 pf4 rfl rfl (hb hby o332)) ?_
  intro T3436 X3436 e3436
  refine o11 (o603 X3436 hx hZ (y := o639) (owner := "java/util/AbstractList") hown (o0 hw 176 rfl) (o0 hw 177 rfl) (o0 hw 178 rfl) (o0 hw 48 rfl) (o0 hw 179 rfl) o141 (o827 l Z a0 hw [] wcs wd mOA mSL mAL kd hS (0 : Int32) (3 : Int32) (3 : Int32) h0 n0 O0 (by decide) (by decide) (by decide)) e3436 o607 (argsL := [.int 0, .int 3, .int 3]) (rest := []) rfl rfl (g := (mkF m 6 #[.val (.ref ad0), .val (.int 0), .val (.int 3)] [.int 3, .int 3, .int 0])) rfl (by rw [hml]; rfl) rfl (hb hby o333) (W := 0) rfl (by decide) (by decide) (by decide) (by decide)) ?_
  intro T3437 v3437 L3437 X3437 hQ3437
  obtain ⟨rfl, M3437, e3437⟩ := hQ3437
  have N3437 := Fr.app N0 M3437
  have q_ := newO X3437 hx hZ hown (o0 hw 180 rfl) (o0 hw 181 rfl) (o0 hw 182 rfl) e3437 (g := (mkF m 9 #[.val (.ref ad0), .val (.int 0), .val (.int 3)] [])) rfl (hb hby o334) (by decide) (by decide)
  obtain ⟨T3438, h3438, X3438, e3438, E3438, A3438, D3438, U3438, st3438⟩ := q_
  have q_ : ∃ z, z = h0.size := ⟨_, rfl⟩
  obtain ⟨b3438, g3438⟩ := q_
  rw [← g3438] at A3438 D3438 U3438 st3438
  have F3438_modCount : Fld Z h3438 b3438 o8 o9 "I" (.int 0) := D3438 (Or.inl (o0 hw 190 rfl)) (ty := .int) o18
  have F3438_root : Fld Z h3438 b3438 o14 "root" o47 .null := D3438 (Or.inr (o0 hw 192 rfl)) (ty := (.object "java/util/ArrayList")) o78
  have F3438_parent : Fld Z h3438 b3438 o14 "parent" o64 .null := D3438 (Or.inr (o0 hw 194 rfl)) (ty := (.object "java/util/ArrayList$SubList")) o79
  have F3438_offset : Fld Z h3438 b3438 o14 "offset" "I" (.int 0) := D3438 (Or.inr (o0 hw 196 rfl)) (ty := .int) o18
  have F3438_size : Fld Z h3438 b3438 o14 "size" "I" (.int 0) := D3438 (Or.inl (o0 hw 198 rfl)) (ty := .int) o18
  refine o2 (fun u j => st3438 u j) ?_
  refine o2 (fun u j => o40 X3438.here hx rfl (hb hby o269) rfl rfl (o1 X3438.here hx rfl (hb hby o270) rfl rfl (o4 X3438.here hx rfl (hb hby o271) rfl (o4 X3438.here hx rfl (hb hby o272) rfl j)))) ?_
  have F3439 := (Exa.ext E3438 pe1)
  have F3440 := (Fld.ext E3438 pf2)
  have g3441 := Nat.le_trans (o52 O0) (Nat.le_of_eq g3438.symm)
  have O3443 := O0.ext E3438
  refine o11 (o50 X3438 hx hZ (y := o369) rfl hown (o0 hw 183 rfl) (o0 hw 184 rfl) (o0 hw 182 rfl) (o0 hw 186 rfl) o289 (o993 l Z a0 hw [] wcs wd mOA mSL mAL kd hS b3438 ad0 (0 : Int32) iv1 h3438 n0 O3443 A3438 F3438_modCount F3438_offset F3438_parent F3438_root F3438_size F3439 F3440 g3441) e3438 o625 (a := b3438) (argsL := [.ref ad0, .int 0, .int 3]) (rest := [.ref b3438]) rfl rfl (g := (mkF m 16 #[.val (.ref ad0), .val (.int 0), .val (.int 3)] [.int 3, .int 0, .ref ad0, .ref b3438, .ref b3438])) rfl (by rw [hml]; rfl) rfl (hb hby o273) (W := 1) rfl (by decide) (by decide) (by decide) (by decide)) ?_
  intro T3442 v3442 L3442 X3442 hQ3442
  obtain ⟨rfl, M3442, K3442, F3444, F3445, F3446, F3447, F3448, F3449⟩ := hQ3442
  have N3442 := Fr.app N3437 M3442
  have K3450 := (Keep.refl h0 []).ext E3438
  have z3452 := Nat.le_trans (Nat.le_refl _) (Nat.le_of_eq g3438.symm)
  have K3451 := K3450.trans K3442 (allS (Or.inr z3452) all0)
  exact o20 X3442 hx hlk hret rfl (Or.inr (Or.inr (Or.inr (Or.inr ⟨rfl, rfl, rfl⟩)))) (hb hby o290) (by decide) (by decide) (by exact ⟨b3438, rfl, N3442, K3451, z3452, F3444, F3445, F3446, F3447, F3448, F3449⟩)
theorem o909 (l : Launch) (Z : State) (a0 : Array Value) (hw : o21 a0 Z) (ws : List Jvm.Cond) (wcs : Int32) (wd mOA mSL mAL : Addr) (kd : ClassId) (hS : o22 Z wcs wd mOA mSL mAL kd) (ad0 : Addr) (kc1 : ClassId) (ad2 ad3 ad4 : Addr) (h0 : Heap) (n0 : Nat) (O0 : Old Z n0 h0) (pa2 : Arv Z h0 ad0 kc1 (.object "java/lang/Object") 10 [.ref ad2, .ref ad3, .ref ad4, .null, .null, .null, .null, .null, .null, .null] .null) (pe3 : Exa Z h0 ad2 o6) (pe6 : Exa Z h0 ad3 o6) (pe9 : Exa Z h0 ad4 o6) :
    o16 l o371 jdk_65_method_130_code 6 (some (.array (.object "java/lang/Object"))) ws ⟨1, 1, 3, 27⟩ Z h0 #[.ref ad0, .int 0, .int 3, .ref mOA] (fun v h L => ∃ nz0 : Addr, ∃ kz1 : ClassId, v = some (.ref nz0) ∧ Fr n0 L ∧ Keep h0 h [] ∧ h0.size ≤ nz0 ∧ Exa Z h nz0 o7 ∧ Arv Z h nz0 kz1 (.object "java/lang/Object") 3 [.ref ad2, .ref ad3, .ref ad4] .null ∧ Ovr Z kz1 "java/lang/Object") := by
  refine o15 (plainFor_of_name o72) ?_
  intro p e s m below meth c s₁ hx hby hml hown hnm hret hlk hZ e0 X0
  have N0 := Fr.nil n0
  refine o2 (fun u j => castTop (show entryFrame m #[.ref ad0, .int 0, .int 3, .ref mOA] 6 = mkF m 0 #[.val (.ref ad0), .val (.int 0), .val (.int 3), .val (.ref mOA), .unset, .unset] [] from rfl) j) ?_
  refine o2 (fun u j => o4 X0.here hx rfl (hb hby o303) rfl (o4 X0.here hx rfl (hb hby o304) rfl (o38 X0.here hx rfl (hb hby o305) rfl (o30 X0.here hx rfl (hb hby o306) rfl (l' := #[.val (.ref ad0), .val (.int 0), .val (.int 3), .val (.ref mOA), .val (.int 3), .unset]) rfl (o10 X0.here hx rfl (hb hby o307) rfl (o43 X0.here hx rfl (pc0 := 7) (pc' := 42) rfl (hb hby o308) rfl (o140 (by decide)) (by decide) (by decide) j)))))) ?_
  show o17 p e below _ (s₁.setTop (mkF m 42 #[.val (.ref ad0), .val (.int 0), .val (.int 3), .val (.ref mOA), .val (.int 3), .unset] []))
  refine o2 (fun u j => o1 X0.here hx rfl (hb hby o214) rfl rfl j) ?_
  have q_ := o114 X0 hx hZ hown (o0 hw 233 rfl) e0 hS.2.2.2.2.2.1 (g := (mkF m 43 #[.val (.ref ad0), .val (.int 0), .val (.int 3), .val (.ref mOA), .val (.int 3), .unset] [.ref mOA])) rfl (hb hby o215)
  obtain ⟨T3488, X3488, e3488, st3488⟩ := q_
  refine o2 (fun u j => st3488 u j) ?_
  refine o2 (fun u j => o97 X3488.here hx rfl (hb hby o216) rfl rfl rfl (o84 rfl) (o10 X3488.here hx rfl (hb hby o217) rfl j)) ?_
  have q_ := newRE X3488 hx hZ hown (show (Cond.classLink "java/util/Arrays" 2 "java/lang/Object").before a0 Z = true from (o0 hw 234 rfl)) (show (Cond.arrayOver (.object "java/lang/Object")).before a0 Z = true from (o0 hw 120 rfl)) e3488 (g := (mkF m 50 #[.val (.ref ad0), .val (.int 0), .val (.int 3), .val (.ref mOA), .val (.int 3), .unset] [.int 3])) rfl (hb hby o218) rfl (by decide) (cap := 3) (by decide) (by decide) (by decide) (by decide) (ad := "[Ljava/lang/Object;") o198
  obtain ⟨T3489, h3489, k3489, X3489, e3489, E3489, A3489, Y3489, O3489, st3489⟩ := q_
  have q_ : ∃ z, z = h0.size := ⟨_, rfl⟩
  obtain ⟨b3489, g3489⟩ := q_
  rw [← g3489] at A3489 Y3489 st3489
  have V3489 : Arv Z h3489 b3489 k3489 (.object "java/lang/Object") 3 [.null, .null, .null] .null := (Arv.new A3489 (by decide)).pad (pad_rep [] .null 3)
  refine o2 (fun u j => st3489 u j) ?_
  refine o2 (fun u j => o35 X3489.here hx rfl (pc0 := 53) (pc' := 68) rfl (hb hby o219) (by decide) (by decide) (o37 X3489.here hx rfl (hb hby o220) rfl rfl (l' := #[.val (.ref ad0), .val (.int 0), .val (.int 3), .val (.ref mOA), .val (.int 3), .val (.ref b3489)]) rfl (o1 X3489.here hx rfl (hb hby o221) rfl rfl (o4 X3489.here hx rfl (hb hby o222) rfl (o12 X3489.here hx rfl (hb hby o223) rfl rfl (o5 X3489.here hx rfl (hb hby o224) j)))))) ?_
  show o17 p e below _ (T3489.setTop (mkF m 75 #[.val (.ref ad0), .val (.int 0), .val (.int 3), .val (.ref mOA), .val (.int 3), .val (.ref b3489)] [.int 0, .ref b3489, .int 0, .ref ad0]))
  refine o2 (fun u j => o1 X3489.here hx rfl (hb hby o225) rfl rfl j) ?_
  have F3490 := (pa2.ext E3489)
  refine o2 (fun u j => o65 X3489 hx hZ e3489 F3490 rfl rfl (hb hby o226) (o4 X3489.here hx rfl (hb hby o227) rfl (o38 X3489.here hx rfl (hb hby o228) rfl (o10 X3489.here hx rfl (hb hby o229) rfl j)))) ?_
  have O3493 := O0.ext E3489
  refine o11 (o25 X3489 hx hZ (y := o188) hown (o0 hw 235 rfl) (o0 hw 236 rfl) (o0 hw 117 rfl) (o0 hw 237 rfl) o115 (o830 l Z a0 hw [] wcs wd mOA mSL mAL kd hS (10 : Int32) (3 : Int32) h3489 n0 O3493 (by decide)) e3489 o67 (argsL := [.int 10, .int 3]) (rest := [.int 0, .ref b3489, .int 0, .ref ad0]) rfl rfl (g := (mkF m 81 #[.val (.ref ad0), .val (.int 0), .val (.int 3), .val (.ref mOA), .val (.int 3), .val (.ref b3489)] [.int 3, .int 10, .int 0, .ref b3489, .int 0, .ref ad0])) rfl (by rw [hml]; rfl) rfl (hb hby o230) (W := 4) rfl (by decide) (by decide) (by decide) (by decide)) ?_
  intro T3492 v3492 L3492 X3492 hQ3492
  obtain ⟨rfl, M3492, e3492⟩ := hQ3492
  have N3492 := Fr.app N0 M3492
  have q_ := id V3489
  obtain ⟨cl3495, Ar3495, q3495, S3495, N3495, H3495, G3495⟩ := q_
  have F3496 := (Exa.ext E3489 pe9)
  have F3497 := (Exa.ext E3489 pe6)
  have F3498 := (Exa.ext E3489 pe3)
  have g3499 := Nat.le_trans (o52 O0) (Nat.le_of_eq g3489.symm)
  have q_ := cpA X3492 hx hZ hown (o0 hw 238 rfl) (o0 hw 241 rfl) (o0 hw 239 rfl) (o0 hw 240 rfl) e3492 F3490 V3489 (us := [.ref ad2, .ref ad3, .ref ad4]) (Or.inr ⟨rfl, rfl, ⟨Sto.ofV Ar3495 q3495 O3489 (Ins.of_exa F3498 (o0 hw 121 rfl)), ⟨Sto.ofV Ar3495 q3495 O3489 (Ins.of_exa F3497 (o0 hw 121 rfl)), ⟨Sto.ofV Ar3495 q3495 O3489 (Ins.of_exa F3496 (o0 hw 121 rfl)), trivial⟩⟩⟩⟩) (by decide) (by decide) (by decide) (by decide) (by decide) rfl (by decide) N3492 g3499 (g := (mkF m 84 #[.val (.ref ad0), .val (.int 0), .val (.int 3), .val (.ref mOA), .val (.int 3), .val (.ref b3489)] [.int 3, .int 0, .ref b3489, .int 0, .ref ad0])) rfl (by rw [hml]; rfl) rfl (hb hby o231) (by decide) (W := 0) (by show 2 * 0 + _ ≤ _; exact Nat.le_of_eq rfl) (by decide)
  obtain ⟨T3494, h3494, L3494, X3494, e3494, N3494, K3494, V3494, st3494⟩ := q_
  have V3500 : Arv Z h3494 b3489 k3489 (.object "java/lang/Object") 3 [.ref ad2, .ref ad3, .ref ad4] .null := V3494
  refine o2 (fun u j => st3494 u j) ?_
  refine o2 (fun u j => o12 X3494.here hx rfl (hb hby o232) rfl rfl j) ?_
  have K3501 := (Keep.refl h0 []).ext E3489
  have z3503 := Nat.le_trans (Nat.le_refl _) (Nat.le_of_eq g3489.symm)
  have K3502 := K3501.trans K3494 (allS (Or.inr z3503) all0)
  have F3504 := (Y3489.keep K3494)
  exact o20 X3494 hx hlk hret rfl (Or.inr (Or.inr (Or.inr (Or.inr ⟨rfl, rfl, rfl⟩)))) (hb hby o233) (by decide) (by decide) (by rw [e3494]; exact ⟨b3489, k3489, rfl, N3494, K3502, z3503, F3504, V3500, O3489⟩)
theorem o910 (l : Launch) (Z : State) (a0 : Array Value) (hw : o21 a0 Z) (ws : List Jvm.Cond) (wcs : Int32) (wd mOA mSL mAL : Addr) (kd : ClassId) (hS : o22 Z wcs wd mOA mSL mAL kd) (ad0 : Addr) (kc1 : ClassId) (ad2 ad3 ad4 : Addr) (h0 : Heap) (n0 : Nat) (O0 : Old Z n0 h0) (pe1 : Exa Z h0 ad0 o7) (pa2 : Arv Z h0 ad0 kc1 (.object "java/lang/Object") 10 [.ref ad2, .ref ad3, .ref ad4, .null, .null, .null, .null, .null, .null, .null] .null) (pe3 : Exa Z h0 ad2 o6) (pe6 : Exa Z h0 ad3 o6) (pe9 : Exa Z h0 ad4 o6) :
    o16 l o372 jdk_65_method_129_code 3 (some (.array (.object "java/lang/Object"))) ws ⟨2, 1, 3, 44⟩ Z h0 #[.ref ad0, .int 0, .int 3] (fun v h L => ∃ nz0 : Addr, ∃ kz1 : ClassId, v = some (.ref nz0) ∧ Fr n0 L ∧ Keep h0 h [] ∧ h0.size ≤ nz0 ∧ Exa Z h nz0 o7 ∧ Arv Z h nz0 kz1 (.object "java/lang/Object") 3 [.ref ad2, .ref ad3, .ref ad4] .null ∧ Ovr Z kz1 "java/lang/Object") := by
  refine o15 (plainFor_of_name o72) ?_
  intro p e s m below meth c s₁ hx hby hml hown hnm hret hlk hZ e0 X0
  have N0 := Fr.nil n0
  refine o2 (fun u j => castTop (show entryFrame m #[.ref ad0, .int 0, .int 3] 3 = mkF m 0 #[.val (.ref ad0), .val (.int 0), .val (.int 3)] [] from rfl) j) ?_
  refine o2 (fun u j => o1 X0.here hx rfl (hb hby o297) rfl rfl (o4 X0.here hx rfl (hb hby o298) rfl (o4 X0.here hx rfl (hb hby o299) rfl (o1 X0.here hx rfl (hb hby o300) rfl rfl j)))) ?_
  have q_ := o564 X0 hx hZ hown (o0 hw 224 rfl) (o0 hw 225 rfl) (o0 hw 227 rfl) (o0 hw 226 rfl) (o0 hw 228 rfl) e0 pe1 hS.2.2.2.2.2.1 (g := (mkF m 4 #[.val (.ref ad0), .val (.int 0), .val (.int 3)] [.ref ad0, .int 3, .int 0, .ref ad0])) rfl (by rw [hml]; rfl) rfl (hb hby o301) (by decide) (W := 3) (by show 2 * 0 + _ ≤ _; exact Nat.le_of_eq rfl) (by decide)
  obtain ⟨T3512, X3512, e3512, st3512⟩ := q_
  refine o2 (fun u j => st3512 u j) ?_
  refine o11 (o25 X3512 hx hZ (y := o371) hown (o0 hw 230 rfl) (o0 hw 231 rfl) (o0 hw 222 rfl) (o0 hw 232 rfl) o69 (o909 l Z a0 hw [] wcs wd mOA mSL mAL kd hS ad0 kc1 ad2 ad3 ad4 h0 n0 O0 pa2 pe3 pe6 pe9) e3512 o627 (argsL := [.ref ad0, .int 0, .int 3, .ref mOA]) (rest := []) rfl rfl (g := (mkF m 7 #[.val (.ref ad0), .val (.int 0), .val (.int 3)] [.ref mOA, .int 3, .int 0, .ref ad0])) rfl (by rw [hml]; rfl) rfl (hb hby o302) (W := 0) rfl (by decide) (by decide) (by decide) (by decide)) ?_
  intro T3513 v3513 L3513 X3513 hQ3513
  obtain ⟨nz0_3514, kz1_3515, rfl, M3513, K3513, z3516, F3517, F3518, ov0_3519⟩ := hQ3513
  have N3513 := Fr.app N0 M3513
  have K3520 := (Keep.refl h0 []).trans K3513 all0
  have z3521 := Nat.le_trans (Nat.le_refl _) z3516
  exact o20 X3513 hx hlk hret rfl (Or.inr (Or.inr (Or.inr (Or.inr ⟨rfl, rfl, rfl⟩)))) (hb hby o234) (by decide) (by decide) (by exact ⟨nz0_3514, kz1_3515, rfl, N3513, K3520, z3521, F3517, F3518, ov0_3519⟩)
theorem o911 (l : Launch) (Z : State) (a0 : Array Value) (hw : o21 a0 Z) (ws : List Jvm.Cond) (wcs : Int32) (wd mOA mSL mAL : Addr) (kd : ClassId) (hS : o22 Z wcs wd mOA mSL mAL kd) (ad0 : Addr) (iv1 : Int32) (ad2 ad3 : Addr) (kc4 : ClassId) (ad5 ad6 ad7 : Addr) (h0 : Heap) (n0 : Nat) (O0 : Old Z n0 h0) (pe1 : Exa Z h0 ad0 o14) (pf2 : Fld Z h0 ad0 o8 o9 "I" (.int iv1)) (pf3 : Fld Z h0 ad0 o14 "offset" "I" (.int 0)) (pf5 : Fld Z h0 ad0 o14 "root" o47 (.ref ad2)) (pf6 : Fld Z h0 ad0 o14 "size" "I" (.int 3)) (pf8 : Fld Z h0 ad2 o8 o9 "I" (.int iv1)) (pf9 : Fld Z h0 ad2 o3 o13 o7 (.ref ad3)) (pe11 : Exa Z h0 ad3 o7) (pa12 : Arv Z h0 ad3 kc4 (.object "java/lang/Object") 10 [.ref ad5, .ref ad6, .ref ad7, .null, .null, .null, .null, .null, .null, .null] .null) (pe13 : Exa Z h0 ad5 o6) (pe16 : Exa Z h0 ad6 o6) (pe19 : Exa Z h0 ad7 o6) :
    o16 l o373 jdk_130_method_16_code 1 (some (.array (.object "java/lang/Object"))) ws ⟨3, 1, 3, 58⟩ Z h0 #[.ref ad0] (fun v h L => ∃ nz0 : Addr, ∃ kz1 : ClassId, v = some (.ref nz0) ∧ Fr n0 L ∧ Keep h0 h [] ∧ h0.size ≤ nz0 ∧ Exa Z h nz0 o7 ∧ Arv Z h nz0 kz1 (.object "java/lang/Object") 3 [.ref ad5, .ref ad6, .ref ad7] .null ∧ Ovr Z kz1 "java/lang/Object") := by
  refine o15 (plainFor_of_name o205) ?_
  intro p e s m below meth c s₁ hx hby hml hown hnm hret hlk hZ e0 X0
  have N0 := Fr.nil n0
  refine o2 (fun u j => castTop (show entryFrame m #[.ref ad0] 1 = mkF m 0 #[.val (.ref ad0)] [] from rfl) j) ?_
  refine o2 (fun u j => o1 X0.here hx rfl (hb hby o292) rfl rfl j) ?_
  refine o11 (o62 X0 hx hZ (y := o593) hown (o0 hw 214 rfl) (o0 hw 215 rfl) (mvT hZ (o0 hw 217 rfl)) (o0 hw 216 rfl) (o0 hw 182 rfl) (o0 hw 218 rfl) o289 (o829 l Z a0 hw [] wcs wd mOA mSL mAL kd hS ad0 iv1 ad2 h0 n0 O0 pf2 pf5 pf8) e0 pe1 o59 (argsL := []) (rest := []) rfl rfl (g := (mkF m 1 #[.val (.ref ad0)] [.ref ad0])) rfl (by rw [hml]; rfl) rfl (hb hby o293) (W := 0) rfl (by decide) (by decide) (by decide) (by decide)) ?_
  intro T3529 v3529 L3529 X3529 hQ3529
  obtain ⟨rfl, M3529, e3529⟩ := hQ3529
  have N3529 := Fr.app N0 M3529
  refine o2 (fun u j => o1 X3529.here hx rfl (hb hby o294) rfl rfl j) ?_
  refine o19 (getF X3529 hx hZ hown (host := "") (Or.inl (o0 hw 191 rfl)) Via.refl e3529 pf5 rfl rfl (hb hby o295)) ?_
  intro T3530 X3530 e3530
  refine o19 (getF X3530 hx hZ hown (host := "") (Or.inl (o0 hw 219 rfl)) Via.refl e3530 pf9 rfl rfl (hb hby o296)) ?_
  intro T3531 X3531 e3531
  refine o2 (fun u j => o1 X3531.here hx rfl (hb hby o206) rfl rfl j) ?_
  refine o19 (getF X3531 hx hZ hown (host := "") (Or.inl (o0 hw 195 rfl)) Via.refl e3531 pf3 rfl rfl (hb hby o207)) ?_
  intro T3532 X3532 e3532
  refine o2 (fun u j => o1 X3532.here hx rfl (hb hby o208) rfl rfl j) ?_
  refine o19 (getF X3532 hx hZ hown (host := "") (Or.inl (o0 hw 195 rfl)) Via.refl e3532 pf3 rfl rfl (hb hby o209)) ?_
  intro T3533 X3533 e3533
  refine o2 (fun u j => o1 X3533.here hx rfl (hb hby o210) rfl rfl j) ?_
  refine o19 (getF X3533 hx hZ hown (host := "") (Or.inl (o0 hw 197 rfl)) Via.refl e3533 pf6 rfl rfl (hb hby o211)) ?_
  intro T3534 X3534 e3534
  refine o2 (fun u j => o36 X3534.here hx rfl (hb hby o212) rfl j) ?_
  refine o11 (o25 X3534 hx hZ (y := o372) hown (o0 hw 220 rfl) (o0 hw 221 rfl) (o0 hw 222 rfl) (o0 hw 223 rfl) o69 (o910 l Z a0 hw [] wcs wd mOA mSL mAL kd hS ad3 kc4 ad5 ad6 ad7 h0 n0 O0 pe11 pa12 pe13 pe16 pe19) e3534 o628 (argsL := [.ref ad3, .int 0, .int 3]) (rest := []) rfl rfl (g := (mkF m 24 #[.val (.ref ad0)] [.int 3, .int 0, .ref ad3])) rfl (by rw [hml]; rfl) rfl (hb hby o213) (W := 0) rfl (by decide) (by decide) (by decide) (by decide)) ?_
  intro T3535 v3535 L3535 X3535 hQ3535
  obtain ⟨nz0_3536, kz1_3537, rfl, M3535, K3535, z3538, F3539, F3540, ov0_3541⟩ := hQ3535
  have N3535 := Fr.app N3529 M3535
  have K3542 := (Keep.refl h0 []).trans K3535 all0
  have z3543 := Nat.le_trans (Nat.le_refl _) z3538
  exact o20 X3535 hx hlk hret rfl (Or.inr (Or.inr (Or.inr (Or.inr ⟨rfl, rfl, rfl⟩)))) (hb hby o235) (by decide) (by decide) (by exact ⟨nz0_3536, kz1_3537, rfl, N3535, K3542, z3543, F3539, F3540, ov0_3541⟩)
theorem o912 (l : Launch) (Z : State) (a0 : Array Value) (hw : o21 a0 Z) (ws : List Jvm.Cond) (wcs : Int32) (wd mOA mSL mAL : Addr) (kd : ClassId) (hS : o22 Z wcs wd mOA mSL mAL kd) (ad0 : Addr) (kc1 : ClassId) (ad2 ad3 ad4 : Addr) (h0 : Heap) (n0 : Nat) (O0 : Old Z n0 h0) (pa2 : Arv Z h0 ad0 kc1 (.object "java/lang/Object") 3 [.ref ad2, .ref ad3, .ref ad4] .null) (pe3 : Exa Z h0 ad2 o6) (pe6 : Exa Z h0 ad3 o6) (pe9 : Exa Z h0 ad4 o6) :
    o16 l o194 jdk_65_method_120_code 4 (some (.array (.object "java/lang/Object"))) ws ⟨1, 1, 3, 27⟩ Z h0 #[.ref ad0, .int 3, .ref mOA] (fun v h L => ∃ nz0 : Addr, ∃ kz1 : ClassId, v = some (.ref nz0) ∧ Fr n0 L ∧ Keep h0 h [] ∧ h0.size ≤ nz0 ∧ Exa Z h nz0 o7 ∧ Arv Z h nz0 kz1 (.object "java/lang/Object") 3 [.ref ad2, .ref ad3, .ref ad4] .null ∧ Ovr Z kz1 "java/lang/Object") := by
  refine o15 (plainFor_of_name o72) ?_
  intro p e s m below meth c s₁ hx hby hml hown hnm hret hlk hZ e0 X0
  have N0 := Fr.nil n0
  refine o2 (fun u j => castTop (show entryFrame m #[.ref ad0, .int 3, .ref mOA] 4 = mkF m 0 #[.val (.ref ad0), .val (.int 3), .val (.ref mOA), .unset] [] from rfl) j) ?_
  refine o2 (fun u j => o1 X0.here hx rfl (hb hby o189) rfl rfl j) ?_
  have q_ := o114 X0 hx hZ hown (o0 hw 233 rfl) e0 hS.2.2.2.2.2.1 (g := (mkF m 1 #[.val (.ref ad0), .val (.int 3), .val (.ref mOA), .unset] [.ref mOA])) rfl (hb hby o190)
  obtain ⟨T3589, X3589, e3589, st3589⟩ := q_
  refine o2 (fun u j => st3589 u j) ?_
  refine o2 (fun u j => o97 X3589.here hx rfl (hb hby o191) rfl rfl rfl (o84 rfl) (o4 X3589.here hx rfl (hb hby o192) rfl j)) ?_
  have q_ := newRE X3589 hx hZ hown (show (Cond.classLink "java/util/Arrays" 2 "java/lang/Object").before a0 Z = true from (o0 hw 234 rfl)) (show (Cond.arrayOver (.object "java/lang/Object")).before a0 Z = true from (o0 hw 120 rfl)) e3589 (g := (mkF m 7 #[.val (.ref ad0), .val (.int 3), .val (.ref mOA), .unset] [.int 3])) rfl (hb hby o193) rfl (by decide) (cap := 3) (by decide) (by decide) (by decide) (by decide) (ad := "[Ljava/lang/Object;") o198
  obtain ⟨T3590, h3590, k3590, X3590, e3590, E3590, A3590, Y3590, O3590, st3590⟩ := q_
  have q_ : ∃ z, z = h0.size := ⟨_, rfl⟩
  obtain ⟨b3590, g3590⟩ := q_
  rw [← g3590] at A3590 Y3590 st3590
  have V3590 : Arv Z h3590 b3590 k3590 (.object "java/lang/Object") 3 [.null, .null, .null] .null := (Arv.new A3590 (by decide)).pad (pad_rep [] .null 3)
  refine o2 (fun u j => st3590 u j) ?_
  refine o2 (fun u j => o35 X3590.here hx rfl (pc0 := 10) (pc' := 24) rfl (hb hby o157) (by decide) (by decide) (o31 X3590.here hx rfl (hb hby o158) rfl rfl (l' := #[.val (.ref ad0), .val (.int 3), .val (.ref mOA), .val (.ref b3590)]) rfl (o1 X3590.here hx rfl (hb hby o159) rfl rfl (o5 X3590.here hx rfl (hb hby o160) (o1 X3590.here hx rfl (hb hby o161) rfl rfl (o5 X3590.here hx rfl (hb hby o162) j)))))) ?_
  show o17 p e below _ (T3590.setTop (mkF m 29 #[.val (.ref ad0), .val (.int 3), .val (.ref mOA), .val (.ref b3590)] [.int 0, .ref b3590, .int 0, .ref ad0]))
  refine o2 (fun u j => o1 X3590.here hx rfl (hb hby o163) rfl rfl j) ?_
  have F3591 := (pa2.ext E3590)
  refine o2 (fun u j => o65 X3590 hx hZ e3590 F3591 rfl rfl (hb hby o164) (o4 X3590.here hx rfl (hb hby o165) rfl j)) ?_
  have O3594 := O0.ext E3590
  refine o11 (o25 X3590 hx hZ (y := o188) hown (o0 hw 235 rfl) (o0 hw 236 rfl) (o0 hw 117 rfl) (o0 hw 237 rfl) o115 (o714 l Z a0 hw [] wcs wd mOA mSL mAL kd hS (3 : Int32) (3 : Int32) h3590 n0 O3594 (by decide)) e3590 o67 (argsL := [.int 3, .int 3]) (rest := [.int 0, .ref b3590, .int 0, .ref ad0]) rfl rfl (g := (mkF m 32 #[.val (.ref ad0), .val (.int 3), .val (.ref mOA), .val (.ref b3590)] [.int 3, .int 3, .int 0, .ref b3590, .int 0, .ref ad0])) rfl (by rw [hml]; rfl) rfl (hb hby o166) (W := 4) rfl (by decide) (by decide) (by decide) (by decide)) ?_
  intro T3593 v3593 L3593 X3593 hQ3593
  obtain ⟨rfl, M3593, e3593⟩ := hQ3593
  have N3593 := Fr.app N0 M3593
  have q_ := id V3590
  obtain ⟨cl3596, Ar3596, q3596, S3596, N3596, H3596, G3596⟩ := q_
  have F3597 := (Exa.ext E3590 pe9)
  have F3598 := (Exa.ext E3590 pe6)
  have F3599 := (Exa.ext E3590 pe3)
  have g3600 := Nat.le_trans (o52 O0) (Nat.le_of_eq g3590.symm)
  have q_ := cpA X3593 hx hZ hown (o0 hw 238 rfl) (o0 hw 241 rfl) (o0 hw 239 rfl) (o0 hw 240 rfl) e3593 F3591 V3590 (us := [.ref ad2, .ref ad3, .ref ad4]) (Or.inr ⟨rfl, rfl, ⟨Sto.ofV Ar3596 q3596 O3590 (Ins.of_exa F3599 (o0 hw 121 rfl)), ⟨Sto.ofV Ar3596 q3596 O3590 (Ins.of_exa F3598 (o0 hw 121 rfl)), ⟨Sto.ofV Ar3596 q3596 O3590 (Ins.of_exa F3597 (o0 hw 121 rfl)), trivial⟩⟩⟩⟩) (by decide) (by decide) (by decide) (by decide) (by decide) rfl (by decide) N3593 g3600 (g := (mkF m 35 #[.val (.ref ad0), .val (.int 3), .val (.ref mOA), .val (.ref b3590)] [.int 3, .int 0, .ref b3590, .int 0, .ref ad0])) rfl (by rw [hml]; rfl) rfl (hb hby o167) (by decide) (W := 0) (by show 2 * 0 + _ ≤ _; exact Nat.le_of_eq rfl) (by decide)
  obtain ⟨T3595, h3595, L3595, X3595, e3595, N3595, K3595, V3595, st3595⟩ := q_
  have V3601 : Arv Z h3595 b3590 k3590 (.object "java/lang/Object") 3 [.ref ad2, .ref ad3, .ref ad4] .null := V3595
  refine o2 (fun u j => st3595 u j) ?_
  refine o2 (fun u j => o1 X3595.here hx rfl (hb hby o168) rfl rfl j) ?_
  have K3602 := (Keep.refl h0 []).ext E3590
  have z3604 := Nat.le_trans (Nat.le_refl _) (Nat.le_of_eq g3590.symm)
  have K3603 := K3602.trans K3595 (allS (Or.inr z3604) all0)
  have F3605 := (Y3590.keep K3595)
  exact o20 X3595 hx hlk hret rfl (Or.inr (Or.inr (Or.inr (Or.inr ⟨rfl, rfl, rfl⟩)))) (hb hby o169) (by decide) (by decide) (by rw [e3595]; exact ⟨b3590, k3590, rfl, N3595, K3603, z3604, F3605, V3601, O3590⟩)
theorem o913 (l : Launch) (Z : State) (a0 : Array Value) (hw : o21 a0 Z) (ws : List Jvm.Cond) (wcs : Int32) (wd mOA mSL mAL : Addr) (kd : ClassId) (hS : o22 Z wcs wd mOA mSL mAL kd) (ad0 ad1 : Addr) (iv2 iv3 : Int32) (ad4 ad5 : Addr) (kc6 : ClassId) (ad7 ad8 ad9 : Addr) (h0 : Heap) (n0 : Nat) (O0 : Old Z n0 h0) (pe1 : Exa Z h0 ad0 o3) (pf2 : Fld Z h0 ad0 o8 o9 "I" (.int iv2)) (pf3 : Fld Z h0 ad0 o3 o13 o7 .null) (pf4 : Fld Z h0 ad0 o3 "size" "I" (.int 0)) (pe5 : Exa Z h0 ad1 o14) (pf6 : Fld Z h0 ad1 o8 o9 "I" (.int iv3)) (pf7 : Fld Z h0 ad1 o14 "offset" "I" (.int 0)) (pf9 : Fld Z h0 ad1 o14 "root" o47 (.ref ad4)) (pf10 : Fld Z h0 ad1 o14 "size" "I" (.int 3)) (pf12 : Fld Z h0 ad4 o8 o9 "I" (.int iv3)) (pf13 : Fld Z h0 ad4 o3 o13 o7 (.ref ad5)) (pe15 : Exa Z h0 ad5 o7) (pa16 : Arv Z h0 ad5 kc6 (.object "java/lang/Object") 10 [.ref ad7, .ref ad8, .ref ad9, .null, .null, .null, .null, .null, .null, .null] .null) (pe17 : Exa Z h0 ad7 o6) (pe20 : Exa Z h0 ad8 o6) (pe23 : Exa Z h0 ad9 o6) (pg_ad0 : n0 ≤ ad0) (pn_ad4_ad0 : ad4 ≠ ad0) :
    o16 l o374 jdk_38_method_3_code 3 none ws ⟨4, 2, 6, 70⟩ Z h0 #[.ref ad0, .ref ad1] (fun v h L => ∃ nz0 : Addr, ∃ kz1 : ClassId, v = none ∧ Fr n0 L ∧ Keep h0 h [ad0] ∧ h0.size ≤ nz0 ∧ Exa Z h ad0 o3 ∧ Fld Z h ad0 o8 o9 "I" (.int 0) ∧ Fld Z h ad0 o3 o13 o7 (.ref nz0) ∧ Fld Z h ad0 o3 "size" "I" (.int 3) ∧ Exa Z h nz0 o7 ∧ Arv Z h nz0 kz1 (.object "java/lang/Object") 3 [.ref ad7, .ref ad8, .ref ad9] .null ∧ Ovr Z kz1 "java/lang/Object") := by
  refine o15 (plainFor_of_name o24) ?_
  intro p e s m below meth c s₁ hx hby hml hown hnm hret hlk hZ e0 X0
  have N0 := Fr.nil n0
  refine o2 (fun u j => castTop (show entryFrame m #[.ref ad0, .ref ad1] 3 = mkF m 0 #[.val (.ref ad0), .val (.ref ad1), .unset] [] from rfl) j) ?_
  refine o2 (fun u j => o1 X0.here hx rfl (hb hby o391) rfl rfl j) ?_
  refine o11 (o50 X0 hx hZ (y := o199) rfl hown (o0 hw 44 rfl) (o0 hw 45 rfl) (o0 hw 48 rfl) (o0 hw 49 rfl) o141 (o834 l Z a0 hw [] wcs wd mOA mSL mAL kd hS ad0 iv2 h0 n0 O0 pe1 pf2 pf3 pf4 pg_ad0) e0 o59 (a := ad0) (argsL := []) (rest := []) rfl rfl (g := (mkF m 1 #[.val (.ref ad0), .val (.ref ad1), .unset] [.ref ad0])) rfl (by rw [hml]; rfl) rfl (hb hby o392) (W := 0) rfl (by decide) (by decide) (by decide) (by decide)) ?_
  intro T3624 v3624 L3624 X3624 hQ3624
  obtain ⟨rfl, M3624, K3624, F3625, F3626, F3627, F3628⟩ := hQ3624
  have N3624 := Fr.app N0 M3624
  refine o2 (fun u j => o1 X3624.here hx rfl (hb hby o393) rfl rfl j) ?_
  have F3629 := (pe5.keep K3624)
  have ne3630 := (ne_exa pe5 pe1 o309)
  have F3631 := (pf6.keep K3624 (ninS ne3630 nin0))
  have F3632 := (pf7.keep K3624 (ninS ne3630 nin0))
  have F3633 := (pf9.keep K3624 (ninS ne3630 nin0))
  have F3634 := (pf10.keep K3624 (ninS ne3630 nin0))
  have F3635 := (pf12.keep K3624 (ninS pn_ad4_ad0 nin0))
  have F3636 := (pf13.keep K3624 (ninS pn_ad4_ad0 nin0))
  have F3637 := (pe15.keep K3624)
  have ne3638 := (ne_exa pe15 pe1 o143)
  have F3639 := (pa16.keep K3624 (ninS ne3638 nin0))
  have F3640 := (pe17.keep K3624)
  have F3641 := (pe20.keep K3624)
  have F3642 := (pe23.keep K3624)
  have O3644 := O0.keep K3624 (allS pg_ad0 all0)
  refine o11 (o29 X3624 hx hZ (y := o641) (z := o373) hown (o0 hw 205 rfl) (o0 hw 206 rfl) (mvT hZ (o0 hw 207 rfl)) (o0 hw 208 rfl) (o0 hw 209 rfl) (o0 hw 210 rfl) (o0 hw 211 rfl) (o0 hw 212 rfl) (o0 hw 182 rfl) (o0 hw 213 rfl) o310 (o911 l Z a0 hw [] wcs wd mOA mSL mAL kd hS ad1 iv3 ad4 ad5 kc6 ad7 ad8 ad9 T3624.heap n0 O3644 F3629 F3631 F3632 F3633 F3634 F3635 F3636 F3637 F3639 F3640 F3641 F3642) rfl F3629 o250 (argsL := []) (rest := []) rfl rfl (g := (mkF m 5 #[.val (.ref ad0), .val (.ref ad1), .unset] [.ref ad1])) rfl (by rw [hml]; rfl) rfl (hb hby o394) (W := 0) rfl (by decide) (by decide) (by decide) (by decide)) ?_
  intro T3643 v3643 L3643 X3643 hQ3643
  obtain ⟨nz0_3645, kz1_3646, rfl, M3643, K3643, z3647, F3648, F3649, ov0_3650⟩ := hQ3643
  have N3643 := Fr.app N3624 M3643
  refine o2 (fun u j => o31 X3643.here hx rfl (hb hby o341) rfl rfl (l' := #[.val (.ref ad0), .val (.ref ad1), .val (.ref nz0_3645)]) rfl (o1 X3643.here hx rfl (hb hby o342) rfl rfl (o1 X3643.here hx rfl (hb hby o343) rfl rfl (o65 X3643 hx hZ rfl F3649 rfl rfl (hb hby o344) (XS.dupX1 X3643.here hx rfl (hb hby o345) rfl rfl rfl j))))) ?_
  have F3652 := (F3625.keep K3643)
  have F3653 := (F3628.keep K3643 nin0)
  refine o32 (putF X3643 hx hZ hown (host := "") (Or.inl (o0 hw 83 rfl)) Via.refl rfl F3653 F3652 (Or.inl (o0 hw 84 rfl)) (o0 hw 39 rfl) (ty := .int) o18 rfl rfl rfl rfl (hb hby o346)) ?_
  intro T3654 h3654 X3654 e3654 W3654
  have N3654 := Fr.snoc X3654 N3643 pg_ad0
  have F3655 : Fld Z h3654 ad0 o3 "size" "I" (.int 3) := Fld.same W3654 F3653
  refine o2 (fun u j => o34 X3654.here hx rfl (hb hby o347) rfl (o33 (by decide)) (o1 X3654.here hx rfl (hb hby o348) rfl rfl j)) ?_
  have F3656 := (Exa.wr W3654 (F3629.keep K3643))
  have q_ := o637 X3654 hx hZ (xi := o642) hown (o0 hw 242 rfl) (o0 hw 225 rfl) (o711 hZ (o0 hw 243 rfl)) (o0 hw 244 rfl) (o0 hw 226 rfl) (o0 hw 245 rfl) (o0 hw 246 rfl) (o0 hw 212 rfl) (o0 hw 228 rfl) o310 o629 rfl rfl e3654 F3656 hS.2.2.2.2.2.2.1 (g := (mkF m 22 #[.val (.ref ad0), .val (.ref ad1), .val (.ref nz0_3645)] [.ref ad1])) rfl (by rw [hml]; rfl) rfl (hb hby o349) (by decide) (W := 0) (by show 2 * 0 + _ ≤ _; exact Nat.le_of_eq rfl) (by decide)
  obtain ⟨T3657, X3657, e3657, st3657⟩ := q_
  refine o2 (fun u j => st3657 u j) ?_
  have q_ := o114 X3657 hx hZ hown (o0 hw 247 rfl) e3657 hS.2.2.2.2.2.2.2 (g := (mkF m 27 #[.val (.ref ad0), .val (.ref ad1), .val (.ref nz0_3645)] [.ref mSL])) rfl (hb hby o350)
  obtain ⟨T3658, X3658, e3658, st3658⟩ := q_
  refine o2 (fun u j => st3658 u j) ?_
  refine o2 (fun u j => XT.acmpYes X3658.here hx rfl (pc0 := 29) (pc' := 40) rfl (hb hby o351) rfl rfl rfl (XT.aa_ne_t (o647 (Mir.ne hS.2.2.2.2.2.2.1 hS.2.2.2.2.2.2.2 o309))) (by decide) (by decide) (o1 X3658.here hx rfl (hb hby o352) rfl rfl (o1 X3658.here hx rfl (hb hby o353) rfl rfl (o1 X3658.here hx rfl (hb hby o354) rfl rfl j)))) ?_
  refine o19 (getF X3658 hx hZ hown (host := "") (Or.inl (o0 hw 83 rfl)) Via.refl e3658 F3655 rfl rfl (hb hby o355)) ?_
  intro T3659 X3659 e3659
  have q_ := o114 X3659 hx hZ hown (o0 hw 249 rfl) e3659 hS.2.2.2.2.2.1 (g := (mkF m 46 #[.val (.ref ad0), .val (.ref ad1), .val (.ref nz0_3645)] [.int 3, .ref nz0_3645, .ref ad0])) rfl (hb hby o356)
  obtain ⟨T3660, X3660, e3660, st3660⟩ := q_
  refine o2 (fun u j => st3660 u j) ?_
  have ne3661 := (Ne.symm (Nat.ne_of_lt (Nat.lt_of_lt_of_le F3625.lt z3647)))
  have F3662 := (F3649.other W3654 ne3661)
  have F3663 := (Exa.wr W3654 (F3640.keep K3643))
  have F3664 := (Exa.wr W3654 (F3641.keep K3643))
  have F3665 := (Exa.wr W3654 (F3642.keep K3643))
  have O3667 := O3644.keep K3643 all0
  have O3668 := O3667.wr W3654 pg_ad0
  refine o11 (o25 X3660 hx hZ (y := o194) hown (o0 hw 250 rfl) (o0 hw 251 rfl) (o0 hw 222 rfl) (o0 hw 252 rfl) o69 (o912 l Z a0 hw [] wcs wd mOA mSL mAL kd hS nz0_3645 kz1_3646 ad7 ad8 ad9 h3654 n0 O3668 F3662 F3663 F3664 F3665) e3660 o395 (argsL := [.ref nz0_3645, .int 3, .ref mOA]) (rest := [.ref ad0]) rfl rfl (g := (mkF m 48 #[.val (.ref ad0), .val (.ref ad1), .val (.ref nz0_3645)] [.ref mOA, .int 3, .ref nz0_3645, .ref ad0])) rfl (by rw [hml]; rfl) rfl (hb hby o357) (W := 1) rfl (by decide) (by decide) (by decide) (by decide)) ?_
  intro T3666 v3666 L3666 X3666 hQ3666
  obtain ⟨nz0_3669, kz1_3670, rfl, M3666, K3666, z3671, F3672, F3673, ov0_3674⟩ := hQ3666
  have N3666 := Fr.app N3654 M3666
  have F3675 := ((Exa.wr W3654 F3652).keep K3666)
  have F3676 := ((Fld.other W3654 (F3627.keep K3643 nin0) (Or.inr (o117 hw))).keep K3666 nin0)
  refine o32 (putF X3666 hx hZ hown (host := "") (Or.inl (o0 hw 60 rfl)) Via.refl rfl F3676 F3675 (Or.inl (o0 hw 61 rfl)) (o0 hw 39 rfl) (ty := (.array (.object "java/lang/Object"))) o68 rfl rfl rfl rfl (hb hby o358)) ?_
  intro T3677 h3677 X3677 e3677 W3677
  have N3677 := Fr.snoc X3677 N3666 pg_ad0
  have F3678 : Fld Z h3677 ad0 o3 o13 o7 (.ref nz0_3669) := Fld.same W3677 F3676
  refine o2 (fun u j => o35 X3677.here hx rfl (pc0 := 54) (pc' := 64) rfl (hb hby o359) (by decide) (by decide) j) ?_
  have K3679 := (Keep.refl h0 [ad0]).trans K3624 (allS (Or.inl (List.mem_of_getElem? (i := 0) rfl)) all0)
  have K3680 := K3679.trans K3643 all0
  have K3681 := K3680.wr W3654 (Or.inl (List.mem_of_getElem? (i := 0) rfl))
  have K3682 := K3681.trans K3666 all0
  have K3683 := K3682.wr W3677 (Or.inl (List.mem_of_getElem? (i := 0) rfl))
  have z3684 := Nat.le_trans (Nat.le_trans (Nat.le_trans K3624.1 K3643.1) (Nat.le_of_eq W3654.size.symm)) z3671
  have F3685 := (Exa.wr W3677 F3675)
  have F3686 := (Fld.other W3677 ((Fld.other W3654 (F3626.keep K3643 nin0) (Or.inr (o116 hw))).keep K3666 nin0) (Or.inr (o200 hw)))
  have F3687 := (Fld.other W3677 (F3655.keep K3666 nin0) (Or.inr (o201 hw)))
  have F3688 := (Exa.wr W3677 F3672)
  have ne3689 := (Ne.symm (Nat.ne_of_lt (Nat.lt_of_lt_of_le F3655.lt z3671)))
  have F3690 := (F3673.other W3677 ne3689)
  exact o48 X3677 hx hlk hret (hb hby o360) (by decide) (by decide) (by rw [e3677]; exact ⟨nz0_3669, kz1_3670, rfl, N3677, K3683, z3684, F3685, F3686, F3678, F3687, F3688, F3690, ov0_3674⟩)
theorem o914 (l : Launch) (Z : State) (a0 : Array Value) (hw : o21 a0 Z) (ws : List Jvm.Cond) (wcs : Int32) (wd mOA mSL mAL : Addr) (kd : ClassId) (hS : o22 Z wcs wd mOA mSL mAL kd)  (h0 : Heap) (n0 : Nat) (O0 : Old Z n0 h0)  :
    o16 l o578 jdk_48_method_27_code 4 (some .int) ws ⟨1, 0, 0, 14⟩ Z h0 #[.int 3, .int 1, .int 1] (fun v h L => v = some (.int 4) ∧ Fr n0 L ∧ h = h0) := by
  refine o15 (plainFor_of_name o653) ?_
  intro p e s m below meth c s₁ hx hby hml hown hnm hret hlk hZ e0 X0
  have N0 := Fr.nil n0
  refine o2 (fun u j => castTop (show entryFrame m #[.int 3, .int 1, .int 1] 4 = mkF m 0 #[.val (.int 3), .val (.int 1), .val (.int 1), .unset] [] from rfl) j) ?_
  refine o2 (fun u j => o4 X0.here hx rfl (hb hby o516) rfl (o4 X0.here hx rfl (hb hby o517) rfl (o4 X0.here hx rfl (hb hby o518) rfl j))) ?_
  refine o11 (o25 X0 hx hZ (y := o575) hown (o0 hw 257 rfl) (o0 hw 116 rfl) (o0 hw 117 rfl) (o0 hw 118 rfl) o115 (o848 l Z a0 hw [] wcs wd mOA mSL mAL kd hS (1 : Int32) (1 : Int32) h0 n0 O0 (by decide)) e0 o67 (argsL := [.int 1, .int 1]) (rest := [.int 3]) rfl rfl (g := (mkF m 3 #[.val (.int 3), .val (.int 1), .val (.int 1), .unset] [.int 1, .int 1, .int 3])) rfl (by rw [hml]; rfl) rfl (hb hby o519) (W := 1) rfl (by decide) (by decide) (by decide) (by decide)) ?_
  intro T3728 v3728 L3728 X3728 hQ3728
  obtain ⟨rfl, M3728, e3728⟩ := hQ3728
  have N3728 := Fr.app N0 M3728
  refine o2 (fun u j => o36 X3728.here hx rfl (hb hby o520) rfl (o45 X3728.here hx rfl (hb hby o521) rfl (l' := #[.val (.int 3), .val (.int 1), .val (.int 1), .val (.int 4)]) rfl (o5 X3728.here hx rfl (hb hby o522) (o4 X3728.here hx rfl (hb hby o523) rfl (o28 X3728.here hx rfl (hb hby o459) rfl (o53 (by decide)) (o4 X3728.here hx rfl (hb hby o460) rfl j)))))) ?_
  show o17 p e below _ (T3728.setTop (mkF m 14 #[.val (.int 3), .val (.int 1), .val (.int 1), .val (.int 4)] [.int 4]))
  refine o2 (X3728.ldcInt hx hown (mvT hZ (o0 hw 258 rfl)) rfl (hb hby o461)) ?_
  show o17 p e below _ (T3728.setTop (mkF m 16 #[.val (.int 3), .val (.int 1), .val (.int 1), .val (.int 4)] [.int 2147483639, .int 4]))
  refine o2 (fun u j => o28 X3728.here hx rfl (hb hby o462) rfl (XT.ii_gt_f (by decide)) (o4 X3728.here hx rfl (hb hby o463) rfl j)) ?_
  exact o20 X3728 hx hlk hret rfl (Or.inl ⟨rfl, by simp, _, rfl⟩) (hb hby o464) (by decide) (by decide) (by rw [e3728]; exact ⟨rfl, N3728, rfl⟩)
theorem o915 (l : Launch) (Z : State) (a0 : Array Value) (hw : o21 a0 Z) (ws : List Jvm.Cond) (wcs : Int32) (wd mOA mSL mAL : Addr) (kd : ClassId) (hS : o22 Z wcs wd mOA mSL mAL kd) (ad0 : Addr) (kc1 : ClassId) (ad2 ad3 ad4 : Addr) (h0 : Heap) (n0 : Nat) (O0 : Old Z n0 h0) (pa2 : Arv Z h0 ad0 kc1 (.object "java/lang/Object") 3 [.ref ad2, .ref ad3, .ref ad4] .null) (pe3 : Exa Z h0 ad2 o6) (pe6 : Exa Z h0 ad3 o6) (pe9 : Exa Z h0 ad4 o6) :
    o16 l o194 jdk_65_method_120_code 4 (some (.array (.object "java/lang/Object"))) ws ⟨1, 1, 4, 27⟩ Z h0 #[.ref ad0, .int 4, .ref mOA] (fun v h L => ∃ nz0 : Addr, ∃ kz1 : ClassId, v = some (.ref nz0) ∧ Fr n0 L ∧ Keep h0 h [] ∧ h0.size ≤ nz0 ∧ Exa Z h nz0 o7 ∧ Arv Z h nz0 kz1 (.object "java/lang/Object") 4 [.ref ad2, .ref ad3, .ref ad4, .null] .null ∧ Ovr Z kz1 "java/lang/Object") := by
  refine o15 (plainFor_of_name o72) ?_
  intro p e s m below meth c s₁ hx hby hml hown hnm hret hlk hZ e0 X0
  have N0 := Fr.nil n0
  refine o2 (fun u j => castTop (show entryFrame m #[.ref ad0, .int 4, .ref mOA] 4 = mkF m 0 #[.val (.ref ad0), .val (.int 4), .val (.ref mOA), .unset] [] from rfl) j) ?_
  refine o2 (fun u j => o1 X0.here hx rfl (hb hby o189) rfl rfl j) ?_
  have q_ := o114 X0 hx hZ hown (o0 hw 233 rfl) e0 hS.2.2.2.2.2.1 (g := (mkF m 1 #[.val (.ref ad0), .val (.int 4), .val (.ref mOA), .unset] [.ref mOA])) rfl (hb hby o190)
  obtain ⟨T3745, X3745, e3745, st3745⟩ := q_
  refine o2 (fun u j => st3745 u j) ?_
  refine o2 (fun u j => o97 X3745.here hx rfl (hb hby o191) rfl rfl rfl (o84 rfl) (o4 X3745.here hx rfl (hb hby o192) rfl j)) ?_
  have q_ := newRE X3745 hx hZ hown (show (Cond.classLink "java/util/Arrays" 2 "java/lang/Object").before a0 Z = true from (o0 hw 234 rfl)) (show (Cond.arrayOver (.object "java/lang/Object")).before a0 Z = true from (o0 hw 120 rfl)) e3745 (g := (mkF m 7 #[.val (.ref ad0), .val (.int 4), .val (.ref mOA), .unset] [.int 4])) rfl (hb hby o193) rfl (by decide) (cap := 4) (by decide) (by decide) (by decide) (by decide) (ad := "[Ljava/lang/Object;") o198
  obtain ⟨T3746, h3746, k3746, X3746, e3746, E3746, A3746, Y3746, O3746, st3746⟩ := q_
  have q_ : ∃ z, z = h0.size := ⟨_, rfl⟩
  obtain ⟨b3746, g3746⟩ := q_
  rw [← g3746] at A3746 Y3746 st3746
  have V3746 : Arv Z h3746 b3746 k3746 (.object "java/lang/Object") 4 [.null, .null, .null, .null] .null := (Arv.new A3746 (by decide)).pad (pad_rep [] .null 4)
  refine o2 (fun u j => st3746 u j) ?_
  refine o2 (fun u j => o35 X3746.here hx rfl (pc0 := 10) (pc' := 24) rfl (hb hby o157) (by decide) (by decide) (o31 X3746.here hx rfl (hb hby o158) rfl rfl (l' := #[.val (.ref ad0), .val (.int 4), .val (.ref mOA), .val (.ref b3746)]) rfl (o1 X3746.here hx rfl (hb hby o159) rfl rfl (o5 X3746.here hx rfl (hb hby o160) (o1 X3746.here hx rfl (hb hby o161) rfl rfl (o5 X3746.here hx rfl (hb hby o162) j)))))) ?_
  show o17 p e below _ (T3746.setTop (mkF m 29 #[.val (.ref ad0), .val (.int 4), .val (.ref mOA), .val (.ref b3746)] [.int 0, .ref b3746, .int 0, .ref ad0]))
  refine o2 (fun u j => o1 X3746.here hx rfl (hb hby o163) rfl rfl j) ?_
  have F3747 := (pa2.ext E3746)
  refine o2 (fun u j => o65 X3746 hx hZ e3746 F3747 rfl rfl (hb hby o164) (o4 X3746.here hx rfl (hb hby o165) rfl j)) ?_
  have O3750 := O0.ext E3746
  refine o11 (o25 X3746 hx hZ (y := o188) hown (o0 hw 235 rfl) (o0 hw 236 rfl) (o0 hw 117 rfl) (o0 hw 237 rfl) o115 (o714 l Z a0 hw [] wcs wd mOA mSL mAL kd hS (3 : Int32) (4 : Int32) h3746 n0 O3750 (by decide)) e3746 o67 (argsL := [.int 3, .int 4]) (rest := [.int 0, .ref b3746, .int 0, .ref ad0]) rfl rfl (g := (mkF m 32 #[.val (.ref ad0), .val (.int 4), .val (.ref mOA), .val (.ref b3746)] [.int 4, .int 3, .int 0, .ref b3746, .int 0, .ref ad0])) rfl (by rw [hml]; rfl) rfl (hb hby o166) (W := 4) rfl (by decide) (by decide) (by decide) (by decide)) ?_
  intro T3749 v3749 L3749 X3749 hQ3749
  obtain ⟨rfl, M3749, e3749⟩ := hQ3749
  have N3749 := Fr.app N0 M3749
  have q_ := id V3746
  obtain ⟨cl3752, Ar3752, q3752, S3752, N3752, H3752, G3752⟩ := q_
  have F3753 := (Exa.ext E3746 pe9)
  have F3754 := (Exa.ext E3746 pe6)
  have F3755 := (Exa.ext E3746 pe3)
  have g3756 := Nat.le_trans (o52 O0) (Nat.le_of_eq g3746.symm)
  have q_ := cpA X3749 hx hZ hown (o0 hw 238 rfl) (o0 hw 241 rfl) (o0 hw 239 rfl) (o0 hw 240 rfl) e3749 F3747 V3746 (us := [.ref ad2, .ref ad3, .ref ad4]) (Or.inr ⟨rfl, rfl, ⟨Sto.ofV Ar3752 q3752 O3746 (Ins.of_exa F3755 (o0 hw 121 rfl)), ⟨Sto.ofV Ar3752 q3752 O3746 (Ins.of_exa F3754 (o0 hw 121 rfl)), ⟨Sto.ofV Ar3752 q3752 O3746 (Ins.of_exa F3753 (o0 hw 121 rfl)), trivial⟩⟩⟩⟩) (by decide) (by decide) (by decide) (by decide) (by decide) rfl (by decide) N3749 g3756 (g := (mkF m 35 #[.val (.ref ad0), .val (.int 4), .val (.ref mOA), .val (.ref b3746)] [.int 3, .int 0, .ref b3746, .int 0, .ref ad0])) rfl (by rw [hml]; rfl) rfl (hb hby o167) (by decide) (W := 0) (by show 2 * 0 + _ ≤ _; exact Nat.le_of_eq rfl) (by decide)
  obtain ⟨T3751, h3751, L3751, X3751, e3751, N3751, K3751, V3751, st3751⟩ := q_
  have V3757 : Arv Z h3751 b3746 k3746 (.object "java/lang/Object") 4 [.ref ad2, .ref ad3, .ref ad4, .null] .null := V3751
  refine o2 (fun u j => st3751 u j) ?_
  refine o2 (fun u j => o1 X3751.here hx rfl (hb hby o168) rfl rfl j) ?_
  have K3758 := (Keep.refl h0 []).ext E3746
  have z3760 := Nat.le_trans (Nat.le_refl _) (Nat.le_of_eq g3746.symm)
  have K3759 := K3758.trans K3751 (allS (Or.inr z3760) all0)
  have F3761 := (Y3746.keep K3751)
  exact o20 X3751 hx hlk hret rfl (Or.inr (Or.inr (Or.inr (Or.inr ⟨rfl, rfl, rfl⟩)))) (hb hby o169) (by decide) (by decide) (by rw [e3751]; exact ⟨b3746, k3746, rfl, N3751, K3759, z3760, F3761, V3757, O3746⟩)
theorem o916 (l : Launch) (Z : State) (a0 : Array Value) (hw : o21 a0 Z) (ws : List Jvm.Cond) (wcs : Int32) (wd mOA mSL mAL : Addr) (kd : ClassId) (hS : o22 Z wcs wd mOA mSL mAL kd) (ad0 : Addr) (kc1 : ClassId) (ad2 ad3 ad4 : Addr) (h0 : Heap) (n0 : Nat) (O0 : Old Z n0 h0) (pe1 : Exa Z h0 ad0 o7) (pa2 : Arv Z h0 ad0 kc1 (.object "java/lang/Object") 3 [.ref ad2, .ref ad3, .ref ad4] .null) (pe3 : Exa Z h0 ad2 o6) (pe6 : Exa Z h0 ad3 o6) (pe9 : Exa Z h0 ad4 o6) :
    o16 l o579 jdk_65_method_119_code 2 (some (.array (.object "java/lang/Object"))) ws ⟨2, 1, 4, 42⟩ Z h0 #[.ref ad0, .int 4] (fun v h L => ∃ nz0 : Addr, ∃ kz1 : ClassId, v = some (.ref nz0) ∧ Fr n0 L ∧ Keep h0 h [] ∧ h0.size ≤ nz0 ∧ Exa Z h nz0 o7 ∧ Arv Z h nz0 kz1 (.object "java/lang/Object") 4 [.ref ad2, .ref ad3, .ref ad4, .null] .null ∧ Ovr Z kz1 "java/lang/Object") := by
  refine o15 (plainFor_of_name o72) ?_
  intro p e s m below meth c s₁ hx hby hml hown hnm hret hlk hZ e0 X0
  have N0 := Fr.nil n0
  refine o2 (fun u j => castTop (show entryFrame m #[.ref ad0, .int 4] 2 = mkF m 0 #[.val (.ref ad0), .val (.int 4)] [] from rfl) j) ?_
  refine o2 (fun u j => o1 X0.here hx rfl (hb hby o465) rfl rfl (o4 X0.here hx rfl (hb hby o466) rfl (o1 X0.here hx rfl (hb hby o467) rfl rfl j))) ?_
  have q_ := o564 X0 hx hZ hown (o0 hw 224 rfl) (o0 hw 225 rfl) (o0 hw 227 rfl) (o0 hw 226 rfl) (o0 hw 228 rfl) e0 pe1 hS.2.2.2.2.2.1 (g := (mkF m 3 #[.val (.ref ad0), .val (.int 4)] [.ref ad0, .int 4, .ref ad0])) rfl (by rw [hml]; rfl) rfl (hb hby o468) (by decide) (W := 2) (by show 2 * 0 + _ ≤ _; exact Nat.le_of_eq rfl) (by decide)
  obtain ⟨T3769, X3769, e3769, st3769⟩ := q_
  refine o2 (fun u j => st3769 u j) ?_
  refine o11 (o25 X3769 hx hZ (y := o194) hown (o0 hw 262 rfl) (o0 hw 251 rfl) (o0 hw 222 rfl) (o0 hw 252 rfl) o69 (o915 l Z a0 hw [] wcs wd mOA mSL mAL kd hS ad0 kc1 ad2 ad3 ad4 h0 n0 O0 pa2 pe3 pe6 pe9) e3769 o395 (argsL := [.ref ad0, .int 4, .ref mOA]) (rest := []) rfl rfl (g := (mkF m 6 #[.val (.ref ad0), .val (.int 4)] [.ref mOA, .int 4, .ref ad0])) rfl (by rw [hml]; rfl) rfl (hb hby o469) (W := 0) rfl (by decide) (by decide) (by decide) (by decide)) ?_
  intro T3770 v3770 L3770 X3770 hQ3770
  obtain ⟨nz0_3771, kz1_3772, rfl, M3770, K3770, z3773, F3774, F3775, ov0_3776⟩ := hQ3770
  have N3770 := Fr.app N0 M3770
  have K3777 := (Keep.refl h0 []).trans K3770 all0
  have z3778 := Nat.le_trans (Nat.le_refl _) z3773
  exact o20 X3770 hx hlk hret rfl (Or.inr (Or.inr (Or.inr (Or.inr ⟨rfl, rfl, rfl⟩)))) (hb hby o470) (by decide) (by decide) (by exact ⟨nz0_3771, kz1_3772, rfl, N3770, K3777, z3778, F3774, F3775, ov0_3776⟩)
theorem o917 (l : Launch) (Z : State) (a0 : Array Value) (hw : o21 a0 Z) (ws : List Jvm.Cond) (wcs : Int32) (wd mOA mSL mAL : Addr) (kd : ClassId) (hS : o22 Z wcs wd mOA mSL mAL kd) (ad0 : Addr) (iv1 : Int32) (ad2 : Addr) (kc3 : ClassId) (ad4 ad5 ad6 : Addr) (h0 : Heap) (n0 : Nat) (O0 : Old Z n0 h0) (pe1 : Exa Z h0 ad0 o3) (pf2 : Fld Z h0 ad0 o8 o9 "I" (.int iv1)) (pf3 : Fld Z h0 ad0 o3 o13 o7 (.ref ad2)) (pf4 : Fld Z h0 ad0 o3 "size" "I" (.int 3)) (pe5 : Exa Z h0 ad2 o7) (pa6 : Arv Z h0 ad2 kc3 (.object "java/lang/Object") 3 [.ref ad4, .ref ad5, .ref ad6] .null) (pe7 : Exa Z h0 ad4 o6) (pe10 : Exa Z h0 ad5 o6) (pe13 : Exa Z h0 ad6 o6) (pg_ad0 : n0 ≤ ad0) :
    o16 l o365 jdk_38_method_6_code 4 (some (.array (.object "java/lang/Object"))) ws ⟨3, 1, 4, 56⟩ Z h0 #[.ref ad0, .int 4] (fun v h L => ∃ nz0 : Addr, ∃ kz1 : ClassId, v = some (.ref nz0) ∧ Fr n0 L ∧ Keep h0 h [ad0] ∧ h0.size ≤ nz0 ∧ Exa Z h ad0 o3 ∧ Fld Z h ad0 o8 o9 "I" (.int iv1) ∧ Fld Z h ad0 o3 o13 o7 (.ref nz0) ∧ Fld Z h ad0 o3 "size" "I" (.int 3) ∧ Exa Z h nz0 o7 ∧ Arv Z h nz0 kz1 (.object "java/lang/Object") 4 [.ref ad4, .ref ad5, .ref ad6, .null] .null ∧ Ovr Z kz1 "java/lang/Object") := by
  refine o15 (plainFor_of_name o24) ?_
  intro p e s m below meth c s₁ hx hby hml hown hnm hret hlk hZ e0 X0
  have N0 := Fr.nil n0
  refine o2 (fun u j => castTop (show entryFrame m #[.ref ad0, .int 4] 4 = mkF m 0 #[.val (.ref ad0), .val (.int 4), .unset, .unset] [] from rfl) j) ?_
  refine o2 (fun u j => o1 X0.here hx rfl (hb hby o381) rfl rfl j) ?_
  refine o19 (getF X0 hx hZ hown (host := "") (Or.inl (o0 hw 60 rfl)) Via.refl e0 pf3 rfl rfl (hb hby o382)) ?_
  intro T3790 X3790 e3790
  refine o2 (fun u j => o65 X3790 hx hZ e3790 pa6 rfl rfl (hb hby o383) (o45 X3790.here hx rfl (hb hby o384) rfl (l' := #[.val (.ref ad0), .val (.int 4), .val (.int 3), .unset]) rfl (o4 X3790.here hx rfl (hb hby o385) rfl (o43 X3790.here hx rfl (pc0 := 7) (pc' := 20) rfl (hb hby o386) rfl (XT.i0_gt_t (by decide)) (by decide) (by decide) (o4 X3790.here hx rfl (hb hby o508) rfl (o4 X3790.here hx rfl (hb hby o509) rfl j)))))) ?_
  show o17 p e below _ (T3790.setTop (mkF m 22 #[.val (.ref ad0), .val (.int 4), .val (.int 3), .unset] [.int 4, .int 3]))
  refine o2 (fun u j => o4 X3790.here hx rfl (hb hby o510) rfl (o38 X3790.here hx rfl (hb hby o511) rfl (o4 X3790.here hx rfl (hb hby o512) rfl (o5 X3790.here hx rfl (hb hby o513) (XS.ishr X3790.here hx rfl (hb hby o514) rfl j))))) ?_
  refine o11 (o25 X3790 hx hZ (y := o578) hown (o0 hw 253 rfl) (o0 hw 254 rfl) (o0 hw 255 rfl) (o0 hw 256 rfl) o654 (o914 l Z a0 hw [] wcs wd mOA mSL mAL kd hS  h0 n0 O0 ) e3790 o655 (argsL := [.int 3, .int 1, .int 1]) (rest := []) rfl rfl (g := (mkF m 27 #[.val (.ref ad0), .val (.int 4), .val (.int 3), .unset] [.int 1, .int 1, .int 3])) rfl (by rw [hml]; rfl) rfl (hb hby o515) (W := 0) rfl (by decide) (by decide) (by decide) (by decide)) ?_
  intro T3792 v3792 L3792 X3792 hQ3792
  obtain ⟨rfl, M3792, e3792⟩ := hQ3792
  have N3792 := Fr.app N0 M3792
  refine o2 (fun u j => o45 X3792.here hx rfl (hb hby o524) rfl (l' := #[.val (.ref ad0), .val (.int 4), .val (.int 3), .val (.int 4)]) rfl (o1 X3792.here hx rfl (hb hby o525) rfl rfl (o1 X3792.here hx rfl (hb hby o526) rfl rfl j))) ?_
  refine o19 (getF X3792 hx hZ hown (host := "") (Or.inl (o0 hw 60 rfl)) Via.refl e3792 pf3 rfl rfl (hb hby o527)) ?_
  intro T3793 X3793 e3793
  refine o2 (fun u j => o4 X3793.here hx rfl (hb hby o528) rfl j) ?_
  refine o11 (o25 X3793 hx hZ (y := o579) hown (o0 hw 259 rfl) (o0 hw 260 rfl) (o0 hw 222 rfl) (o0 hw 261 rfl) o69 (o916 l Z a0 hw [] wcs wd mOA mSL mAL kd hS ad2 kc3 ad4 ad5 ad6 h0 n0 O0 pe5 pa6 pe7 pe10 pe13) e3793 o656 (argsL := [.ref ad2, .int 4]) (rest := [.ref ad0]) rfl rfl (g := (mkF m 37 #[.val (.ref ad0), .val (.int 4), .val (.int 3), .val (.int 4)] [.int 4, .ref ad2, .ref ad0])) rfl (by rw [hml]; rfl) rfl (hb hby o529) (W := 1) rfl (by decide) (by decide) (by decide) (by decide)) ?_
  intro T3794 v3794 L3794 X3794 hQ3794
  obtain ⟨nz0_3795, kz1_3796, rfl, M3794, K3794, z3797, F3798, F3799, ov0_3800⟩ := hQ3794
  have N3794 := Fr.app N3792 M3794
  refine o2 (fun u j => XS.dupX1 X3794.here hx rfl (hb hby o530) rfl rfl rfl j) ?_
  have F3801 := (pe1.keep K3794)
  have F3802 := (pf3.keep K3794 nin0)
  refine o32 (putF X3794 hx hZ hown (host := "") (Or.inl (o0 hw 60 rfl)) Via.refl rfl F3802 F3801 (Or.inl (o0 hw 61 rfl)) (o0 hw 39 rfl) (ty := (.array (.object "java/lang/Object"))) o68 rfl rfl rfl rfl (hb hby o531)) ?_
  intro T3803 h3803 X3803 e3803 W3803
  have N3803 := Fr.snoc X3803 N3794 pg_ad0
  have F3804 : Fld Z h3803 ad0 o3 o13 o7 (.ref nz0_3795) := Fld.same W3803 F3802
  have K3805 := (Keep.refl h0 [ad0]).trans K3794 all0
  have K3806 := K3805.wr W3803 (Or.inl (List.mem_of_getElem? (i := 0) rfl))
  have z3807 := Nat.le_trans (Nat.le_refl _) z3797
  have F3808 := (Exa.wr W3803 F3801)
  have F3809 := (Fld.other W3803 (pf2.keep K3794 nin0) (Or.inr (o200 hw)))
  have F3810 := (Fld.other W3803 (pf4.keep K3794 nin0) (Or.inr (o201 hw)))
  have F3811 := (Exa.wr W3803 F3798)
  have ne3812 := (Ne.symm (Nat.ne_of_lt (Nat.lt_of_lt_of_le pe1.lt z3797)))
  have F3813 := (F3799.other W3803 ne3812)
  exact o20 X3803 hx hlk hret rfl (Or.inr (Or.inr (Or.inr (Or.inr ⟨rfl, rfl, rfl⟩)))) (hb hby o532) (by decide) (by decide) (by rw [e3803]; exact ⟨nz0_3795, kz1_3796, rfl, N3803, K3806, z3807, F3808, F3809, F3804, F3810, F3811, F3813, ov0_3800⟩)
theorem o918 (l : Launch) (Z : State) (a0 : Array Value) (hw : o21 a0 Z) (ws : List Jvm.Cond) (wcs : Int32) (wd mOA mSL mAL : Addr) (kd : ClassId) (hS : o22 Z wcs wd mOA mSL mAL kd) (ad0 : Addr) (iv1 : Int32) (ad2 : Addr) (kc3 : ClassId) (ad4 ad5 ad6 : Addr) (h0 : Heap) (n0 : Nat) (O0 : Old Z n0 h0) (pe1 : Exa Z h0 ad0 o3) (pf2 : Fld Z h0 ad0 o8 o9 "I" (.int iv1)) (pf3 : Fld Z h0 ad0 o3 o13 o7 (.ref ad2)) (pf4 : Fld Z h0 ad0 o3 "size" "I" (.int 3)) (pe5 : Exa Z h0 ad2 o7) (pa6 : Arv Z h0 ad2 kc3 (.object "java/lang/Object") 3 [.ref ad4, .ref ad5, .ref ad6] .null) (pe7 : Exa Z h0 ad4 o6) (pe10 : Exa Z h0 ad5 o6) (pe13 : Exa Z h0 ad6 o6) (pg_ad0 : n0 ≤ ad0) :
    o16 l o366 jdk_38_method_7_code 1 (some (.array (.object "java/lang/Object"))) ws ⟨4, 1, 4, 71⟩ Z h0 #[.ref ad0] (fun v h L => ∃ nz0 : Addr, ∃ kz1 : ClassId, v = some (.ref nz0) ∧ Fr n0 L ∧ Keep h0 h [ad0] ∧ h0.size ≤ nz0 ∧ Exa Z h ad0 o3 ∧ Fld Z h ad0 o8 o9 "I" (.int iv1) ∧ Fld Z h ad0 o3 o13 o7 (.ref nz0) ∧ Fld Z h ad0 o3 "size" "I" (.int 3) ∧ Exa Z h nz0 o7 ∧ Arv Z h nz0 kz1 (.object "java/lang/Object") 4 [.ref ad4, .ref ad5, .ref ad6, .null] .null ∧ Ovr Z kz1 "java/lang/Object") := by
  refine o15 (plainFor_of_name o24) ?_
  intro p e s m below meth c s₁ hx hby hml hown hnm hret hlk hZ e0 X0
  have N0 := Fr.nil n0
  refine o2 (fun u j => castTop (show entryFrame m #[.ref ad0] 1 = mkF m 0 #[.val (.ref ad0)] [] from rfl) j) ?_
  refine o2 (fun u j => o1 X0.here hx rfl (hb hby o375) rfl rfl (o1 X0.here hx rfl (hb hby o376) rfl rfl j)) ?_
  refine o19 (getF X0 hx hZ hown (host := "") (Or.inl (o0 hw 83 rfl)) Via.refl e0 pf4 rfl rfl (hb hby o377)) ?_
  intro T3825 X3825 e3825
  refine o2 (fun u j => o5 X3825.here hx rfl (hb hby o378) (o36 X3825.here hx rfl (hb hby o379) rfl j)) ?_
  refine o11 (o62 X3825 hx hZ (y := o365) hown (o0 hw 110 rfl) (o0 hw 111 rfl) (mvT hZ (o0 hw 113 rfl)) (o0 hw 112 rfl) (o0 hw 40 rfl) (o0 hw 114 rfl) o42 (o917 l Z a0 hw [] wcs wd mOA mSL mAL kd hS ad0 iv1 ad2 kc3 ad4 ad5 ad6 h0 n0 O0 pe1 pf2 pf3 pf4 pe5 pa6 pe7 pe10 pe13 pg_ad0) e3825 pe1 o606 (argsL := [.int 4]) (rest := []) rfl rfl (g := (mkF m 7 #[.val (.ref ad0)] [.int 4, .ref ad0])) rfl (by rw [hml]; rfl) rfl (hb hby o380) (W := 0) rfl (by decide) (by decide) (by decide) (by decide)) ?_
  intro T3826 v3826 L3826 X3826 hQ3826
  obtain ⟨nz0_3827, kz1_3828, rfl, M3826, K3826, z3829, F3830, F3831, F3832, F3833, F3834, F3835, ov0_3836⟩ := hQ3826
  have N3826 := Fr.app N0 M3826
  have K3837 := (Keep.refl h0 [ad0]).trans K3826 (allS (Or.inl (List.mem_of_getElem? (i := 0) rfl)) all0)
  have z3838 := Nat.le_trans (Nat.le_refl _) z3829
  exact o20 X3826 hx hlk hret rfl (Or.inr (Or.inr (Or.inr (Or.inr ⟨rfl, rfl, rfl⟩)))) (hb hby o328) (by decide) (by decide) (by exact ⟨nz0_3827, kz1_3828, rfl, N3826, K3837, z3838, F3830, F3831, F3832, F3833, F3834, F3835, ov0_3836⟩)
theorem o919 (l : Launch) (Z : State) (a0 : Array Value) (hw : o21 a0 Z) (ws : List Jvm.Cond) (wcs : Int32) (wd mOA mSL mAL : Addr) (kd : ClassId) (hS : o22 Z wcs wd mOA mSL mAL kd) (ad0 ad1 ad2 : Addr) (iv3 : Int32) (kc5 : ClassId) (ad6 ad7 : Addr) (h0 : Heap) (n0 : Nat) (O0 : Old Z n0 h0) (pe1 : Exa Z h0 ad0 o3) (pf2 : Fld Z h0 ad0 o8 o9 "I" (.int iv3)) (pf3 : Fld Z h0 ad0 o3 o13 o7 (.ref ad2)) (pf4 : Fld Z h0 ad0 o3 "size" "I" (.int 3)) (pe5 : Exa Z h0 ad1 o6) (pe8 : Exa Z h0 ad2 o7) (pa9 : Arv Z h0 ad2 kc5 (.object "java/lang/Object") 3 [.ref ad1, .ref ad6, .ref ad7] .null) (pe12 : Exa Z h0 ad6 o6) (pe15 : Exa Z h0 ad7 o6) (pg_ad0 : n0 ≤ ad0) :
    o16 l o156 jdk_38_method_24_code 4 none ws ⟨5, 1, 4, 83⟩ Z h0 #[.ref ad0, .ref ad1, .ref ad2, .int 3] (fun v h L => ∃ nz0 : Addr, ∃ kz1 : ClassId, v = none ∧ Fr n0 L ∧ Keep h0 h [ad0] ∧ h0.size ≤ nz0 ∧ Exa Z h ad0 o3 ∧ Fld Z h ad0 o8 o9 "I" (.int iv3) ∧ Fld Z h ad0 o3 o13 o7 (.ref nz0) ∧ Fld Z h ad0 o3 "size" "I" (.int 4) ∧ Exa Z h nz0 o7 ∧ Arv Z h nz0 kz1 (.object "java/lang/Object") 4 [.ref ad1, .ref ad6, .ref ad7, .ref ad1] .null ∧ Ovr Z kz1 "java/lang/Object") := by
  refine o15 (plainFor_of_name o24) ?_
  intro p e s m below meth c s₁ hx hby hml hown hnm hret hlk hZ e0 X0
  have N0 := Fr.nil n0
  refine o2 (fun u j => castTop (show entryFrame m #[.ref ad0, .ref ad1, .ref ad2, .int 3] 4 = mkF m 0 #[.val (.ref ad0), .val (.ref ad1), .val (.ref ad2), .val (.int 3)] [] from rfl) j) ?_
  refine o2 (fun u j => o4 X0.here hx rfl (hb hby o150) rfl (o1 X0.here hx rfl (hb hby o151) rfl rfl (o65 X0 hx hZ e0 pa9 rfl rfl (hb hby o152) (o28 X0.here hx rfl (hb hby o153) rfl (o83 (by decide)) (o1 X0.here hx rfl (hb hby o326) rfl rfl j))))) ?_
  refine o11 (o62 X0 hx hZ (y := o366) hown (o0 hw 105 rfl) (o0 hw 106 rfl) (mvT hZ (o0 hw 108 rfl)) (o0 hw 107 rfl) (o0 hw 40 rfl) (o0 hw 109 rfl) o42 (o918 l Z a0 hw [] wcs wd mOA mSL mAL kd hS ad0 iv3 ad2 kc5 ad1 ad6 ad7 h0 n0 O0 pe1 pf2 pf3 pf4 pe8 pa9 pe5 pe12 pe15 pg_ad0) e0 pe1 o250 (argsL := []) (rest := []) rfl rfl (g := (mkF m 7 #[.val (.ref ad0), .val (.ref ad1), .val (.ref ad2), .val (.int 3)] [.ref ad0])) rfl (by rw [hml]; rfl) rfl (hb hby o327) (W := 0) rfl (by decide) (by decide) (by decide) (by decide)) ?_
  intro T3860 v3860 L3860 X3860 hQ3860
  obtain ⟨nz0_3861, kz1_3862, rfl, M3860, K3860, z3863, F3864, F3865, F3866, F3867, F3868, F3869, ov0_3870⟩ := hQ3860
  have N3860 := Fr.app N0 M3860
  refine o2 (fun u j => o31 X3860.here hx rfl (hb hby o251) rfl rfl (l' := #[.val (.ref ad0), .val (.ref ad1), .val (.ref nz0_3861), .val (.int 3)]) rfl (o1 X3860.here hx rfl (hb hby o125) rfl rfl (o4 X3860.here hx rfl (hb hby o126) rfl (o1 X3860.here hx rfl (hb hby o127) rfl rfl j)))) ?_
  have q_ := id F3869
  obtain ⟨cl3871, Ar3871, q3871, S3871, N3871, H3871, G3871⟩ := q_
  have hi3871 : ¬ ((3 : Int32) < 0 ∨ cl3871.slots.size ≤ ((3 : Int32)).toNatClampNeg) := inb_of S3871 ⟨by decide, by decide⟩
  have F3872 := (pe5.keep K3860)
  have q_ := stR X3860 hx hZ rfl Ar3871 (j := (3 : Int32)) hi3871 rfl (Sto.ofV Ar3871 q3871 ov0_3870 (Ins.of_exa F3872 (o0 hw 121 rfl))) (g := (mkF m 14 #[.val (.ref ad0), .val (.ref ad1), .val (.ref nz0_3861), .val (.int 3)] [.ref ad1, .int 3, .ref nz0_3861])) rfl rfl (hb hby o128)
  obtain ⟨T3873, h3873, X3873, e3873, W3873, st3873⟩ := q_
  have g3874 := Nat.le_trans (o52 O0) z3863
  have N3873 := Fr.snoc X3873 N3860 g3874
  have V3873 : Arv Z h3873 nz0_3861 kz1_3862 (.object "java/lang/Object") 4 [.ref ad1, .ref ad6, .ref ad7, .ref ad1] .null := Arv.set Ar3871 q3871 S3871 N3871 H3871 G3871 rfl W3873 3 rfl (Nat.le_of_ble_eq_true rfl)
  refine o2 (fun u j => st3873 u j) ?_
  refine o2 (fun u j => o1 X3873.here hx rfl (hb hby o129) rfl rfl (o4 X3873.here hx rfl (hb hby o130) rfl (o5 X3873.here hx rfl (hb hby o131) (o36 X3873.here hx rfl (hb hby o132) rfl j)))) ?_
  have F3875 := (Exa.wr W3873 F3864)
  have ne3876 := (Nat.ne_of_lt (Nat.lt_of_lt_of_le pe1.lt z3863))
  have F3877 := (Fld.other W3873 F3867 (Or.inl ne3876))
  refine o32 (putF X3873 hx hZ hown (host := "") (Or.inl (o0 hw 83 rfl)) Via.refl e3873 F3877 F3875 (Or.inl (o0 hw 84 rfl)) (o0 hw 39 rfl) (ty := .int) o18 rfl rfl rfl rfl (hb hby o133)) ?_
  intro T3878 h3878 X3878 e3878 W3878
  have N3878 := Fr.snoc X3878 N3873 pg_ad0
  have F3879 : Fld Z h3878 ad0 o3 "size" "I" (.int 4) := Fld.same W3878 F3877
  have K3880 := (Keep.refl h0 [ad0]).trans K3860 (allS (Or.inl (List.mem_of_getElem? (i := 0) rfl)) all0)
  have z3882 := Nat.le_trans (Nat.le_refl _) z3863
  have K3881 := K3880.wr W3873 (Or.inr z3882)
  have K3883 := K3881.wr W3878 (Or.inl (List.mem_of_getElem? (i := 0) rfl))
  have F3884 := (Exa.wr W3878 F3875)
  have F3885 := (Fld.other W3878 (Fld.other W3873 F3865 (Or.inl ne3876)) (Or.inr (o116 hw)))
  have F3886 := (Fld.other W3878 (Fld.other W3873 F3866 (Or.inl ne3876)) (Or.inr (o117 hw)))
  have F3887 := (Exa.wr W3878 (Exa.wr W3873 F3868))
  have F3888 := (V3873.other W3878 (Ne.symm ne3876))
  exact o48 X3878 hx hlk hret (hb hby o134) (by decide) (by decide) (by rw [e3878]; exact ⟨nz0_3861, kz1_3862, rfl, N3878, K3883, z3882, F3884, F3885, F3886, F3879, F3887, F3888, ov0_3870⟩)
theorem o920 (l : Launch) (Z : State) (a0 : Array Value) (hw : o21 a0 Z) (ws : List Jvm.Cond) (wcs : Int32) (wd mOA mSL mAL : Addr) (kd : ClassId) (hS : o22 Z wcs wd mOA mSL mAL kd) (ad0 ad1 : Addr) (iv2 : Int32) (ad3 : Addr) (kc5 : ClassId) (ad6 ad7 : Addr) (h0 : Heap) (n0 : Nat) (O0 : Old Z n0 h0) (pe1 : Exa Z h0 ad0 o3) (pf2 : Fld Z h0 ad0 o8 o9 "I" (.int iv2)) (pf3 : Fld Z h0 ad0 o3 o13 o7 (.ref ad3)) (pf4 : Fld Z h0 ad0 o3 "size" "I" (.int 3)) (pe5 : Exa Z h0 ad1 o6) (pe8 : Exa Z h0 ad3 o7) (pa9 : Arv Z h0 ad3 kc5 (.object "java/lang/Object") 3 [.ref ad1, .ref ad6, .ref ad7] .null) (pe12 : Exa Z h0 ad6 o6) (pe15 : Exa Z h0 ad7 o6) (pg_ad0 : n0 ≤ ad0) :
    o16 l o137 jdk_38_method_25_code 2 (some .boolean) ws ⟨6, 1, 4, 98⟩ Z h0 #[.ref ad0, .ref ad1] (fun v h L => ∃ nz0 : Addr, ∃ kz1 : ClassId, v = some (.int 1) ∧ Fr n0 L ∧ Keep h0 h [ad0] ∧ h0.size ≤ nz0 ∧ Exa Z h ad0 o3 ∧ Fld Z h ad0 o8 o9 "I" (.int (iv2 + (1 : Int32))) ∧ Fld Z h ad0 o3 o13 o7 (.ref nz0) ∧ Fld Z h ad0 o3 "size" "I" (.int 4) ∧ Exa Z h nz0 o7 ∧ Arv Z h nz0 kz1 (.object "java/lang/Object") 4 [.ref ad1, .ref ad6, .ref ad7, .ref ad1] .null ∧ Ovr Z kz1 "java/lang/Object") := by
  refine o15 (plainFor_of_name o24) ?_
  intro p e s m below meth c s₁ hx hby hml hown hnm hret hlk hZ e0 X0
  have N0 := Fr.nil n0
  refine o2 (fun u j => castTop (show entryFrame m #[.ref ad0, .ref ad1] 2 = mkF m 0 #[.val (.ref ad0), .val (.ref ad1)] [] from rfl) j) ?_
  refine o2 (fun u j => o1 X0.here hx rfl (hb hby o144) rfl rfl (o40 X0.here hx rfl (hb hby o145) rfl rfl j)) ?_
  refine o19 (getF X0 hx hZ hown (host := "") (Or.inl (o0 hw 98 rfl)) (Via.of (o0 hw 99 rfl)) e0 pf2 rfl rfl (hb hby o146)) ?_
  intro T3908 X3908 e3908
  refine o2 (fun u j => o5 X3908.here hx rfl (hb hby o147) (o36 X3908.here hx rfl (hb hby o148) rfl j)) ?_
  refine o32 (putF X3908 hx hZ hown (host := "") (Or.inl (o0 hw 98 rfl)) (Via.of (o0 hw 99 rfl)) e3908 pf2 pe1 (Or.inl (o0 hw 58 rfl)) (o0 hw 39 rfl) (ty := .int) o18 rfl rfl rfl rfl (hb hby o149)) ?_
  intro T3909 h3909 X3909 e3909 W3909
  have N3909 := Fr.snoc X3909 N0 pg_ad0
  have F3910 : Fld Z h3909 ad0 o8 o9 "I" (.int (iv2 + (1 : Int32))) := Fld.same W3909 pf2
  refine o2 (fun u j => o1 X3909.here hx rfl (hb hby o118) rfl rfl (o1 X3909.here hx rfl (hb hby o119) rfl rfl (o1 X3909.here hx rfl (hb hby o120) rfl rfl j))) ?_
  have F3911 := (Fld.other W3909 pf3 (Or.inr (o196 hw)))
  refine o19 (getF X3909 hx hZ hown (host := "") (Or.inl (o0 hw 60 rfl)) Via.refl e3909 F3911 rfl rfl (hb hby o121)) ?_
  intro T3912 X3912 e3912
  refine o2 (fun u j => o1 X3912.here hx rfl (hb hby o122) rfl rfl j) ?_
  have F3913 := (Fld.other W3909 pf4 (Or.inr (o197 hw)))
  refine o19 (getF X3912 hx hZ hown (host := "") (Or.inl (o0 hw 83 rfl)) Via.refl e3912 F3913 rfl rfl (hb hby o123)) ?_
  intro T3914 X3914 e3914
  have F3915 := (Exa.wr W3909 pe1)
  have F3916 := (Exa.wr W3909 pe5)
  have F3917 := (Exa.wr W3909 pe8)
  have ne3918 := (ne_exa pe8 pe1 o143)
  have F3919 := (pa9.other W3909 ne3918)
  have F3920 := (Exa.wr W3909 pe12)
  have F3921 := (Exa.wr W3909 pe15)
  have O3923 := O0.wr W3909 pg_ad0
  refine o11 (o62 X3914 hx hZ (y := o156) hown (o0 hw 100 rfl) (o0 hw 101 rfl) (mvT hZ (o0 hw 103 rfl)) (o0 hw 102 rfl) (o0 hw 40 rfl) (o0 hw 104 rfl) o42 (o919 l Z a0 hw [] wcs wd mOA mSL mAL kd hS ad0 ad1 ad3 (iv2 + (1 : Int32)) kc5 ad6 ad7 h3909 n0 O3923 F3915 F3910 F3911 F3913 F3916 F3917 F3919 F3920 F3921 pg_ad0) e3914 F3915 o387 (argsL := [.ref ad1, .ref ad3, .int 3]) (rest := []) rfl rfl (g := (mkF m 20 #[.val (.ref ad0), .val (.ref ad1)] [.int 3, .ref ad3, .ref ad1, .ref ad0])) rfl (by rw [hml]; rfl) rfl (hb hby o124) (W := 0) rfl (by decide) (by decide) (by decide) (by decide)) ?_
  intro T3922 v3922 L3922 X3922 hQ3922
  obtain ⟨nz0_3924, kz1_3925, rfl, M3922, K3922, z3926, F3927, F3928, F3929, F3930, F3931, F3932, ov0_3933⟩ := hQ3922
  have N3922 := Fr.app N3909 M3922
  refine o2 (fun u j => o5 X3922.here hx rfl (hb hby o135) j) ?_
  have K3934 := (Keep.refl h0 [ad0]).wr W3909 (Or.inl (List.mem_of_getElem? (i := 0) rfl))
  have K3935 := K3934.trans K3922 (allS (Or.inl (List.mem_of_getElem? (i := 0) rfl)) all0)
  have z3936 := Nat.le_trans (Nat.le_of_eq W3909.size.symm) z3926
  exact o20 X3922 hx hlk hret rfl (Or.inl ⟨rfl, by simp, _, rfl⟩) (hb hby o136) (by decide) (by decide) (by exact ⟨nz0_3924, kz1_3925, rfl, N3922, K3935, z3936, F3927, F3928, F3929, F3930, F3931, F3932, ov0_3933⟩)
theorem o921 (l : Launch) (Z : State) (a0 : Array Value) (hw : o21 a0 Z) (ws : List Jvm.Cond) (wcs : Int32) (wd mOA mSL mAL : Addr) (kd : ClassId) (hS : o22 Z wcs wd mOA mSL mAL kd) (ad0 ad1 ad2 : Addr) (iv4 : Int32) (ad5 : Addr) (kc9 : ClassId) (ad10 ad11 : Addr) (h0 : Heap) (n0 : Nat) (O0 : Old Z n0 h0) (pf2 : Fld Z h0 ad0 o54 "path" o66 (.ref ad2)) (pe3 : Exa Z h0 ad1 o6) (pe6 : Exa Z h0 ad2 o3) (pf7 : Fld Z h0 ad2 o8 o9 "I" (.int iv4)) (pf8 : Fld Z h0 ad2 o3 o13 o7 (.ref ad5)) (pf9 : Fld Z h0 ad2 o3 "size" "I" (.int 3)) (pe12 : Exa Z h0 ad5 o7) (pa13 : Arv Z h0 ad5 kc9 (.object "java/lang/Object") 10 [.ref ad1, .ref ad10, .ref ad11, .null, .null, .null, .null, .null, .null, .null] .null) (pe14 : Exa Z h0 ad10 o6) (pe17 : Exa Z h0 ad11 o6) :
    o16 l o39 prog_33_method_4_code 4 (some (.object "java/util/List")) ws ⟨7, 5, 18, 111⟩ Z h0 #[.ref ad0, .ref ad1] (fun v h L => ∃ nz0 : Addr, ∃ nz1 : Addr, ∃ kz2 : ClassId, v = some (.ref nz0) ∧ Fr n0 L ∧ Keep h0 h [] ∧ h0.size ≤ nz0 ∧ h0.size ≤ nz1 ∧ Exa Z h nz0 o3 ∧ Fld Z h nz0 o8 o9 "I" (.int ((0 : Int32) + (1 : Int32))) ∧ Fld Z h nz0 o3 o13 o7 (.ref nz1) ∧ Fld Z h nz0 o3 "size" "I" (.int 4) ∧ Exa Z h nz1 o7 ∧ Arv Z h nz1 kz2 (.object "java/lang/Object") 4 [.ref ad1, .ref ad10, .ref ad11, .ref ad1] .null ∧ Ovr Z kz2 "java/lang/Object") := by
  refine o15 (plainFor_of_name o76) ?_
  intro p e s m below meth c s₁ hx hby hml hown hnm hret hlk hZ e0 X0
  have N0 := Fr.nil n0
  refine o2 (fun u j => castTop (show entryFrame m #[.ref ad0, .ref ad1] 4 = mkF m 0 #[.val (.ref ad0), .val (.ref ad1), .unset, .unset] [] from rfl) j) ?_
  refine o2 (fun u j => o1 X0.here hx rfl (hb hby o98) rfl rfl j) ?_
  refine o19 (getF X0 hx hZ hown (host := "") (Or.inl (o0 hw 62 rfl)) Via.refl e0 pf2 rfl rfl (hb hby o99)) ?_
  intro T3952 X3952 e3952
  refine o2 (fun u j => o1 X3952.here hx rfl (hb hby o100) rfl rfl j) ?_
  refine o11 (o29 X3952 hx hZ (y := o364) (z := o113) hown (o0 hw 74 rfl) (o0 hw 75 rfl) (mvT hZ (o0 hw 76 rfl)) (o0 hw 77 rfl) (o0 hw 78 rfl) (o0 hw 79 rfl) (o0 hw 80 rfl) (o0 hw 81 rfl) (o0 hw 40 rfl) (o0 hw 82 rfl) o27 (o992 l Z a0 hw [] wcs wd mOA mSL mAL kd hS ad2 ad1 ad5 kc9 ad10 ad11 h0 n0 O0 pe6 pf8 pf9 pe3 pa13) e3952 pe6 o243 (argsL := [.ref ad1]) (rest := []) rfl rfl (g := (mkF m 5 #[.val (.ref ad0), .val (.ref ad1), .unset, .unset] [.ref ad1, .ref ad2])) rfl (by rw [hml]; rfl) rfl (hb hby o101) (W := 0) rfl (by decide) (by decide) (by decide) (by decide)) ?_
  intro T3953 v3953 L3953 X3953 hQ3953
  obtain ⟨rfl, M3953, e3953⟩ := hQ3953
  have N3953 := Fr.app N0 M3953
  refine o2 (fun u j => o45 X3953.here hx rfl (hb hby o88) rfl (l' := #[.val (.ref ad0), .val (.ref ad1), .val (.int 0), .unset]) rfl (o4 X3953.here hx rfl (hb hby o89) rfl (o43 X3953.here hx rfl (pc0 := 12) (pc' := 17) rfl (hb hby o90) rfl (o140 (by decide)) (by decide) (by decide) j))) ?_
  have q_ := newO X3953 hx hZ hown (o0 hw 38 rfl) (o0 hw 39 rfl) (o0 hw 40 rfl) e3953 (g := (mkF m 17 #[.val (.ref ad0), .val (.ref ad1), .val (.int 0), .unset] [])) rfl (hb hby o260) (by decide) (by decide)
  obtain ⟨T3954, h3954, X3954, e3954, E3954, A3954, D3954, U3954, st3954⟩ := q_
  have q_ : ∃ z, z = h0.size := ⟨_, rfl⟩
  obtain ⟨b3954, g3954⟩ := q_
  rw [← g3954] at A3954 D3954 U3954 st3954
  have F3954_modCount : Fld Z h3954 b3954 o8 o9 "I" (.int 0) := D3954 (Or.inl (o0 hw 58 rfl)) (ty := .int) o18
  have F3954_elementData : Fld Z h3954 b3954 o3 o13 o7 .null := D3954 (Or.inl (o0 hw 61 rfl)) (ty := (.array (.object "java/lang/Object"))) o68
  have F3954_size : Fld Z h3954 b3954 o3 "size" "I" (.int 0) := D3954 (Or.inl (o0 hw 84 rfl)) (ty := .int) o18
  refine o2 (fun u j => st3954 u j) ?_
  refine o2 (fun u j => o40 X3954.here hx rfl (hb hby o261) rfl rfl (o1 X3954.here hx rfl (hb hby o262) rfl rfl j)) ?_
  have F3955 := (Fld.ext E3954 pf2)
  refine o19 (getF X3954 hx hZ hown (host := "") (Or.inl (o0 hw 62 rfl)) Via.refl e3954 F3955 rfl rfl (hb hby o263)) ?_
  intro T3956 X3956 e3956
  refine o2 (fun u j => o4 X3956.here hx rfl (hb hby o264) rfl (o1 X3956.here hx rfl (hb hby o265) rfl rfl j)) ?_
  refine o19 (getF X3956 hx hZ hown (host := "") (Or.inl (o0 hw 62 rfl)) Via.refl e3956 F3955 rfl rfl (hb hby o266)) ?_
  intro T3957 X3957 e3957
  have F3958 := (Fld.ext E3954 pf9)
  have O3960 := O0.ext E3954
  have F3961 := (Exa.ext E3954 pe6)
  refine o11 (o29 X3957 hx hZ (y := o186) (z := o154) hown (o0 hw 138 rfl) (o0 hw 139 rfl) (mvT hZ (o0 hw 140 rfl)) (o0 hw 141 rfl) (o0 hw 142 rfl) (o0 hw 143 rfl) (o0 hw 144 rfl) (o0 hw 81 rfl) (o0 hw 40 rfl) (o0 hw 145 rfl) o27 (o591 l Z a0 hw [] wcs wd mOA mSL mAL kd hS ad2 (3 : Int32) h3954 n0 O3960 F3958) e3957 F3961 o142 (argsL := []) (rest := [.int 0, .ref ad2, .ref b3954, .ref b3954]) rfl rfl (g := (mkF m 30 #[.val (.ref ad0), .val (.ref ad1), .val (.int 0), .unset] [.ref ad2, .int 0, .ref ad2, .ref b3954, .ref b3954])) rfl (by rw [hml]; rfl) rfl (hb hby o267) (W := 4) rfl (by decide) (by decide) (by decide) (by decide)) ?_
  intro T3959 v3959 L3959 X3959 hQ3959
  obtain ⟨rfl, M3959, e3959⟩ := hQ3959
  have N3959 := Fr.app N3953 M3959
  have F3962 := (Fld.ext E3954 pf7)
  refine o11 (o29 X3959 hx hZ (y := o640) (z := o370) hown (o0 hw 168 rfl) (o0 hw 169 rfl) (mvT hZ (o0 hw 170 rfl)) (o0 hw 171 rfl) (o0 hw 172 rfl) (o0 hw 173 rfl) (o0 hw 174 rfl) (o0 hw 81 rfl) (o0 hw 40 rfl) (o0 hw 175 rfl) o27 (o908 l Z a0 hw [] wcs wd mOA mSL mAL kd hS ad2 iv4 h3954 n0 O3960 F3961 F3962 F3958) e3959 F3961 o626 (argsL := [.int 0, .int 3]) (rest := [.ref b3954, .ref b3954]) rfl rfl (g := (mkF m 35 #[.val (.ref ad0), .val (.ref ad1), .val (.int 0), .unset] [.int 3, .int 0, .ref ad2, .ref b3954, .ref b3954])) rfl (by rw [hml]; rfl) rfl (hb hby o268) (W := 2) rfl (by decide) (by decide) (by decide) (by decide)) ?_
  intro T3963 v3963 L3963 X3963 hQ3963
  obtain ⟨nz0_3964, rfl, M3963, K3963, z3965, F3966, F3967, F3968, F3969, F3970, F3971⟩ := hQ3963
  have N3963 := Fr.app N3959 M3963
  have F3972 := (A3954.keep K3963)
  have F3973 := (F3954_modCount.keep K3963 nin0)
  have F3974 := (F3954_elementData.keep K3963 nin0)
  have F3975 := (F3954_size.keep K3963 nin0)
  have F3976 := (F3962.keep K3963 nin0)
  have F3977 := ((Fld.ext E3954 pf8).keep K3963 nin0)
  have F3978 := ((Exa.ext E3954 pe12).keep K3963)
  have F3979 := ((pa13.ext E3954).keep K3963 nin0)
  have F3980 := ((Exa.ext E3954 pe3).keep K3963)
  have F3981 := ((Exa.ext E3954 pe14).keep K3963)
  have F3982 := ((Exa.ext E3954 pe17).keep K3963)
  have g3983 := Nat.le_trans (o52 O0) (Nat.le_of_eq g3954.symm)
  have ne3984 := (Nat.ne_of_lt (Nat.lt_of_lt_of_le pe6.lt (Nat.le_of_eq g3954.symm)))
  have O3986 := O3960.keep K3963 all0
  refine o11 (o50 X3963 hx hZ (y := o374) rfl hown (o0 hw 202 rfl) (o0 hw 203 rfl) (o0 hw 40 rfl) (o0 hw 204 rfl) o42 (o913 l Z a0 hw [] wcs wd mOA mSL mAL kd hS b3954 nz0_3964 (0 : Int32) iv4 ad2 ad5 kc9 ad1 ad10 ad11 T3963.heap n0 O3986 F3972 F3973 F3974 F3975 F3966 F3967 F3968 F3970 F3971 F3976 F3977 F3978 F3979 F3980 F3981 F3982 g3983 ne3984) rfl o630 (a := b3954) (argsL := [.ref nz0_3964]) (rest := [.ref b3954]) rfl rfl (g := (mkF m 40 #[.val (.ref ad0), .val (.ref ad1), .val (.int 0), .unset] [.ref nz0_3964, .ref b3954, .ref b3954])) rfl (by rw [hml]; rfl) rfl (hb hby o291) (W := 1) rfl (by decide) (by decide) (by decide) (by decide)) ?_
  intro T3985 v3985 L3985 X3985 hQ3985
  obtain ⟨nz0_3987, kz1_3988, rfl, M3985, K3985, z3989, F3990, F3991, F3992, F3993, F3994, F3995, ov0_3996⟩ := hQ3985
  have N3985 := Fr.app N3963 M3985
  refine o2 (fun u j => o31 X3985.here hx rfl (hb hby o311) rfl rfl (l' := #[.val (.ref ad0), .val (.ref ad1), .val (.int 0), .val (.ref b3954)]) rfl (o1 X3985.here hx rfl (hb hby o312) rfl rfl (o1 X3985.here hx rfl (hb hby o313) rfl rfl j))) ?_
  have F3997 := (F3980.keep K3985)
  have F3998 := (F3981.keep K3985)
  have F3999 := (F3982.keep K3985)
  have O4001 := O3986.keep K3985 (allS g3983 all0)
  refine o11 (o29 X3985 hx hZ (y := o367) (z := o137) hown (o0 hw 90 rfl) (o0 hw 91 rfl) (mvT hZ (o0 hw 92 rfl)) (o0 hw 93 rfl) (o0 hw 94 rfl) (o0 hw 95 rfl) (o0 hw 96 rfl) (o0 hw 81 rfl) (o0 hw 40 rfl) (o0 hw 97 rfl) o27 (o920 l Z a0 hw [] wcs wd mOA mSL mAL kd hS b3954 ad1 (0 : Int32) nz0_3987 kz1_3988 ad10 ad11 T3985.heap n0 O4001 F3990 F3991 F3992 F3993 F3997 F3994 F3995 F3998 F3999 g3983) rfl F3990 o46 (argsL := [.ref ad1]) (rest := []) rfl rfl (g := (mkF m 46 #[.val (.ref ad0), .val (.ref ad1), .val (.int 0), .val (.ref b3954)] [.ref ad1, .ref b3954])) rfl (by rw [hml]; rfl) rfl (hb hby o314) (W := 0) rfl (by decide) (by decide) (by decide) (by decide)) ?_
  intro T4000 v4000 L4000 X4000 hQ4000
  obtain ⟨nz0_4002, kz1_4003, rfl, M4000, K4000, z4004, F4005, F4006, F4007, F4008, F4009, F4010, ov0_4011⟩ := hQ4000
  have N4000 := Fr.app N3985 M4000
  refine o2 (fun u j => o55 X4000.here hx rfl (hb hby o315) rfl rfl (o1 X4000.here hx rfl (hb hby o316) rfl rfl j)) ?_
  have K4012 := (Keep.refl h0 []).ext E3954
  have K4013 := K4012.trans K3963 all0
  have z4015 := Nat.le_trans (Nat.le_refl _) (Nat.le_of_eq g3954.symm)
  have K4014 := K4013.trans K3985 (allS (Or.inr z4015) all0)
  have K4016 := K4014.trans K4000 (allS (Or.inr z4015) all0)
  have z4017 := Nat.le_trans (Nat.le_trans (Nat.le_trans E3954.1 K3963.1) K3985.1) z4004
  exact o20 X4000 hx hlk hret rfl (Or.inr (Or.inr (Or.inr (Or.inr ⟨rfl, rfl, rfl⟩)))) (hb hby o317) (by decide) (by decide) (by exact ⟨b3954, nz0_4002, kz1_4003, rfl, N4000, K4016, z4015, z4017, F4005, F4006, F4007, F4008, F4009, F4010, ov0_4011⟩)
-- the law itself
theorem o874 (m : MethodId) (xa xb k : Int32)  : entryFrame m #[.int xa, .int xb, .int k] maxLocals = mkF m 0 #[.val (.int xa), .val (.int xb), .val (.int k), .unset, .unset, .unset, .unset, .unset, .unset, .unset, .unset, .unset, .unset, .unset, .unset] [] := by first | (simp [entryFrame, mkF, argsToLocals, Value.category, maxLocals]; done) | rfl
def Qrm0 (Z : State) (wcs : Int32) (wd mOA mSL mAL : Addr) (kd : ClassId) (xa xb k : Int32) (h0 : Heap) (n0 : Nat) (v : Option Value) (h : Heap) (L : List Loc) : Prop := v = some (.int 1) ∧ Fr n0 L ∧ Keep h0 h []
theorem rm0 (l : Launch) (Z : State) (a0 : Array Value) (hw : o21 a0 Z) (ws : List Jvm.Cond) (wcs : Int32) (wd mOA mSL mAL : Addr) (kd : ClassId) (hS : o22 Z wcs wd mOA mSL mAL kd) (xa xb k : Int32) (h0 : Heap) (n0 : Nat) (O0 : Old Z n0 h0)  :
    o16 l x code maxLocals ret ws room_1 Z h0 #[.int xa, .int xb, .int k] (Qrm0 Z wcs wd mOA mSL mAL kd xa xb k h0 n0) := by
  refine o81 (plainFor_of_name o580) ?_
  intro p e s m below meth c s₁ hx hby hml hown hnm hret hlk hZ e0 X0
  have N0 := Fr.nil n0
  refine o2 (fun u j => castTop (o874 m xa xb k) j) ?_
  show o17 p e below _ (s₁.setTop (mkF m 0 #[.val (.int xa), .val (.int xb), .val (.int k), .unset, .unset, .unset, .unset, .unset, .unset, .unset, .unset, .unset, .unset, .unset, .unset] []))
  refine o2 (fun u j => o5 X0.here hx rfl (hb hby at_0) j) ?_
  have q_ := newPE X0 hx hZ (o0 hw 0 rfl) e0 (g := (mkF m 1 #[.val (.int xa), .val (.int xb), .val (.int k), .unset, .unset, .unset, .unset, .unset, .unset, .unset, .unset, .unset, .unset, .unset, .unset] [.int 1])) rfl (hb hby at_1) rfl (by decide) (cap := 1) (by decide) (by decide) (by decide) (by decide) (ad := "[C") o648
  obtain ⟨T185, h185, k185, X185, e185, E185, A185, Y185, st185⟩ := q_
  have q_ : ∃ z, z = h0.size := ⟨_, rfl⟩
  obtain ⟨b185, g185⟩ := q_
  rw [← g185] at A185 Y185 st185
  have V185 : Arv Z h185 b185 k185 .char 1 [.int 0] (.int 0) := (Arv.new A185 (by decide)).pad (pad_rep [] (.int 0) 1)
  refine o2 (fun u j => st185 u j) ?_
  refine o2 (fun u j => o40 X185.here hx rfl (hb hby at_3) rfl rfl (o5 X185.here hx rfl (hb hby at_4) (o4 X185.here hx rfl (hb hby at_5) rfl (o80 X185.here hx rfl (hb hby at_6) (XS.iand X185.here hx rfl (hb hby at_9) rfl (XS.i2c X185.here hx rfl (hb hby at_10) rfl j)))))) ?_
  show o17 p e below _ (T185.setTop (mkF m 11 #[.val (.int xa), .val (.int xb), .val (.int k), .unset, .unset, .unset, .unset, .unset, .unset, .unset, .unset, .unset, .unset, .unset, .unset] [(.int ((xa &&& (255 : Int32)).toUInt32.toUInt16.toUInt32.toInt32)), .int 0, .ref b185, .ref b185]))
  refine o32 (o645 X185 hx hZ e185 V185 (j := (0 : Int32)) ⟨by decide, by decide⟩ rfl rfl (hb hby at_11)) ?_
  intro T186 h186 X186 e186 W186
  rw [(o237 _)] at W186
  have g187 := Nat.le_trans (o52 O0) (Nat.le_of_eq g185.symm)
  have N186 := Fr.snoc X186 N0 g187
  have V186 : Arv Z h186 b185 k185 .char 1 [(.int ((xa &&& (255 : Int32)).toUInt32.toUInt16.toUInt32.toInt32))] (.int 0) := o236 V185 (o585 (o237 _)) W186 0 rfl (Nat.le_of_ble_eq_true rfl)
  refine o2 (fun u j => o31 X186.here hx rfl (hb hby at_12) rfl rfl (l' := #[.val (.int xa), .val (.int xb), .val (.int k), .val (.ref b185), .unset, .unset, .unset, .unset, .unset, .unset, .unset, .unset, .unset, .unset, .unset]) rfl (o5 X186.here hx rfl (hb hby at_13) j)) ?_
  have q_ := newPE X186 hx hZ (o0 hw 0 rfl) e186 (g := (mkF m 14 #[.val (.int xa), .val (.int xb), .val (.int k), .val (.ref b185), .unset, .unset, .unset, .unset, .unset, .unset, .unset, .unset, .unset, .unset, .unset] [.int 2])) rfl (hb hby at_14) rfl (by decide) (cap := 2) (by decide) (by decide) (by decide) (by decide) (ad := "[C") o648
  obtain ⟨T188, h188, k188, X188, e188, E188, A188, Y188, st188⟩ := q_
  have q_ : ∃ z, z = h186.size := ⟨_, rfl⟩
  obtain ⟨b188, g188⟩ := q_
  rw [← g188] at A188 Y188 st188
  have V188 : Arv Z h188 b188 k188 .char 2 [.int 0, .int 0] (.int 0) := (Arv.new A188 (by decide)).pad (pad_rep [] (.int 0) 2)
  refine o2 (fun u j => st188 u j) ?_
  refine o2 (fun u j => o40 X188.here hx rfl (hb hby at_16) rfl rfl (o5 X188.here hx rfl (hb hby at_17) (o4 X188.here hx rfl (hb hby at_18) rfl (XS.bipush X188.here hx rfl (hb hby at_19) (XS.iushr X188.here hx rfl (hb hby at_21) rfl (o80 X188.here hx rfl (hb hby at_22) j)))))) ?_
  show o17 p e below _ (T188.setTop (mkF m 25 #[.val (.int xa), .val (.int xb), .val (.int k), .val (.ref b185), .unset, .unset, .unset, .unset, .unset, .unset, .unset, .unset, .unset, .unset, .unset] [.int 255, (.int ((xa.toUInt32 >>> ((8 : Int32) &&& 31).toUInt32).toInt32)), .int 0, .ref b188, .ref b188]))
  refine o2 (fun u j => XS.iand X188.here hx rfl (hb hby at_25) rfl (XS.i2c X188.here hx rfl (hb hby at_26) rfl j)) ?_
  refine o32 (o645 X188 hx hZ e188 V188 (j := (0 : Int32)) ⟨by decide, by decide⟩ rfl rfl (hb hby at_27)) ?_
  intro T189 h189 X189 e189 W189
  rw [(o237 _)] at W189
  have O191 := O0.ext E185
  have O192 := O191.wr W186 g187
  have g190 := Nat.le_trans (o52 O192) (Nat.le_of_eq g188.symm)
  have N189 := Fr.snoc X189 N186 g190
  have V189 : Arv Z h189 b188 k188 .char 2 [(.int ((((xa.toUInt32 >>> ((8 : Int32) &&& 31).toUInt32).toInt32) &&& (255 : Int32)).toUInt32.toUInt16.toUInt32.toInt32)), .int 0] (.int 0) := o236 V188 (o585 (o237 _)) W189 0 rfl (Nat.le_of_ble_eq_true rfl)
  refine o2 (fun u j => o40 X189.here hx rfl (hb hby at_28) rfl rfl (o5 X189.here hx rfl (hb hby at_29) (o4 X189.here hx rfl (hb hby at_30) rfl (XS.bipush X189.here hx rfl (hb hby at_31) (XS.iushr X189.here hx rfl (hb hby at_33) rfl (o80 X189.here hx rfl (hb hby at_34) j)))))) ?_
  show o17 p e below _ (T189.setTop (mkF m 37 #[.val (.int xa), .val (.int xb), .val (.int k), .val (.ref b185), .unset, .unset, .unset, .unset, .unset, .unset, .unset, .unset, .unset, .unset, .unset] [.int 255, (.int ((xa.toUInt32 >>> ((16 : Int32) &&& 31).toUInt32).toInt32)), .int 1, .ref b188, .ref b188]))
  refine o2 (fun u j => XS.iand X189.here hx rfl (hb hby at_37) rfl (XS.i2c X189.here hx rfl (hb hby at_38) rfl j)) ?_
  refine o32 (o645 X189 hx hZ e189 V189 (j := (1 : Int32)) ⟨by decide, by decide⟩ rfl rfl (hb hby at_39)) ?_
  intro T193 h193 X193 e193 W193
  rw [(o237 _)] at W193
  have N193 := Fr.snoc X193 N189 g190
  have V193 : Arv Z h193 b188 k188 .char 2 [(.int ((((xa.toUInt32 >>> ((8 : Int32) &&& 31).toUInt32).toInt32) &&& (255 : Int32)).toUInt32.toUInt16.toUInt32.toInt32)), (.int ((((xa.toUInt32 >>> ((16 : Int32) &&& 31).toUInt32).toInt32) &&& (255 : Int32)).toUInt32.toUInt16.toUInt32.toInt32))] (.int 0) := o236 V189 (o585 (o237 _)) W193 1 rfl (Nat.le_of_ble_eq_true rfl)
  refine o2 (fun u j => o37 X193.here hx rfl (hb hby at_40) rfl rfl (l' := #[.val (.int xa), .val (.int xb), .val (.int k), .val (.ref b185), .val (.ref b188), .unset, .unset, .unset, .unset, .unset, .unset, .unset, .unset, .unset, .unset]) rfl (o5 X193.here hx rfl (hb hby at_42) j)) ?_
  have q_ := newPE X193 hx hZ (o0 hw 0 rfl) e193 (g := (mkF m 43 #[.val (.int xa), .val (.int xb), .val (.int k), .val (.ref b185), .val (.ref b188), .unset, .unset, .unset, .unset, .unset, .unset, .unset, .unset, .unset, .unset] [.int 3])) rfl (hb hby at_43) rfl (by decide) (cap := 3) (by decide) (by decide) (by decide) (by decide) (ad := "[C") o648
  obtain ⟨T194, h194, k194, X194, e194, E194, A194, Y194, st194⟩ := q_
  have q_ : ∃ z, z = h193.size := ⟨_, rfl⟩
  obtain ⟨b194, g194⟩ := q_
  rw [← g194] at A194 Y194 st194
  have V194 : Arv Z h194 b194 k194 .char 3 [.int 0, .int 0, .int 0] (.int 0) := (Arv.new A194 (by decide)).pad (pad_rep [] (.int 0) 3)
  refine o2 (fun u j => st194 u j) ?_
  refine o2 (fun u j => o40 X194.here hx rfl (hb hby at_45) rfl rfl (o5 X194.here hx rfl (hb hby at_46) (o4 X194.here hx rfl (hb hby at_47) rfl (XS.bipush X194.here hx rfl (hb hby at_48) (XS.iushr X194.here hx rfl (hb hby at_50) rfl (o80 X194.here hx rfl (hb hby at_51) j)))))) ?_
  show o17 p e below _ (T194.setTop (mkF m 54 #[.val (.int xa), .val (.int xb), .val (.int k), .val (.ref b185), .val (.ref b188), .unset, .unset, .unset, .unset, .unset, .unset, .unset, .unset, .unset, .unset] [.int 255, (.int ((xa.toUInt32 >>> ((24 : Int32) &&& 31).toUInt32).toInt32)), .int 0, .ref b194, .ref b194]))
  refine o2 (fun u j => XS.iand X194.here hx rfl (hb hby at_54) rfl (XS.i2c X194.here hx rfl (hb hby at_55) rfl j)) ?_
  refine o32 (o645 X194 hx hZ e194 V194 (j := (0 : Int32)) ⟨by decide, by decide⟩ rfl rfl (hb hby at_56)) ?_
  intro T195 h195 X195 e195 W195
  rw [(o237 _)] at W195
  have O197 := O192.ext E188
  have O198 := O197.wr W189 g190
  have O199 := O198.wr W193 g190
  have g196 := Nat.le_trans (o52 O199) (Nat.le_of_eq g194.symm)
  have N195 := Fr.snoc X195 N193 g196
  have V195 : Arv Z h195 b194 k194 .char 3 [(.int ((((xa.toUInt32 >>> ((24 : Int32) &&& 31).toUInt32).toInt32) &&& (255 : Int32)).toUInt32.toUInt16.toUInt32.toInt32)), .int 0, .int 0] (.int 0) := o236 V194 (o585 (o237 _)) W195 0 rfl (Nat.le_of_ble_eq_true rfl)
  refine o2 (fun u j => o40 X195.here hx rfl (hb hby at_57) rfl rfl (o5 X195.here hx rfl (hb hby at_58) (o4 X195.here hx rfl (hb hby at_59) rfl (o80 X195.here hx rfl (hb hby at_60) (XS.iand X195.here hx rfl (hb hby at_63) rfl (XS.i2c X195.here hx rfl (hb hby at_64) rfl j)))))) ?_
  show o17 p e below _ (T195.setTop (mkF m 65 #[.val (.int xa), .val (.int xb), .val (.int k), .val (.ref b185), .val (.ref b188), .unset, .unset, .unset, .unset, .unset, .unset, .unset, .unset, .unset, .unset] [(.int ((xb &&& (255 : Int32)).toUInt32.toUInt16.toUInt32.toInt32)), .int 1, .ref b194, .ref b194]))
  refine o32 (o645 X195 hx hZ e195 V195 (j := (1 : Int32)) ⟨by decide, by decide⟩ rfl rfl (hb hby at_65)) ?_
  intro T200 h200 X200 e200 W200
  rw [(o237 _)] at W200
  have N200 := Fr.snoc X200 N195 g196
  have V200 : Arv Z h200 b194 k194 .char 3 [(.int ((((xa.toUInt32 >>> ((24 : Int32) &&& 31).toUInt32).toInt32) &&& (255 : Int32)).toUInt32.toUInt16.toUInt32.toInt32)), (.int ((xb &&& (255 : Int32)).toUInt32.toUInt16.toUInt32.toInt32)), .int 0] (.int 0) := o236 V195 (o585 (o237 _)) W200 1 rfl (Nat.le_of_ble_eq_true rfl)
  refine o2 (fun u j => o40 X200.here hx rfl (hb hby at_66) rfl rfl (o5 X200.here hx rfl (hb hby at_67) (o4 X200.here hx rfl (hb hby at_68) rfl (XS.bipush X200.here hx rfl (hb hby at_69) (XS.iushr X200.here hx rfl (hb hby at_71) rfl (o80 X200.here hx rfl (hb hby at_72) j)))))) ?_
  show o17 p e below _ (T200.setTop (mkF m 75 #[.val (.int xa), .val (.int xb), .val (.int k), .val (.ref b185), .val (.ref b188), .unset, .unset, .unset, .unset, .unset, .unset, .unset, .unset, .unset, .unset] [.int 255, (.int ((xb.toUInt32 >>> ((8 : Int32) &&& 31).toUInt32).toInt32)), .int 2, .ref b194, .ref b194]))
  refine o2 (fun u j => XS.iand X200.here hx rfl (hb hby at_75) rfl (XS.i2c X200.here hx rfl (hb hby at_76) rfl j)) ?_
  refine o32 (o645 X200 hx hZ e200 V200 (j := (2 : Int32)) ⟨by decide, by decide⟩ rfl rfl (hb hby at_77)) ?_
  intro T201 h201 X201 e201 W201
  rw [(o237 _)] at W201
  have N201 := Fr.snoc X201 N200 g196
  have V201 : Arv Z h201 b194 k194 .char 3 [(.int ((((xa.toUInt32 >>> ((24 : Int32) &&& 31).toUInt32).toInt32) &&& (255 : Int32)).toUInt32.toUInt16.toUInt32.toInt32)), (.int ((xb &&& (255 : Int32)).toUInt32.toUInt16.toUInt32.toInt32)), (.int ((((xb.toUInt32 >>> ((8 : Int32) &&& 31).toUInt32).toInt32) &&& (255 : Int32)).toUInt32.toUInt16.toUInt32.toInt32))] (.int 0) := o236 V200 (o585 (o237 _)) W201 2 rfl (Nat.le_of_ble_eq_true rfl)
  refine o2 (fun u j => o37 X201.here hx rfl (hb hby at_78) rfl rfl (l' := #[.val (.int xa), .val (.int xb), .val (.int k), .val (.ref b185), .val (.ref b188), .val (.ref b194), .unset, .unset, .unset, .unset, .unset, .unset, .unset, .unset, .unset]) rfl j) ?_
  have q_ := newO X201 hx hZ hown (o0 hw 1 rfl) (o0 hw 2 rfl) (o0 hw 3 rfl) e201 (g := (mkF m 80 #[.val (.int xa), .val (.int xb), .val (.int k), .val (.ref b185), .val (.ref b188), .val (.ref b194), .unset, .unset, .unset, .unset, .unset, .unset, .unset, .unset, .unset] [])) rfl (hb hby at_80) (by decide) (by decide)
  obtain ⟨T202, h202, X202, e202, E202, A202, D202, U202, st202⟩ := q_
  have q_ : ∃ z, z = h201.size := ⟨_, rfl⟩
  obtain ⟨b202, g202⟩ := q_
  rw [← g202] at A202 D202 U202 st202
  have F202_coder : Fld Z h202 b202 o6 "coder" "B" (.int 0) := D202 (Or.inr (o0 hw 27 rfl)) (ty := .byte) o361
  have F202_value : Fld Z h202 b202 o6 "value" "[B" .null := D202 (Or.inr (o0 hw 29 rfl)) (ty := (.array .byte)) o362
  refine o2 (fun u j => st202 u j) ?_
  refine o2 (fun u j => o40 X202.here hx rfl (hb hby at_83) rfl rfl (o1 X202.here hx rfl (hb hby at_84) rfl rfl j)) ?_
  have F203 := (Exa.ext E202 (Exa.wr W201 (Exa.wr W200 (Exa.wr W195 (Exa.ext E194 (Exa.wr W193 (Exa.wr W189 (Exa.ext E188 (Exa.wr W186 Y185)))))))))
  have O205 := O199.ext E194
  have O206 := O205.wr W195 g196
  have O207 := O206.wr W200 g196
  have O208 := O207.wr W201 g196
  have g204 := Nat.le_trans (o52 O208) (Nat.le_of_eq g202.symm)
  have ne209 := (Nat.ne_of_lt (Nat.lt_of_lt_of_le V186.lt (Nat.le_of_eq g188.symm)))
  have ne210 := (Nat.ne_of_lt (Nat.lt_of_lt_of_le (Nat.lt_of_lt_of_le V186.lt (Nat.le_trans (Nat.le_trans E188.1 (Nat.le_of_eq W189.size.symm)) (Nat.le_of_eq W193.size.symm))) (Nat.le_of_eq g194.symm)))
  have F211 := ((((((((V186.ext E188).other W189 ne209).other W193 ne209).ext E194).other W195 ne210).other W200 ne210).other W201 ne210).ext E202)
  have O213 := O208.ext E202
  refine o11 (o50 X202 hx hZ (y := o590) rfl hown (o0 hw 4 rfl) (o0 hw 5 rfl) (o0 hw 3 rfl) (o0 hw 6 rfl) o70 (o880 l Z a0 hw [] wcs wd mOA mSL mAL kd hS b202 b185 k185 ((xa &&& (255 : Int32)).toUInt32.toUInt16.toUInt32.toInt32) h202 n0 O213 A202 F203 g204 F202_value F202_coder F211 (o565 _)) e202 o649 (a := b202) (argsL := [.ref b185]) (rest := [.ref b202]) rfl rfl (g := (mkF m 85 #[.val (.int xa), .val (.int xb), .val (.int k), .val (.ref b185), .val (.ref b188), .val (.ref b194), .unset, .unset, .unset, .unset, .unset, .unset, .unset, .unset, .unset] [.ref b185, .ref b202, .ref b202])) rfl (by rw [hml]; rfl) rfl (hb hby at_85) (W := 1) rfl (by decide) (by decide) (by decide) (by decide)) ?_
  intro T212 v212 L212 X212 hQ212
  obtain ⟨r_214, kr_215, rfl, M212, K212, z216, F217, F218, F219, F220, F221⟩ := hQ212
  have N212 := Fr.app N201 M212
  refine o2 (fun u j => o37 X212.here hx rfl (hb hby at_88) rfl rfl (l' := #[.val (.int xa), .val (.int xb), .val (.int k), .val (.ref b185), .val (.ref b188), .val (.ref b194), .val (.ref b202), .unset, .unset, .unset, .unset, .unset, .unset, .unset, .unset]) rfl j) ?_
  have q_ := newO X212 hx hZ hown (o0 hw 1 rfl) (o0 hw 2 rfl) (o0 hw 3 rfl) rfl (g := (mkF m 90 #[.val (.int xa), .val (.int xb), .val (.int k), .val (.ref b185), .val (.ref b188), .val (.ref b194), .val (.ref b202), .unset, .unset, .unset, .unset, .unset, .unset, .unset, .unset] [])) rfl (hb hby at_90) (by decide) (by decide)
  obtain ⟨T222, h222, X222, e222, E222, A222, D222, U222, st222⟩ := q_
  have q_ : ∃ z, z = T212.heap.size := ⟨_, rfl⟩
  obtain ⟨b222, g222⟩ := q_
  rw [← g222] at A222 D222 U222 st222
  have F222_coder : Fld Z h222 b222 o6 "coder" "B" (.int 0) := D222 (Or.inr (o0 hw 27 rfl)) (ty := .byte) o361
  have F222_value : Fld Z h222 b222 o6 "value" "[B" .null := D222 (Or.inr (o0 hw 29 rfl)) (ty := (.array .byte)) o362
  refine o2 (fun u j => st222 u j) ?_
  refine o2 (fun u j => o40 X222.here hx rfl (hb hby at_93) rfl rfl (o12 X222.here hx rfl (hb hby at_94) rfl rfl j)) ?_
  have F223 := (Exa.ext E222 ((Exa.ext E202 (Exa.wr W201 (Exa.wr W200 (Exa.wr W195 (Exa.ext E194 (Exa.wr W193 (Exa.wr W189 Y188))))))).keep K212))
  have O225 := O213.keep K212 (allS g204 all0)
  have g224 := Nat.le_trans (o52 O225) (Nat.le_of_eq g222.symm)
  have ne226 := (Nat.ne_of_lt (Nat.lt_of_lt_of_le V193.lt (Nat.le_of_eq g194.symm)))
  have ne227 := (Nat.ne_of_lt (Nat.lt_of_lt_of_le (Nat.lt_of_lt_of_le V193.lt (Nat.le_trans (Nat.le_trans (Nat.le_trans E194.1 (Nat.le_of_eq W195.size.symm)) (Nat.le_of_eq W200.size.symm)) (Nat.le_of_eq W201.size.symm))) (Nat.le_of_eq g202.symm)))
  have F228 := (((((((V193.ext E194).other W195 ne226).other W200 ne226).other W201 ne226).ext E202).keep K212 (ninS ne227 nin0)).ext E222)
  have O230 := O225.ext E222
  refine o11 (o50 X222 hx hZ (y := o590) rfl hown (o0 hw 4 rfl) (o0 hw 5 rfl) (o0 hw 3 rfl) (o0 hw 6 rfl) o70 (o882 l Z a0 hw [] wcs wd mOA mSL mAL kd hS b222 b188 k188 ((((xa.toUInt32 >>> ((8 : Int32) &&& 31).toUInt32).toInt32) &&& (255 : Int32)).toUInt32.toUInt16.toUInt32.toInt32) ((((xa.toUInt32 >>> ((16 : Int32) &&& 31).toUInt32).toInt32) &&& (255 : Int32)).toUInt32.toUInt16.toUInt32.toInt32) h222 n0 O230 A222 F223 g224 F222_value F222_coder F228 (o565 _) (o565 _)) e222 o649 (a := b222) (argsL := [.ref b188]) (rest := [.ref b222]) rfl rfl (g := (mkF m 96 #[.val (.int xa), .val (.int xb), .val (.int k), .val (.ref b185), .val (.ref b188), .val (.ref b194), .val (.ref b202), .unset, .unset, .unset, .unset, .unset, .unset, .unset, .unset] [.ref b188, .ref b222, .ref b222])) rfl (by rw [hml]; rfl) rfl (hb hby at_96) (W := 1) rfl (by decide) (by decide) (by decide) (by decide)) ?_
  intro T229 v229 L229 X229 hQ229
  obtain ⟨r_231, kr_232, rfl, M229, K229, z233, F234, F235, F236, F237, F238⟩ := hQ229
  have N229 := Fr.app N212 M229
  refine o2 (fun u j => o37 X229.here hx rfl (hb hby at_99) rfl rfl (l' := #[.val (.int xa), .val (.int xb), .val (.int k), .val (.ref b185), .val (.ref b188), .val (.ref b194), .val (.ref b202), .val (.ref b222), .unset, .unset, .unset, .unset, .unset, .unset, .unset]) rfl j) ?_
  have q_ := newO X229 hx hZ hown (o0 hw 1 rfl) (o0 hw 2 rfl) (o0 hw 3 rfl) rfl (g := (mkF m 101 #[.val (.int xa), .val (.int xb), .val (.int k), .val (.ref b185), .val (.ref b188), .val (.ref b194), .val (.ref b202), .val (.ref b222), .unset, .unset, .unset, .unset, .unset, .unset, .unset] [])) rfl (hb hby at_101) (by decide) (by decide)
  obtain ⟨T239, h239, X239, e239, E239, A239, D239, U239, st239⟩ := q_
  have q_ : ∃ z, z = T229.heap.size := ⟨_, rfl⟩
  obtain ⟨b239, g239⟩ := q_
  rw [← g239] at A239 D239 U239 st239
  have F239_coder : Fld Z h239 b239 o6 "coder" "B" (.int 0) := D239 (Or.inr (o0 hw 27 rfl)) (ty := .byte) o361
  have F239_value : Fld Z h239 b239 o6 "value" "[B" .null := D239 (Or.inr (o0 hw 29 rfl)) (ty := (.array .byte)) o362
  refine o2 (fun u j => st239 u j) ?_
  refine o2 (fun u j => o40 X239.here hx rfl (hb hby at_104) rfl rfl (o12 X239.here hx rfl (hb hby at_105) rfl rfl j)) ?_
  have F240 := (Exa.ext E239 ((Exa.ext E222 ((Exa.ext E202 (Exa.wr W201 (Exa.wr W200 (Exa.wr W195 Y194)))).keep K212)).keep K229))
  have O242 := O230.keep K229 (allS g224 all0)
  have g241 := Nat.le_trans (o52 O242) (Nat.le_of_eq g239.symm)
  have ne243 := (Nat.ne_of_lt (Nat.lt_of_lt_of_le V201.lt (Nat.le_of_eq g202.symm)))
  have ne244 := (Nat.ne_of_lt (Nat.lt_of_lt_of_le (Nat.lt_of_lt_of_le V201.lt (Nat.le_trans E202.1 K212.1)) (Nat.le_of_eq g222.symm)))
  have F245 := (((((V201.ext E202).keep K212 (ninS ne243 nin0)).ext E222).keep K229 (ninS ne244 nin0)).ext E239)
  have O247 := O242.ext E239
  refine o11 (o50 X239 hx hZ (y := o590) rfl hown (o0 hw 4 rfl) (o0 hw 5 rfl) (o0 hw 3 rfl) (o0 hw 6 rfl) o70 (o884 l Z a0 hw [] wcs wd mOA mSL mAL kd hS b239 b194 k194 ((((xa.toUInt32 >>> ((24 : Int32) &&& 31).toUInt32).toInt32) &&& (255 : Int32)).toUInt32.toUInt16.toUInt32.toInt32) ((xb &&& (255 : Int32)).toUInt32.toUInt16.toUInt32.toInt32) ((((xb.toUInt32 >>> ((8 : Int32) &&& 31).toUInt32).toInt32) &&& (255 : Int32)).toUInt32.toUInt16.toUInt32.toInt32) h239 n0 O247 A239 F240 g241 F239_value F239_coder F245 (o565 _) (o565 _) (o565 _)) e239 o649 (a := b239) (argsL := [.ref b194]) (rest := [.ref b239]) rfl rfl (g := (mkF m 107 #[.val (.int xa), .val (.int xb), .val (.int k), .val (.ref b185), .val (.ref b188), .val (.ref b194), .val (.ref b202), .val (.ref b222), .unset, .unset, .unset, .unset, .unset, .unset, .unset] [.ref b194, .ref b239, .ref b239])) rfl (by rw [hml]; rfl) rfl (hb hby at_107) (W := 1) rfl (by decide) (by decide) (by decide) (by decide)) ?_
  intro T246 v246 L246 X246 hQ246
  obtain ⟨r_248, kr_249, rfl, M246, K246, z250, F251, F252, F253, F254, F255⟩ := hQ246
  have N246 := Fr.app N229 M246
  refine o2 (fun u j => o37 X246.here hx rfl (hb hby at_110) rfl rfl (l' := #[.val (.int xa), .val (.int xb), .val (.int k), .val (.ref b185), .val (.ref b188), .val (.ref b194), .val (.ref b202), .val (.ref b222), .val (.ref b239), .unset, .unset, .unset, .unset, .unset, .unset]) rfl (o4 X246.here hx rfl (hb hby at_112) rfl j)) ?_
  refine o2 (X246.ldcInt hx hown (mvT hZ (o0 hw 30 rfl)) rfl (hb hby at_113)) ?_
  show o17 p e below _ (T246.setTop (mkF m 115 #[.val (.int xa), .val (.int xb), .val (.int k), .val (.ref b185), .val (.ref b188), .val (.ref b194), .val (.ref b202), .val (.ref b222), .val (.ref b239), .unset, .unset, .unset, .unset, .unset, .unset] [.int 2147483647, .int k]))
  refine o2 (fun u j => XS.iand X246.here hx rfl (hb hby at_115) rfl (o5 X246.here hx rfl (hb hby at_116) (iremM X246 hx rfl (hb hby at_117) rfl (by decide) (o5 X246.here hx rfl (hb hby at_118) j)))) ?_
  show o17 p e below _ (T246.setTop (mkF m 119 #[.val (.int xa), .val (.int xb), .val (.int k), .val (.ref b185), .val (.ref b188), .val (.ref b194), .val (.ref b202), .val (.ref b222), .val (.ref b239), .unset, .unset, .unset, .unset, .unset, .unset] [.int 1, (.int ((k &&& (2147483647 : Int32)) % (3 : Int32)))]))
  refine o2 (fun u j => o36 X246.here hx rfl (hb hby at_119) rfl j) ?_
  rcases o906 k with hn | hn | hn
  · rw [hn]
    show o17 p e below _ (T246.setTop (mkF m 120 #[.val (.int xa), .val (.int xb), .val (.int k), .val (.ref b185), .val (.ref b188), .val (.ref b194), .val (.ref b202), .val (.ref b222), .val (.ref b239), .unset, .unset, .unset, .unset, .unset, .unset] [.int 1]))
    refine o2 (fun u j => o30 X246.here hx rfl (hb hby at_120) rfl (l' := #[.val (.int xa), .val (.int xb), .val (.int k), .val (.ref b185), .val (.ref b188), .val (.ref b194), .val (.ref b202), .val (.ref b222), .val (.ref b239), .val (.int 1), .unset, .unset, .unset, .unset, .unset]) rfl j) ?_
    have q_ := newO X246 hx hZ hown (o0 hw 31 rfl) (o0 hw 32 rfl) (o0 hw 33 rfl) rfl (g := (mkF m 122 #[.val (.int xa), .val (.int xb), .val (.int k), .val (.ref b185), .val (.ref b188), .val (.ref b194), .val (.ref b202), .val (.ref b222), .val (.ref b239), .val (.int 1), .unset, .unset, .unset, .unset, .unset] [])) rfl (hb hby at_122) (by decide) (by decide)
    obtain ⟨T256, h256, X256, e256, E256, A256, D256, U256, st256⟩ := q_
    have q_ : ∃ z, z = T246.heap.size := ⟨_, rfl⟩
    obtain ⟨b256, g256⟩ := q_
    rw [← g256] at A256 D256 U256 st256
    have F256_path : Fld Z h256 b256 o54 "path" o66 .null := D256 (Or.inr (o0 hw 63 rfl)) (ty := (.object "java/util/List")) o605
    refine o2 (fun u j => st256 u j) ?_
    refine o2 (fun u j => o40 X256.here hx rfl (hb hby at_125) rfl rfl j) ?_
    have O332 := O247.keep K246 (allS g241 all0)
    have g331 := Nat.le_trans (o52 O332) (Nat.le_of_eq g256.symm)
    have O334 := O332.ext E256
    refine o11 (o50 X256 hx hZ (y := o638) rfl hown (o0 hw 34 rfl) (o0 hw 35 rfl) (o0 hw 33 rfl) (o0 hw 36 rfl) o44 (o885 l Z a0 hw [] wcs wd mOA mSL mAL kd hS b256 h256 n0 O334 A256 F256_path g331) e256 o59 (a := b256) (argsL := []) (rest := [.ref b256]) rfl rfl (g := (mkF m 126 #[.val (.int xa), .val (.int xb), .val (.int k), .val (.ref b185), .val (.ref b188), .val (.ref b194), .val (.ref b202), .val (.ref b222), .val (.ref b239), .val (.int 1), .unset, .unset, .unset, .unset, .unset] [.ref b256, .ref b256])) rfl (by rw [hml]; rfl) rfl (hb hby at_126) (W := 1) rfl (by decide) (by decide) (by decide) (by decide)) ?_
    intro T333 v333 L333 X333 hQ333
    obtain ⟨nz0_335, rfl, M333, K333, z336, F337, F338, F339, F340, F341, F342⟩ := hQ333
    have N333 := Fr.app N246 M333
    refine o2 (fun u j => o37 X333.here hx rfl (hb hby at_129) rfl rfl (l' := #[.val (.int xa), .val (.int xb), .val (.int k), .val (.ref b185), .val (.ref b188), .val (.ref b194), .val (.ref b202), .val (.ref b222), .val (.ref b239), .val (.int 1), .val (.ref b256), .unset, .unset, .unset, .unset]) rfl (o12 X333.here hx rfl (hb hby at_131) rfl rfl (o12 X333.here hx rfl (hb hby at_133) rfl rfl j))) ?_
    have F538 := ((Exa.ext E256 ((Exa.ext E239 ((Exa.ext E222 F217).keep K229)).keep K246)).keep K333)
    have g539 := Nat.le_trans (o52 O334) z336
    have O541 := O334.keep K333 (allS g331 all0)
    refine o11 (o26 X333 hx hZ (y := o63) (z := o63) hown (o0 hw 64 rfl) (o0 hw 65 rfl) (notFace_of_selects (args := #[]) (mvT hZ (o0 hw 67 rfl))) (o0 hw 67 rfl) (o0 hw 66 rfl) (o0 hw 33 rfl) (o0 hw 68 rfl) o44 (o850 l Z a0 hw [] wcs wd mOA mSL mAL kd hS b256 b202 nz0_335 (0 : Int32) T333.heap n0 O541 F337 F338 F538 F339 F340 F341 F342 g539) rfl F337 o202 (argsL := [.ref b202]) (rest := []) rfl rfl (g := (mkF m 135 #[.val (.int xa), .val (.int xb), .val (.int k), .val (.ref b185), .val (.ref b188), .val (.ref b194), .val (.ref b202), .val (.ref b222), .val (.ref b239), .val (.int 1), .val (.ref b256), .unset, .unset, .unset, .unset] [.ref b202, .ref b256])) rfl (by rw [hml]; rfl) rfl (hb hby at_135) (W := 0) rfl (by decide) (by decide) (by decide) (by decide)) ?_
    intro T540 v540 L540 X540 hQ540
    obtain ⟨nz0_542, kz1_543, rfl, M540, K540, z544, F545, F546, F547, F548, F549, F550, ov0_551⟩ := hQ540
    have N540 := Fr.app N333 M540
    refine o2 (fun u j => o55 X540.here hx rfl (hb hby at_138) rfl rfl (o10 X540.here hx rfl (hb hby at_139) rfl (o5 X540.here hx rfl (hb hby at_141) (o23 X540.here hx rfl (pc0 := 142) (pc' := 153) rfl (hb hby at_142) rfl (XT.ii_lt_t (by decide)) (by decide) (by decide) (o10 X540.here hx rfl (hb hby at_153) rfl (o5 X540.here hx rfl (hb hby at_155) j)))))) ?_
    show o17 p e below _ (T540.setTop (mkF m 156 #[.val (.int xa), .val (.int xb), .val (.int k), .val (.ref b185), .val (.ref b188), .val (.ref b194), .val (.ref b202), .val (.ref b222), .val (.ref b239), .val (.int 1), .val (.ref b256), .unset, .unset, .unset, .unset] [.int 3, .int 1]))
    refine o2 (fun u j => o23 X540.here hx rfl (pc0 := 156) (pc' := 167) rfl (hb hby at_156) rfl (XT.ii_lt_t (by decide)) (by decide) (by decide) (o10 X540.here hx rfl (hb hby at_167) rfl (o5 X540.here hx rfl (hb hby at_169) (o28 X540.here hx rfl (hb hby at_170) rfl (o83 (by decide)) (o12 X540.here hx rfl (hb hby at_173) rfl rfl (o35 X540.here hx rfl (pc0 := 175) (pc' := 191) rfl (hb hby at_175) (by decide) (by decide) j)))))) ?_
    show o17 p e below _ (T540.setTop (mkF m 191 #[.val (.int xa), .val (.int xb), .val (.int k), .val (.ref b185), .val (.ref b188), .val (.ref b194), .val (.ref b202), .val (.ref b222), .val (.ref b239), .val (.int 1), .val (.ref b256), .unset, .unset, .unset, .unset] [.ref b202]))
    refine o2 (fun u j => o37 X540.here hx rfl (hb hby at_191) rfl rfl (l' := #[.val (.int xa), .val (.int xb), .val (.int k), .val (.ref b185), .val (.ref b188), .val (.ref b194), .val (.ref b202), .val (.ref b222), .val (.ref b239), .val (.int 1), .val (.ref b256), .val (.ref b202), .unset, .unset, .unset]) rfl (o12 X540.here hx rfl (hb hby at_193) rfl rfl j)) ?_
    have ne626 := (Nat.ne_of_lt (Nat.lt_of_lt_of_le A256.lt z336))
    have F627 := (F338.keep K540 (ninS ne626 nin0))
    have g628 := Nat.le_trans (o52 O541) z544
    have O630 := O541.keep K540 (allS g539 all0)
    have F631 := (F337.keep K540)
    refine o11 (o26 X540 hx hZ (y := o255) (z := o255) hown (o0 hw 133 rfl) (o0 hw 134 rfl) (notFace_of_selects (args := #[]) (mvT hZ (o0 hw 136 rfl))) (o0 hw 136 rfl) (o0 hw 135 rfl) (o0 hw 33 rfl) (o0 hw 137 rfl) o44 (o928 l Z a0 hw [] wcs wd mOA mSL mAL kd hS b256 nz0_335 ((0 : Int32) + (1 : Int32)) nz0_542 kz1_543 b202 T540.heap n0 O630 F627 F545 F546 F547 F548 F549 F550 g539 g628) rfl F631 o59 (argsL := []) (rest := []) rfl rfl (g := (mkF m 195 #[.val (.int xa), .val (.int xb), .val (.int k), .val (.ref b185), .val (.ref b188), .val (.ref b194), .val (.ref b202), .val (.ref b222), .val (.ref b239), .val (.int 1), .val (.ref b256), .val (.ref b202), .unset, .unset, .unset] [.ref b256])) rfl (by rw [hml]; rfl) rfl (hb hby at_195) (W := 0) rfl (by decide) (by decide) (by decide) (by decide)) ?_
    intro T629 v629 L629 X629 hQ629
    obtain ⟨rfl, M629, K629, F632, F633, F634, F635, F636, F637⟩ := hQ629
    have N629 := Fr.app N540 M629
    refine o2 (fun u j => o10 X629.here hx rfl (hb hby at_198) rfl (o5 X629.here hx rfl (hb hby at_200) (o38 X629.here hx rfl (hb hby at_201) rfl (o30 X629.here hx rfl (hb hby at_202) rfl (l' := #[.val (.int xa), .val (.int xb), .val (.int k), .val (.ref b185), .val (.ref b188), .val (.ref b194), .val (.ref b202), .val (.ref b222), .val (.ref b239), .val (.int 1), .val (.ref b256), .val (.ref b202), .val (.int 0), .unset, .unset]) rfl (o12 X629.here hx rfl (hb hby at_204) rfl rfl (o12 X629.here hx rfl (hb hby at_206) rfl rfl j)))))) ?_
    show o17 p e below _ (T629.setTop (mkF m 208 #[.val (.int xa), .val (.int xb), .val (.int k), .val (.ref b185), .val (.ref b188), .val (.ref b194), .val (.ref b202), .val (.ref b222), .val (.ref b239), .val (.int 1), .val (.ref b256), .val (.ref b202), .val (.int 0), .unset, .unset] [.ref b202, .ref b256]))
    have ne648 := (Nat.ne_of_lt (Nat.lt_of_lt_of_le F337.lt z544))
    have F649 := (F627.keep K629 (ninS ne626 (ninS ne648 nin0)))
    have O651 := O630.keep K629 (allS g539 (allS g628 all0))
    have F652 := (F631.keep K629)
    refine o11 (o26 X629 hx hZ (y := o39) (z := o39) hown (o0 hw 167 rfl) (o0 hw 70 rfl) (notFace_of_selects (args := #[]) (mvT hZ (o0 hw 72 rfl))) (o0 hw 72 rfl) (o0 hw 71 rfl) (o0 hw 33 rfl) (o0 hw 73 rfl) o44 (o826 l Z a0 hw [] wcs wd mOA mSL mAL kd hS b256 b202 nz0_335 nz0_542 T629.heap n0 O651 F649 F632 F634 F635) rfl F652 o77 (argsL := [.ref b202]) (rest := []) rfl rfl (g := (mkF m 208 #[.val (.int xa), .val (.int xb), .val (.int k), .val (.ref b185), .val (.ref b188), .val (.ref b194), .val (.ref b202), .val (.ref b222), .val (.ref b239), .val (.int 1), .val (.ref b256), .val (.ref b202), .val (.int 0), .unset, .unset] [.ref b202, .ref b256])) rfl (by rw [hml]; rfl) rfl (hb hby at_208) (W := 0) rfl (by decide) (by decide) (by decide) (by decide)) ?_
    intro T650 v650 L650 X650 hQ650
    obtain ⟨rfl, M650, e650⟩ := hQ650
    have N650 := Fr.app N629 M650
    refine o2 (fun u j => o12 X650.here hx rfl (hb hby at_211) rfl rfl (o5 X650.here hx rfl (hb hby at_213) (o10 X650.here hx rfl (hb hby at_214) rfl (o12 X650.here hx rfl (hb hby at_216) rfl rfl j)))) ?_
    refine o11 (o25 X650 hx hZ (y := o187) hown (o0 hw 263 rfl) (o0 hw 264 rfl) (o0 hw 265 rfl) (o0 hw 266 rfl) o203 (o713 l Z a0 hw [] wcs wd mOA mSL mAL kd hS b202 (0 : Int32) (0 : Int32) b222 T629.heap n0 O651 (by decide)) e650 o204 (argsL := [.null, .ref b202, .int 0, .int 0, .ref b222]) (rest := []) rfl rfl (g := (mkF m 218 #[.val (.int xa), .val (.int xb), .val (.int k), .val (.ref b185), .val (.ref b188), .val (.ref b194), .val (.ref b202), .val (.ref b222), .val (.ref b239), .val (.int 1), .val (.ref b256), .val (.ref b202), .val (.int 0), .unset, .unset] [.ref b222, .int 0, .int 0, .ref b202, .null])) rfl (by rw [hml]; rfl) rfl (hb hby at_218) (W := 0) rfl (by decide) (by decide) (by decide) (by decide)) ?_
    intro T653 v653 L653 X653 hQ653
    obtain ⟨rfl, M653, e653⟩ := hQ653
    have N653 := Fr.app N650 M653
    refine o2 (fun u j => o34 X653.here hx rfl (hb hby at_221) rfl (o33 (by decide)) (o12 X653.here hx rfl (hb hby at_224) rfl rfl (o12 X653.here hx rfl (hb hby at_226) rfl rfl j))) ?_
    refine o11 (o26 X653 hx hZ (y := o39) (z := o39) hown (o0 hw 167 rfl) (o0 hw 70 rfl) (notFace_of_selects (args := #[]) (mvT hZ (o0 hw 72 rfl))) (o0 hw 72 rfl) (o0 hw 71 rfl) (o0 hw 33 rfl) (o0 hw 73 rfl) o44 (o826 l Z a0 hw [] wcs wd mOA mSL mAL kd hS b256 b222 nz0_335 nz0_542 T629.heap n0 O651 F649 F632 F634 F635) e653 F652 o77 (argsL := [.ref b222]) (rest := []) rfl rfl (g := (mkF m 228 #[.val (.int xa), .val (.int xb), .val (.int k), .val (.ref b185), .val (.ref b188), .val (.ref b194), .val (.ref b202), .val (.ref b222), .val (.ref b239), .val (.int 1), .val (.ref b256), .val (.ref b202), .val (.int 0), .unset, .unset] [.ref b222, .ref b256])) rfl (by rw [hml]; rfl) rfl (hb hby at_228) (W := 0) rfl (by decide) (by decide) (by decide) (by decide)) ?_
    intro T654 v654 L654 X654 hQ654
    obtain ⟨rfl, M654, e654⟩ := hQ654
    have N654 := Fr.app N653 M654
    refine o2 (fun u j => o12 X654.here hx rfl (hb hby at_231) rfl rfl (o5 X654.here hx rfl (hb hby at_233) (o10 X654.here hx rfl (hb hby at_234) rfl (o12 X654.here hx rfl (hb hby at_236) rfl rfl j)))) ?_
    refine o11 (o25 X654 hx hZ (y := o187) hown (o0 hw 263 rfl) (o0 hw 264 rfl) (o0 hw 265 rfl) (o0 hw 266 rfl) o203 (o713 l Z a0 hw [] wcs wd mOA mSL mAL kd hS b222 (1 : Int32) (0 : Int32) b239 T629.heap n0 O651 (by decide)) e654 o204 (argsL := [.null, .ref b222, .int 1, .int 0, .ref b239]) (rest := []) rfl rfl (g := (mkF m 238 #[.val (.int xa), .val (.int xb), .val (.int k), .val (.ref b185), .val (.ref b188), .val (.ref b194), .val (.ref b202), .val (.ref b222), .val (.ref b239), .val (.int 1), .val (.ref b256), .val (.ref b202), .val (.int 0), .unset, .unset] [.ref b239, .int 0, .int 1, .ref b222, .null])) rfl (by rw [hml]; rfl) rfl (hb hby at_238) (W := 0) rfl (by decide) (by decide) (by decide) (by decide)) ?_
    intro T655 v655 L655 X655 hQ655
    obtain ⟨rfl, M655, e655⟩ := hQ655
    have N655 := Fr.app N654 M655
    refine o2 (fun u j => o34 X655.here hx rfl (hb hby at_241) rfl (o33 (by decide)) (o12 X655.here hx rfl (hb hby at_244) rfl rfl (o12 X655.here hx rfl (hb hby at_246) rfl rfl j))) ?_
    refine o11 (o26 X655 hx hZ (y := o39) (z := o39) hown (o0 hw 167 rfl) (o0 hw 70 rfl) (notFace_of_selects (args := #[]) (mvT hZ (o0 hw 72 rfl))) (o0 hw 72 rfl) (o0 hw 71 rfl) (o0 hw 33 rfl) (o0 hw 73 rfl) o44 (o826 l Z a0 hw [] wcs wd mOA mSL mAL kd hS b256 b239 nz0_335 nz0_542 T629.heap n0 O651 F649 F632 F634 F635) e655 F652 o77 (argsL := [.ref b239]) (rest := []) rfl rfl (g := (mkF m 248 #[.val (.int xa), .val (.int xb), .val (.int k), .val (.ref b185), .val (.ref b188), .val (.ref b194), .val (.ref b202), .val (.ref b222), .val (.ref b239), .val (.int 1), .val (.ref b256), .val (.ref b202), .val (.int 0), .unset, .unset] [.ref b239, .ref b256])) rfl (by rw [hml]; rfl) rfl (hb hby at_248) (W := 0) rfl (by decide) (by decide) (by decide) (by decide)) ?_
    intro T656 v656 L656 X656 hQ656
    obtain ⟨rfl, M656, e656⟩ := hQ656
    have N656 := Fr.app N655 M656
    refine o2 (fun u j => o12 X656.here hx rfl (hb hby at_251) rfl rfl (o5 X656.here hx rfl (hb hby at_253) (o10 X656.here hx rfl (hb hby at_254) rfl (o12 X656.here hx rfl (hb hby at_256) rfl rfl j)))) ?_
    refine o11 (o25 X656 hx hZ (y := o187) hown (o0 hw 263 rfl) (o0 hw 264 rfl) (o0 hw 265 rfl) (o0 hw 266 rfl) o203 (o713 l Z a0 hw [] wcs wd mOA mSL mAL kd hS b239 (2 : Int32) (0 : Int32) b239 T629.heap n0 O651 (by decide)) e656 o204 (argsL := [.null, .ref b239, .int 2, .int 0, .ref b239]) (rest := []) rfl rfl (g := (mkF m 258 #[.val (.int xa), .val (.int xb), .val (.int k), .val (.ref b185), .val (.ref b188), .val (.ref b194), .val (.ref b202), .val (.ref b222), .val (.ref b239), .val (.int 1), .val (.ref b256), .val (.ref b202), .val (.int 0), .unset, .unset] [.ref b239, .int 0, .int 2, .ref b239, .null])) rfl (by rw [hml]; rfl) rfl (hb hby at_258) (W := 0) rfl (by decide) (by decide) (by decide) (by decide)) ?_
    intro T657 v657 L657 X657 hQ657
    obtain ⟨rfl, M657, e657⟩ := hQ657
    have N657 := Fr.app N656 M657
    refine o2 (fun u j => o34 X657.here hx rfl (hb hby at_261) rfl (o33 (by decide)) (o5 X657.here hx rfl (hb hby at_264) (o35 X657.here hx rfl (pc0 := 265) (pc' := 269) rfl (hb hby at_265) (by decide) (by decide) (o30 X657.here hx rfl (hb hby at_269) rfl (l' := #[.val (.int xa), .val (.int xb), .val (.int k), .val (.ref b185), .val (.ref b188), .val (.ref b194), .val (.ref b202), .val (.ref b222), .val (.ref b239), .val (.int 1), .val (.ref b256), .val (.ref b202), .val (.int 0), .val (.int 1), .unset]) rfl (o10 X657.here hx rfl (hb hby at_271) rfl (o43 X657.here hx rfl (pc0 := 273) (pc' := 278) rfl (hb hby at_273) rfl (o138 (by decide)) (by decide) (by decide) j)))))) ?_
    show o17 p e below _ (T657.setTop (mkF m 278 #[.val (.int xa), .val (.int xb), .val (.int k), .val (.ref b185), .val (.ref b188), .val (.ref b194), .val (.ref b202), .val (.ref b222), .val (.ref b239), .val (.int 1), .val (.ref b256), .val (.ref b202), .val (.int 0), .val (.int 1), .unset] []))
    refine o2 (fun u j => o12 X657.here hx rfl (hb hby at_278) rfl rfl (o12 X657.here hx rfl (hb hby at_280) rfl rfl j)) ?_
    have F742 := ((F538.keep K540).keep K629)
    refine o11 (o26 X657 hx hZ (y := o63) (z := o63) hown (o0 hw 64 rfl) (o0 hw 65 rfl) (notFace_of_selects (args := #[]) (mvT hZ (o0 hw 67 rfl))) (o0 hw 67 rfl) (o0 hw 66 rfl) (o0 hw 33 rfl) (o0 hw 68 rfl) o44 (o933 l Z a0 hw [] wcs wd mOA mSL mAL kd hS b256 b202 nz0_335 (((0 : Int32) + (1 : Int32)) + (1 : Int32)) nz0_542 kz1_543 T629.heap n0 O651 F652 F649 F742 F632 F633 F634 F635 F636 F637 ov0_551 g539 g628) e657 F652 o202 (argsL := [.ref b202]) (rest := []) rfl rfl (g := (mkF m 282 #[.val (.int xa), .val (.int xb), .val (.int k), .val (.ref b185), .val (.ref b188), .val (.ref b194), .val (.ref b202), .val (.ref b222), .val (.ref b239), .val (.int 1), .val (.ref b256), .val (.ref b202), .val (.int 0), .val (.int 1), .unset] [.ref b202, .ref b256])) rfl (by rw [hml]; rfl) rfl (hb hby at_282) (W := 0) rfl (by decide) (by decide) (by decide) (by decide)) ?_
    intro T743 v743 L743 X743 hQ743
    obtain ⟨rfl, M743, K743, F744, F745, F746, F747, F748, F749⟩ := hQ743
    have N743 := Fr.app N657 M743
    refine o2 (fun u j => o55 X743.here hx rfl (hb hby at_285) rfl rfl (o12 X743.here hx rfl (hb hby at_286) rfl rfl (o12 X743.here hx rfl (hb hby at_288) rfl rfl j))) ?_
    have F1417 := (F649.keep K743 (ninS ne626 (ninS ne648 nin0)))
    have F1418 := (F742.keep K743)
    have O1420 := O651.keep K743 (allS g539 (allS g628 all0))
    have F1421 := (F652.keep K743)
    refine o11 (o26 X743 hx hZ (y := o39) (z := o39) hown (o0 hw 167 rfl) (o0 hw 70 rfl) (notFace_of_selects (args := #[]) (mvT hZ (o0 hw 72 rfl))) (o0 hw 72 rfl) (o0 hw 71 rfl) (o0 hw 33 rfl) (o0 hw 73 rfl) o44 (o889 l Z a0 hw [] wcs wd mOA mSL mAL kd hS b256 b202 nz0_335 ((((0 : Int32) + (1 : Int32)) + (1 : Int32)) + (1 : Int32)) nz0_542 kz1_543 T743.heap n0 O1420 F1417 F1418 F744 F745 F746 F747 F748 F749) rfl F1421 o77 (argsL := [.ref b202]) (rest := []) rfl rfl (g := (mkF m 290 #[.val (.int xa), .val (.int xb), .val (.int k), .val (.ref b185), .val (.ref b188), .val (.ref b194), .val (.ref b202), .val (.ref b222), .val (.ref b239), .val (.int 1), .val (.ref b256), .val (.ref b202), .val (.int 0), .val (.int 1), .unset] [.ref b202, .ref b256])) rfl (by rw [hml]; rfl) rfl (hb hby at_290) (W := 0) rfl (by decide) (by decide) (by decide) (by decide)) ?_
    intro T1419 v1419 L1419 X1419 hQ1419
    obtain ⟨nz0_1422, nz1_1423, kz2_1424, rfl, M1419, K1419, z1425, z1426, F1427, F1428, F1429, F1430, F1431, F1432, ov0_1433⟩ := hQ1419
    have N1419 := Fr.app N743 M1419
    refine o2 (fun u j => o37 X1419.here hx rfl (hb hby at_293) rfl rfl (l' := #[.val (.int xa), .val (.int xb), .val (.int k), .val (.ref b185), .val (.ref b188), .val (.ref b194), .val (.ref b202), .val (.ref b222), .val (.ref b239), .val (.int 1), .val (.ref b256), .val (.ref b202), .val (.int 0), .val (.int 1), .val (.ref nz0_1422)]) rfl (o12 X1419.here hx rfl (hb hby at_295) rfl rfl (XS.ifnullNo X1419.here hx rfl (hb hby at_297) rfl (o12 X1419.here hx rfl (hb hby at_300) rfl rfl j)))) ?_
    have O1435 := O1420.keep K1419 all0
    refine o11 (o29 X1419 hx hZ (y := o186) (z := o154) hown (o0 hw 267 rfl) (o0 hw 139 rfl) (mvT hZ (o0 hw 140 rfl)) (o0 hw 141 rfl) (o0 hw 142 rfl) (o0 hw 143 rfl) (o0 hw 144 rfl) (o0 hw 81 rfl) (o0 hw 40 rfl) (o0 hw 145 rfl) o27 (o591 l Z a0 hw [] wcs wd mOA mSL mAL kd hS nz0_1422 (2 : Int32) T1419.heap n0 O1435 F1430) rfl F1427 o142 (argsL := []) (rest := []) rfl rfl (g := (mkF m 302 #[.val (.int xa), .val (.int xb), .val (.int k), .val (.ref b185), .val (.ref b188), .val (.ref b194), .val (.ref b202), .val (.ref b222), .val (.ref b239), .val (.int 1), .val (.ref b256), .val (.ref b202), .val (.int 0), .val (.int 1), .val (.ref nz0_1422)] [.ref nz0_1422])) rfl (by rw [hml]; rfl) rfl (hb hby at_302) (W := 0) rfl (by decide) (by decide) (by decide) (by decide)) ?_
    intro T1434 v1434 L1434 X1434 hQ1434
    obtain ⟨rfl, M1434, e1434⟩ := hQ1434
    have N1434 := Fr.app N1419 M1434
    refine o2 (fun u j => o10 X1434.here hx rfl (hb hby at_307) rfl (o5 X1434.here hx rfl (hb hby at_309) (o36 X1434.here hx rfl (hb hby at_310) rfl (o28 X1434.here hx rfl (hb hby at_311) rfl (o83 (by decide)) (o12 X1434.here hx rfl (hb hby at_314) rfl rfl (o5 X1434.here hx rfl (hb hby at_316) j)))))) ?_
    show o17 p e below _ (T1434.setTop (mkF m 317 #[.val (.int xa), .val (.int xb), .val (.int k), .val (.ref b185), .val (.ref b188), .val (.ref b194), .val (.ref b202), .val (.ref b222), .val (.ref b239), .val (.int 1), .val (.ref b256), .val (.ref b202), .val (.int 0), .val (.int 1), .val (.ref nz0_1422)] [.int 0, .ref nz0_1422]))
    refine o11 (o29 X1434 hx hZ (y := o195) (z := o155) hown (o0 hw 268 rfl) (o0 hw 269 rfl) (mvT hZ (o0 hw 270 rfl)) (o0 hw 271 rfl) (o0 hw 272 rfl) (o0 hw 273 rfl) (o0 hw 274 rfl) (o0 hw 81 rfl) (o0 hw 40 rfl) (o0 hw 275 rfl) o27 (o471 l Z a0 hw [] wcs wd mOA mSL mAL kd hS nz0_1422 nz1_1423 kz2_1424 (2 : Int32) [.ref b202, .ref b202] (0 : Int32) b202 (2 : Int32) T1419.heap n0 O1435 F1427 F1430 (by decide) (by decide) F1429 F1432 ⟨by decide, by decide⟩ rfl) e1434 F1427 o71 (argsL := [.int 0]) (rest := []) rfl rfl (g := (mkF m 317 #[.val (.int xa), .val (.int xb), .val (.int k), .val (.ref b185), .val (.ref b188), .val (.ref b194), .val (.ref b202), .val (.ref b222), .val (.ref b239), .val (.int 1), .val (.ref b256), .val (.ref b202), .val (.int 0), .val (.int 1), .val (.ref nz0_1422)] [.int 0, .ref nz0_1422])) rfl (by rw [hml]; rfl) rfl (hb hby at_317) (W := 0) rfl (by decide) (by decide) (by decide) (by decide)) ?_
    intro T1436 v1436 L1436 X1436 hQ1436
    obtain ⟨rfl, M1436, e1436⟩ := hQ1436
    have N1436 := Fr.app N1434 M1436
    have F1438 := (F1418.keep K1419)
    have q_ := castY X1436 hx hZ hown (o0 hw 1 rfl) e1436 (Ins.self F1438) (g := (mkF m 322 #[.val (.int xa), .val (.int xb), .val (.int k), .val (.ref b185), .val (.ref b188), .val (.ref b194), .val (.ref b202), .val (.ref b222), .val (.ref b239), .val (.int 1), .val (.ref b256), .val (.ref b202), .val (.int 0), .val (.int 1), .val (.ref nz0_1422)] [.ref b202])) rfl rfl (hb hby at_322)
    obtain ⟨T1437, X1437, e1437, st1437⟩ := q_
    refine o2 (fun u j => st1437 u j) ?_
    refine o2 (fun u j => o12 X1437.here hx rfl (hb hby at_325) rfl rfl j) ?_
    refine o11 (o26 X1437 hx hZ (y := o41) (z := o41) hown (o0 hw 281 rfl) (o0 hw 282 rfl) (notFace_of_selects (args := #[]) (mvT hZ (o0 hw 283 rfl))) (o0 hw 283 rfl) (o0 hw 126 rfl) (o0 hw 3 rfl) (o0 hw 127 rfl) o70 (o256 l Z a0 hw [] wcs wd mOA mSL mAL kd hS b202 T1419.heap n0 O1435 ) e1437 F1438 o46 (argsL := [.ref b202]) (rest := []) rfl rfl (g := (mkF m 327 #[.val (.int xa), .val (.int xb), .val (.int k), .val (.ref b185), .val (.ref b188), .val (.ref b194), .val (.ref b202), .val (.ref b222), .val (.ref b239), .val (.int 1), .val (.ref b256), .val (.ref b202), .val (.int 0), .val (.int 1), .val (.ref nz0_1422)] [.ref b202, .ref b202])) rfl (by rw [hml]; rfl) rfl (hb hby at_327) (W := 0) rfl (by decide) (by decide) (by decide) (by decide)) ?_
    intro T1439 v1439 L1439 X1439 hQ1439
    obtain ⟨rfl, M1439, e1439⟩ := hQ1439
    have N1439 := Fr.app N1436 M1439
    refine o2 (fun u j => o34 X1439.here hx rfl (hb hby at_330) rfl (o33 (by decide)) (o12 X1439.here hx rfl (hb hby at_333) rfl rfl (o10 X1439.here hx rfl (hb hby at_335) rfl j))) ?_
    refine o11 (o29 X1439 hx hZ (y := o195) (z := o155) hown (o0 hw 268 rfl) (o0 hw 269 rfl) (mvT hZ (o0 hw 270 rfl)) (o0 hw 271 rfl) (o0 hw 272 rfl) (o0 hw 273 rfl) (o0 hw 274 rfl) (o0 hw 81 rfl) (o0 hw 40 rfl) (o0 hw 275 rfl) o27 (o471 l Z a0 hw [] wcs wd mOA mSL mAL kd hS nz0_1422 nz1_1423 kz2_1424 (2 : Int32) [.ref b202, .ref b202] (1 : Int32) b202 (2 : Int32) T1419.heap n0 O1435 F1427 F1430 (by decide) (by decide) F1429 F1432 ⟨by decide, by decide⟩ rfl) e1439 F1427 o71 (argsL := [.int 1]) (rest := []) rfl rfl (g := (mkF m 337 #[.val (.int xa), .val (.int xb), .val (.int k), .val (.ref b185), .val (.ref b188), .val (.ref b194), .val (.ref b202), .val (.ref b222), .val (.ref b239), .val (.int 1), .val (.ref b256), .val (.ref b202), .val (.int 0), .val (.int 1), .val (.ref nz0_1422)] [.int 1, .ref nz0_1422])) rfl (by rw [hml]; rfl) rfl (hb hby at_337) (W := 0) rfl (by decide) (by decide) (by decide) (by decide)) ?_
    intro T1440 v1440 L1440 X1440 hQ1440
    obtain ⟨rfl, M1440, e1440⟩ := hQ1440
    have N1440 := Fr.app N1439 M1440
    have q_ := castY X1440 hx hZ hown (o0 hw 1 rfl) e1440 (Ins.self F1438) (g := (mkF m 342 #[.val (.int xa), .val (.int xb), .val (.int k), .val (.ref b185), .val (.ref b188), .val (.ref b194), .val (.ref b202), .val (.ref b222), .val (.ref b239), .val (.int 1), .val (.ref b256), .val (.ref b202), .val (.int 0), .val (.int 1), .val (.ref nz0_1422)] [.ref b202])) rfl rfl (hb hby at_342)
    obtain ⟨T1441, X1441, e1441, st1441⟩ := q_
    refine o2 (fun u j => st1441 u j) ?_
    refine o2 (fun u j => o12 X1441.here hx rfl (hb hby at_345) rfl rfl j) ?_
    refine o11 (o26 X1441 hx hZ (y := o41) (z := o41) hown (o0 hw 281 rfl) (o0 hw 282 rfl) (notFace_of_selects (args := #[]) (mvT hZ (o0 hw 283 rfl))) (o0 hw 283 rfl) (o0 hw 126 rfl) (o0 hw 3 rfl) (o0 hw 127 rfl) o70 (o256 l Z a0 hw [] wcs wd mOA mSL mAL kd hS b202 T1419.heap n0 O1435 ) e1441 F1438 o46 (argsL := [.ref b202]) (rest := []) rfl rfl (g := (mkF m 347 #[.val (.int xa), .val (.int xb), .val (.int k), .val (.ref b185), .val (.ref b188), .val (.ref b194), .val (.ref b202), .val (.ref b222), .val (.ref b239), .val (.int 1), .val (.ref b256), .val (.ref b202), .val (.int 0), .val (.int 1), .val (.ref nz0_1422)] [.ref b202, .ref b202])) rfl (by rw [hml]; rfl) rfl (hb hby at_347) (W := 0) rfl (by decide) (by decide) (by decide) (by decide)) ?_
    intro T1442 v1442 L1442 X1442 hQ1442
    obtain ⟨rfl, M1442, e1442⟩ := hQ1442
    have N1442 := Fr.app N1440 M1442
    refine o2 (fun u j => o34 X1442.here hx rfl (hb hby at_350) rfl (o33 (by decide)) (o5 X1442.here hx rfl (hb hby at_353) (o35 X1442.here hx rfl (pc0 := 354) (pc' := 358) rfl (hb hby at_354) (by decide) (by decide) j))) ?_
    have K1443 := (Keep.refl h0 []).ext E185
    have z1445 := Nat.le_trans (Nat.le_refl _) (Nat.le_of_eq g185.symm)
    have K1444 := K1443.wr W186 (Or.inr z1445)
    have K1446 := K1444.ext E188
    have z1448 := Nat.le_trans (Nat.le_trans E185.1 (Nat.le_of_eq W186.size.symm)) (Nat.le_of_eq g188.symm)
    have K1447 := K1446.wr W189 (Or.inr z1448)
    have K1449 := K1447.wr W193 (Or.inr z1448)
    have K1450 := K1449.ext E194
    have z1452 := Nat.le_trans (Nat.le_trans (Nat.le_trans (Nat.le_trans (Nat.le_trans E185.1 (Nat.le_of_eq W186.size.symm)) E188.1) (Nat.le_of_eq W189.size.symm)) (Nat.le_of_eq W193.size.symm)) (Nat.le_of_eq g194.symm)
    have K1451 := K1450.wr W195 (Or.inr z1452)
    have K1453 := K1451.wr W200 (Or.inr z1452)
    have K1454 := K1453.wr W201 (Or.inr z1452)
    have K1455 := K1454.ext E202
    have z1457 := Nat.le_trans (Nat.le_trans (Nat.le_trans (Nat.le_trans (Nat.le_trans (Nat.le_trans (Nat.le_trans (Nat.le_trans (Nat.le_trans E185.1 (Nat.le_of_eq W186.size.symm)) E188.1) (Nat.le_of_eq W189.size.symm)) (Nat.le_of_eq W193.size.symm)) E194.1) (Nat.le_of_eq W195.size.symm)) (Nat.le_of_eq W200.size.symm)) (Nat.le_of_eq W201.size.symm)) (Nat.le_of_eq g202.symm)
    have K1456 := K1455.trans K212 (allS (Or.inr z1457) all0)
    have K1458 := K1456.ext E222
    have z1460 := Nat.le_trans (Nat.le_trans (Nat.le_trans (Nat.le_trans (Nat.le_trans (Nat.le_trans (Nat.le_trans (Nat.le_trans (Nat.le_trans (Nat.le_trans (Nat.le_trans E185.1 (Nat.le_of_eq W186.size.symm)) E188.1) (Nat.le_of_eq W189.size.symm)) (Nat.le_of_eq W193.size.symm)) E194.1) (Nat.le_of_eq W195.size.symm)) (Nat.le_of_eq W200.size.symm)) (Nat.le_of_eq W201.size.symm)) E202.1) K212.1) (Nat.le_of_eq g222.symm)
    have K1459 := K1458.trans K229 (allS (Or.inr z1460) all0)
    have K1461 := K1459.ext E239
    have z1463 := Nat.le_trans (Nat.le_trans (Nat.le_trans (Nat.le_trans (Nat.le_trans (Nat.le_trans (Nat.le_trans (Nat.le_trans (Nat.le_trans (Nat.le_trans (Nat.le_trans (Nat.le_trans (Nat.le_trans E185.1 (Nat.le_of_eq W186.size.symm)) E188.1) (Nat.le_of_eq W189.size.symm)) (Nat.le_of_eq W193.size.symm)) E194.1) (Nat.le_of_eq W195.size.symm)) (Nat.le_of_eq W200.size.symm)) (Nat.le_of_eq W201.size.symm)) E202.1) K212.1) E222.1) K229.1) (Nat.le_of_eq g239.symm)
    have K1462 := K1461.trans K246 (allS (Or.inr z1463) all0)
    have K1464 := K1462.ext E256
    have z1466 := Nat.le_trans (Nat.le_trans (Nat.le_trans (Nat.le_trans (Nat.le_trans (Nat.le_trans (Nat.le_trans (Nat.le_trans (Nat.le_trans (Nat.le_trans (Nat.le_trans (Nat.le_trans (Nat.le_trans (Nat.le_trans (Nat.le_trans E185.1 (Nat.le_of_eq W186.size.symm)) E188.1) (Nat.le_of_eq W189.size.symm)) (Nat.le_of_eq W193.size.symm)) E194.1) (Nat.le_of_eq W195.size.symm)) (Nat.le_of_eq W200.size.symm)) (Nat.le_of_eq W201.size.symm)) E202.1) K212.1) E222.1) K229.1) E239.1) K246.1) (Nat.le_of_eq g256.symm)
    have K1465 := K1464.trans K333 (allS (Or.inr z1466) all0)
    have z1468 := Nat.le_trans (Nat.le_trans (Nat.le_trans (Nat.le_trans (Nat.le_trans (Nat.le_trans (Nat.le_trans (Nat.le_trans (Nat.le_trans (Nat.le_trans (Nat.le_trans (Nat.le_trans (Nat.le_trans (Nat.le_trans (Nat.le_trans (Nat.le_trans E185.1 (Nat.le_of_eq W186.size.symm)) E188.1) (Nat.le_of_eq W189.size.symm)) (Nat.le_of_eq W193.size.symm)) E194.1) (Nat.le_of_eq W195.size.symm)) (Nat.le_of_eq W200.size.symm)) (Nat.le_of_eq W201.size.symm)) E202.1) K212.1) E222.1) K229.1) E239.1) K246.1) E256.1) z336
    have K1467 := K1465.trans K540 (allS (Or.inr z1468) all0)
    have z1470 := Nat.le_trans (Nat.le_trans (Nat.le_trans (Nat.le_trans (Nat.le_trans (Nat.le_trans (Nat.le_trans (Nat.le_trans (Nat.le_trans (Nat.le_trans (Nat.le_trans (Nat.le_trans (Nat.le_trans (Nat.le_trans (Nat.le_trans (Nat.le_trans (Nat.le_trans E185.1 (Nat.le_of_eq W186.size.symm)) E188.1) (Nat.le_of_eq W189.size.symm)) (Nat.le_of_eq W193.size.symm)) E194.1) (Nat.le_of_eq W195.size.symm)) (Nat.le_of_eq W200.size.symm)) (Nat.le_of_eq W201.size.symm)) E202.1) K212.1) E222.1) K229.1) E239.1) K246.1) E256.1) K333.1) z544
    have K1469 := K1467.trans K629 (allS (Or.inr z1468) (allS (Or.inr z1470) all0))
    have K1471 := K1469.trans K743 (allS (Or.inr z1468) (allS (Or.inr z1470) all0))
    have K1472 := K1471.trans K1419 all0
    exact o20 X1442 hx hlk hret rfl (Or.inl ⟨rfl, by simp, _, rfl⟩) (hb hby at_358) (by decide) (by decide) (show Qrm0 Z wcs wd mOA mSL mAL kd xa xb k h0 n0 (some (.int 1)) T1442.heap _ from (by rw [e1442]; exact ⟨rfl, N1442, K1472⟩))
  · rw [hn]
    show o17 p e below _ (T246.setTop (mkF m 120 #[.val (.int xa), .val (.int xb), .val (.int k), .val (.ref b185), .val (.ref b188), .val (.ref b194), .val (.ref b202), .val (.ref b222), .val (.ref b239), .unset, .unset, .unset, .unset, .unset, .unset] [.int 2]))
    refine o2 (fun u j => o30 X246.here hx rfl (hb hby at_120) rfl (l' := #[.val (.int xa), .val (.int xb), .val (.int k), .val (.ref b185), .val (.ref b188), .val (.ref b194), .val (.ref b202), .val (.ref b222), .val (.ref b239), .val (.int 2), .unset, .unset, .unset, .unset, .unset]) rfl j) ?_
    have q_ := newO X246 hx hZ hown (o0 hw 31 rfl) (o0 hw 32 rfl) (o0 hw 33 rfl) rfl (g := (mkF m 122 #[.val (.int xa), .val (.int xb), .val (.int k), .val (.ref b185), .val (.ref b188), .val (.ref b194), .val (.ref b202), .val (.ref b222), .val (.ref b239), .val (.int 2), .unset, .unset, .unset, .unset, .unset] [])) rfl (hb hby at_122) (by decide) (by decide)
    obtain ⟨T1473, h1473, X1473, e1473, E1473, A1473, D1473, U1473, st1473⟩ := q_
    have q_ : ∃ z, z = T246.heap.size := ⟨_, rfl⟩
    obtain ⟨b1473, g1473⟩ := q_
    rw [← g1473] at A1473 D1473 U1473 st1473
    have F1473_path : Fld Z h1473 b1473 o54 "path" o66 .null := D1473 (Or.inr (o0 hw 63 rfl)) (ty := (.object "java/util/List")) o605
    refine o2 (fun u j => st1473 u j) ?_
    refine o2 (fun u j => o40 X1473.here hx rfl (hb hby at_125) rfl rfl j) ?_
    have O1475 := O247.keep K246 (allS g241 all0)
    have g1474 := Nat.le_trans (o52 O1475) (Nat.le_of_eq g1473.symm)
    have O1477 := O1475.ext E1473
    refine o11 (o50 X1473 hx hZ (y := o638) rfl hown (o0 hw 34 rfl) (o0 hw 35 rfl) (o0 hw 33 rfl) (o0 hw 36 rfl) o44 (o885 l Z a0 hw [] wcs wd mOA mSL mAL kd hS b1473 h1473 n0 O1477 A1473 F1473_path g1474) e1473 o59 (a := b1473) (argsL := []) (rest := [.ref b1473]) rfl rfl (g := (mkF m 126 #[.val (.int xa), .val (.int xb), .val (.int k), .val (.ref b185), .val (.ref b188), .val (.ref b194), .val (.ref b202), .val (.ref b222), .val (.ref b239), .val (.int 2), .unset, .unset, .unset, .unset, .unset] [.ref b1473, .ref b1473])) rfl (by rw [hml]; rfl) rfl (hb hby at_126) (W := 1) rfl (by decide) (by decide) (by decide) (by decide)) ?_
    intro T1476 v1476 L1476 X1476 hQ1476
    obtain ⟨nz0_1478, rfl, M1476, K1476, z1479, F1480, F1481, F1482, F1483, F1484, F1485⟩ := hQ1476
    have N1476 := Fr.app N246 M1476
    refine o2 (fun u j => o37 X1476.here hx rfl (hb hby at_129) rfl rfl (l' := #[.val (.int xa), .val (.int xb), .val (.int k), .val (.ref b185), .val (.ref b188), .val (.ref b194), .val (.ref b202), .val (.ref b222), .val (.ref b239), .val (.int 2), .val (.ref b1473), .unset, .unset, .unset, .unset]) rfl (o12 X1476.here hx rfl (hb hby at_131) rfl rfl (o12 X1476.here hx rfl (hb hby at_133) rfl rfl j))) ?_
    have F1486 := ((Exa.ext E1473 ((Exa.ext E239 ((Exa.ext E222 F217).keep K229)).keep K246)).keep K1476)
    have g1487 := Nat.le_trans (o52 O1477) z1479
    have O1489 := O1477.keep K1476 (allS g1474 all0)
    refine o11 (o26 X1476 hx hZ (y := o63) (z := o63) hown (o0 hw 64 rfl) (o0 hw 65 rfl) (notFace_of_selects (args := #[]) (mvT hZ (o0 hw 67 rfl))) (o0 hw 67 rfl) (o0 hw 66 rfl) (o0 hw 33 rfl) (o0 hw 68 rfl) o44 (o850 l Z a0 hw [] wcs wd mOA mSL mAL kd hS b1473 b202 nz0_1478 (0 : Int32) T1476.heap n0 O1489 F1480 F1481 F1486 F1482 F1483 F1484 F1485 g1487) rfl F1480 o202 (argsL := [.ref b202]) (rest := []) rfl rfl (g := (mkF m 135 #[.val (.int xa), .val (.int xb), .val (.int k), .val (.ref b185), .val (.ref b188), .val (.ref b194), .val (.ref b202), .val (.ref b222), .val (.ref b239), .val (.int 2), .val (.ref b1473), .unset, .unset, .unset, .unset] [.ref b202, .ref b1473])) rfl (by rw [hml]; rfl) rfl (hb hby at_135) (W := 0) rfl (by decide) (by decide) (by decide) (by decide)) ?_
    intro T1488 v1488 L1488 X1488 hQ1488
    obtain ⟨nz0_1490, kz1_1491, rfl, M1488, K1488, z1492, F1493, F1494, F1495, F1496, F1497, F1498, ov0_1499⟩ := hQ1488
    have N1488 := Fr.app N1476 M1488
    refine o2 (fun u j => o55 X1488.here hx rfl (hb hby at_138) rfl rfl (o10 X1488.here hx rfl (hb hby at_139) rfl (o5 X1488.here hx rfl (hb hby at_141) (o28 X1488.here hx rfl (hb hby at_142) rfl (XT.ii_lt_f (by decide)) (o12 X1488.here hx rfl (hb hby at_145) rfl rfl (o12 X1488.here hx rfl (hb hby at_147) rfl rfl j)))))) ?_
    show o17 p e below _ (T1488.setTop (mkF m 149 #[.val (.int xa), .val (.int xb), .val (.int k), .val (.ref b185), .val (.ref b188), .val (.ref b194), .val (.ref b202), .val (.ref b222), .val (.ref b239), .val (.int 2), .val (.ref b1473), .unset, .unset, .unset, .unset] [.ref b222, .ref b1473]))
    have F1618 := (F1480.keep K1488)
    have ne1619 := (Nat.ne_of_lt (Nat.lt_of_lt_of_le A1473.lt z1479))
    have F1620 := (F1481.keep K1488 (ninS ne1619 nin0))
    have F1621 := (((Exa.ext E1473 ((Exa.ext E239 F234).keep K246)).keep K1476).keep K1488)
    have ne1622 := (Nat.ne_of_lt (Nat.lt_of_lt_of_le F234.lt (Nat.le_of_eq g239.symm)))
    have ne1623 := (Nat.ne_of_lt (Nat.lt_of_lt_of_le (Nat.lt_of_lt_of_le F234.lt (Nat.le_trans E239.1 K246.1)) (Nat.le_of_eq g1473.symm)))
    have ne1624 := (Nat.ne_of_lt (Nat.lt_of_lt_of_le (Nat.lt_of_lt_of_le F234.lt (Nat.le_trans (Nat.le_trans E239.1 K246.1) E1473.1)) z1479))
    have F1625 := (((Fld.ext E1473 ((Fld.ext E239 F236).keep K246 (ninS ne1622 nin0))).keep K1476 (ninS ne1623 nin0)).keep K1488 (ninS ne1624 nin0))
    have F1626 := (((Fld.ext E1473 ((Fld.ext E239 F235).keep K246 (ninS ne1622 nin0))).keep K1476 (ninS ne1623 nin0)).keep K1488 (ninS ne1624 nin0))
    have ne1627 := (Nat.ne_of_lt (Nat.lt_of_lt_of_le F237.lt (Nat.le_of_eq g239.symm)))
    have ne1628 := (Nat.ne_of_lt (Nat.lt_of_lt_of_le (Nat.lt_of_lt_of_le F237.lt (Nat.le_trans E239.1 K246.1)) (Nat.le_of_eq g1473.symm)))
    have ne1629 := (Nat.ne_of_lt (Nat.lt_of_lt_of_le (Nat.lt_of_lt_of_le F237.lt (Nat.le_trans (Nat.le_trans E239.1 K246.1) E1473.1)) z1479))
    have F1630 := (((((F238.ext E239).keep K246 (ninS ne1627 nin0)).ext E1473).keep K1476 (ninS ne1628 nin0)).keep K1488 (ninS ne1629 nin0))
    have F1631 := (F1486.keep K1488)
    have ne1632 := (Nat.ne_of_lt (Nat.lt_of_lt_of_le F217.lt (Nat.le_of_eq g222.symm)))
    have ne1633 := (Nat.ne_of_lt (Nat.lt_of_lt_of_le (Nat.lt_of_lt_of_le F217.lt (Nat.le_trans E222.1 K229.1)) (Nat.le_of_eq g239.symm)))
    have ne1634 := (Nat.ne_of_lt (Nat.lt_of_lt_of_le (Nat.lt_of_lt_of_le F217.lt (Nat.le_trans (Nat.le_trans (Nat.le_trans E222.1 K229.1) E239.1) K246.1)) (Nat.le_of_eq g1473.symm)))
    have ne1635 := (Nat.ne_of_lt (Nat.lt_of_lt_of_le (Nat.lt_of_lt_of_le F217.lt (Nat.le_trans (Nat.le_trans (Nat.le_trans (Nat.le_trans E222.1 K229.1) E239.1) K246.1) E1473.1)) z1479))
    have F1636 := (((Fld.ext E1473 ((Fld.ext E239 ((Fld.ext E222 F219).keep K229 (ninS ne1632 nin0))).keep K246 (ninS ne1633 nin0))).keep K1476 (ninS ne1634 nin0)).keep K1488 (ninS ne1635 nin0))
    have F1637 := (((Fld.ext E1473 ((Fld.ext E239 ((Fld.ext E222 F218).keep K229 (ninS ne1632 nin0))).keep K246 (ninS ne1633 nin0))).keep K1476 (ninS ne1634 nin0)).keep K1488 (ninS ne1635 nin0))
    have ne1638 := (Nat.ne_of_lt (Nat.lt_of_lt_of_le F220.lt (Nat.le_of_eq g222.symm)))
    have ne1639 := (Nat.ne_of_lt (Nat.lt_of_lt_of_le (Nat.lt_of_lt_of_le F220.lt (Nat.le_trans E222.1 K229.1)) (Nat.le_of_eq g239.symm)))
    have ne1640 := (Nat.ne_of_lt (Nat.lt_of_lt_of_le (Nat.lt_of_lt_of_le F220.lt (Nat.le_trans (Nat.le_trans (Nat.le_trans E222.1 K229.1) E239.1) K246.1)) (Nat.le_of_eq g1473.symm)))
    have ne1641 := (Nat.ne_of_lt (Nat.lt_of_lt_of_le (Nat.lt_of_lt_of_le F220.lt (Nat.le_trans (Nat.le_trans (Nat.le_trans (Nat.le_trans E222.1 K229.1) E239.1) K246.1) E1473.1)) z1479))
    have F1642 := (((((((F221.ext E222).keep K229 (ninS ne1638 nin0)).ext E239).keep K246 (ninS ne1639 nin0)).ext E1473).keep K1476 (ninS ne1640 nin0)).keep K1488 (ninS ne1641 nin0))
    have g1643 := Nat.le_trans (o52 O1489) z1492
    have O1645 := O1489.keep K1488 (allS g1487 all0)
    refine o11 (o26 X1488 hx hZ (y := o63) (z := o63) hown (o0 hw 64 rfl) (o0 hw 65 rfl) (notFace_of_selects (args := #[]) (mvT hZ (o0 hw 67 rfl))) (o0 hw 67 rfl) (o0 hw 66 rfl) (o0 hw 33 rfl) (o0 hw 68 rfl) o44 (o873 l Z a0 hw [] wcs wd mOA mSL mAL kd hS b1473 b222 nz0_1478 r_231 ((0 : Int32) + (1 : Int32)) nz0_1490 kr_232 (2 : Int32) [(.int (((((xa.toUInt32 >>> ((8 : Int32) &&& 31).toUInt32).toInt32) &&& (255 : Int32)).toUInt32.toUInt16.toUInt32.toInt32).toInt8.toInt32)), (.int (((((xa.toUInt32 >>> ((16 : Int32) &&& 31).toUInt32).toInt32) &&& (255 : Int32)).toUInt32.toUInt16.toUInt32.toInt32).toInt8.toInt32))] kz1_1491 b202 r_214 kr_215 (1 : Int32) [(.int (((xa &&& (255 : Int32)).toUInt32.toUInt16.toUInt32.toInt32).toInt8.toInt32))] T1488.heap n0 O1645 F1618 F1620 F1621 F1625 F1626 F1493 F1494 F1495 F1496 F1630 F1497 F1498 F1631 F1636 F1637 F1642 ov0_1499 (by decide) g1487 g1643 (Ne.symm ne1632)) rfl F1618 o202 (argsL := [.ref b222]) (rest := []) rfl rfl (g := (mkF m 149 #[.val (.int xa), .val (.int xb), .val (.int k), .val (.ref b185), .val (.ref b188), .val (.ref b194), .val (.ref b202), .val (.ref b222), .val (.ref b239), .val (.int 2), .val (.ref b1473), .unset, .unset, .unset, .unset] [.ref b222, .ref b1473])) rfl (by rw [hml]; rfl) rfl (hb hby at_149) (W := 0) rfl (by decide) (by decide) (by decide) (by decide)) ?_
    intro T1644 v1644 L1644 X1644 hQ1644
    obtain ⟨rfl, M1644, K1644, F1646, F1647, F1648, F1649, F1650, F1651⟩ := hQ1644
    have N1644 := Fr.app N1488 M1644
    refine o2 (fun u j => o55 X1644.here hx rfl (hb hby at_152) rfl rfl (o10 X1644.here hx rfl (hb hby at_153) rfl (o5 X1644.here hx rfl (hb hby at_155) (o23 X1644.here hx rfl (pc0 := 156) (pc' := 167) rfl (hb hby at_156) rfl (XT.ii_lt_t (by decide)) (by decide) (by decide) (o10 X1644.here hx rfl (hb hby at_167) rfl (o5 X1644.here hx rfl (hb hby at_169) j)))))) ?_
    show o17 p e below _ (T1644.setTop (mkF m 170 #[.val (.int xa), .val (.int xb), .val (.int k), .val (.ref b185), .val (.ref b188), .val (.ref b194), .val (.ref b202), .val (.ref b222), .val (.ref b239), .val (.int 2), .val (.ref b1473), .unset, .unset, .unset, .unset] [.int 1, .int 2]))
    refine o2 (fun u j => o23 X1644.here hx rfl (pc0 := 170) (pc' := 178) rfl (hb hby at_170) rfl (o139 (by decide)) (by decide) (by decide) (o10 X1644.here hx rfl (hb hby at_178) rfl (o5 X1644.here hx rfl (hb hby at_180) (o28 X1644.here hx rfl (hb hby at_181) rfl (o83 (by decide)) (o12 X1644.here hx rfl (hb hby at_184) rfl rfl (o35 X1644.here hx rfl (pc0 := 186) (pc' := 191) rfl (hb hby at_186) (by decide) (by decide) j)))))) ?_
    show o17 p e below _ (T1644.setTop (mkF m 191 #[.val (.int xa), .val (.int xb), .val (.int k), .val (.ref b185), .val (.ref b188), .val (.ref b194), .val (.ref b202), .val (.ref b222), .val (.ref b239), .val (.int 2), .val (.ref b1473), .unset, .unset, .unset, .unset] [.ref b222]))
    refine o2 (fun u j => o37 X1644.here hx rfl (hb hby at_191) rfl rfl (l' := #[.val (.int xa), .val (.int xb), .val (.int k), .val (.ref b185), .val (.ref b188), .val (.ref b194), .val (.ref b202), .val (.ref b222), .val (.ref b239), .val (.int 2), .val (.ref b1473), .val (.ref b222), .unset, .unset, .unset]) rfl (o12 X1644.here hx rfl (hb hby at_193) rfl rfl j)) ?_
    have ne1726 := (Nat.ne_of_lt (Nat.lt_of_lt_of_le F1480.lt z1492))
    have F1727 := (F1620.keep K1644 (ninS ne1619 (ninS ne1726 nin0)))
    have O1729 := O1645.keep K1644 (allS g1487 (allS g1643 all0))
    have F1730 := (F1618.keep K1644)
    refine o11 (o26 X1644 hx hZ (y := o255) (z := o255) hown (o0 hw 133 rfl) (o0 hw 134 rfl) (notFace_of_selects (args := #[]) (mvT hZ (o0 hw 136 rfl))) (o0 hw 136 rfl) (o0 hw 135 rfl) (o0 hw 33 rfl) (o0 hw 137 rfl) o44 (o955 l Z a0 hw [] wcs wd mOA mSL mAL kd hS b1473 nz0_1478 (((0 : Int32) + (1 : Int32)) + (1 : Int32)) nz0_1490 kz1_1491 b202 b222 T1644.heap n0 O1729 F1727 F1646 F1647 F1648 F1649 F1650 F1651 g1487 g1643) rfl F1730 o59 (argsL := []) (rest := []) rfl rfl (g := (mkF m 195 #[.val (.int xa), .val (.int xb), .val (.int k), .val (.ref b185), .val (.ref b188), .val (.ref b194), .val (.ref b202), .val (.ref b222), .val (.ref b239), .val (.int 2), .val (.ref b1473), .val (.ref b222), .unset, .unset, .unset] [.ref b1473])) rfl (by rw [hml]; rfl) rfl (hb hby at_195) (W := 0) rfl (by decide) (by decide) (by decide) (by decide)) ?_
    intro T1728 v1728 L1728 X1728 hQ1728
    obtain ⟨rfl, M1728, K1728, F1731, F1732, F1733, F1734, F1735, F1736⟩ := hQ1728
    have N1728 := Fr.app N1644 M1728
    refine o2 (fun u j => o10 X1728.here hx rfl (hb hby at_198) rfl (o5 X1728.here hx rfl (hb hby at_200) (o38 X1728.here hx rfl (hb hby at_201) rfl (o30 X1728.here hx rfl (hb hby at_202) rfl (l' := #[.val (.int xa), .val (.int xb), .val (.int k), .val (.ref b185), .val (.ref b188), .val (.ref b194), .val (.ref b202), .val (.ref b222), .val (.ref b239), .val (.int 2), .val (.ref b1473), .val (.ref b222), .val (.int 1), .unset, .unset]) rfl (o12 X1728.here hx rfl (hb hby at_204) rfl rfl (o12 X1728.here hx rfl (hb hby at_206) rfl rfl j)))))) ?_
    show o17 p e below _ (T1728.setTop (mkF m 208 #[.val (.int xa), .val (.int xb), .val (.int k), .val (.ref b185), .val (.ref b188), .val (.ref b194), .val (.ref b202), .val (.ref b222), .val (.ref b239), .val (.int 2), .val (.ref b1473), .val (.ref b222), .val (.int 1), .unset, .unset] [.ref b202, .ref b1473]))
    have F1737 := (F1727.keep K1728 (ninS ne1619 (ninS ne1726 nin0)))
    have F1738 := ((F1631.keep K1644).keep K1728)
    have O1740 := O1729.keep K1728 (allS g1487 (allS g1643 all0))
    have F1741 := (F1730.keep K1728)
    refine o11 (o26 X1728 hx hZ (y := o39) (z := o39) hown (o0 hw 167 rfl) (o0 hw 70 rfl) (notFace_of_selects (args := #[]) (mvT hZ (o0 hw 72 rfl))) (o0 hw 72 rfl) (o0 hw 71 rfl) (o0 hw 33 rfl) (o0 hw 73 rfl) o44 (o889 l Z a0 hw [] wcs wd mOA mSL mAL kd hS b1473 b202 nz0_1478 ((((0 : Int32) + (1 : Int32)) + (1 : Int32)) + (1 : Int32)) nz0_1490 kz1_1491 T1728.heap n0 O1740 F1737 F1738 F1731 F1732 F1733 F1734 F1735 F1736) rfl F1741 o77 (argsL := [.ref b202]) (rest := []) rfl rfl (g := (mkF m 208 #[.val (.int xa), .val (.int xb), .val (.int k), .val (.ref b185), .val (.ref b188), .val (.ref b194), .val (.ref b202), .val (.ref b222), .val (.ref b239), .val (.int 2), .val (.ref b1473), .val (.ref b222), .val (.int 1), .unset, .unset] [.ref b202, .ref b1473])) rfl (by rw [hml]; rfl) rfl (hb hby at_208) (W := 0) rfl (by decide) (by decide) (by decide) (by decide)) ?_
    intro T1739 v1739 L1739 X1739 hQ1739
    obtain ⟨nz0_1742, nz1_1743, kz2_1744, rfl, M1739, K1739, z1745, z1746, F1747, F1748, F1749, F1750, F1751, F1752, ov0_1753⟩ := hQ1739
    have N1739 := Fr.app N1728 M1739
    refine o2 (fun u j => o12 X1739.here hx rfl (hb hby at_211) rfl rfl (o5 X1739.here hx rfl (hb hby at_213) (o10 X1739.here hx rfl (hb hby at_214) rfl (o12 X1739.here hx rfl (hb hby at_216) rfl rfl j)))) ?_
    have F1768 := (F1738.keep K1739)
    have O1770 := O1740.keep K1739 all0
    refine o11 (o25 X1739 hx hZ (y := o187) hown (o0 hw 263 rfl) (o0 hw 264 rfl) (o0 hw 265 rfl) (o0 hw 266 rfl) o203 (o956 l Z a0 hw [] wcs wd mOA mSL mAL kd hS nz0_1742 b202 b222 nz1_1743 kz2_1744 T1739.heap n0 O1770 F1747 F1749 F1750 F1768 F1752) rfl o204 (argsL := [.ref nz0_1742, .ref b202, .int 0, .int 1, .ref b222]) (rest := []) rfl rfl (g := (mkF m 218 #[.val (.int xa), .val (.int xb), .val (.int k), .val (.ref b185), .val (.ref b188), .val (.ref b194), .val (.ref b202), .val (.ref b222), .val (.ref b239), .val (.int 2), .val (.ref b1473), .val (.ref b222), .val (.int 1), .unset, .unset] [.ref b222, .int 1, .int 0, .ref b202, .ref nz0_1742])) rfl (by rw [hml]; rfl) rfl (hb hby at_218) (W := 0) rfl (by decide) (by decide) (by decide) (by decide)) ?_
    intro T1769 v1769 L1769 X1769 hQ1769
    obtain ⟨rfl, M1769, e1769⟩ := hQ1769
    have N1769 := Fr.app N1739 M1769
    refine o2 (fun u j => o34 X1769.here hx rfl (hb hby at_221) rfl (o33 (by decide)) (o12 X1769.here hx rfl (hb hby at_224) rfl rfl (o12 X1769.here hx rfl (hb hby at_226) rfl rfl j))) ?_
    have F1771 := (F1737.keep K1739 nin0)
    have F1772 := (((F1621.keep K1644).keep K1728).keep K1739)
    have ne1773 := (Nat.ne_of_lt (Nat.lt_of_lt_of_le (Nat.lt_of_lt_of_le F234.lt (Nat.le_trans (Nat.le_trans (Nat.le_trans E239.1 K246.1) E1473.1) K1476.1)) z1492))
    have F1774 := (((F1625.keep K1644 (ninS ne1624 (ninS ne1773 nin0))).keep K1728 (ninS ne1624 (ninS ne1773 nin0))).keep K1739 nin0)
    have F1775 := (((F1626.keep K1644 (ninS ne1624 (ninS ne1773 nin0))).keep K1728 (ninS ne1624 (ninS ne1773 nin0))).keep K1739 nin0)
    have F1776 := (F1731.keep K1739)
    have F1777 := (F1733.keep K1739 nin0)
    have F1778 := (F1734.keep K1739 nin0)
    have ne1779 := (Nat.ne_of_lt (Nat.lt_of_lt_of_le (Nat.lt_of_lt_of_le F237.lt (Nat.le_trans (Nat.le_trans (Nat.le_trans E239.1 K246.1) E1473.1) K1476.1)) z1492))
    have F1780 := (((F1630.keep K1644 (ninS ne1629 (ninS ne1779 nin0))).keep K1728 (ninS ne1629 (ninS ne1779 nin0))).keep K1739 nin0)
    have F1781 := (F1736.keep K1739 nin0)
    have ne1782 := (Nat.ne_of_lt (Nat.lt_of_lt_of_le F1486.lt z1492))
    have F1783 := (((F1636.keep K1644 (ninS ne1635 (ninS ne1782 nin0))).keep K1728 (ninS ne1635 (ninS ne1782 nin0))).keep K1739 nin0)
    have F1784 := (((F1637.keep K1644 (ninS ne1635 (ninS ne1782 nin0))).keep K1728 (ninS ne1635 (ninS ne1782 nin0))).keep K1739 nin0)
    have ne1785 := (Nat.ne_of_lt (Nat.lt_of_lt_of_le (Nat.lt_of_lt_of_le F220.lt (Nat.le_trans (Nat.le_trans (Nat.le_trans (Nat.le_trans (Nat.le_trans E222.1 K229.1) E239.1) K246.1) E1473.1) K1476.1)) z1492))
    have F1786 := (((F1642.keep K1644 (ninS ne1641 (ninS ne1785 nin0))).keep K1728 (ninS ne1641 (ninS ne1785 nin0))).keep K1739 nin0)
    have F1788 := (F1741.keep K1739)
    refine o11 (o26 X1769 hx hZ (y := o39) (z := o39) hown (o0 hw 167 rfl) (o0 hw 70 rfl) (notFace_of_selects (args := #[]) (mvT hZ (o0 hw 72 rfl))) (o0 hw 72 rfl) (o0 hw 71 rfl) (o0 hw 33 rfl) (o0 hw 73 rfl) o44 (o872 l Z a0 hw [] wcs wd mOA mSL mAL kd hS b1473 b222 nz0_1478 r_231 nz0_1490 kr_232 (2 : Int32) [(.int (((((xa.toUInt32 >>> ((8 : Int32) &&& 31).toUInt32).toInt32) &&& (255 : Int32)).toUInt32.toUInt16.toUInt32.toInt32).toInt8.toInt32)), (.int (((((xa.toUInt32 >>> ((16 : Int32) &&& 31).toUInt32).toInt32) &&& (255 : Int32)).toUInt32.toUInt16.toUInt32.toInt32).toInt8.toInt32))] kz1_1491 b202 r_214 kr_215 (1 : Int32) [(.int (((xa &&& (255 : Int32)).toUInt32.toUInt16.toUInt32.toInt32).toInt8.toInt32))] T1739.heap n0 O1770 F1771 F1772 F1774 F1775 F1776 F1777 F1778 F1780 F1781 F1768 F1783 F1784 F1786 (by decide) (Ne.symm ne1632)) e1769 F1788 o77 (argsL := [.ref b222]) (rest := []) rfl rfl (g := (mkF m 228 #[.val (.int xa), .val (.int xb), .val (.int k), .val (.ref b185), .val (.ref b188), .val (.ref b194), .val (.ref b202), .val (.ref b222), .val (.ref b239), .val (.int 2), .val (.ref b1473), .val (.ref b222), .val (.int 1), .unset, .unset] [.ref b222, .ref b1473])) rfl (by rw [hml]; rfl) rfl (hb hby at_228) (W := 0) rfl (by decide) (by decide) (by decide) (by decide)) ?_
    intro T1787 v1787 L1787 X1787 hQ1787
    obtain ⟨rfl, M1787, e1787⟩ := hQ1787
    have N1787 := Fr.app N1769 M1787
    refine o2 (fun u j => o12 X1787.here hx rfl (hb hby at_231) rfl rfl (o5 X1787.here hx rfl (hb hby at_233) (o10 X1787.here hx rfl (hb hby at_234) rfl (o12 X1787.here hx rfl (hb hby at_236) rfl rfl j)))) ?_
    refine o11 (o25 X1787 hx hZ (y := o187) hown (o0 hw 263 rfl) (o0 hw 264 rfl) (o0 hw 265 rfl) (o0 hw 266 rfl) o203 (o713 l Z a0 hw [] wcs wd mOA mSL mAL kd hS b222 (1 : Int32) (1 : Int32) b239 T1739.heap n0 O1770 (by decide)) e1787 o204 (argsL := [.null, .ref b222, .int 1, .int 1, .ref b239]) (rest := []) rfl rfl (g := (mkF m 238 #[.val (.int xa), .val (.int xb), .val (.int k), .val (.ref b185), .val (.ref b188), .val (.ref b194), .val (.ref b202), .val (.ref b222), .val (.ref b239), .val (.int 2), .val (.ref b1473), .val (.ref b222), .val (.int 1), .unset, .unset] [.ref b239, .int 1, .int 1, .ref b222, .null])) rfl (by rw [hml]; rfl) rfl (hb hby at_238) (W := 0) rfl (by decide) (by decide) (by decide) (by decide)) ?_
    intro T1789 v1789 L1789 X1789 hQ1789
    obtain ⟨rfl, M1789, e1789⟩ := hQ1789
    have N1789 := Fr.app N1787 M1789
    refine o2 (fun u j => o34 X1789.here hx rfl (hb hby at_241) rfl (o33 (by decide)) (o12 X1789.here hx rfl (hb hby at_244) rfl rfl (o12 X1789.here hx rfl (hb hby at_246) rfl rfl j))) ?_
    have F1790 := ((((((Exa.ext E1473 F251).keep K1476).keep K1488).keep K1644).keep K1728).keep K1739)
    have ne1791 := (Nat.ne_of_lt (Nat.lt_of_lt_of_le F251.lt (Nat.le_of_eq g1473.symm)))
    have ne1792 := (Nat.ne_of_lt (Nat.lt_of_lt_of_le (Nat.lt_of_lt_of_le F251.lt E1473.1) z1479))
    have ne1793 := (Nat.ne_of_lt (Nat.lt_of_lt_of_le (Nat.lt_of_lt_of_le F251.lt (Nat.le_trans E1473.1 K1476.1)) z1492))
    have F1794 := ((((((Fld.ext E1473 F253).keep K1476 (ninS ne1791 nin0)).keep K1488 (ninS ne1792 nin0)).keep K1644 (ninS ne1792 (ninS ne1793 nin0))).keep K1728 (ninS ne1792 (ninS ne1793 nin0))).keep K1739 nin0)
    have F1795 := ((((((Fld.ext E1473 F252).keep K1476 (ninS ne1791 nin0)).keep K1488 (ninS ne1792 nin0)).keep K1644 (ninS ne1792 (ninS ne1793 nin0))).keep K1728 (ninS ne1792 (ninS ne1793 nin0))).keep K1739 nin0)
    have ne1796 := (Nat.ne_of_lt (Nat.lt_of_lt_of_le F254.lt (Nat.le_of_eq g1473.symm)))
    have ne1797 := (Nat.ne_of_lt (Nat.lt_of_lt_of_le (Nat.lt_of_lt_of_le F254.lt E1473.1) z1479))
    have ne1798 := (Nat.ne_of_lt (Nat.lt_of_lt_of_le (Nat.lt_of_lt_of_le F254.lt (Nat.le_trans E1473.1 K1476.1)) z1492))
    have F1799 := ((((((F255.ext E1473).keep K1476 (ninS ne1796 nin0)).keep K1488 (ninS ne1797 nin0)).keep K1644 (ninS ne1797 (ninS ne1798 nin0))).keep K1728 (ninS ne1797 (ninS ne1798 nin0))).keep K1739 nin0)
    refine o11 (o26 X1789 hx hZ (y := o39) (z := o39) hown (o0 hw 167 rfl) (o0 hw 70 rfl) (notFace_of_selects (args := #[]) (mvT hZ (o0 hw 72 rfl))) (o0 hw 72 rfl) (o0 hw 71 rfl) (o0 hw 33 rfl) (o0 hw 73 rfl) o44 (o872 l Z a0 hw [] wcs wd mOA mSL mAL kd hS b1473 b239 nz0_1478 r_248 nz0_1490 kr_249 (3 : Int32) [(.int (((((xa.toUInt32 >>> ((24 : Int32) &&& 31).toUInt32).toInt32) &&& (255 : Int32)).toUInt32.toUInt16.toUInt32.toInt32).toInt8.toInt32)), (.int (((xb &&& (255 : Int32)).toUInt32.toUInt16.toUInt32.toInt32).toInt8.toInt32)), (.int (((((xb.toUInt32 >>> ((8 : Int32) &&& 31).toUInt32).toInt32) &&& (255 : Int32)).toUInt32.toUInt16.toUInt32.toInt32).toInt8.toInt32))] kz1_1491 b202 r_214 kr_215 (1 : Int32) [(.int (((xa &&& (255 : Int32)).toUInt32.toUInt16.toUInt32.toInt32).toInt8.toInt32))] T1739.heap n0 O1770 F1771 F1790 F1794 F1795 F1776 F1777 F1778 F1799 F1781 F1768 F1783 F1784 F1786 (by decide) (Ne.symm ne1633)) e1789 F1788 o77 (argsL := [.ref b239]) (rest := []) rfl rfl (g := (mkF m 248 #[.val (.int xa), .val (.int xb), .val (.int k), .val (.ref b185), .val (.ref b188), .val (.ref b194), .val (.ref b202), .val (.ref b222), .val (.ref b239), .val (.int 2), .val (.ref b1473), .val (.ref b222), .val (.int 1), .unset, .unset] [.ref b239, .ref b1473])) rfl (by rw [hml]; rfl) rfl (hb hby at_248) (W := 0) rfl (by decide) (by decide) (by decide) (by decide)) ?_
    intro T1800 v1800 L1800 X1800 hQ1800
    obtain ⟨rfl, M1800, e1800⟩ := hQ1800
    have N1800 := Fr.app N1789 M1800
    refine o2 (fun u j => o12 X1800.here hx rfl (hb hby at_251) rfl rfl (o5 X1800.here hx rfl (hb hby at_253) (o10 X1800.here hx rfl (hb hby at_254) rfl (o12 X1800.here hx rfl (hb hby at_256) rfl rfl j)))) ?_
    refine o11 (o25 X1800 hx hZ (y := o187) hown (o0 hw 263 rfl) (o0 hw 264 rfl) (o0 hw 265 rfl) (o0 hw 266 rfl) o203 (o713 l Z a0 hw [] wcs wd mOA mSL mAL kd hS b239 (2 : Int32) (1 : Int32) b239 T1739.heap n0 O1770 (by decide)) e1800 o204 (argsL := [.null, .ref b239, .int 2, .int 1, .ref b239]) (rest := []) rfl rfl (g := (mkF m 258 #[.val (.int xa), .val (.int xb), .val (.int k), .val (.ref b185), .val (.ref b188), .val (.ref b194), .val (.ref b202), .val (.ref b222), .val (.ref b239), .val (.int 2), .val (.ref b1473), .val (.ref b222), .val (.int 1), .unset, .unset] [.ref b239, .int 1, .int 2, .ref b239, .null])) rfl (by rw [hml]; rfl) rfl (hb hby at_258) (W := 0) rfl (by decide) (by decide) (by decide) (by decide)) ?_
    intro T1801 v1801 L1801 X1801 hQ1801
    obtain ⟨rfl, M1801, e1801⟩ := hQ1801
    have N1801 := Fr.app N1800 M1801
    refine o2 (fun u j => o34 X1801.here hx rfl (hb hby at_261) rfl (o33 (by decide)) (o5 X1801.here hx rfl (hb hby at_264) (o35 X1801.here hx rfl (pc0 := 265) (pc' := 269) rfl (hb hby at_265) (by decide) (by decide) (o30 X1801.here hx rfl (hb hby at_269) rfl (l' := #[.val (.int xa), .val (.int xb), .val (.int k), .val (.ref b185), .val (.ref b188), .val (.ref b194), .val (.ref b202), .val (.ref b222), .val (.ref b239), .val (.int 2), .val (.ref b1473), .val (.ref b222), .val (.int 1), .val (.int 1), .unset]) rfl (o10 X1801.here hx rfl (hb hby at_271) rfl (o43 X1801.here hx rfl (pc0 := 273) (pc' := 278) rfl (hb hby at_273) rfl (o138 (by decide)) (by decide) (by decide) j)))))) ?_
    show o17 p e below _ (T1801.setTop (mkF m 278 #[.val (.int xa), .val (.int xb), .val (.int k), .val (.ref b185), .val (.ref b188), .val (.ref b194), .val (.ref b202), .val (.ref b222), .val (.ref b239), .val (.int 2), .val (.ref b1473), .val (.ref b222), .val (.int 1), .val (.int 1), .unset] []))
    refine o2 (fun u j => o12 X1801.here hx rfl (hb hby at_278) rfl rfl (o12 X1801.here hx rfl (hb hby at_280) rfl rfl j)) ?_
    have F1802 := (F1732.keep K1739 nin0)
    have F1803 := (F1735.keep K1739)
    refine o11 (o26 X1801 hx hZ (y := o63) (z := o63) hown (o0 hw 64 rfl) (o0 hw 65 rfl) (notFace_of_selects (args := #[]) (mvT hZ (o0 hw 67 rfl))) (o0 hw 67 rfl) (o0 hw 66 rfl) (o0 hw 33 rfl) (o0 hw 68 rfl) o44 (o873 l Z a0 hw [] wcs wd mOA mSL mAL kd hS b1473 b222 nz0_1478 r_231 ((((0 : Int32) + (1 : Int32)) + (1 : Int32)) + (1 : Int32)) nz0_1490 kr_232 (2 : Int32) [(.int (((((xa.toUInt32 >>> ((8 : Int32) &&& 31).toUInt32).toInt32) &&& (255 : Int32)).toUInt32.toUInt16.toUInt32.toInt32).toInt8.toInt32)), (.int (((((xa.toUInt32 >>> ((16 : Int32) &&& 31).toUInt32).toInt32) &&& (255 : Int32)).toUInt32.toUInt16.toUInt32.toInt32).toInt8.toInt32))] kz1_1491 b202 r_214 kr_215 (1 : Int32) [(.int (((xa &&& (255 : Int32)).toUInt32.toUInt16.toUInt32.toInt32).toInt8.toInt32))] T1739.heap n0 O1770 F1788 F1771 F1772 F1774 F1775 F1776 F1802 F1777 F1778 F1780 F1803 F1781 F1768 F1783 F1784 F1786 ov0_1499 (by decide) g1487 g1643 (Ne.symm ne1632)) e1801 F1788 o202 (argsL := [.ref b222]) (rest := []) rfl rfl (g := (mkF m 282 #[.val (.int xa), .val (.int xb), .val (.int k), .val (.ref b185), .val (.ref b188), .val (.ref b194), .val (.ref b202), .val (.ref b222), .val (.ref b239), .val (.int 2), .val (.ref b1473), .val (.ref b222), .val (.int 1), .val (.int 1), .unset] [.ref b222, .ref b1473])) rfl (by rw [hml]; rfl) rfl (hb hby at_282) (W := 0) rfl (by decide) (by decide) (by decide) (by decide)) ?_
    intro T1804 v1804 L1804 X1804 hQ1804
    obtain ⟨rfl, M1804, K1804, F1805, F1806, F1807, F1808, F1809, F1810⟩ := hQ1804
    have N1804 := Fr.app N1801 M1804
    refine o2 (fun u j => o55 X1804.here hx rfl (hb hby at_285) rfl rfl (o12 X1804.here hx rfl (hb hby at_286) rfl rfl (o12 X1804.here hx rfl (hb hby at_288) rfl rfl j))) ?_
    have F2476 := (F1771.keep K1804 (ninS ne1619 (ninS ne1726 nin0)))
    have F2477 := (F1768.keep K1804)
    have F2478 := (F1772.keep K1804)
    have O2480 := O1770.keep K1804 (allS g1487 (allS g1643 all0))
    have F2481 := (F1788.keep K1804)
    refine o11 (o26 X1804 hx hZ (y := o39) (z := o39) hown (o0 hw 167 rfl) (o0 hw 70 rfl) (notFace_of_selects (args := #[]) (mvT hZ (o0 hw 72 rfl))) (o0 hw 72 rfl) (o0 hw 71 rfl) (o0 hw 33 rfl) (o0 hw 73 rfl) o44 (o890 l Z a0 hw [] wcs wd mOA mSL mAL kd hS b1473 b202 nz0_1478 (((((0 : Int32) + (1 : Int32)) + (1 : Int32)) + (1 : Int32)) + (1 : Int32)) nz0_1490 kz1_1491 b222 T1804.heap n0 O2480 F2476 F2477 F1805 F1806 F1807 F1808 F1809 F1810 F2478) rfl F2481 o77 (argsL := [.ref b202]) (rest := []) rfl rfl (g := (mkF m 290 #[.val (.int xa), .val (.int xb), .val (.int k), .val (.ref b185), .val (.ref b188), .val (.ref b194), .val (.ref b202), .val (.ref b222), .val (.ref b239), .val (.int 2), .val (.ref b1473), .val (.ref b222), .val (.int 1), .val (.int 1), .unset] [.ref b202, .ref b1473])) rfl (by rw [hml]; rfl) rfl (hb hby at_290) (W := 0) rfl (by decide) (by decide) (by decide) (by decide)) ?_
    intro T2479 v2479 L2479 X2479 hQ2479
    obtain ⟨nz0_2482, nz1_2483, kz2_2484, rfl, M2479, K2479, z2485, z2486, F2487, F2488, F2489, F2490, F2491, F2492, ov0_2493⟩ := hQ2479
    have N2479 := Fr.app N1804 M2479
    refine o2 (fun u j => o37 X2479.here hx rfl (hb hby at_293) rfl rfl (l' := #[.val (.int xa), .val (.int xb), .val (.int k), .val (.ref b185), .val (.ref b188), .val (.ref b194), .val (.ref b202), .val (.ref b222), .val (.ref b239), .val (.int 2), .val (.ref b1473), .val (.ref b222), .val (.int 1), .val (.int 1), .val (.ref nz0_2482)]) rfl (o12 X2479.here hx rfl (hb hby at_295) rfl rfl (XS.ifnullNo X2479.here hx rfl (hb hby at_297) rfl (o12 X2479.here hx rfl (hb hby at_300) rfl rfl j)))) ?_
    have O2495 := O2480.keep K2479 all0
    refine o11 (o29 X2479 hx hZ (y := o186) (z := o154) hown (o0 hw 267 rfl) (o0 hw 139 rfl) (mvT hZ (o0 hw 140 rfl)) (o0 hw 141 rfl) (o0 hw 142 rfl) (o0 hw 143 rfl) (o0 hw 144 rfl) (o0 hw 81 rfl) (o0 hw 40 rfl) (o0 hw 145 rfl) o27 (o591 l Z a0 hw [] wcs wd mOA mSL mAL kd hS nz0_2482 (3 : Int32) T2479.heap n0 O2495 F2490) rfl F2487 o142 (argsL := []) (rest := []) rfl rfl (g := (mkF m 302 #[.val (.int xa), .val (.int xb), .val (.int k), .val (.ref b185), .val (.ref b188), .val (.ref b194), .val (.ref b202), .val (.ref b222), .val (.ref b239), .val (.int 2), .val (.ref b1473), .val (.ref b222), .val (.int 1), .val (.int 1), .val (.ref nz0_2482)] [.ref nz0_2482])) rfl (by rw [hml]; rfl) rfl (hb hby at_302) (W := 0) rfl (by decide) (by decide) (by decide) (by decide)) ?_
    intro T2494 v2494 L2494 X2494 hQ2494
    obtain ⟨rfl, M2494, e2494⟩ := hQ2494
    have N2494 := Fr.app N2479 M2494
    refine o2 (fun u j => o10 X2494.here hx rfl (hb hby at_307) rfl (o5 X2494.here hx rfl (hb hby at_309) (o36 X2494.here hx rfl (hb hby at_310) rfl (o28 X2494.here hx rfl (hb hby at_311) rfl (o83 (by decide)) (o12 X2494.here hx rfl (hb hby at_314) rfl rfl (o5 X2494.here hx rfl (hb hby at_316) j)))))) ?_
    show o17 p e below _ (T2494.setTop (mkF m 317 #[.val (.int xa), .val (.int xb), .val (.int k), .val (.ref b185), .val (.ref b188), .val (.ref b194), .val (.ref b202), .val (.ref b222), .val (.ref b239), .val (.int 2), .val (.ref b1473), .val (.ref b222), .val (.int 1), .val (.int 1), .val (.ref nz0_2482)] [.int 0, .ref nz0_2482]))
    refine o11 (o29 X2494 hx hZ (y := o195) (z := o155) hown (o0 hw 268 rfl) (o0 hw 269 rfl) (mvT hZ (o0 hw 270 rfl)) (o0 hw 271 rfl) (o0 hw 272 rfl) (o0 hw 273 rfl) (o0 hw 274 rfl) (o0 hw 81 rfl) (o0 hw 40 rfl) (o0 hw 275 rfl) o27 (o471 l Z a0 hw [] wcs wd mOA mSL mAL kd hS nz0_2482 nz1_2483 kz2_2484 (3 : Int32) [.ref b202, .ref b222, .ref b202] (0 : Int32) b202 (3 : Int32) T2479.heap n0 O2495 F2487 F2490 (by decide) (by decide) F2489 F2492 ⟨by decide, by decide⟩ rfl) e2494 F2487 o71 (argsL := [.int 0]) (rest := []) rfl rfl (g := (mkF m 317 #[.val (.int xa), .val (.int xb), .val (.int k), .val (.ref b185), .val (.ref b188), .val (.ref b194), .val (.ref b202), .val (.ref b222), .val (.ref b239), .val (.int 2), .val (.ref b1473), .val (.ref b222), .val (.int 1), .val (.int 1), .val (.ref nz0_2482)] [.int 0, .ref nz0_2482])) rfl (by rw [hml]; rfl) rfl (hb hby at_317) (W := 0) rfl (by decide) (by decide) (by decide) (by decide)) ?_
    intro T2496 v2496 L2496 X2496 hQ2496
    obtain ⟨rfl, M2496, e2496⟩ := hQ2496
    have N2496 := Fr.app N2494 M2496
    have F2498 := (F2477.keep K2479)
    have q_ := castY X2496 hx hZ hown (o0 hw 1 rfl) e2496 (Ins.self F2498) (g := (mkF m 322 #[.val (.int xa), .val (.int xb), .val (.int k), .val (.ref b185), .val (.ref b188), .val (.ref b194), .val (.ref b202), .val (.ref b222), .val (.ref b239), .val (.int 2), .val (.ref b1473), .val (.ref b222), .val (.int 1), .val (.int 1), .val (.ref nz0_2482)] [.ref b202])) rfl rfl (hb hby at_322)
    obtain ⟨T2497, X2497, e2497, st2497⟩ := q_
    refine o2 (fun u j => st2497 u j) ?_
    refine o2 (fun u j => o12 X2497.here hx rfl (hb hby at_325) rfl rfl j) ?_
    refine o11 (o26 X2497 hx hZ (y := o41) (z := o41) hown (o0 hw 281 rfl) (o0 hw 282 rfl) (notFace_of_selects (args := #[]) (mvT hZ (o0 hw 283 rfl))) (o0 hw 283 rfl) (o0 hw 126 rfl) (o0 hw 3 rfl) (o0 hw 127 rfl) o70 (o256 l Z a0 hw [] wcs wd mOA mSL mAL kd hS b202 T2479.heap n0 O2495 ) e2497 F2498 o46 (argsL := [.ref b202]) (rest := []) rfl rfl (g := (mkF m 327 #[.val (.int xa), .val (.int xb), .val (.int k), .val (.ref b185), .val (.ref b188), .val (.ref b194), .val (.ref b202), .val (.ref b222), .val (.ref b239), .val (.int 2), .val (.ref b1473), .val (.ref b222), .val (.int 1), .val (.int 1), .val (.ref nz0_2482)] [.ref b202, .ref b202])) rfl (by rw [hml]; rfl) rfl (hb hby at_327) (W := 0) rfl (by decide) (by decide) (by decide) (by decide)) ?_
    intro T2499 v2499 L2499 X2499 hQ2499
    obtain ⟨rfl, M2499, e2499⟩ := hQ2499
    have N2499 := Fr.app N2496 M2499
    refine o2 (fun u j => o34 X2499.here hx rfl (hb hby at_330) rfl (o33 (by decide)) (o12 X2499.here hx rfl (hb hby at_333) rfl rfl (o10 X2499.here hx rfl (hb hby at_335) rfl j))) ?_
    refine o11 (o29 X2499 hx hZ (y := o195) (z := o155) hown (o0 hw 268 rfl) (o0 hw 269 rfl) (mvT hZ (o0 hw 270 rfl)) (o0 hw 271 rfl) (o0 hw 272 rfl) (o0 hw 273 rfl) (o0 hw 274 rfl) (o0 hw 81 rfl) (o0 hw 40 rfl) (o0 hw 275 rfl) o27 (o471 l Z a0 hw [] wcs wd mOA mSL mAL kd hS nz0_2482 nz1_2483 kz2_2484 (3 : Int32) [.ref b202, .ref b222, .ref b202] (2 : Int32) b202 (3 : Int32) T2479.heap n0 O2495 F2487 F2490 (by decide) (by decide) F2489 F2492 ⟨by decide, by decide⟩ rfl) e2499 F2487 o71 (argsL := [.int 2]) (rest := []) rfl rfl (g := (mkF m 337 #[.val (.int xa), .val (.int xb), .val (.int k), .val (.ref b185), .val (.ref b188), .val (.ref b194), .val (.ref b202), .val (.ref b222), .val (.ref b239), .val (.int 2), .val (.ref b1473), .val (.ref b222), .val (.int 1), .val (.int 1), .val (.ref nz0_2482)] [.int 2, .ref nz0_2482])) rfl (by rw [hml]; rfl) rfl (hb hby at_337) (W := 0) rfl (by decide) (by decide) (by decide) (by decide)) ?_
    intro T2500 v2500 L2500 X2500 hQ2500
    obtain ⟨rfl, M2500, e2500⟩ := hQ2500
    have N2500 := Fr.app N2499 M2500
    have q_ := castY X2500 hx hZ hown (o0 hw 1 rfl) e2500 (Ins.self F2498) (g := (mkF m 342 #[.val (.int xa), .val (.int xb), .val (.int k), .val (.ref b185), .val (.ref b188), .val (.ref b194), .val (.ref b202), .val (.ref b222), .val (.ref b239), .val (.int 2), .val (.ref b1473), .val (.ref b222), .val (.int 1), .val (.int 1), .val (.ref nz0_2482)] [.ref b202])) rfl rfl (hb hby at_342)
    obtain ⟨T2501, X2501, e2501, st2501⟩ := q_
    refine o2 (fun u j => st2501 u j) ?_
    refine o2 (fun u j => o12 X2501.here hx rfl (hb hby at_345) rfl rfl j) ?_
    refine o11 (o26 X2501 hx hZ (y := o41) (z := o41) hown (o0 hw 281 rfl) (o0 hw 282 rfl) (notFace_of_selects (args := #[]) (mvT hZ (o0 hw 283 rfl))) (o0 hw 283 rfl) (o0 hw 126 rfl) (o0 hw 3 rfl) (o0 hw 127 rfl) o70 (o256 l Z a0 hw [] wcs wd mOA mSL mAL kd hS b202 T2479.heap n0 O2495 ) e2501 F2498 o46 (argsL := [.ref b202]) (rest := []) rfl rfl (g := (mkF m 347 #[.val (.int xa), .val (.int xb), .val (.int k), .val (.ref b185), .val (.ref b188), .val (.ref b194), .val (.ref b202), .val (.ref b222), .val (.ref b239), .val (.int 2), .val (.ref b1473), .val (.ref b222), .val (.int 1), .val (.int 1), .val (.ref nz0_2482)] [.ref b202, .ref b202])) rfl (by rw [hml]; rfl) rfl (hb hby at_347) (W := 0) rfl (by decide) (by decide) (by decide) (by decide)) ?_
    intro T2502 v2502 L2502 X2502 hQ2502
    obtain ⟨rfl, M2502, e2502⟩ := hQ2502
    have N2502 := Fr.app N2500 M2502
    refine o2 (fun u j => o34 X2502.here hx rfl (hb hby at_350) rfl (o33 (by decide)) (o5 X2502.here hx rfl (hb hby at_353) (o35 X2502.here hx rfl (pc0 := 354) (pc' := 358) rfl (hb hby at_354) (by decide) (by decide) j))) ?_
    have K2503 := (Keep.refl h0 []).ext E185
    have z2505 := Nat.le_trans (Nat.le_refl _) (Nat.le_of_eq g185.symm)
    have K2504 := K2503.wr W186 (Or.inr z2505)
    have K2506 := K2504.ext E188
    have z2508 := Nat.le_trans (Nat.le_trans E185.1 (Nat.le_of_eq W186.size.symm)) (Nat.le_of_eq g188.symm)
    have K2507 := K2506.wr W189 (Or.inr z2508)
    have K2509 := K2507.wr W193 (Or.inr z2508)
    have K2510 := K2509.ext E194
    have z2512 := Nat.le_trans (Nat.le_trans (Nat.le_trans (Nat.le_trans (Nat.le_trans E185.1 (Nat.le_of_eq W186.size.symm)) E188.1) (Nat.le_of_eq W189.size.symm)) (Nat.le_of_eq W193.size.symm)) (Nat.le_of_eq g194.symm)
    have K2511 := K2510.wr W195 (Or.inr z2512)
    have K2513 := K2511.wr W200 (Or.inr z2512)
    have K2514 := K2513.wr W201 (Or.inr z2512)
    have K2515 := K2514.ext E202
    have z2517 := Nat.le_trans (Nat.le_trans (Nat.le_trans (Nat.le_trans (Nat.le_trans (Nat.le_trans (Nat.le_trans (Nat.le_trans (Nat.le_trans E185.1 (Nat.le_of_eq W186.size.symm)) E188.1) (Nat.le_of_eq W189.size.symm)) (Nat.le_of_eq W193.size.symm)) E194.1) (Nat.le_of_eq W195.size.symm)) (Nat.le_of_eq W200.size.symm)) (Nat.le_of_eq W201.size.symm)) (Nat.le_of_eq g202.symm)
    have K2516 := K2515.trans K212 (allS (Or.inr z2517) all0)
    have K2518 := K2516.ext E222
    have z2520 := Nat.le_trans (Nat.le_trans (Nat.le_trans (Nat.le_trans (Nat.le_trans (Nat.le_trans (Nat.le_trans (Nat.le_trans (Nat.le_trans (Nat.le_trans (Nat.le_trans E185.1 (Nat.le_of_eq W186.size.symm)) E188.1) (Nat.le_of_eq W189.size.symm)) (Nat.le_of_eq W193.size.symm)) E194.1) (Nat.le_of_eq W195.size.symm)) (Nat.le_of_eq W200.size.symm)) (Nat.le_of_eq W201.size.symm)) E202.1) K212.1) (Nat.le_of_eq g222.symm)
    have K2519 := K2518.trans K229 (allS (Or.inr z2520) all0)
    have K2521 := K2519.ext E239
    have z2523 := Nat.le_trans (Nat.le_trans (Nat.le_trans (Nat.le_trans (Nat.le_trans (Nat.le_trans (Nat.le_trans (Nat.le_trans (Nat.le_trans (Nat.le_trans (Nat.le_trans (Nat.le_trans (Nat.le_trans E185.1 (Nat.le_of_eq W186.size.symm)) E188.1) (Nat.le_of_eq W189.size.symm)) (Nat.le_of_eq W193.size.symm)) E194.1) (Nat.le_of_eq W195.size.symm)) (Nat.le_of_eq W200.size.symm)) (Nat.le_of_eq W201.size.symm)) E202.1) K212.1) E222.1) K229.1) (Nat.le_of_eq g239.symm)
    have K2522 := K2521.trans K246 (allS (Or.inr z2523) all0)
    have K2524 := K2522.ext E1473
    have z2526 := Nat.le_trans (Nat.le_trans (Nat.le_trans (Nat.le_trans (Nat.le_trans (Nat.le_trans (Nat.le_trans (Nat.le_trans (Nat.le_trans (Nat.le_trans (Nat.le_trans (Nat.le_trans (Nat.le_trans (Nat.le_trans (Nat.le_trans E185.1 (Nat.le_of_eq W186.size.symm)) E188.1) (Nat.le_of_eq W189.size.symm)) (Nat.le_of_eq W193.size.symm)) E194.1) (Nat.le_of_eq W195.size.symm)) (Nat.le_of_eq W200.size.symm)) (Nat.le_of_eq W201.size.symm)) E202.1) K212.1) E222.1) K229.1) E239.1) K246.1) (Nat.le_of_eq g1473.symm)
    have K2525 := K2524.trans K1476 (allS (Or.inr z2526) all0)
    have z2528 := Nat.le_trans (Nat.le_trans (Nat.le_trans (Nat.le_trans (Nat.le_trans (Nat.le_trans (Nat.le_trans (Nat.le_trans (Nat.le_trans (Nat.le_trans (Nat.le_trans (Nat.le_trans (Nat.le_trans (Nat.le_trans (Nat.le_trans (Nat.le_trans E185.1 (Nat.le_of_eq W186.size.symm)) E188.1) (Nat.le_of_eq W189.size.symm)) (Nat.le_of_eq W193.size.symm)) E194.1) (Nat.le_of_eq W195.size.symm)) (Nat.le_of_eq W200.size.symm)) (Nat.le_of_eq W201.size.symm)) E202.1) K212.1) E222.1) K229.1) E239.1) K246.1) E1473.1) z1479
    have K2527 := K2525.trans K1488 (allS (Or.inr z2528) all0)
    have z2530 := Nat.le_trans (Nat.le_trans (Nat.le_trans (Nat.le_trans (Nat.le_trans (Nat.le_trans (Nat.le_trans (Nat.le_trans (Nat.le_trans (Nat.le_trans (Nat.le_trans (Nat.le_trans (Nat.le_trans (Nat.le_trans (Nat.le_trans (Nat.le_trans (Nat.le_trans E185.1 (Nat.le_of_eq W186.size.symm)) E188.1) (Nat.le_of_eq W189.size.symm)) (Nat.le_of_eq W193.size.symm)) E194.1) (Nat.le_of_eq W195.size.symm)) (Nat.le_of_eq W200.size.symm)) (Nat.le_of_eq W201.size.symm)) E202.1) K212.1) E222.1) K229.1) E239.1) K246.1) E1473.1) K1476.1) z1492
    have K2529 := K2527.trans K1644 (allS (Or.inr z2528) (allS (Or.inr z2530) all0))
    have K2531 := K2529.trans K1728 (allS (Or.inr z2528) (allS (Or.inr z2530) all0))
    have K2532 := K2531.trans K1739 all0
    have K2533 := K2532.trans K1804 (allS (Or.inr z2528) (allS (Or.inr z2530) all0))
    have K2534 := K2533.trans K2479 all0
    exact o20 X2502 hx hlk hret rfl (Or.inl ⟨rfl, by simp, _, rfl⟩) (hb hby at_358) (by decide) (by decide) (show Qrm0 Z wcs wd mOA mSL mAL kd xa xb k h0 n0 (some (.int 1)) T2502.heap _ from (by rw [e2502]; exact ⟨rfl, N2502, K2534⟩))
  · rw [hn]
    show o17 p e below _ (T246.setTop (mkF m 120 #[.val (.int xa), .val (.int xb), .val (.int k), .val (.ref b185), .val (.ref b188), .val (.ref b194), .val (.ref b202), .val (.ref b222), .val (.ref b239), .unset, .unset, .unset, .unset, .unset, .unset] [.int 3]))
    refine o2 (fun u j => o30 X246.here hx rfl (hb hby at_120) rfl (l' := #[.val (.int xa), .val (.int xb), .val (.int k), .val (.ref b185), .val (.ref b188), .val (.ref b194), .val (.ref b202), .val (.ref b222), .val (.ref b239), .val (.int 3), .unset, .unset, .unset, .unset, .unset]) rfl j) ?_
    have q_ := newO X246 hx hZ hown (o0 hw 31 rfl) (o0 hw 32 rfl) (o0 hw 33 rfl) rfl (g := (mkF m 122 #[.val (.int xa), .val (.int xb), .val (.int k), .val (.ref b185), .val (.ref b188), .val (.ref b194), .val (.ref b202), .val (.ref b222), .val (.ref b239), .val (.int 3), .unset, .unset, .unset, .unset, .unset] [])) rfl (hb hby at_122) (by decide) (by decide)
    obtain ⟨T2535, h2535, X2535, e2535, E2535, A2535, D2535, U2535, st2535⟩ := q_
    have q_ : ∃ z, z = T246.heap.size := ⟨_, rfl⟩
    obtain ⟨b2535, g2535⟩ := q_
    rw [← g2535] at A2535 D2535 U2535 st2535
    have F2535_path : Fld Z h2535 b2535 o54 "path" o66 .null := D2535 (Or.inr (o0 hw 63 rfl)) (ty := (.object "java/util/List")) o605
    refine o2 (fun u j => st2535 u j) ?_
    refine o2 (fun u j => o40 X2535.here hx rfl (hb hby at_125) rfl rfl j) ?_
    have O2537 := O247.keep K246 (allS g241 all0)
    have g2536 := Nat.le_trans (o52 O2537) (Nat.le_of_eq g2535.symm)
    have O2539 := O2537.ext E2535
    refine o11 (o50 X2535 hx hZ (y := o638) rfl hown (o0 hw 34 rfl) (o0 hw 35 rfl) (o0 hw 33 rfl) (o0 hw 36 rfl) o44 (o885 l Z a0 hw [] wcs wd mOA mSL mAL kd hS b2535 h2535 n0 O2539 A2535 F2535_path g2536) e2535 o59 (a := b2535) (argsL := []) (rest := [.ref b2535]) rfl rfl (g := (mkF m 126 #[.val (.int xa), .val (.int xb), .val (.int k), .val (.ref b185), .val (.ref b188), .val (.ref b194), .val (.ref b202), .val (.ref b222), .val (.ref b239), .val (.int 3), .unset, .unset, .unset, .unset, .unset] [.ref b2535, .ref b2535])) rfl (by rw [hml]; rfl) rfl (hb hby at_126) (W := 1) rfl (by decide) (by decide) (by decide) (by decide)) ?_
    intro T2538 v2538 L2538 X2538 hQ2538
    obtain ⟨nz0_2540, rfl, M2538, K2538, z2541, F2542, F2543, F2544, F2545, F2546, F2547⟩ := hQ2538
    have N2538 := Fr.app N246 M2538
    refine o2 (fun u j => o37 X2538.here hx rfl (hb hby at_129) rfl rfl (l' := #[.val (.int xa), .val (.int xb), .val (.int k), .val (.ref b185), .val (.ref b188), .val (.ref b194), .val (.ref b202), .val (.ref b222), .val (.ref b239), .val (.int 3), .val (.ref b2535), .unset, .unset, .unset, .unset]) rfl (o12 X2538.here hx rfl (hb hby at_131) rfl rfl (o12 X2538.here hx rfl (hb hby at_133) rfl rfl j))) ?_
    have F2548 := ((Exa.ext E2535 ((Exa.ext E239 ((Exa.ext E222 F217).keep K229)).keep K246)).keep K2538)
    have g2549 := Nat.le_trans (o52 O2539) z2541
    have O2551 := O2539.keep K2538 (allS g2536 all0)
    refine o11 (o26 X2538 hx hZ (y := o63) (z := o63) hown (o0 hw 64 rfl) (o0 hw 65 rfl) (notFace_of_selects (args := #[]) (mvT hZ (o0 hw 67 rfl))) (o0 hw 67 rfl) (o0 hw 66 rfl) (o0 hw 33 rfl) (o0 hw 68 rfl) o44 (o850 l Z a0 hw [] wcs wd mOA mSL mAL kd hS b2535 b202 nz0_2540 (0 : Int32) T2538.heap n0 O2551 F2542 F2543 F2548 F2544 F2545 F2546 F2547 g2549) rfl F2542 o202 (argsL := [.ref b202]) (rest := []) rfl rfl (g := (mkF m 135 #[.val (.int xa), .val (.int xb), .val (.int k), .val (.ref b185), .val (.ref b188), .val (.ref b194), .val (.ref b202), .val (.ref b222), .val (.ref b239), .val (.int 3), .val (.ref b2535), .unset, .unset, .unset, .unset] [.ref b202, .ref b2535])) rfl (by rw [hml]; rfl) rfl (hb hby at_135) (W := 0) rfl (by decide) (by decide) (by decide) (by decide)) ?_
    intro T2550 v2550 L2550 X2550 hQ2550
    obtain ⟨nz0_2552, kz1_2553, rfl, M2550, K2550, z2554, F2555, F2556, F2557, F2558, F2559, F2560, ov0_2561⟩ := hQ2550
    have N2550 := Fr.app N2538 M2550
    refine o2 (fun u j => o55 X2550.here hx rfl (hb hby at_138) rfl rfl (o10 X2550.here hx rfl (hb hby at_139) rfl (o5 X2550.here hx rfl (hb hby at_141) (o28 X2550.here hx rfl (hb hby at_142) rfl (XT.ii_lt_f (by decide)) (o12 X2550.here hx rfl (hb hby at_145) rfl rfl (o12 X2550.here hx rfl (hb hby at_147) rfl rfl j)))))) ?_
    show o17 p e below _ (T2550.setTop (mkF m 149 #[.val (.int xa), .val (.int xb), .val (.int k), .val (.ref b185), .val (.ref b188), .val (.ref b194), .val (.ref b202), .val (.ref b222), .val (.ref b239), .val (.int 3), .val (.ref b2535), .unset, .unset, .unset, .unset] [.ref b222, .ref b2535]))
    have F2562 := (F2542.keep K2550)
    have ne2563 := (Nat.ne_of_lt (Nat.lt_of_lt_of_le A2535.lt z2541))
    have F2564 := (F2543.keep K2550 (ninS ne2563 nin0))
    have F2565 := (((Exa.ext E2535 ((Exa.ext E239 F234).keep K246)).keep K2538).keep K2550)
    have ne2566 := (Nat.ne_of_lt (Nat.lt_of_lt_of_le F234.lt (Nat.le_of_eq g239.symm)))
    have ne2567 := (Nat.ne_of_lt (Nat.lt_of_lt_of_le (Nat.lt_of_lt_of_le F234.lt (Nat.le_trans E239.1 K246.1)) (Nat.le_of_eq g2535.symm)))
    have ne2568 := (Nat.ne_of_lt (Nat.lt_of_lt_of_le (Nat.lt_of_lt_of_le F234.lt (Nat.le_trans (Nat.le_trans E239.1 K246.1) E2535.1)) z2541))
    have F2569 := (((Fld.ext E2535 ((Fld.ext E239 F236).keep K246 (ninS ne2566 nin0))).keep K2538 (ninS ne2567 nin0)).keep K2550 (ninS ne2568 nin0))
    have F2570 := (((Fld.ext E2535 ((Fld.ext E239 F235).keep K246 (ninS ne2566 nin0))).keep K2538 (ninS ne2567 nin0)).keep K2550 (ninS ne2568 nin0))
    have ne2571 := (Nat.ne_of_lt (Nat.lt_of_lt_of_le F237.lt (Nat.le_of_eq g239.symm)))
    have ne2572 := (Nat.ne_of_lt (Nat.lt_of_lt_of_le (Nat.lt_of_lt_of_le F237.lt (Nat.le_trans E239.1 K246.1)) (Nat.le_of_eq g2535.symm)))
    have ne2573 := (Nat.ne_of_lt (Nat.lt_of_lt_of_le (Nat.lt_of_lt_of_le F237.lt (Nat.le_trans (Nat.le_trans E239.1 K246.1) E2535.1)) z2541))
    have F2574 := (((((F238.ext E239).keep K246 (ninS ne2571 nin0)).ext E2535).keep K2538 (ninS ne2572 nin0)).keep K2550 (ninS ne2573 nin0))
    have F2575 := (F2548.keep K2550)
    have ne2576 := (Nat.ne_of_lt (Nat.lt_of_lt_of_le F217.lt (Nat.le_of_eq g222.symm)))
    have ne2577 := (Nat.ne_of_lt (Nat.lt_of_lt_of_le (Nat.lt_of_lt_of_le F217.lt (Nat.le_trans E222.1 K229.1)) (Nat.le_of_eq g239.symm)))
    have ne2578 := (Nat.ne_of_lt (Nat.lt_of_lt_of_le (Nat.lt_of_lt_of_le F217.lt (Nat.le_trans (Nat.le_trans (Nat.le_trans E222.1 K229.1) E239.1) K246.1)) (Nat.le_of_eq g2535.symm)))
    have ne2579 := (Nat.ne_of_lt (Nat.lt_of_lt_of_le (Nat.lt_of_lt_of_le F217.lt (Nat.le_trans (Nat.le_trans (Nat.le_trans (Nat.le_trans E222.1 K229.1) E239.1) K246.1) E2535.1)) z2541))
    have F2580 := (((Fld.ext E2535 ((Fld.ext E239 ((Fld.ext E222 F219).keep K229 (ninS ne2576 nin0))).keep K246 (ninS ne2577 nin0))).keep K2538 (ninS ne2578 nin0)).keep K2550 (ninS ne2579 nin0))
    have F2581 := (((Fld.ext E2535 ((Fld.ext E239 ((Fld.ext E222 F218).keep K229 (ninS ne2576 nin0))).keep K246 (ninS ne2577 nin0))).keep K2538 (ninS ne2578 nin0)).keep K2550 (ninS ne2579 nin0))
    have ne2582 := (Nat.ne_of_lt (Nat.lt_of_lt_of_le F220.lt (Nat.le_of_eq g222.symm)))
    have ne2583 := (Nat.ne_of_lt (Nat.lt_of_lt_of_le (Nat.lt_of_lt_of_le F220.lt (Nat.le_trans E222.1 K229.1)) (Nat.le_of_eq g239.symm)))
    have ne2584 := (Nat.ne_of_lt (Nat.lt_of_lt_of_le (Nat.lt_of_lt_of_le F220.lt (Nat.le_trans (Nat.le_trans (Nat.le_trans E222.1 K229.1) E239.1) K246.1)) (Nat.le_of_eq g2535.symm)))
    have ne2585 := (Nat.ne_of_lt (Nat.lt_of_lt_of_le (Nat.lt_of_lt_of_le F220.lt (Nat.le_trans (Nat.le_trans (Nat.le_trans (Nat.le_trans E222.1 K229.1) E239.1) K246.1) E2535.1)) z2541))
    have F2586 := (((((((F221.ext E222).keep K229 (ninS ne2582 nin0)).ext E239).keep K246 (ninS ne2583 nin0)).ext E2535).keep K2538 (ninS ne2584 nin0)).keep K2550 (ninS ne2585 nin0))
    have g2587 := Nat.le_trans (o52 O2551) z2554
    have O2589 := O2551.keep K2550 (allS g2549 all0)
    refine o11 (o26 X2550 hx hZ (y := o63) (z := o63) hown (o0 hw 64 rfl) (o0 hw 65 rfl) (notFace_of_selects (args := #[]) (mvT hZ (o0 hw 67 rfl))) (o0 hw 67 rfl) (o0 hw 66 rfl) (o0 hw 33 rfl) (o0 hw 68 rfl) o44 (o873 l Z a0 hw [] wcs wd mOA mSL mAL kd hS b2535 b222 nz0_2540 r_231 ((0 : Int32) + (1 : Int32)) nz0_2552 kr_232 (2 : Int32) [(.int (((((xa.toUInt32 >>> ((8 : Int32) &&& 31).toUInt32).toInt32) &&& (255 : Int32)).toUInt32.toUInt16.toUInt32.toInt32).toInt8.toInt32)), (.int (((((xa.toUInt32 >>> ((16 : Int32) &&& 31).toUInt32).toInt32) &&& (255 : Int32)).toUInt32.toUInt16.toUInt32.toInt32).toInt8.toInt32))] kz1_2553 b202 r_214 kr_215 (1 : Int32) [(.int (((xa &&& (255 : Int32)).toUInt32.toUInt16.toUInt32.toInt32).toInt8.toInt32))] T2550.heap n0 O2589 F2562 F2564 F2565 F2569 F2570 F2555 F2556 F2557 F2558 F2574 F2559 F2560 F2575 F2580 F2581 F2586 ov0_2561 (by decide) g2549 g2587 (Ne.symm ne2576)) rfl F2562 o202 (argsL := [.ref b222]) (rest := []) rfl rfl (g := (mkF m 149 #[.val (.int xa), .val (.int xb), .val (.int k), .val (.ref b185), .val (.ref b188), .val (.ref b194), .val (.ref b202), .val (.ref b222), .val (.ref b239), .val (.int 3), .val (.ref b2535), .unset, .unset, .unset, .unset] [.ref b222, .ref b2535])) rfl (by rw [hml]; rfl) rfl (hb hby at_149) (W := 0) rfl (by decide) (by decide) (by decide) (by decide)) ?_
    intro T2588 v2588 L2588 X2588 hQ2588
    obtain ⟨rfl, M2588, K2588, F2590, F2591, F2592, F2593, F2594, F2595⟩ := hQ2588
    have N2588 := Fr.app N2550 M2588
    refine o2 (fun u j => o55 X2588.here hx rfl (hb hby at_152) rfl rfl (o10 X2588.here hx rfl (hb hby at_153) rfl (o5 X2588.here hx rfl (hb hby at_155) (o28 X2588.here hx rfl (hb hby at_156) rfl (XT.ii_lt_f (by decide)) (o12 X2588.here hx rfl (hb hby at_159) rfl rfl (o12 X2588.here hx rfl (hb hby at_161) rfl rfl j)))))) ?_
    show o17 p e below _ (T2588.setTop (mkF m 163 #[.val (.int xa), .val (.int xb), .val (.int k), .val (.ref b185), .val (.ref b188), .val (.ref b194), .val (.ref b202), .val (.ref b222), .val (.ref b239), .val (.int 3), .val (.ref b2535), .unset, .unset, .unset, .unset] [.ref b239, .ref b2535]))
    have F2694 := (F2562.keep K2588)
    have ne2695 := (Nat.ne_of_lt (Nat.lt_of_lt_of_le F2542.lt z2554))
    have F2696 := (F2564.keep K2588 (ninS ne2563 (ninS ne2695 nin0)))
    have F2697 := ((((Exa.ext E2535 F251).keep K2538).keep K2550).keep K2588)
    have ne2698 := (Nat.ne_of_lt (Nat.lt_of_lt_of_le F251.lt (Nat.le_of_eq g2535.symm)))
    have ne2699 := (Nat.ne_of_lt (Nat.lt_of_lt_of_le (Nat.lt_of_lt_of_le F251.lt E2535.1) z2541))
    have ne2700 := (Nat.ne_of_lt (Nat.lt_of_lt_of_le (Nat.lt_of_lt_of_le F251.lt (Nat.le_trans E2535.1 K2538.1)) z2554))
    have F2701 := ((((Fld.ext E2535 F253).keep K2538 (ninS ne2698 nin0)).keep K2550 (ninS ne2699 nin0)).keep K2588 (ninS ne2699 (ninS ne2700 nin0)))
    have F2702 := ((((Fld.ext E2535 F252).keep K2538 (ninS ne2698 nin0)).keep K2550 (ninS ne2699 nin0)).keep K2588 (ninS ne2699 (ninS ne2700 nin0)))
    have ne2703 := (Nat.ne_of_lt (Nat.lt_of_lt_of_le F254.lt (Nat.le_of_eq g2535.symm)))
    have ne2704 := (Nat.ne_of_lt (Nat.lt_of_lt_of_le (Nat.lt_of_lt_of_le F254.lt E2535.1) z2541))
    have ne2705 := (Nat.ne_of_lt (Nat.lt_of_lt_of_le (Nat.lt_of_lt_of_le F254.lt (Nat.le_trans E2535.1 K2538.1)) z2554))
    have F2706 := ((((F255.ext E2535).keep K2538 (ninS ne2703 nin0)).keep K2550 (ninS ne2704 nin0)).keep K2588 (ninS ne2704 (ninS ne2705 nin0)))
    have F2707 := (F2575.keep K2588)
    have ne2708 := (Nat.ne_of_lt (Nat.lt_of_lt_of_le F2548.lt z2554))
    have F2709 := (F2580.keep K2588 (ninS ne2579 (ninS ne2708 nin0)))
    have F2710 := (F2581.keep K2588 (ninS ne2579 (ninS ne2708 nin0)))
    have F2711 := (F2565.keep K2588)
    have ne2712 := (Nat.ne_of_lt (Nat.lt_of_lt_of_le (Nat.lt_of_lt_of_le F234.lt (Nat.le_trans (Nat.le_trans (Nat.le_trans E239.1 K246.1) E2535.1) K2538.1)) z2554))
    have F2713 := (F2569.keep K2588 (ninS ne2568 (ninS ne2712 nin0)))
    have F2714 := (F2570.keep K2588 (ninS ne2568 (ninS ne2712 nin0)))
    have ne2715 := (Nat.ne_of_lt (Nat.lt_of_lt_of_le (Nat.lt_of_lt_of_le F220.lt (Nat.le_trans (Nat.le_trans (Nat.le_trans (Nat.le_trans (Nat.le_trans E222.1 K229.1) E239.1) K246.1) E2535.1) K2538.1)) z2554))
    have F2716 := (F2586.keep K2588 (ninS ne2585 (ninS ne2715 nin0)))
    have ne2717 := (Nat.ne_of_lt (Nat.lt_of_lt_of_le (Nat.lt_of_lt_of_le F237.lt (Nat.le_trans (Nat.le_trans (Nat.le_trans E239.1 K246.1) E2535.1) K2538.1)) z2554))
    have F2718 := (F2574.keep K2588 (ninS ne2573 (ninS ne2717 nin0)))
    have O2720 := O2589.keep K2588 (allS g2549 (allS g2587 all0))
    refine o11 (o26 X2588 hx hZ (y := o63) (z := o63) hown (o0 hw 64 rfl) (o0 hw 65 rfl) (notFace_of_selects (args := #[]) (mvT hZ (o0 hw 67 rfl))) (o0 hw 67 rfl) (o0 hw 66 rfl) (o0 hw 33 rfl) (o0 hw 68 rfl) o44 (o892 l Z a0 hw [] wcs wd mOA mSL mAL kd hS b2535 b239 nz0_2540 r_248 (((0 : Int32) + (1 : Int32)) + (1 : Int32)) nz0_2552 kr_249 (3 : Int32) [(.int (((((xa.toUInt32 >>> ((24 : Int32) &&& 31).toUInt32).toInt32) &&& (255 : Int32)).toUInt32.toUInt16.toUInt32.toInt32).toInt8.toInt32)), (.int (((xb &&& (255 : Int32)).toUInt32.toUInt16.toUInt32.toInt32).toInt8.toInt32)), (.int (((((xb.toUInt32 >>> ((8 : Int32) &&& 31).toUInt32).toInt32) &&& (255 : Int32)).toUInt32.toUInt16.toUInt32.toInt32).toInt8.toInt32))] kz1_2553 b202 b222 r_214 r_231 kr_215 (1 : Int32) [(.int (((xa &&& (255 : Int32)).toUInt32.toUInt16.toUInt32.toInt32).toInt8.toInt32))] kr_232 (2 : Int32) [(.int (((((xa.toUInt32 >>> ((8 : Int32) &&& 31).toUInt32).toInt32) &&& (255 : Int32)).toUInt32.toUInt16.toUInt32.toInt32).toInt8.toInt32)), (.int (((((xa.toUInt32 >>> ((16 : Int32) &&& 31).toUInt32).toInt32) &&& (255 : Int32)).toUInt32.toUInt16.toUInt32.toInt32).toInt8.toInt32))] T2588.heap n0 O2720 F2694 F2696 F2697 F2701 F2702 F2590 F2591 F2592 F2593 F2706 F2594 F2595 F2707 F2709 F2710 F2711 F2713 F2714 F2716 F2718 ov0_2561 (by decide) (by decide) g2549 g2587 (Ne.symm ne2577) (Ne.symm ne2566)) rfl F2694 o202 (argsL := [.ref b239]) (rest := []) rfl rfl (g := (mkF m 163 #[.val (.int xa), .val (.int xb), .val (.int k), .val (.ref b185), .val (.ref b188), .val (.ref b194), .val (.ref b202), .val (.ref b222), .val (.ref b239), .val (.int 3), .val (.ref b2535), .unset, .unset, .unset, .unset] [.ref b239, .ref b2535])) rfl (by rw [hml]; rfl) rfl (hb hby at_163) (W := 0) rfl (by decide) (by decide) (by decide) (by decide)) ?_
    intro T2719 v2719 L2719 X2719 hQ2719
    obtain ⟨rfl, M2719, K2719, F2721, F2722, F2723, F2724, F2725, F2726⟩ := hQ2719
    have N2719 := Fr.app N2588 M2719
    refine o2 (fun u j => o55 X2719.here hx rfl (hb hby at_166) rfl rfl (o10 X2719.here hx rfl (hb hby at_167) rfl (o5 X2719.here hx rfl (hb hby at_169) (o23 X2719.here hx rfl (pc0 := 170) (pc' := 178) rfl (hb hby at_170) rfl (o139 (by decide)) (by decide) (by decide) (o10 X2719.here hx rfl (hb hby at_178) rfl (o5 X2719.here hx rfl (hb hby at_180) j)))))) ?_
    show o17 p e below _ (T2719.setTop (mkF m 181 #[.val (.int xa), .val (.int xb), .val (.int k), .val (.ref b185), .val (.ref b188), .val (.ref b194), .val (.ref b202), .val (.ref b222), .val (.ref b239), .val (.int 3), .val (.ref b2535), .unset, .unset, .unset, .unset] [.int 2, .int 3]))
    refine o2 (fun u j => o23 X2719.here hx rfl (pc0 := 181) (pc' := 189) rfl (hb hby at_181) rfl (o139 (by decide)) (by decide) (by decide) (o12 X2719.here hx rfl (hb hby at_189) rfl rfl (o37 X2719.here hx rfl (hb hby at_191) rfl rfl (l' := #[.val (.int xa), .val (.int xb), .val (.int k), .val (.ref b185), .val (.ref b188), .val (.ref b194), .val (.ref b202), .val (.ref b222), .val (.ref b239), .val (.int 3), .val (.ref b2535), .val (.ref b239), .unset, .unset, .unset]) rfl (o12 X2719.here hx rfl (hb hby at_193) rfl rfl j)))) ?_
    have F2801 := (F2696.keep K2719 (ninS ne2563 (ninS ne2695 nin0)))
    have O2803 := O2720.keep K2719 (allS g2549 (allS g2587 all0))
    have F2804 := (F2694.keep K2719)
    refine o11 (o26 X2719 hx hZ (y := o255) (z := o255) hown (o0 hw 133 rfl) (o0 hw 134 rfl) (notFace_of_selects (args := #[]) (mvT hZ (o0 hw 136 rfl))) (o0 hw 136 rfl) (o0 hw 135 rfl) (o0 hw 33 rfl) (o0 hw 137 rfl) o44 (o979 l Z a0 hw [] wcs wd mOA mSL mAL kd hS b2535 nz0_2540 ((((0 : Int32) + (1 : Int32)) + (1 : Int32)) + (1 : Int32)) nz0_2552 kz1_2553 b202 b222 b239 T2719.heap n0 O2803 F2801 F2721 F2722 F2723 F2724 F2725 F2726 g2549 g2587) rfl F2804 o59 (argsL := []) (rest := []) rfl rfl (g := (mkF m 195 #[.val (.int xa), .val (.int xb), .val (.int k), .val (.ref b185), .val (.ref b188), .val (.ref b194), .val (.ref b202), .val (.ref b222), .val (.ref b239), .val (.int 3), .val (.ref b2535), .val (.ref b239), .unset, .unset, .unset] [.ref b2535])) rfl (by rw [hml]; rfl) rfl (hb hby at_195) (W := 0) rfl (by decide) (by decide) (by decide) (by decide)) ?_
    intro T2802 v2802 L2802 X2802 hQ2802
    obtain ⟨rfl, M2802, K2802, F2805, F2806, F2807, F2808, F2809, F2810⟩ := hQ2802
    have N2802 := Fr.app N2719 M2802
    refine o2 (fun u j => o10 X2802.here hx rfl (hb hby at_198) rfl (o5 X2802.here hx rfl (hb hby at_200) (o38 X2802.here hx rfl (hb hby at_201) rfl (o30 X2802.here hx rfl (hb hby at_202) rfl (l' := #[.val (.int xa), .val (.int xb), .val (.int k), .val (.ref b185), .val (.ref b188), .val (.ref b194), .val (.ref b202), .val (.ref b222), .val (.ref b239), .val (.int 3), .val (.ref b2535), .val (.ref b239), .val (.int 2), .unset, .unset]) rfl (o12 X2802.here hx rfl (hb hby at_204) rfl rfl (o12 X2802.here hx rfl (hb hby at_206) rfl rfl j)))))) ?_
    show o17 p e below _ (T2802.setTop (mkF m 208 #[.val (.int xa), .val (.int xb), .val (.int k), .val (.ref b185), .val (.ref b188), .val (.ref b194), .val (.ref b202), .val (.ref b222), .val (.ref b239), .val (.int 3), .val (.ref b2535), .val (.ref b239), .val (.int 2), .unset, .unset] [.ref b202, .ref b2535]))
    have F2811 := (F2801.keep K2802 (ninS ne2563 (ninS ne2695 nin0)))
    have F2812 := ((F2707.keep K2719).keep K2802)
    have F2813 := ((F2711.keep K2719).keep K2802)
    have O2815 := O2803.keep K2802 (allS g2549 (allS g2587 all0))
    have F2816 := (F2804.keep K2802)
    refine o11 (o26 X2802 hx hZ (y := o39) (z := o39) hown (o0 hw 167 rfl) (o0 hw 70 rfl) (notFace_of_selects (args := #[]) (mvT hZ (o0 hw 72 rfl))) (o0 hw 72 rfl) (o0 hw 71 rfl) (o0 hw 33 rfl) (o0 hw 73 rfl) o44 (o890 l Z a0 hw [] wcs wd mOA mSL mAL kd hS b2535 b202 nz0_2540 (((((0 : Int32) + (1 : Int32)) + (1 : Int32)) + (1 : Int32)) + (1 : Int32)) nz0_2552 kz1_2553 b222 T2802.heap n0 O2815 F2811 F2812 F2805 F2806 F2807 F2808 F2809 F2810 F2813) rfl F2816 o77 (argsL := [.ref b202]) (rest := []) rfl rfl (g := (mkF m 208 #[.val (.int xa), .val (.int xb), .val (.int k), .val (.ref b185), .val (.ref b188), .val (.ref b194), .val (.ref b202), .val (.ref b222), .val (.ref b239), .val (.int 3), .val (.ref b2535), .val (.ref b239), .val (.int 2), .unset, .unset] [.ref b202, .ref b2535])) rfl (by rw [hml]; rfl) rfl (hb hby at_208) (W := 0) rfl (by decide) (by decide) (by decide) (by decide)) ?_
    intro T2814 v2814 L2814 X2814 hQ2814
    obtain ⟨nz0_2817, nz1_2818, kz2_2819, rfl, M2814, K2814, z2820, z2821, F2822, F2823, F2824, F2825, F2826, F2827, ov0_2828⟩ := hQ2814
    have N2814 := Fr.app N2802 M2814
    refine o2 (fun u j => o12 X2814.here hx rfl (hb hby at_211) rfl rfl (o5 X2814.here hx rfl (hb hby at_213) (o10 X2814.here hx rfl (hb hby at_214) rfl (o12 X2814.here hx rfl (hb hby at_216) rfl rfl j)))) ?_
    have F2849 := (F2812.keep K2814)
    have F2850 := (F2813.keep K2814)
    have O2852 := O2815.keep K2814 all0
    refine o11 (o25 X2814 hx hZ (y := o187) hown (o0 hw 263 rfl) (o0 hw 264 rfl) (o0 hw 265 rfl) (o0 hw 266 rfl) o203 (o980 l Z a0 hw [] wcs wd mOA mSL mAL kd hS nz0_2817 b202 b222 nz1_2818 kz2_2819 T2814.heap n0 O2852 F2822 F2824 F2825 F2849 F2850 F2827) rfl o204 (argsL := [.ref nz0_2817, .ref b202, .int 0, .int 2, .ref b222]) (rest := []) rfl rfl (g := (mkF m 218 #[.val (.int xa), .val (.int xb), .val (.int k), .val (.ref b185), .val (.ref b188), .val (.ref b194), .val (.ref b202), .val (.ref b222), .val (.ref b239), .val (.int 3), .val (.ref b2535), .val (.ref b239), .val (.int 2), .unset, .unset] [.ref b222, .int 2, .int 0, .ref b202, .ref nz0_2817])) rfl (by rw [hml]; rfl) rfl (hb hby at_218) (W := 0) rfl (by decide) (by decide) (by decide) (by decide)) ?_
    intro T2851 v2851 L2851 X2851 hQ2851
    obtain ⟨rfl, M2851, e2851⟩ := hQ2851
    have N2851 := Fr.app N2814 M2851
    refine o2 (fun u j => o34 X2851.here hx rfl (hb hby at_221) rfl (o33 (by decide)) (o12 X2851.here hx rfl (hb hby at_224) rfl rfl (o12 X2851.here hx rfl (hb hby at_226) rfl rfl j))) ?_
    have F3265 := (F2811.keep K2814 nin0)
    have F3266 := (((F2713.keep K2719 (ninS ne2568 (ninS ne2712 nin0))).keep K2802 (ninS ne2568 (ninS ne2712 nin0))).keep K2814 nin0)
    have F3267 := (((F2714.keep K2719 (ninS ne2568 (ninS ne2712 nin0))).keep K2802 (ninS ne2568 (ninS ne2712 nin0))).keep K2814 nin0)
    have F3268 := (F2805.keep K2814)
    have F3269 := (F2806.keep K2814 nin0)
    have F3270 := (F2807.keep K2814 nin0)
    have F3271 := (F2808.keep K2814 nin0)
    have F3272 := (((F2718.keep K2719 (ninS ne2573 (ninS ne2717 nin0))).keep K2802 (ninS ne2573 (ninS ne2717 nin0))).keep K2814 nin0)
    have F3273 := (F2809.keep K2814)
    have F3274 := (F2810.keep K2814 nin0)
    have F3275 := (((F2709.keep K2719 (ninS ne2579 (ninS ne2708 nin0))).keep K2802 (ninS ne2579 (ninS ne2708 nin0))).keep K2814 nin0)
    have F3276 := (((F2710.keep K2719 (ninS ne2579 (ninS ne2708 nin0))).keep K2802 (ninS ne2579 (ninS ne2708 nin0))).keep K2814 nin0)
    have F3277 := (((F2716.keep K2719 (ninS ne2585 (ninS ne2715 nin0))).keep K2802 (ninS ne2585 (ninS ne2715 nin0))).keep K2814 nin0)
    have F3279 := (F2816.keep K2814)
    refine o11 (o26 X2851 hx hZ (y := o39) (z := o39) hown (o0 hw 167 rfl) (o0 hw 70 rfl) (notFace_of_selects (args := #[]) (mvT hZ (o0 hw 72 rfl))) (o0 hw 72 rfl) (o0 hw 71 rfl) (o0 hw 33 rfl) (o0 hw 73 rfl) o44 (o989 l Z a0 hw [] wcs wd mOA mSL mAL kd hS b2535 b222 nz0_2540 r_231 (((((0 : Int32) + (1 : Int32)) + (1 : Int32)) + (1 : Int32)) + (1 : Int32)) nz0_2552 kr_232 (2 : Int32) [(.int (((((xa.toUInt32 >>> ((8 : Int32) &&& 31).toUInt32).toInt32) &&& (255 : Int32)).toUInt32.toUInt16.toUInt32.toInt32).toInt8.toInt32)), (.int (((((xa.toUInt32 >>> ((16 : Int32) &&& 31).toUInt32).toInt32) &&& (255 : Int32)).toUInt32.toUInt16.toUInt32.toInt32).toInt8.toInt32))] kz1_2553 b202 r_214 kr_215 (1 : Int32) [(.int (((xa &&& (255 : Int32)).toUInt32.toUInt16.toUInt32.toInt32).toInt8.toInt32))] T2814.heap n0 O2852 F3265 F2850 F3266 F3267 F3268 F3269 F3270 F3271 F3272 F3273 F3274 F2849 F3275 F3276 F3277 (by decide) (Ne.symm ne2576)) e2851 F3279 o77 (argsL := [.ref b222]) (rest := []) rfl rfl (g := (mkF m 228 #[.val (.int xa), .val (.int xb), .val (.int k), .val (.ref b185), .val (.ref b188), .val (.ref b194), .val (.ref b202), .val (.ref b222), .val (.ref b239), .val (.int 3), .val (.ref b2535), .val (.ref b239), .val (.int 2), .unset, .unset] [.ref b222, .ref b2535])) rfl (by rw [hml]; rfl) rfl (hb hby at_228) (W := 0) rfl (by decide) (by decide) (by decide) (by decide)) ?_
    intro T3278 v3278 L3278 X3278 hQ3278
    obtain ⟨nz0_3280, nz1_3281, kz2_3282, rfl, M3278, K3278, z3283, z3284, F3285, F3286, F3287, F3288, F3289, F3290, ov0_3291⟩ := hQ3278
    have N3278 := Fr.app N2851 M3278
    refine o2 (fun u j => o12 X3278.here hx rfl (hb hby at_231) rfl rfl (o5 X3278.here hx rfl (hb hby at_233) (o10 X3278.here hx rfl (hb hby at_234) rfl (o12 X3278.here hx rfl (hb hby at_236) rfl rfl j)))) ?_
    have F3306 := (F2850.keep K3278)
    have O3308 := O2852.keep K3278 all0
    refine o11 (o25 X3278 hx hZ (y := o187) hown (o0 hw 263 rfl) (o0 hw 264 rfl) (o0 hw 265 rfl) (o0 hw 266 rfl) o203 (o990 l Z a0 hw [] wcs wd mOA mSL mAL kd hS nz0_3280 b222 b239 nz1_3281 kz2_3282 T3278.heap n0 O3308 F3285 F3287 F3288 F3306 F3290) rfl o204 (argsL := [.ref nz0_3280, .ref b222, .int 1, .int 2, .ref b239]) (rest := []) rfl rfl (g := (mkF m 238 #[.val (.int xa), .val (.int xb), .val (.int k), .val (.ref b185), .val (.ref b188), .val (.ref b194), .val (.ref b202), .val (.ref b222), .val (.ref b239), .val (.int 3), .val (.ref b2535), .val (.ref b239), .val (.int 2), .unset, .unset] [.ref b239, .int 2, .int 1, .ref b222, .ref nz0_3280])) rfl (by rw [hml]; rfl) rfl (hb hby at_238) (W := 0) rfl (by decide) (by decide) (by decide) (by decide)) ?_
    intro T3307 v3307 L3307 X3307 hQ3307
    obtain ⟨rfl, M3307, e3307⟩ := hQ3307
    have N3307 := Fr.app N3278 M3307
    refine o2 (fun u j => o34 X3307.here hx rfl (hb hby at_241) rfl (o33 (by decide)) (o12 X3307.here hx rfl (hb hby at_244) rfl rfl (o12 X3307.here hx rfl (hb hby at_246) rfl rfl j))) ?_
    have F3309 := (F3265.keep K3278 nin0)
    have F3310 := ((((F2697.keep K2719).keep K2802).keep K2814).keep K3278)
    have F3311 := ((((F2701.keep K2719 (ninS ne2699 (ninS ne2700 nin0))).keep K2802 (ninS ne2699 (ninS ne2700 nin0))).keep K2814 nin0).keep K3278 nin0)
    have F3312 := ((((F2702.keep K2719 (ninS ne2699 (ninS ne2700 nin0))).keep K2802 (ninS ne2699 (ninS ne2700 nin0))).keep K2814 nin0).keep K3278 nin0)
    have F3313 := (F3268.keep K3278)
    have F3314 := (F3270.keep K3278 nin0)
    have F3315 := (F3271.keep K3278 nin0)
    have F3316 := ((((F2706.keep K2719 (ninS ne2704 (ninS ne2705 nin0))).keep K2802 (ninS ne2704 (ninS ne2705 nin0))).keep K2814 nin0).keep K3278 nin0)
    have F3317 := (F3274.keep K3278 nin0)
    have F3318 := (F2849.keep K3278)
    have F3319 := (F3275.keep K3278 nin0)
    have F3320 := (F3276.keep K3278 nin0)
    have F3321 := (F3266.keep K3278 nin0)
    have F3322 := (F3267.keep K3278 nin0)
    have F3323 := (F3277.keep K3278 nin0)
    have F3324 := (F3272.keep K3278 nin0)
    have F3326 := (F3279.keep K3278)
    refine o11 (o26 X3307 hx hZ (y := o39) (z := o39) hown (o0 hw 167 rfl) (o0 hw 70 rfl) (notFace_of_selects (args := #[]) (mvT hZ (o0 hw 72 rfl))) (o0 hw 72 rfl) (o0 hw 71 rfl) (o0 hw 33 rfl) (o0 hw 73 rfl) o44 (o891 l Z a0 hw [] wcs wd mOA mSL mAL kd hS b2535 b239 nz0_2540 r_248 nz0_2552 kr_249 (3 : Int32) [(.int (((((xa.toUInt32 >>> ((24 : Int32) &&& 31).toUInt32).toInt32) &&& (255 : Int32)).toUInt32.toUInt16.toUInt32.toInt32).toInt8.toInt32)), (.int (((xb &&& (255 : Int32)).toUInt32.toUInt16.toUInt32.toInt32).toInt8.toInt32)), (.int (((((xb.toUInt32 >>> ((8 : Int32) &&& 31).toUInt32).toInt32) &&& (255 : Int32)).toUInt32.toUInt16.toUInt32.toInt32).toInt8.toInt32))] kz1_2553 b202 b222 r_214 r_231 kr_215 (1 : Int32) [(.int (((xa &&& (255 : Int32)).toUInt32.toUInt16.toUInt32.toInt32).toInt8.toInt32))] kr_232 (2 : Int32) [(.int (((((xa.toUInt32 >>> ((8 : Int32) &&& 31).toUInt32).toInt32) &&& (255 : Int32)).toUInt32.toUInt16.toUInt32.toInt32).toInt8.toInt32)), (.int (((((xa.toUInt32 >>> ((16 : Int32) &&& 31).toUInt32).toInt32) &&& (255 : Int32)).toUInt32.toUInt16.toUInt32.toInt32).toInt8.toInt32))] T3278.heap n0 O3308 F3309 F3310 F3311 F3312 F3313 F3314 F3315 F3316 F3317 F3318 F3319 F3320 F3306 F3321 F3322 F3323 F3324 (by decide) (by decide) (Ne.symm ne2577) (Ne.symm ne2566)) e3307 F3326 o77 (argsL := [.ref b239]) (rest := []) rfl rfl (g := (mkF m 248 #[.val (.int xa), .val (.int xb), .val (.int k), .val (.ref b185), .val (.ref b188), .val (.ref b194), .val (.ref b202), .val (.ref b222), .val (.ref b239), .val (.int 3), .val (.ref b2535), .val (.ref b239), .val (.int 2), .unset, .unset] [.ref b239, .ref b2535])) rfl (by rw [hml]; rfl) rfl (hb hby at_248) (W := 0) rfl (by decide) (by decide) (by decide) (by decide)) ?_
    intro T3325 v3325 L3325 X3325 hQ3325
    obtain ⟨rfl, M3325, e3325⟩ := hQ3325
    have N3325 := Fr.app N3307 M3325
    refine o2 (fun u j => o12 X3325.here hx rfl (hb hby at_251) rfl rfl (o5 X3325.here hx rfl (hb hby at_253) (o10 X3325.here hx rfl (hb hby at_254) rfl (o12 X3325.here hx rfl (hb hby at_256) rfl rfl j)))) ?_
    refine o11 (o25 X3325 hx hZ (y := o187) hown (o0 hw 263 rfl) (o0 hw 264 rfl) (o0 hw 265 rfl) (o0 hw 266 rfl) o203 (o713 l Z a0 hw [] wcs wd mOA mSL mAL kd hS b239 (2 : Int32) (2 : Int32) b239 T3278.heap n0 O3308 (by decide)) e3325 o204 (argsL := [.null, .ref b239, .int 2, .int 2, .ref b239]) (rest := []) rfl rfl (g := (mkF m 258 #[.val (.int xa), .val (.int xb), .val (.int k), .val (.ref b185), .val (.ref b188), .val (.ref b194), .val (.ref b202), .val (.ref b222), .val (.ref b239), .val (.int 3), .val (.ref b2535), .val (.ref b239), .val (.int 2), .unset, .unset] [.ref b239, .int 2, .int 2, .ref b239, .null])) rfl (by rw [hml]; rfl) rfl (hb hby at_258) (W := 0) rfl (by decide) (by decide) (by decide) (by decide)) ?_
    intro T3327 v3327 L3327 X3327 hQ3327
    obtain ⟨rfl, M3327, e3327⟩ := hQ3327
    have N3327 := Fr.app N3325 M3327
    refine o2 (fun u j => o34 X3327.here hx rfl (hb hby at_261) rfl (o33 (by decide)) (o5 X3327.here hx rfl (hb hby at_264) (o35 X3327.here hx rfl (pc0 := 265) (pc' := 269) rfl (hb hby at_265) (by decide) (by decide) (o30 X3327.here hx rfl (hb hby at_269) rfl (l' := #[.val (.int xa), .val (.int xb), .val (.int k), .val (.ref b185), .val (.ref b188), .val (.ref b194), .val (.ref b202), .val (.ref b222), .val (.ref b239), .val (.int 3), .val (.ref b2535), .val (.ref b239), .val (.int 2), .val (.int 1), .unset]) rfl (o10 X3327.here hx rfl (hb hby at_271) rfl (o43 X3327.here hx rfl (pc0 := 273) (pc' := 278) rfl (hb hby at_273) rfl (o138 (by decide)) (by decide) (by decide) j)))))) ?_
    show o17 p e below _ (T3327.setTop (mkF m 278 #[.val (.int xa), .val (.int xb), .val (.int k), .val (.ref b185), .val (.ref b188), .val (.ref b194), .val (.ref b202), .val (.ref b222), .val (.ref b239), .val (.int 3), .val (.ref b2535), .val (.ref b239), .val (.int 2), .val (.int 1), .unset] []))
    refine o2 (fun u j => o12 X3327.here hx rfl (hb hby at_278) rfl rfl (o12 X3327.here hx rfl (hb hby at_280) rfl rfl j)) ?_
    have F3328 := (F3269.keep K3278 nin0)
    have F3329 := (F3273.keep K3278)
    refine o11 (o26 X3327 hx hZ (y := o63) (z := o63) hown (o0 hw 64 rfl) (o0 hw 65 rfl) (notFace_of_selects (args := #[]) (mvT hZ (o0 hw 67 rfl))) (o0 hw 67 rfl) (o0 hw 66 rfl) (o0 hw 33 rfl) (o0 hw 68 rfl) o44 (o892 l Z a0 hw [] wcs wd mOA mSL mAL kd hS b2535 b239 nz0_2540 r_248 (((((0 : Int32) + (1 : Int32)) + (1 : Int32)) + (1 : Int32)) + (1 : Int32)) nz0_2552 kr_249 (3 : Int32) [(.int (((((xa.toUInt32 >>> ((24 : Int32) &&& 31).toUInt32).toInt32) &&& (255 : Int32)).toUInt32.toUInt16.toUInt32.toInt32).toInt8.toInt32)), (.int (((xb &&& (255 : Int32)).toUInt32.toUInt16.toUInt32.toInt32).toInt8.toInt32)), (.int (((((xb.toUInt32 >>> ((8 : Int32) &&& 31).toUInt32).toInt32) &&& (255 : Int32)).toUInt32.toUInt16.toUInt32.toInt32).toInt8.toInt32))] kz1_2553 b202 b222 r_214 r_231 kr_215 (1 : Int32) [(.int (((xa &&& (255 : Int32)).toUInt32.toUInt16.toUInt32.toInt32).toInt8.toInt32))] kr_232 (2 : Int32) [(.int (((((xa.toUInt32 >>> ((8 : Int32) &&& 31).toUInt32).toInt32) &&& (255 : Int32)).toUInt32.toUInt16.toUInt32.toInt32).toInt8.toInt32)), (.int (((((xa.toUInt32 >>> ((16 : Int32) &&& 31).toUInt32).toInt32) &&& (255 : Int32)).toUInt32.toUInt16.toUInt32.toInt32).toInt8.toInt32))] T3278.heap n0 O3308 F3326 F3309 F3310 F3311 F3312 F3313 F3328 F3314 F3315 F3316 F3329 F3317 F3318 F3319 F3320 F3306 F3321 F3322 F3323 F3324 ov0_2561 (by decide) (by decide) g2549 g2587 (Ne.symm ne2577) (Ne.symm ne2566)) e3327 F3326 o202 (argsL := [.ref b239]) (rest := []) rfl rfl (g := (mkF m 282 #[.val (.int xa), .val (.int xb), .val (.int k), .val (.ref b185), .val (.ref b188), .val (.ref b194), .val (.ref b202), .val (.ref b222), .val (.ref b239), .val (.int 3), .val (.ref b2535), .val (.ref b239), .val (.int 2), .val (.int 1), .unset] [.ref b239, .ref b2535])) rfl (by rw [hml]; rfl) rfl (hb hby at_282) (W := 0) rfl (by decide) (by decide) (by decide) (by decide)) ?_
    intro T3330 v3330 L3330 X3330 hQ3330
    obtain ⟨rfl, M3330, K3330, F3331, F3332, F3333, F3334, F3335, F3336⟩ := hQ3330
    have N3330 := Fr.app N3327 M3330
    refine o2 (fun u j => o55 X3330.here hx rfl (hb hby at_285) rfl rfl (o12 X3330.here hx rfl (hb hby at_286) rfl rfl (o12 X3330.here hx rfl (hb hby at_288) rfl rfl j))) ?_
    have F4018 := (F3309.keep K3330 (ninS ne2563 (ninS ne2695 nin0)))
    have F4019 := (F3318.keep K3330)
    have F4020 := (F3306.keep K3330)
    have F4021 := (F3310.keep K3330)
    have O4023 := O3308.keep K3330 (allS g2549 (allS g2587 all0))
    have F4024 := (F3326.keep K3330)
    refine o11 (o26 X3330 hx hZ (y := o39) (z := o39) hown (o0 hw 167 rfl) (o0 hw 70 rfl) (notFace_of_selects (args := #[]) (mvT hZ (o0 hw 72 rfl))) (o0 hw 72 rfl) (o0 hw 71 rfl) (o0 hw 33 rfl) (o0 hw 73 rfl) o44 (o921 l Z a0 hw [] wcs wd mOA mSL mAL kd hS b2535 b202 nz0_2540 ((((((0 : Int32) + (1 : Int32)) + (1 : Int32)) + (1 : Int32)) + (1 : Int32)) + (1 : Int32)) nz0_2552 kz1_2553 b222 b239 T3330.heap n0 O4023 F4018 F4019 F3331 F3332 F3333 F3334 F3335 F3336 F4020 F4021) rfl F4024 o77 (argsL := [.ref b202]) (rest := []) rfl rfl (g := (mkF m 290 #[.val (.int xa), .val (.int xb), .val (.int k), .val (.ref b185), .val (.ref b188), .val (.ref b194), .val (.ref b202), .val (.ref b222), .val (.ref b239), .val (.int 3), .val (.ref b2535), .val (.ref b239), .val (.int 2), .val (.int 1), .unset] [.ref b202, .ref b2535])) rfl (by rw [hml]; rfl) rfl (hb hby at_290) (W := 0) rfl (by decide) (by decide) (by decide) (by decide)) ?_
    intro T4022 v4022 L4022 X4022 hQ4022
    obtain ⟨nz0_4025, nz1_4026, kz2_4027, rfl, M4022, K4022, z4028, z4029, F4030, F4031, F4032, F4033, F4034, F4035, ov0_4036⟩ := hQ4022
    have N4022 := Fr.app N3330 M4022
    refine o2 (fun u j => o37 X4022.here hx rfl (hb hby at_293) rfl rfl (l' := #[.val (.int xa), .val (.int xb), .val (.int k), .val (.ref b185), .val (.ref b188), .val (.ref b194), .val (.ref b202), .val (.ref b222), .val (.ref b239), .val (.int 3), .val (.ref b2535), .val (.ref b239), .val (.int 2), .val (.int 1), .val (.ref nz0_4025)]) rfl (o12 X4022.here hx rfl (hb hby at_295) rfl rfl (XS.ifnullNo X4022.here hx rfl (hb hby at_297) rfl (o12 X4022.here hx rfl (hb hby at_300) rfl rfl j)))) ?_
    have O4038 := O4023.keep K4022 all0
    refine o11 (o29 X4022 hx hZ (y := o186) (z := o154) hown (o0 hw 267 rfl) (o0 hw 139 rfl) (mvT hZ (o0 hw 140 rfl)) (o0 hw 141 rfl) (o0 hw 142 rfl) (o0 hw 143 rfl) (o0 hw 144 rfl) (o0 hw 81 rfl) (o0 hw 40 rfl) (o0 hw 145 rfl) o27 (o591 l Z a0 hw [] wcs wd mOA mSL mAL kd hS nz0_4025 (4 : Int32) T4022.heap n0 O4038 F4033) rfl F4030 o142 (argsL := []) (rest := []) rfl rfl (g := (mkF m 302 #[.val (.int xa), .val (.int xb), .val (.int k), .val (.ref b185), .val (.ref b188), .val (.ref b194), .val (.ref b202), .val (.ref b222), .val (.ref b239), .val (.int 3), .val (.ref b2535), .val (.ref b239), .val (.int 2), .val (.int 1), .val (.ref nz0_4025)] [.ref nz0_4025])) rfl (by rw [hml]; rfl) rfl (hb hby at_302) (W := 0) rfl (by decide) (by decide) (by decide) (by decide)) ?_
    intro T4037 v4037 L4037 X4037 hQ4037
    obtain ⟨rfl, M4037, e4037⟩ := hQ4037
    have N4037 := Fr.app N4022 M4037
    refine o2 (fun u j => o10 X4037.here hx rfl (hb hby at_307) rfl (o5 X4037.here hx rfl (hb hby at_309) (o36 X4037.here hx rfl (hb hby at_310) rfl (o28 X4037.here hx rfl (hb hby at_311) rfl (o83 (by decide)) (o12 X4037.here hx rfl (hb hby at_314) rfl rfl (o5 X4037.here hx rfl (hb hby at_316) j)))))) ?_
    show o17 p e below _ (T4037.setTop (mkF m 317 #[.val (.int xa), .val (.int xb), .val (.int k), .val (.ref b185), .val (.ref b188), .val (.ref b194), .val (.ref b202), .val (.ref b222), .val (.ref b239), .val (.int 3), .val (.ref b2535), .val (.ref b239), .val (.int 2), .val (.int 1), .val (.ref nz0_4025)] [.int 0, .ref nz0_4025]))
    refine o11 (o29 X4037 hx hZ (y := o195) (z := o155) hown (o0 hw 268 rfl) (o0 hw 269 rfl) (mvT hZ (o0 hw 270 rfl)) (o0 hw 271 rfl) (o0 hw 272 rfl) (o0 hw 273 rfl) (o0 hw 274 rfl) (o0 hw 81 rfl) (o0 hw 40 rfl) (o0 hw 275 rfl) o27 (o471 l Z a0 hw [] wcs wd mOA mSL mAL kd hS nz0_4025 nz1_4026 kz2_4027 (4 : Int32) [.ref b202, .ref b222, .ref b239, .ref b202] (0 : Int32) b202 (4 : Int32) T4022.heap n0 O4038 F4030 F4033 (by decide) (by decide) F4032 F4035 ⟨by decide, by decide⟩ rfl) e4037 F4030 o71 (argsL := [.int 0]) (rest := []) rfl rfl (g := (mkF m 317 #[.val (.int xa), .val (.int xb), .val (.int k), .val (.ref b185), .val (.ref b188), .val (.ref b194), .val (.ref b202), .val (.ref b222), .val (.ref b239), .val (.int 3), .val (.ref b2535), .val (.ref b239), .val (.int 2), .val (.int 1), .val (.ref nz0_4025)] [.int 0, .ref nz0_4025])) rfl (by rw [hml]; rfl) rfl (hb hby at_317) (W := 0) rfl (by decide) (by decide) (by decide) (by decide)) ?_
    intro T4039 v4039 L4039 X4039 hQ4039
    obtain ⟨rfl, M4039, e4039⟩ := hQ4039
    have N4039 := Fr.app N4037 M4039
    have F4041 := (F4019.keep K4022)
    have q_ := castY X4039 hx hZ hown (o0 hw 1 rfl) e4039 (Ins.self F4041) (g := (mkF m 322 #[.val (.int xa), .val (.int xb), .val (.int k), .val (.ref b185), .val (.ref b188), .val (.ref b194), .val (.ref b202), .val (.ref b222), .val (.ref b239), .val (.int 3), .val (.ref b2535), .val (.ref b239), .val (.int 2), .val (.int 1), .val (.ref nz0_4025)] [.ref b202])) rfl rfl (hb hby at_322)
    obtain ⟨T4040, X4040, e4040, st4040⟩ := q_
    refine o2 (fun u j => st4040 u j) ?_
    refine o2 (fun u j => o12 X4040.here hx rfl (hb hby at_325) rfl rfl j) ?_
    refine o11 (o26 X4040 hx hZ (y := o41) (z := o41) hown (o0 hw 281 rfl) (o0 hw 282 rfl) (notFace_of_selects (args := #[]) (mvT hZ (o0 hw 283 rfl))) (o0 hw 283 rfl) (o0 hw 126 rfl) (o0 hw 3 rfl) (o0 hw 127 rfl) o70 (o256 l Z a0 hw [] wcs wd mOA mSL mAL kd hS b202 T4022.heap n0 O4038 ) e4040 F4041 o46 (argsL := [.ref b202]) (rest := []) rfl rfl (g := (mkF m 327 #[.val (.int xa), .val (.int xb), .val (.int k), .val (.ref b185), .val (.ref b188), .val (.ref b194), .val (.ref b202), .val (.ref b222), .val (.ref b239), .val (.int 3), .val (.ref b2535), .val (.ref b239), .val (.int 2), .val (.int 1), .val (.ref nz0_4025)] [.ref b202, .ref b202])) rfl (by rw [hml]; rfl) rfl (hb hby at_327) (W := 0) rfl (by decide) (by decide) (by decide) (by decide)) ?_
    intro T4042 v4042 L4042 X4042 hQ4042
    obtain ⟨rfl, M4042, e4042⟩ := hQ4042
    have N4042 := Fr.app N4039 M4042
    refine o2 (fun u j => o34 X4042.here hx rfl (hb hby at_330) rfl (o33 (by decide)) (o12 X4042.here hx rfl (hb hby at_333) rfl rfl (o10 X4042.here hx rfl (hb hby at_335) rfl j))) ?_
    refine o11 (o29 X4042 hx hZ (y := o195) (z := o155) hown (o0 hw 268 rfl) (o0 hw 269 rfl) (mvT hZ (o0 hw 270 rfl)) (o0 hw 271 rfl) (o0 hw 272 rfl) (o0 hw 273 rfl) (o0 hw 274 rfl) (o0 hw 81 rfl) (o0 hw 40 rfl) (o0 hw 275 rfl) o27 (o471 l Z a0 hw [] wcs wd mOA mSL mAL kd hS nz0_4025 nz1_4026 kz2_4027 (4 : Int32) [.ref b202, .ref b222, .ref b239, .ref b202] (3 : Int32) b202 (4 : Int32) T4022.heap n0 O4038 F4030 F4033 (by decide) (by decide) F4032 F4035 ⟨by decide, by decide⟩ rfl) e4042 F4030 o71 (argsL := [.int 3]) (rest := []) rfl rfl (g := (mkF m 337 #[.val (.int xa), .val (.int xb), .val (.int k), .val (.ref b185), .val (.ref b188), .val (.ref b194), .val (.ref b202), .val (.ref b222), .val (.ref b239), .val (.int 3), .val (.ref b2535), .val (.ref b239), .val (.int 2), .val (.int 1), .val (.ref nz0_4025)] [.int 3, .ref nz0_4025])) rfl (by rw [hml]; rfl) rfl (hb hby at_337) (W := 0) rfl (by decide) (by decide) (by decide) (by decide)) ?_
    intro T4043 v4043 L4043 X4043 hQ4043
    obtain ⟨rfl, M4043, e4043⟩ := hQ4043
    have N4043 := Fr.app N4042 M4043
    have q_ := castY X4043 hx hZ hown (o0 hw 1 rfl) e4043 (Ins.self F4041) (g := (mkF m 342 #[.val (.int xa), .val (.int xb), .val (.int k), .val (.ref b185), .val (.ref b188), .val (.ref b194), .val (.ref b202), .val (.ref b222), .val (.ref b239), .val (.int 3), .val (.ref b2535), .val (.ref b239), .val (.int 2), .val (.int 1), .val (.ref nz0_4025)] [.ref b202])) rfl rfl (hb hby at_342)
    obtain ⟨T4044, X4044, e4044, st4044⟩ := q_
    refine o2 (fun u j => st4044 u j) ?_
    refine o2 (fun u j => o12 X4044.here hx rfl (hb hby at_345) rfl rfl j) ?_
    refine o11 (o26 X4044 hx hZ (y := o41) (z := o41) hown (o0 hw 281 rfl) (o0 hw 282 rfl) (notFace_of_selects (args := #[]) (mvT hZ (o0 hw 283 rfl))) (o0 hw 283 rfl) (o0 hw 126 rfl) (o0 hw 3 rfl) (o0 hw 127 rfl) o70 (o256 l Z a0 hw [] wcs wd mOA mSL mAL kd hS b202 T4022.heap n0 O4038 ) e4044 F4041 o46 (argsL := [.ref b202]) (rest := []) rfl rfl (g := (mkF m 347 #[.val (.int xa), .val (.int xb), .val (.int k), .val (.ref b185), .val (.ref b188), .val (.ref b194), .val (.ref b202), .val (.ref b222), .val (.ref b239), .val (.int 3), .val (.ref b2535), .val (.ref b239), .val (.int 2), .val (.int 1), .val (.ref nz0_4025)] [.ref b202, .ref b202])) rfl (by rw [hml]; rfl) rfl (hb hby at_347) (W := 0) rfl (by decide) (by decide) (by decide) (by decide)) ?_
    intro T4045 v4045 L4045 X4045 hQ4045
    obtain ⟨rfl, M4045, e4045⟩ := hQ4045
    have N4045 := Fr.app N4043 M4045
    refine o2 (fun u j => o34 X4045.here hx rfl (hb hby at_350) rfl (o33 (by decide)) (o5 X4045.here hx rfl (hb hby at_353) (o35 X4045.here hx rfl (pc0 := 354) (pc' := 358) rfl (hb hby at_354) (by decide) (by decide) j))) ?_
    have K4046 := (Keep.refl h0 []).ext E185
    have z4048 := Nat.le_trans (Nat.le_refl _) (Nat.le_of_eq g185.symm)
    have K4047 := K4046.wr W186 (Or.inr z4048)
    have K4049 := K4047.ext E188
    have z4051 := Nat.le_trans (Nat.le_trans E185.1 (Nat.le_of_eq W186.size.symm)) (Nat.le_of_eq g188.symm)
    have K4050 := K4049.wr W189 (Or.inr z4051)
    have K4052 := K4050.wr W193 (Or.inr z4051)
    have K4053 := K4052.ext E194
    have z4055 := Nat.le_trans (Nat.le_trans (Nat.le_trans (Nat.le_trans (Nat.le_trans E185.1 (Nat.le_of_eq W186.size.symm)) E188.1) (Nat.le_of_eq W189.size.symm)) (Nat.le_of_eq W193.size.symm)) (Nat.le_of_eq g194.symm)
    have K4054 := K4053.wr W195 (Or.inr z4055)
    have K4056 := K4054.wr W200 (Or.inr z4055)
    have K4057 := K4056.wr W201 (Or.inr z4055)
    have K4058 := K4057.ext E202
    have z4060 := Nat.le_trans (Nat.le_trans (Nat.le_trans (Nat.le_trans (Nat.le_trans (Nat.le_trans (Nat.le_trans (Nat.le_trans (Nat.le_trans E185.1 (Nat.le_of_eq W186.size.symm)) E188.1) (Nat.le_of_eq W189.size.symm)) (Nat.le_of_eq W193.size.symm)) E194.1) (Nat.le_of_eq W195.size.symm)) (Nat.le_of_eq W200.size.symm)) (Nat.le_of_eq W201.size.symm)) (Nat.le_of_eq g202.symm)
    have K4059 := K4058.trans K212 (allS (Or.inr z4060) all0)
    have K4061 := K4059.ext E222
    have z4063 := Nat.le_trans (Nat.le_trans (Nat.le_trans (Nat.le_trans (Nat.le_trans (Nat.le_trans (Nat.le_trans (Nat.le_trans (Nat.le_trans (Nat.le_trans (Nat.le_trans E185.1 (Nat.le_of_eq W186.size.symm)) E188.1) (Nat.le_of_eq W189.size.symm)) (Nat.le_of_eq W193.size.symm)) E194.1) (Nat.le_of_eq W195.size.symm)) (Nat.le_of_eq W200.size.symm)) (Nat.le_of_eq W201.size.symm)) E202.1) K212.1) (Nat.le_of_eq g222.symm)
    have K4062 := K4061.trans K229 (allS (Or.inr z4063) all0)
    have K4064 := K4062.ext E239
    have z4066 := Nat.le_trans (Nat.le_trans (Nat.le_trans (Nat.le_trans (Nat.le_trans (Nat.le_trans (Nat.le_trans (Nat.le_trans (Nat.le_trans (Nat.le_trans (Nat.le_trans (Nat.le_trans (Nat.le_trans E185.1 (Nat.le_of_eq W186.size.symm)) E188.1) (Nat.le_of_eq W189.size.symm)) (Nat.le_of_eq W193.size.symm)) E194.1) (Nat.le_of_eq W195.size.symm)) (Nat.le_of_eq W200.size.symm)) (Nat.le_of_eq W201.size.symm)) E202.1) K212.1) E222.1) K229.1) (Nat.le_of_eq g239.symm)
    have K4065 := K4064.trans K246 (allS (Or.inr z4066) all0)
    have K4067 := K4065.ext E2535
    have z4069 := Nat.le_trans (Nat.le_trans (Nat.le_trans (Nat.le_trans (Nat.le_trans (Nat.le_trans (Nat.le_trans (Nat.le_trans (Nat.le_trans (Nat.le_trans (Nat.le_trans (Nat.le_trans (Nat.le_trans (Nat.le_trans (Nat.le_trans E185.1 (Nat.le_of_eq W186.size.symm)) E188.1) (Nat.le_of_eq W189.size.symm)) (Nat.le_of_eq W193.size.symm)) E194.1) (Nat.le_of_eq W195.size.symm)) (Nat.le_of_eq W200.size.symm)) (Nat.le_of_eq W201.size.symm)) E202.1) K212.1) E222.1) K229.1) E239.1) K246.1) (Nat.le_of_eq g2535.symm)
    have K4068 := K4067.trans K2538 (allS (Or.inr z4069) all0)
    have z4071 := Nat.le_trans (Nat.le_trans (Nat.le_trans (Nat.le_trans (Nat.le_trans (Nat.le_trans (Nat.le_trans (Nat.le_trans (Nat.le_trans (Nat.le_trans (Nat.le_trans (Nat.le_trans (Nat.le_trans (Nat.le_trans (Nat.le_trans (Nat.le_trans E185.1 (Nat.le_of_eq W186.size.symm)) E188.1) (Nat.le_of_eq W189.size.symm)) (Nat.le_of_eq W193.size.symm)) E194.1) (Nat.le_of_eq W195.size.symm)) (Nat.le_of_eq W200.size.symm)) (Nat.le_of_eq W201.size.symm)) E202.1) K212.1) E222.1) K229.1) E239.1) K246.1) E2535.1) z2541
    have K4070 := K4068.trans K2550 (allS (Or.inr z4071) all0)
    have z4073 := Nat.le_trans (Nat.le_trans (Nat.le_trans (Nat.le_trans (Nat.le_trans (Nat.le_trans (Nat.le_trans (Nat.le_trans (Nat.le_trans (Nat.le_trans (Nat.le_trans (Nat.le_trans (Nat.le_trans (Nat.le_trans (Nat.le_trans (Nat.le_trans (Nat.le_trans E185.1 (Nat.le_of_eq W186.size.symm)) E188.1) (Nat.le_of_eq W189.size.symm)) (Nat.le_of_eq W193.size.symm)) E194.1) (Nat.le_of_eq W195.size.symm)) (Nat.le_of_eq W200.size.symm)) (Nat.le_of_eq W201.size.symm)) E202.1) K212.1) E222.1) K229.1) E239.1) K246.1) E2535.1) K2538.1) z2554
    have K4072 := K4070.trans K2588 (allS (Or.inr z4071) (allS (Or.inr z4073) all0))
    have K4074 := K4072.trans K2719 (allS (Or.inr z4071) (allS (Or.inr z4073) all0))
    have K4075 := K4074.trans K2802 (allS (Or.inr z4071) (allS (Or.inr z4073) all0))
    have K4076 := K4075.trans K2814 all0
    have K4077 := K4076.trans K3278 all0
    have K4078 := K4077.trans K3330 (allS (Or.inr z4071) (allS (Or.inr z4073) all0))
    have K4079 := K4078.trans K4022 all0
    exact o20 X4045 hx hlk hret rfl (Or.inl ⟨rfl, by simp, _, rfl⟩) (hb hby at_358) (by decide) (by decide) (show Qrm0 Z wcs wd mOA mSL mAL kd xa xb k h0 n0 (some (.int 1)) T4045.heap _ from (by rw [e4045]; exact ⟨rfl, N4045, K4079⟩))
theorem comes_1 {Post : Tables → Env → Array Value → State → Outcome → State → Prop} (hpost : ∀ tb e args s v u, (limb_1_1.after args s (.returned v) u = true ∧ limb_1_2.after args s (.returned v) u = true ∧ True) → FrameEnd s (.returned v) u (Jvm.fieldLocs frame_1_writes args s ++ Jvm.arrayLocs frame_1_arrays args s ++ Jvm.staticLocs frame_1_statics s) 64 256 → Post tb e args s (.returned v) u) :
    ArmFor flags0 classFile x code maxLocals ret World_1 tables_1 room_1 Calls_1 rest_1 Pre_1 Post := by
  intro l hfl _ _ p e ha hc hk s m args below hf hA hF happ hP
  obtain ⟨hcalls, hrest, hpre⟩ := hP
  obtain ⟨-, -, -, hnamed, -, -, -, hat⟩ := (Spec.applies_iff hf).mp happ
  obtain ⟨hg, hn⟩ := and_e (Cond.before_iff.mp (show (Jvm.Cond.and given_1 narrow_1).before args s = true from hpre))
  obtain ⟨hcount, hr0⟩ := and_e hg
  obtain ⟨ha0, hr1⟩ := and_e hr0
  obtain ⟨ha1, hr2⟩ := and_e hr1
  have ha2 := hr2
  obtain ⟨w_0, w_1, w_2, rfl⟩ : ∃ w_0 w_1 w_2 : Value, args = #[w_0, w_1, w_2] := by
    have hs : args.size = 3 := by simpa [Cond.value, given_1] using hcount
    obtain ⟨L⟩ := args
    match L, hs with
    | [w_0, w_1, w_2], _ => exact ⟨w_0, w_1, w_2, rfl⟩
  have hw := fun d (hd : d ∈ tables_1) => atoms_spec (ws := Jvm.Cond.code x code maxLocals ret :: tables_1) hat d (List.mem_cons_of_mem _ hd)
  have hfit : Fit s := fun {y c} hc i hi => by
    obtain ⟨ha, rfl⟩ := Array.getElem?_eq_some_iff.mp hc
    have q := List.all_eq_true.mp ((Array.all_eq_true_iff_forall_mem.mp hF) _ (Array.getElem_mem ha)) i (List.mem_range.mpr hi)
    simpa [Array.getElem?_eq_getElem hi] using q
  obtain ⟨i_0, ei_0⟩ := is_v ha0
  obtain rfl : w_0 = (.int i_0) := Option.some.inj ei_0
  obtain ⟨i_1, ei_1⟩ := is_v ha1
  obtain rfl : w_1 = (.int i_1) := Option.some.inj ei_1
  obtain ⟨i_2, ei_2⟩ := is_v ha2
  obtain rfl : w_2 = (.int i_2) := Option.some.inj ei_2
  have hl0 := hn
  obtain ⟨hsets, hown0⟩ := atoms_of _ (rest_1_c_eq ▸ (show rest_1_c.before _ s = true from hrest))
  obtain ⟨wcs, ecs⟩ := is_v (Cond.before_iff.mp (hsets _ (List.mem_of_getElem? (i := 1) rfl)))
  have hcs := o878 ecs (Cond.before_iff.mp (hsets _ (List.mem_of_getElem? (i := 2) rfl)))
  obtain ⟨wd, ewd⟩ := arr_v (Cond.before_iff.mp (hsets _ (List.mem_of_getElem? (i := 15) rfl)))
  obtain ⟨cd, hcd⟩ := Arr.start ewd (Cond.before_iff.mp (hsets _ (List.mem_of_getElem? (i := 15) rfl)))
  have hld := o893 ewd hcd (Cond.before_iff.mp (hsets _ (List.mem_of_getElem? (i := 17) rfl)))
  obtain ⟨kd, hkd⟩ : ∃ z, z = cd.cls := ⟨_, rfl⟩
  obtain ⟨⟨c_1, k_1, mOA, q_11, q_12, q_13⟩, ⟨c_2, k_2, mSL, q_21, q_22, q_23⟩, ⟨c_3, k_3, mAL, q_31, q_32, q_33⟩, _⟩ := hcalls
  have hS : o22 s wcs wd mOA mSL mAL kd := ⟨(Sta.start ecs (Or.inl (hsets _ (List.mem_of_getElem? (i := 0) rfl)))), hcs, (Sta.start ewd (Or.inr ⟨(o0 hw 40 rfl), (hsets _ (List.mem_of_getElem? (i := 11) rfl))⟩)), (Exa.start ewd (Cond.before_iff.mp (hsets _ (List.mem_of_getElem? (i := 16) rfl)))), (hkd ▸ Arv.start hfit hcd hld.1 hld.2 (by decide) rfl trivial), ⟨c_1, k_1, q_11, q_12, q_13⟩, ⟨c_2, k_2, q_21, q_22, q_23⟩, ⟨c_3, k_3, q_31, q_32, q_33⟩⟩
  obtain ⟨n, o, h1, h2, h3, _, L, rfl, ⟨rfl, N, _⟩, hq⟩ := rm0 l s _ hw tables_1 wcs wd mOA mSL mAL kd hS i_0 i_1 i_2 s.heap s.heap.size (Old.start s) p e ha hc hk s m _ below hf ((Spec.applies_iff_loose hf).mp happ).1 ⟨rfl, State.Warmed39.refl s, rfl⟩ trivial
  refine ⟨n, _, h1, h2, h3, hpost _ _ _ _ _ _ ⟨Cond.after_iff.mpr rfl, Cond.after_iff.mpr (eq_i res_at (Term.int_eval (1)) rfl), trivial⟩ ⟨hq.1, hq.2.1, (hq.2.2.sift fun y hy => Or.inr (N y hy)).mono (by decide) (by decide)⟩⟩
theorem main_1_1 : Claimed_1_1 := comes_1 fun _ _ _ _ _ _ h hF => ⟨h.1, hF⟩
theorem main_1_2 : Claimed_1_2 := comes_1 fun _ _ _ _ _ _ h hF => ⟨h.2.1, hF⟩
end Jvm.Pilot.@@N@@
namespace Jvm.Pilot.@@N@@
open Jvm Jvm.ClassFile Sem Op Lib Jvm.Free Jvm.Stand Jvm.Pilot.@@N@@.Jvm.D
/-! MADE BY PROGRAM (witnessworld.py) out of the Statement's table words and the real class files: 35 classes; the members and pool entries that the words name. The judged class is class 1, her method 1. -/
namespace start1
open Jvm.ClassFile
def u (s : String) : CpInfo := .utf8 (stringToUtf16 s)
/-- a pool by its gaps: so many unusable entries, then the entry; so many at the end -/
def gap : Nat → List CpInfo → List CpInfo
  | 0, r => r
  | n + 1, r => .unusable :: gap n r
def poolList (es : List (Nat × CpInfo)) (last : Nat) : List CpInfo := es.foldr (fun e r => gap e.1 (e.2 :: r)) (gap last [])
def pool (es : List (Nat × CpInfo)) (last : Nat) : Array CpInfo := ⟨poolList es last⟩
def fileOf (pool : Array CpInfo) (this : Nat) (attrs : Array Attribute := #[]) (ms : Array MethodInfo := #[]) (fl : Nat := 33) (sup : Nat := 0) (ifs : Array Nat := #[]) (fds : Array FieldInfo := #[]) : ClassFile where
  minorVersion := 0
  majorVersion := 65
  constantPool := pool
  accessFlags := fl
  thisClass := this
  superClass := sup
  interfaces := ifs
  fields := fds
  methods := ms
  attributes := attrs
def plain (name : String) (sup : Option ClassId) : Class where
  name := name
  kind := .ordinary
  loader := none
  accessFlags := 33
  super := sup
  interfaces := #[]
  cf := none
  fields := #[]
  methods := #[]
  instanceTypes := #[]
  staticTypes := #[]
  resolved := #[]
  callSites := []
  init := .initialized
  statics := none
  mirror := none

def pool0 : Array CpInfo := pool [(5, u "<init>"), (0, u "()V"), (1, .class_ 10), (1, u "java/lang/Object"), (0, u "getClass"), (0, u "()Ljava/lang/Class;"), (79, u "equals"), (0, u "(Ljava/lang/Object;)Z")] 30

def k0c0 : Code := { maxStack := 0, maxLocals := 1, code := object_method_1_code, exceptionTable := #[], attributes := #[] }
def k0m0 : Method := { name := "<init>", desc := "()V", sig := { parameters := [], returnType := none }, accessFlags := 1, code := some k0c0 }
def k0m1 : Method := { name := "getClass", desc := "()Ljava/lang/Class;", sig := { parameters := [], returnType := some (.object "java/lang/Class") }, accessFlags := 273, code := none }
def k0c2 : Code := { maxStack := 2, maxLocals := 2, code := ⟨#[0x2a, 0x2b, 0xa6, 0x00, 0x07, 0x04, 0xa7, 0x00, 0x04, 0x03, 0xac]⟩, exceptionTable := #[], attributes := #[] }
def k0m2 : Method := { name := "equals", desc := "(Ljava/lang/Object;)Z", sig := { parameters := [(.object "java/lang/Object")], returnType := some .boolean }, accessFlags := 1, code := some k0c2 }
/-- java/lang/Object -/
def k0 : Class := { plain "java/lang/Object" none with
  accessFlags := 33
  interfaces := #[]
  cf := some (fileOf pool0 8 #[] #[{ accessFlags := 1, nameIndex := 5, descriptorIndex := 6, attributes := #[] }, { accessFlags := 273, nameIndex := 11, descriptorIndex := 12, attributes := #[] }, { accessFlags := 1, nameIndex := 92, descriptorIndex := 93, attributes := #[] }] 33 0 #[] #[])
  fields := #[]
  methods := #[k0m0, k0m1, k0m2]
  instanceTypes := #[]
  staticTypes := #[]
  resolved := Array.replicate 124 none
  statics := none }

def pool1 : Array CpInfo := pool [(2, .class_ 4), (0, .nameAndType 5 6), (0, u "java/lang/Object"), (0, u "<init>"), (0, u "()V"), (0, .class_ 8), (0, u "java/lang/String"), (0, .methodref 7 10), (0, .nameAndType 5 11), (0, u "([C)V"), (0, .integer 2147483647), (0, .class_ 14), (0, u "com/example/temanggung/temanggung/beans/factory/Creating"), (0, .methodref 13 3), (0, .methodref 13 17), (0, .nameAndType 18 19), (0, u "enter"), (0, u "(Ljava/lang/String;)Lcom/example/temanggung/temanggung/beans/factory/Creating;"), (0, .methodref 13 21), (0, .nameAndType 22 6), (0, u "leave"), (0, .methodref 13 24), (0, .nameAndType 25 26), (0, u "cycleTo"), (0, u "(Ljava/lang/String;)Ljava/util/List;"), (0, .methodref 28 29), (0, .class_ 30), (0, .nameAndType 31 32), (0, u "com/example/temanggung/temanggung/beans/factory/CreatingLeavePinLaw"), (0, u "expected"), (0, u "(Ljava/util/List;Ljava/lang/String;IILjava/lang/String;)Z"), (0, .interfaceMethodref 34 35), (0, .class_ 36), (0, .nameAndType 37 38), (0, u "java/util/List"), (0, u "size"), (0, u "()I"), (0, .interfaceMethodref 34 40), (0, .nameAndType 41 42), (0, u "get"), (0, u "(I)Ljava/lang/Object;"), (0, .methodref 7 44), (0, .nameAndType 45 46), (0, u "equals"), (0, u "(Ljava/lang/Object;)Z"), (2, u "law"), (0, u "(III)Z")] 7

def k1m0 : Method := { name := "<init>", desc := "()V", sig := { parameters := [], returnType := none }, accessFlags := 1, code := none }
def k1c1 : Code := { maxStack := 5, maxLocals := 15, code := code, exceptionTable := #[], attributes := #[] }
def k1m1 : Method := { name := "law", desc := "(III)Z", sig := { parameters := [.int, .int, .int], returnType := some .boolean }, accessFlags := 9, code := some k1c1 }
def k1c2 : Code := { maxStack := 3, maxLocals := 6, code := method_3_code, exceptionTable := #[], attributes := #[] }
def k1m2 : Method := { name := "expected", desc := "(Ljava/util/List;Ljava/lang/String;IILjava/lang/String;)Z", sig := { parameters := [(.object "java/util/List"), (.object "java/lang/String"), .int, .int, (.object "java/lang/String")], returnType := some .boolean }, accessFlags := 10, code := some k1c2 }
/-- com/example/temanggung/temanggung/beans/factory/CreatingLeavePinLaw -/
def k1 : Class := { plain "com/example/temanggung/temanggung/beans/factory/CreatingLeavePinLaw" (some 0) with
  accessFlags := 49
  interfaces := #[]
  cf := some (fileOf pool1 28 #[] #[{ accessFlags := 1, nameIndex := 5, descriptorIndex := 6, attributes := #[] }, { accessFlags := 9, nameIndex := 49, descriptorIndex := 50, attributes := #[] }, { accessFlags := 10, nameIndex := 31, descriptorIndex := 32, attributes := #[] }] 49 2 #[] #[])
  fields := #[]
  methods := #[k1m0, k1m1, k1m2]
  instanceTypes := #[]
  staticTypes := #[]
  resolved := Array.replicate 58 none
  statics := none }

def pool2 : Array CpInfo := pool [(1, .class_ 2), (0, u "java/io/Serializable"), (0, .class_ 4), (0, u "java/lang/Object")] 2

/-- java/io/Serializable -/
def k2 : Class := { plain "java/io/Serializable" (some 0) with
  accessFlags := 1537
  interfaces := #[]
  cf := some (fileOf pool2 1 #[] #[] 1537 3 #[] #[])
  fields := #[]
  methods := #[]
  instanceTypes := #[]
  staticTypes := #[]
  resolved := Array.replicate 7 none
  statics := none }

def pool3 : Array CpInfo := pool [(1, .class_ 2), (0, u "java/lang/Comparable"), (0, .class_ 4), (0, u "java/lang/Object")] 7

/-- java/lang/Comparable -/
def k3 : Class := { plain "java/lang/Comparable" (some 0) with
  accessFlags := 1537
  interfaces := #[]
  cf := some (fileOf pool3 1 #[] #[] 1537 3 #[] #[])
  fields := #[]
  methods := #[]
  instanceTypes := #[]
  staticTypes := #[]
  resolved := Array.replicate 12 none
  statics := none }

def pool4 : Array CpInfo := pool [(2, .class_ 4), (1, u "java/lang/CharSequence"), (42, .class_ 48), (0, u "java/lang/CharSequence$1CodePointIterator"), (10, .class_ 60), (0, u "java/lang/CharSequence$1CharIterator"), (5, .class_ 67), (0, u "java/lang/Object")] 63

/-- java/lang/CharSequence -/
def k4 : Class := { plain "java/lang/CharSequence" (some 0) with
  accessFlags := 1537
  interfaces := #[]
  cf := some (fileOf pool4 2 #[.nestMembers #[47, 59]] #[] 1537 66 #[] #[])
  fields := #[]
  methods := #[]
  instanceTypes := #[]
  staticTypes := #[]
  resolved := Array.replicate 131 none
  statics := none }

def pool5 : Array CpInfo := pool [(1, .class_ 2), (0, u "java/lang/constant/Constable"), (0, .class_ 4), (0, u "java/lang/Object")] 6

/-- java/lang/constant/Constable -/
def k5 : Class := { plain "java/lang/constant/Constable" (some 0) with
  accessFlags := 1537
  interfaces := #[]
  cf := some (fileOf pool5 1 #[] #[] 1537 3 #[] #[])
  fields := #[]
  methods := #[]
  instanceTypes := #[]
  staticTypes := #[]
  resolved := Array.replicate 11 none
  statics := none }

def pool6 : Array CpInfo := pool [(1, .class_ 2), (0, u "java/lang/constant/ConstantDesc"), (0, .class_ 4), (0, u "java/lang/Object")] 32

/-- java/lang/constant/ConstantDesc -/
def k6 : Class := { plain "java/lang/constant/ConstantDesc" (some 0) with
  accessFlags := 1537
  interfaces := #[]
  cf := some (fileOf pool6 1 #[] #[] 1537 3 #[] #[])
  fields := #[]
  methods := #[]
  instanceTypes := #[]
  staticTypes := #[]
  resolved := Array.replicate 37 none
  statics := none }

def pool7 : Array CpInfo := pool [(1, .methodref 2 3), (0, .class_ 4), (0, .nameAndType 5 6), (0, u "java/lang/Object"), (0, u "<init>"), (0, u "()V"), (2, .fieldref 10 11), (0, .class_ 12), (0, .nameAndType 13 14), (0, u "java/lang/String"), (0, u "value"), (0, u "[B"), (0, .fieldref 10 16), (0, .nameAndType 17 18), (0, u "coder"), (0, u "B"), (2, u "hash"), (0, u "I"), (2, u "hashIsZero"), (0, u "Z"), (0, .methodref 10 28), (0, .nameAndType 5 29), (0, u "([CIILjava/lang/Void;)V"), (8, .fieldref 10 39), (0, .nameAndType 40 26), (0, u "COMPACT_STRINGS"), (1, .class_ 44), (1, u "java/lang/StringUTF16"), (0, u "compress"), (1, .methodref 42 48), (0, .nameAndType 49 50), (0, u "coderFromArrayLen"), (0, u "([BI)B"), (56, .class_ 109), (1, u "java/lang/StringLatin1"), (67, .methodref 42 178), (0, .nameAndType 45 179), (0, u "([CII)[B"), (361, .methodref 107 542), (0, .nameAndType 543 544), (0, u "equals"), (0, u "([B[B)Z"), (28, u "(Ljava/lang/Object;)Z"), (1, .class_ 576), (0, u "java/lang/CharSequence"), (22, u "CASE_INSENSITIVE_ORDER"), (0, u "Ljava/util/Comparator;"), (409, u "([C)V"), (90, u "serialPersistentFields"), (0, u "[Ljava/io/ObjectStreamField;"), (0, .class_ 1104), (0, u "java/lang/String$CaseInsensitiveComparator"), (1, .class_ 1107), (0, u "java/io/Serializable"), (0, .class_ 1109), (0, u "java/lang/Comparable"), (0, .class_ 1111), (0, u "java/lang/constant/Constable"), (0, .class_ 1113), (0, u "java/lang/constant/ConstantDesc"), (2, u "serialVersionUID"), (0, u "J"), (3, u "REPL"), (0, u "C"), (2, u "LATIN1"), (1, u "UTF16")] 323

def k7m0 : Method := { name := "<init>", desc := "()V", sig := { parameters := [], returnType := none }, accessFlags := 1, code := none }
def k7c1 : Code := { maxStack := 5, maxLocals := 2, code := jdk_42_method_3_code, exceptionTable := #[], attributes := #[] }
def k7m1 : Method := { name := "<init>", desc := "([C)V", sig := { parameters := [(.array .char)], returnType := none }, accessFlags := 1, code := some k7c1 }
def k7c2 : Code := { maxStack := 2, maxLocals := 3, code := jdk_42_method_66_code, exceptionTable := #[], attributes := #[] }
def k7m2 : Method := { name := "equals", desc := "(Ljava/lang/Object;)Z", sig := { parameters := [(.object "java/lang/Object")], returnType := some .boolean }, accessFlags := 1, code := some k7c2 }
def k7c3 : Code := { maxStack := 4, maxLocals := 6, code := jdk_42_method_149_code, exceptionTable := #[], attributes := #[] }
def k7m3 : Method := { name := "<init>", desc := "([CIILjava/lang/Void;)V", sig := { parameters := [(.array .char), .int, .int, (.object "java/lang/Void")], returnType := none }, accessFlags := 2, code := some k7c3 }
/-- java/lang/String -/
def k7 : Class := { plain "java/lang/String" (some 0) with
  accessFlags := 49
  interfaces := #[2, 3, 4, 5, 6]
  cf := some (fileOf pool7 10 #[.nestMembers #[1103]] #[{ accessFlags := 1, nameIndex := 5, descriptorIndex := 6, attributes := #[] }, { accessFlags := 1, nameIndex := 5, descriptorIndex := 1010, attributes := #[] }, { accessFlags := 1, nameIndex := 543, descriptorIndex := 573, attributes := #[] }, { accessFlags := 2, nameIndex := 5, descriptorIndex := 29, attributes := #[] }] 49 2 #[1106, 1108, 575, 1110, 1112] #[{ accessFlags := 18, nameIndex := 13, descriptorIndex := 14, attributes := #[] }, { accessFlags := 18, nameIndex := 17, descriptorIndex := 18, attributes := #[] }, { accessFlags := 2, nameIndex := 21, descriptorIndex := 22, attributes := #[] }, { accessFlags := 2, nameIndex := 25, descriptorIndex := 26, attributes := #[] }, { accessFlags := 26, nameIndex := 1116, descriptorIndex := 1117, attributes := #[] }, { accessFlags := 24, nameIndex := 40, descriptorIndex := 26, attributes := #[] }, { accessFlags := 26, nameIndex := 1101, descriptorIndex := 1102, attributes := #[] }, { accessFlags := 26, nameIndex := 1121, descriptorIndex := 1122, attributes := #[] }, { accessFlags := 25, nameIndex := 599, descriptorIndex := 600, attributes := #[] }, { accessFlags := 24, nameIndex := 1125, descriptorIndex := 18, attributes := #[] }, { accessFlags := 24, nameIndex := 1127, descriptorIndex := 18, attributes := #[] }])
  fields := #[{ name := "value", type := (.array .byte), accessFlags := 18, slot := 0, constantValue := 0 }, { name := "coder", type := .byte, accessFlags := 18, slot := 1, constantValue := 0 }, { name := "hash", type := .int, accessFlags := 2, slot := 2, constantValue := 0 }, { name := "hashIsZero", type := .boolean, accessFlags := 2, slot := 3, constantValue := 0 }, { name := "serialVersionUID", type := .long, accessFlags := 26, slot := 0, constantValue := 0 }, { name := "COMPACT_STRINGS", type := .boolean, accessFlags := 24, slot := 1, constantValue := 0 }, { name := "serialPersistentFields", type := (.array (.object "java/io/ObjectStreamField")), accessFlags := 26, slot := 2, constantValue := 0 }, { name := "REPL", type := .char, accessFlags := 26, slot := 3, constantValue := 0 }, { name := "CASE_INSENSITIVE_ORDER", type := (.object "java/util/Comparator"), accessFlags := 25, slot := 4, constantValue := 0 }, { name := "LATIN1", type := .byte, accessFlags := 24, slot := 5, constantValue := 0 }, { name := "UTF16", type := .byte, accessFlags := 24, slot := 6, constantValue := 0 }]
  methods := #[k7m0, k7m1, k7m2, k7m3]
  instanceTypes := #[(.array .byte), .byte, .int, .boolean]
  staticTypes := #[.long, .boolean, (.array (.object "java/io/ObjectStreamField")), .char, (.object "java/util/Comparator"), .byte, .byte]
  resolved := Array.replicate 1451 none
  statics := some 0 }

def pool8 : Array CpInfo := pool [(6, .class_ 8), (1, u "java/lang/Object"), (0, u "<init>"), (0, u "()V"), (1, .class_ 14), (1, u "java/lang/StringUTF16"), (31, u "$assertionsDisabled"), (0, u "Z"), (13, u "HI_BYTE_SHIFT"), (0, u "I"), (2, u "LO_BYTE_SHIFT"), (49, .methodref 12 116), (0, .nameAndType 117 118), (0, u "compress"), (0, u "([CI[BII)I"), (3, u "([CII)[B"), (138, u "coderFromArrayLen"), (0, u "([BI)B"), (106, .class_ 371), (1, u "java/lang/StringUTF16$LinesSpliterator"), (58, u "MAX_LENGTH"), (196, .class_ 628), (0, u "java/lang/StringUTF16$CodePointsSpliterator"), (0, .class_ 630), (0, u "java/lang/StringUTF16$CharsSpliterator")] 4

def k8m0 : Method := { name := "<init>", desc := "()V", sig := { parameters := [], returnType := none }, accessFlags := 0, code := none }
def k8c1 : Code := { maxStack := 2, maxLocals := 2, code := jdk_52_method_15_code, exceptionTable := #[], attributes := #[] }
def k8m1 : Method := { name := "coderFromArrayLen", desc := "([BI)B", sig := { parameters := [(.array .byte), .int], returnType := some .byte }, accessFlags := 8, code := some k8c1 }
def k8c2 : Code := { maxStack := 5, maxLocals := 6, code := jdk_52_method_16_code, exceptionTable := #[], attributes := #[] }
def k8m2 : Method := { name := "compress", desc := "([CII)[B", sig := { parameters := [(.array .char), .int, .int], returnType := some (.array .byte) }, accessFlags := 9, code := some k8c2 }
def k8c3 : Code := { maxStack := 3, maxLocals := 7, code := jdk_52_method_21_code, exceptionTable := #[], attributes := #[] }
def k8m3 : Method := { name := "compress", desc := "([CI[BII)I", sig := { parameters := [(.array .char), .int, (.array .byte), .int, .int], returnType := some .int }, accessFlags := 9, code := some k8c3 }
/-- java/lang/StringUTF16 -/
def k8 : Class := { plain "java/lang/StringUTF16" (some 0) with
  accessFlags := 48
  interfaces := #[]
  cf := some (fileOf pool8 12 #[.nestMembers #[627, 629, 369]] #[{ accessFlags := 0, nameIndex := 9, descriptorIndex := 10, attributes := #[] }, { accessFlags := 8, nameIndex := 261, descriptorIndex := 262, attributes := #[] }, { accessFlags := 9, nameIndex := 117, descriptorIndex := 122, attributes := #[] }, { accessFlags := 9, nameIndex := 117, descriptorIndex := 118, attributes := #[] }] 48 6 #[] #[{ accessFlags := 26, nameIndex := 61, descriptorIndex := 62, attributes := #[] }, { accessFlags := 26, nameIndex := 65, descriptorIndex := 62, attributes := #[] }, { accessFlags := 24, nameIndex := 430, descriptorIndex := 62, attributes := #[] }, { accessFlags := 4120, nameIndex := 46, descriptorIndex := 47, attributes := #[] }])
  fields := #[{ name := "HI_BYTE_SHIFT", type := .int, accessFlags := 26, slot := 0, constantValue := 0 }, { name := "LO_BYTE_SHIFT", type := .int, accessFlags := 26, slot := 1, constantValue := 0 }, { name := "MAX_LENGTH", type := .int, accessFlags := 24, slot := 2, constantValue := 0 }, { name := "$assertionsDisabled", type := .boolean, accessFlags := 4120, slot := 3, constantValue := 0 }]
  methods := #[k8m0, k8m1, k8m2, k8m3]
  instanceTypes := #[]
  staticTypes := #[.int, .int, .int, .boolean]
  resolved := Array.replicate 635 none
  statics := none }

def pool9 : Array CpInfo := pool [(1, .methodref 2 3), (0, .class_ 4), (0, .nameAndType 5 6), (0, u "java/lang/Object"), (0, u "<init>"), (0, u "()V"), (0, .class_ 8), (0, u "java/util/ArrayList"), (0, .methodref 7 3), (0, .fieldref 11 12), (0, .class_ 13), (0, .nameAndType 14 15), (0, u "com/example/temanggung/temanggung/beans/factory/Creating"), (0, u "path"), (0, u "Ljava/util/List;"), (0, .methodref 11 17), (0, .nameAndType 18 19), (0, u "cycleTo"), (0, u "(Ljava/lang/String;)Ljava/util/List;"), (5, .interfaceMethodref 26 27), (0, .class_ 28), (0, .nameAndType 29 30), (0, u "java/util/List"), (0, u "add"), (0, u "(Ljava/lang/Object;)Z"), (0, .interfaceMethodref 26 32), (0, .nameAndType 33 34), (0, u "size"), (0, u "()I"), (0, .interfaceMethodref 26 36), (0, .nameAndType 37 38), (0, u "remove"), (0, u "(I)Ljava/lang/Object;"), (0, .interfaceMethodref 26 40), (0, .nameAndType 41 42), (0, u "indexOf"), (0, u "(Ljava/lang/Object;)I"), (0, .interfaceMethodref 26 44), (0, .nameAndType 45 46), (0, u "subList"), (0, u "(II)Ljava/util/List;"), (0, .methodref 7 48), (0, .nameAndType 5 49), (0, u "(Ljava/util/Collection;)V"), (2, u "innerBeans"), (3, u "enter"), (0, u "(Ljava/lang/String;)Lcom/example/temanggung/temanggung/beans/factory/Creating;"), (1, u "leave")] 3

def k9c0 : Code := { maxStack := 3, maxLocals := 1, code := prog_33_method_1_code, exceptionTable := #[], attributes := #[] }
def k9m0 : Method := { name := "<init>", desc := "()V", sig := { parameters := [], returnType := none }, accessFlags := 0, code := some k9c0 }
def k9c1 : Code := { maxStack := 3, maxLocals := 3, code := prog_33_method_2_code, exceptionTable := #[], attributes := #[] }
def k9m1 : Method := { name := "enter", desc := "(Ljava/lang/String;)Lcom/example/temanggung/temanggung/beans/factory/Creating;", sig := { parameters := [(.object "java/lang/String")], returnType := some (.object "com/example/temanggung/temanggung/beans/factory/Creating") }, accessFlags := 0, code := some k9c1 }
def k9c2 : Code := { maxStack := 3, maxLocals := 1, code := prog_33_method_3_code, exceptionTable := #[], attributes := #[] }
def k9m2 : Method := { name := "leave", desc := "()V", sig := { parameters := [], returnType := none }, accessFlags := 0, code := some k9c2 }
def k9c3 : Code := { maxStack := 5, maxLocals := 4, code := prog_33_method_4_code, exceptionTable := #[], attributes := #[] }
def k9m3 : Method := { name := "cycleTo", desc := "(Ljava/lang/String;)Ljava/util/List;", sig := { parameters := [(.object "java/lang/String")], returnType := some (.object "java/util/List") }, accessFlags := 0, code := some k9c3 }
/-- com/example/temanggung/temanggung/beans/factory/Creating -/
def k9 : Class := { plain "com/example/temanggung/temanggung/beans/factory/Creating" (some 0) with
  accessFlags := 48
  interfaces := #[]
  cf := some (fileOf pool9 11 #[] #[{ accessFlags := 0, nameIndex := 5, descriptorIndex := 6, attributes := #[] }, { accessFlags := 0, nameIndex := 56, descriptorIndex := 57, attributes := #[] }, { accessFlags := 0, nameIndex := 59, descriptorIndex := 6, attributes := #[] }, { accessFlags := 0, nameIndex := 18, descriptorIndex := 19, attributes := #[] }] 48 2 #[] #[{ accessFlags := 18, nameIndex := 14, descriptorIndex := 15, attributes := #[] }, { accessFlags := 0, nameIndex := 52, descriptorIndex := 15, attributes := #[] }])
  fields := #[{ name := "path", type := (.object "java/util/List"), accessFlags := 18, slot := 0, constantValue := 0 }, { name := "innerBeans", type := (.object "java/util/List"), accessFlags := 0, slot := 1, constantValue := 0 }]
  methods := #[k9m0, k9m1, k9m2, k9m3]
  instanceTypes := #[(.object "java/util/List"), (.object "java/util/List")]
  staticTypes := #[]
  resolved := Array.replicate 63 none
  statics := none }

def pool10 : Array CpInfo := pool [(8, .class_ 10), (1, u "java/lang/Iterable"), (24, .class_ 36), (0, u "java/lang/Object")] 25

/-- java/lang/Iterable -/
def k10 : Class := { plain "java/lang/Iterable" (some 0) with
  accessFlags := 1537
  interfaces := #[]
  cf := some (fileOf pool10 8 #[] #[] 1537 35 #[] #[])
  fields := #[]
  methods := #[]
  instanceTypes := #[]
  staticTypes := #[]
  resolved := Array.replicate 62 none
  statics := none }

def pool11 : Array CpInfo := pool [(10, .class_ 12), (1, u "java/util/Collection"), (0, u "toArray"), (46, .class_ 61), (0, u "java/lang/Object"), (0, .class_ 63), (0, u "java/lang/Iterable"), (6, u "()[Ljava/lang/Object;")] 44

def k11m0 : Method := { name := "toArray", desc := "()[Ljava/lang/Object;", sig := { parameters := [], returnType := some (.array (.object "java/lang/Object")) }, accessFlags := 1025, code := none }
/-- java/util/Collection -/
def k11 : Class := { plain "java/util/Collection" (some 0) with
  accessFlags := 1537
  interfaces := #[10]
  cf := some (fileOf pool11 10 #[] #[{ accessFlags := 1025, nameIndex := 13, descriptorIndex := 70, attributes := #[] }] 1537 60 #[62] #[])
  fields := #[]
  methods := #[k11m0]
  instanceTypes := #[]
  staticTypes := #[]
  resolved := Array.replicate 115 none
  statics := none }

def pool12 : Array CpInfo := pool [(1, .methodref 2 3), (0, .class_ 4), (0, .nameAndType 5 6), (0, u "java/lang/Object"), (0, u "<init>"), (0, u "()V"), (1, .class_ 10), (1, u "java/util/AbstractCollection"), (66, .class_ 78), (0, u "java/util/Collection")] 81

def k12c0 : Code := { maxStack := 1, maxLocals := 1, code := jdk_22_method_1_code, exceptionTable := #[], attributes := #[] }
def k12m0 : Method := { name := "<init>", desc := "()V", sig := { parameters := [], returnType := none }, accessFlags := 4, code := some k12c0 }
/-- java/util/AbstractCollection -/
def k12 : Class := { plain "java/util/AbstractCollection" (some 0) with
  accessFlags := 1057
  interfaces := #[11]
  cf := some (fileOf pool12 8 #[] #[{ accessFlags := 4, nameIndex := 5, descriptorIndex := 6, attributes := #[] }] 1057 2 #[77] #[])
  fields := #[]
  methods := #[k12m0]
  instanceTypes := #[]
  staticTypes := #[]
  resolved := Array.replicate 160 none
  statics := none }

def pool13 : Array CpInfo := pool [(8, .class_ 10), (1, u "java/util/SequencedCollection"), (15, .class_ 27), (0, u "java/lang/Object"), (0, .class_ 29), (0, u "java/util/Collection")] 27

/-- java/util/SequencedCollection -/
def k13 : Class := { plain "java/util/SequencedCollection" (some 0) with
  accessFlags := 1537
  interfaces := #[11]
  cf := some (fileOf pool13 8 #[] #[] 1537 26 #[28] #[])
  fields := #[]
  methods := #[]
  instanceTypes := #[]
  staticTypes := #[]
  resolved := Array.replicate 57 none
  statics := none }

def pool14 : Array CpInfo := pool [(8, .class_ 10), (1, u "java/util/List"), (49, u "add"), (3, u "(Ljava/lang/Object;)Z"), (10, u "get"), (0, u "(I)Ljava/lang/Object;"), (2, u "size"), (0, u "()I"), (2, u "remove"), (19, .class_ 104), (0, u "java/lang/Object"), (15, .class_ 121), (0, u "java/util/SequencedCollection"), (54, u "indexOf"), (0, u "(Ljava/lang/Object;)I"), (4, u "subList"), (0, u "(II)Ljava/util/List;")] 67

def k14m0 : Method := { name := "size", desc := "()I", sig := { parameters := [], returnType := some .int }, accessFlags := 1025, code := none }
def k14m1 : Method := { name := "add", desc := "(Ljava/lang/Object;)Z", sig := { parameters := [(.object "java/lang/Object")], returnType := some .boolean }, accessFlags := 1025, code := none }
def k14m2 : Method := { name := "get", desc := "(I)Ljava/lang/Object;", sig := { parameters := [.int], returnType := some (.object "java/lang/Object") }, accessFlags := 1025, code := none }
def k14m3 : Method := { name := "remove", desc := "(I)Ljava/lang/Object;", sig := { parameters := [.int], returnType := some (.object "java/lang/Object") }, accessFlags := 1025, code := none }
def k14m4 : Method := { name := "indexOf", desc := "(Ljava/lang/Object;)I", sig := { parameters := [(.object "java/lang/Object")], returnType := some .int }, accessFlags := 1025, code := none }
def k14m5 : Method := { name := "subList", desc := "(II)Ljava/util/List;", sig := { parameters := [.int, .int], returnType := some (.object "java/util/List") }, accessFlags := 1025, code := none }
/-- java/util/List -/
def k14 : Class := { plain "java/util/List" (some 0) with
  accessFlags := 1537
  interfaces := #[13]
  cf := some (fileOf pool14 8 #[] #[{ accessFlags := 1025, nameIndex := 79, descriptorIndex := 80, attributes := #[] }, { accessFlags := 1025, nameIndex := 60, descriptorIndex := 64, attributes := #[] }, { accessFlags := 1025, nameIndex := 75, descriptorIndex := 76, attributes := #[] }, { accessFlags := 1025, nameIndex := 83, descriptorIndex := 76, attributes := #[] }, { accessFlags := 1025, nameIndex := 176, descriptorIndex := 177, attributes := #[] }, { accessFlags := 1025, nameIndex := 182, descriptorIndex := 183, attributes := #[] }] 1537 103 #[120] #[])
  fields := #[]
  methods := #[k14m0, k14m1, k14m2, k14m3, k14m4, k14m5]
  instanceTypes := #[]
  staticTypes := #[]
  resolved := Array.replicate 251 none
  statics := none }

def pool15 : Array CpInfo := pool [(1, .methodref 2 3), (0, .class_ 4), (0, .nameAndType 5 6), (0, u "java/util/AbstractCollection"), (0, u "<init>"), (0, u "()V"), (0, .fieldref 8 9), (0, .class_ 10), (0, .nameAndType 11 12), (0, u "java/util/AbstractList"), (0, u "modCount"), (0, u "I"), (64, .class_ 78), (0, u "java/util/AbstractList$Itr"), (3, .class_ 83), (0, u "java/util/AbstractList$ListItr"), (5, u "subListRangeCheck"), (0, u "(III)V"), (2, .class_ 94), (0, u "java/util/AbstractList$RandomAccessSubList"), (3, .class_ 99), (0, u "java/util/AbstractList$SubList"), (33, .class_ 134), (0, u "java/util/List"), (73, .class_ 209), (0, u "java/util/AbstractList$SubList$1"), (0, .class_ 211), (0, u "java/util/AbstractList$RandomAccessSpliterator")] 6

def k15c0 : Code := { maxStack := 2, maxLocals := 1, code := jdk_39_method_1_code, exceptionTable := #[], attributes := #[] }
def k15m0 : Method := { name := "<init>", desc := "()V", sig := { parameters := [], returnType := none }, accessFlags := 4, code := some k15c0 }
def k15c1 : Code := { maxStack := 4, maxLocals := 3, code := jdk_39_method_15_code, exceptionTable := #[], attributes := #[] }
def k15m1 : Method := { name := "subListRangeCheck", desc := "(III)V", sig := { parameters := [.int, .int, .int], returnType := none }, accessFlags := 8, code := some k15c1 }
/-- java/util/AbstractList -/
def k15 : Class := { plain "java/util/AbstractList" (some 12) with
  accessFlags := 1057
  interfaces := #[14]
  cf := some (fileOf pool15 8 #[.nestMembers #[93, 98, 208, 210, 82, 77]] #[{ accessFlags := 4, nameIndex := 5, descriptorIndex := 6, attributes := #[] }, { accessFlags := 8, nameIndex := 89, descriptorIndex := 90, attributes := #[] }] 1057 2 #[133] #[{ accessFlags := 132, nameIndex := 11, descriptorIndex := 12, attributes := #[] }])
  fields := #[{ name := "modCount", type := .int, accessFlags := 132, slot := 0, constantValue := 0 }]
  methods := #[k15m0, k15m1]
  instanceTypes := #[.int]
  staticTypes := #[]
  resolved := Array.replicate 218 none
  statics := none }

def pool16 : Array CpInfo := pool [(1, .class_ 2), (0, u "java/util/RandomAccess"), (0, .class_ 4), (0, u "java/lang/Object")] 2

/-- java/util/RandomAccess -/
def k16 : Class := { plain "java/util/RandomAccess" (some 0) with
  accessFlags := 1537
  interfaces := #[]
  cf := some (fileOf pool16 1 #[] #[] 1537 3 #[] #[])
  fields := #[]
  methods := #[]
  instanceTypes := #[]
  staticTypes := #[]
  resolved := Array.replicate 7 none
  statics := none }

def pool17 : Array CpInfo := pool [(1, .class_ 2), (0, u "java/lang/Cloneable"), (0, .class_ 4), (0, u "java/lang/Object")] 2

/-- java/lang/Cloneable -/
def k17 : Class := { plain "java/lang/Cloneable" (some 0) with
  accessFlags := 1537
  interfaces := #[]
  cf := some (fileOf pool17 1 #[] #[] 1537 3 #[] #[])
  fields := #[]
  methods := #[]
  instanceTypes := #[]
  staticTypes := #[]
  resolved := Array.replicate 7 none
  statics := none }

def pool18 : Array CpInfo := pool [(1, .methodref 2 3), (0, .class_ 4), (0, .nameAndType 5 6), (0, u "java/util/AbstractList"), (0, u "<init>"), (0, u "()V"), (0, .class_ 8), (0, u "java/lang/Object"), (0, .fieldref 10 11), (0, .class_ 12), (0, .nameAndType 13 14), (0, u "java/util/ArrayList"), (0, u "elementData"), (0, u "[Ljava/lang/Object;"), (2, u "EMPTY_ELEMENTDATA"), (21, .fieldref 10 40), (0, .nameAndType 41 14), (0, u "DEFAULTCAPACITY_EMPTY_ELEMENTDATA"), (0, .interfaceMethodref 43 44), (0, .class_ 45), (0, .nameAndType 46 47), (0, u "java/util/Collection"), (0, u "toArray"), (0, u "()[Ljava/lang/Object;"), (0, .fieldref 10 49), (0, .nameAndType 50 51), (0, u "size"), (0, u "I"), (0, .interfaceMethodref 43 53), (0, .nameAndType 54 55), (0, u "getClass"), (0, u "()Ljava/lang/Class;"), (0, .class_ 14), (0, .methodref 58 59), (0, .class_ 60), (0, .nameAndType 61 62), (0, u "java/util/Arrays"), (0, u "copyOf"), (0, u "([Ljava/lang/Object;ILjava/lang/Class;)[Ljava/lang/Object;"), (0, .fieldref 10 64), (0, .nameAndType 65 51), (0, u "modCount"), (0, .methodref 58 67), (0, .nameAndType 61 68), (0, u "([Ljava/lang/Object;I)[Ljava/lang/Object;"), (0, .methodref 10 70), (0, .nameAndType 71 72), (0, u "grow"), (0, u "(I)[Ljava/lang/Object;"), (0, .methodref 74 75), (0, .class_ 76), (0, .nameAndType 77 78), (0, u "jdk/internal/util/ArraysSupport"), (0, u "newLength"), (0, u "(III)I"), (0, .methodref 80 81), (0, .class_ 82), (0, .nameAndType 83 84), (0, u "java/lang/Math"), (0, u "max"), (0, u "(II)I"), (2, u "indexOf"), (0, u "(Ljava/lang/Object;)I"), (0, .methodref 10 90), (0, .nameAndType 91 92), (0, u "indexOfRange"), (0, u "(Ljava/lang/Object;II)I"), (0, .methodref 7 94), (0, .nameAndType 95 96), (0, u "equals"), (0, u "(Ljava/lang/Object;)Z"), (21, .methodref 119 120), (0, .class_ 121), (0, .nameAndType 122 84), (0, u "java/util/Objects"), (0, u "checkIndex"), (0, .methodref 10 124), (0, .nameAndType 13 125), (0, u "(I)Ljava/lang/Object;"), (3, .methodref 10 130), (0, .nameAndType 71 47), (0, .methodref 10 132), (0, .nameAndType 133 134), (0, u "add"), (0, u "(Ljava/lang/Object;[Ljava/lang/Object;I)V"), (9, .methodref 10 145), (0, .nameAndType 146 147), (0, u "fastRemove"), (0, u "([Ljava/lang/Object;I)V"), (0, .class_ 149), (0, u "java/util/List"), (36, u "()I"), (75, .class_ 263), (0, u "java/util/ArrayList$ListItr"), (3, .class_ 268), (0, u "java/util/ArrayList$Itr"), (3, .methodref 10 273), (0, .nameAndType 274 275), (0, u "subListRangeCheck"), (0, u "(III)V"), (0, .class_ 277), (0, u "java/util/ArrayList$SubList"), (0, .methodref 276 279), (0, .nameAndType 5 280), (0, u "(Ljava/util/ArrayList;II)V"), (9, .class_ 291), (0, u "java/util/ArrayList$ArrayListSpliterator"), (37, .class_ 330), (0, u "java/util/RandomAccess"), (0, .class_ 332), (0, u "java/lang/Cloneable"), (0, .class_ 334), (0, u "java/io/Serializable"), (0, u "serialVersionUID"), (0, u "J"), (3, u "DEFAULT_CAPACITY"), (10, u "(Ljava/util/Collection;)V"), (29, u "get"), (17, u "remove"), (59, u "subList"), (0, u "(II)Ljava/util/List;"), (39, .class_ 501), (0, u "java/util/ArrayList$SubList$2"), (0, .class_ 503), (0, u "java/util/ArrayList$SubList$1")] 5

def k18c0 : Code := { maxStack := 2, maxLocals := 1, code := jdk_38_method_2_code, exceptionTable := #[], attributes := #[] }
def k18m0 : Method := { name := "<init>", desc := "()V", sig := { parameters := [], returnType := none }, accessFlags := 1, code := some k18c0 }
def k18c1 : Code := { maxStack := 4, maxLocals := 3, code := jdk_38_method_3_code, exceptionTable := #[], attributes := #[] }
def k18m1 : Method := { name := "<init>", desc := "(Ljava/util/Collection;)V", sig := { parameters := [(.object "java/util/Collection")], returnType := none }, accessFlags := 1, code := some k18c1 }
def k18c2 : Code := { maxStack := 4, maxLocals := 4, code := jdk_38_method_6_code, exceptionTable := #[], attributes := #[] }
def k18m2 : Method := { name := "grow", desc := "(I)[Ljava/lang/Object;", sig := { parameters := [.int], returnType := some (.array (.object "java/lang/Object")) }, accessFlags := 2, code := some k18c2 }
def k18c3 : Code := { maxStack := 3, maxLocals := 1, code := jdk_38_method_7_code, exceptionTable := #[], attributes := #[] }
def k18m3 : Method := { name := "grow", desc := "()[Ljava/lang/Object;", sig := { parameters := [], returnType := some (.array (.object "java/lang/Object")) }, accessFlags := 2, code := some k18c3 }
def k18c4 : Code := { maxStack := 1, maxLocals := 1, code := jdk_38_method_8_code, exceptionTable := #[], attributes := #[] }
def k18m4 : Method := { name := "size", desc := "()I", sig := { parameters := [], returnType := some .int }, accessFlags := 1, code := some k18c4 }
def k18c5 : Code := { maxStack := 4, maxLocals := 2, code := jdk_38_method_11_code, exceptionTable := #[], attributes := #[] }
def k18m5 : Method := { name := "indexOf", desc := "(Ljava/lang/Object;)I", sig := { parameters := [(.object "java/lang/Object")], returnType := some .int }, accessFlags := 1, code := some k18c5 }
def k18c6 : Code := { maxStack := 3, maxLocals := 6, code := jdk_38_method_12_code, exceptionTable := #[], attributes := #[] }
def k18m6 : Method := { name := "indexOfRange", desc := "(Ljava/lang/Object;II)I", sig := { parameters := [(.object "java/lang/Object"), .int, .int], returnType := some .int }, accessFlags := 0, code := some k18c6 }
def k18c7 : Code := { maxStack := 2, maxLocals := 2, code := jdk_38_method_18_code, exceptionTable := #[], attributes := #[] }
def k18m7 : Method := { name := "elementData", desc := "(I)Ljava/lang/Object;", sig := { parameters := [.int], returnType := some (.object "java/lang/Object") }, accessFlags := 0, code := some k18c7 }
def k18c8 : Code := { maxStack := 2, maxLocals := 2, code := jdk_38_method_20_code, exceptionTable := #[], attributes := #[] }
def k18m8 : Method := { name := "get", desc := "(I)Ljava/lang/Object;", sig := { parameters := [.int], returnType := some (.object "java/lang/Object") }, accessFlags := 1, code := some k18c8 }
def k18c9 : Code := { maxStack := 3, maxLocals := 4, code := jdk_38_method_24_code, exceptionTable := #[], attributes := #[] }
def k18m9 : Method := { name := "add", desc := "(Ljava/lang/Object;[Ljava/lang/Object;I)V", sig := { parameters := [(.object "java/lang/Object"), (.array (.object "java/lang/Object")), .int], returnType := none }, accessFlags := 2, code := some k18c9 }
def k18c10 : Code := { maxStack := 4, maxLocals := 2, code := jdk_38_method_25_code, exceptionTable := #[], attributes := #[] }
def k18m10 : Method := { name := "add", desc := "(Ljava/lang/Object;)Z", sig := { parameters := [(.object "java/lang/Object")], returnType := some .boolean }, accessFlags := 1, code := some k18c10 }
def k18c11 : Code := { maxStack := 3, maxLocals := 4, code := jdk_38_method_29_code, exceptionTable := #[], attributes := #[] }
def k18m11 : Method := { name := "remove", desc := "(I)Ljava/lang/Object;", sig := { parameters := [.int], returnType := some (.object "java/lang/Object") }, accessFlags := 1, code := some k18c11 }
def k18c12 : Code := { maxStack := 6, maxLocals := 4, code := jdk_38_method_39_code, exceptionTable := #[], attributes := #[] }
def k18m12 : Method := { name := "fastRemove", desc := "([Ljava/lang/Object;I)V", sig := { parameters := [(.array (.object "java/lang/Object")), .int], returnType := none }, accessFlags := 2, code := some k18c12 }
def k18c13 : Code := { maxStack := 5, maxLocals := 3, code := jdk_38_method_56_code, exceptionTable := #[], attributes := #[] }
def k18m13 : Method := { name := "subList", desc := "(II)Ljava/util/List;", sig := { parameters := [.int, .int], returnType := some (.object "java/util/List") }, accessFlags := 1, code := some k18c13 }
/-- java/util/ArrayList -/
def k18 : Class := { plain "java/util/ArrayList" (some 15) with
  accessFlags := 33
  interfaces := #[14, 16, 17, 2]
  cf := some (fileOf pool18 10 #[.nestMembers #[290, 276, 500, 502, 262, 267]] #[{ accessFlags := 1, nameIndex := 5, descriptorIndex := 6, attributes := #[] }, { accessFlags := 1, nameIndex := 5, descriptorIndex := 351, attributes := #[] }, { accessFlags := 2, nameIndex := 71, descriptorIndex := 72, attributes := #[] }, { accessFlags := 2, nameIndex := 71, descriptorIndex := 47, attributes := #[] }, { accessFlags := 1, nameIndex := 50, descriptorIndex := 186, attributes := #[] }, { accessFlags := 1, nameIndex := 87, descriptorIndex := 88, attributes := #[] }, { accessFlags := 0, nameIndex := 91, descriptorIndex := 92, attributes := #[] }, { accessFlags := 0, nameIndex := 13, descriptorIndex := 125, attributes := #[] }, { accessFlags := 1, nameIndex := 381, descriptorIndex := 125, attributes := #[] }, { accessFlags := 2, nameIndex := 133, descriptorIndex := 134, attributes := #[] }, { accessFlags := 1, nameIndex := 133, descriptorIndex := 96, attributes := #[] }, { accessFlags := 1, nameIndex := 399, descriptorIndex := 125, attributes := #[] }, { accessFlags := 2, nameIndex := 146, descriptorIndex := 147, attributes := #[] }, { accessFlags := 1, nameIndex := 459, descriptorIndex := 460, attributes := #[] }] 33 2 #[148, 329, 331, 333] #[{ accessFlags := 26, nameIndex := 335, descriptorIndex := 336, attributes := #[] }, { accessFlags := 26, nameIndex := 340, descriptorIndex := 51, attributes := #[] }, { accessFlags := 26, nameIndex := 17, descriptorIndex := 14, attributes := #[] }, { accessFlags := 26, nameIndex := 41, descriptorIndex := 14, attributes := #[] }, { accessFlags := 128, nameIndex := 13, descriptorIndex := 14, attributes := #[] }, { accessFlags := 2, nameIndex := 50, descriptorIndex := 51, attributes := #[] }])
  fields := #[{ name := "serialVersionUID", type := .long, accessFlags := 26, slot := 0, constantValue := 0 }, { name := "DEFAULT_CAPACITY", type := .int, accessFlags := 26, slot := 1, constantValue := 0 }, { name := "EMPTY_ELEMENTDATA", type := (.array (.object "java/lang/Object")), accessFlags := 26, slot := 2, constantValue := 0 }, { name := "DEFAULTCAPACITY_EMPTY_ELEMENTDATA", type := (.array (.object "java/lang/Object")), accessFlags := 26, slot := 3, constantValue := 0 }, { name := "elementData", type := (.array (.object "java/lang/Object")), accessFlags := 128, slot := 1, constantValue := 0 }, { name := "size", type := .int, accessFlags := 2, slot := 2, constantValue := 0 }]
  methods := #[k18m0, k18m1, k18m2, k18m3, k18m4, k18m5, k18m6, k18m7, k18m8, k18m9, k18m10, k18m11, k18m12, k18m13]
  instanceTypes := #[.int, (.array (.object "java/lang/Object")), .int]
  staticTypes := #[.long, .int, (.array (.object "java/lang/Object")), (.array (.object "java/lang/Object"))]
  resolved := Array.replicate 509 none
  mirror := some 5
  statics := some 1 }

def pool19 : Array CpInfo := pool [(1, .class_ 2), (0, u "java/lang/Math"), (1, .class_ 6), (1, u "java/lang/Object"), (0, u "<init>"), (0, u "()V"), (89, .class_ 100), (1, u "java/lang/Math$RandomNumberGeneratorHolder"), (71, u "negativeZeroFloatBits"), (0, u "J"), (2, u "negativeZeroDoubleBits"), (21, u "max"), (2, u "min"), (43, u "$assertionsDisabled"), (0, u "Z"), (88, u "(II)I"), (2, u "twoToTheDoubleScaleDown"), (0, u "D"), (4, u "twoToTheDoubleScaleUp"), (9, u "E"), (3, u "PI"), (2, u "TAU"), (2, u "DEGREES_TO_RADIANS"), (0, u "RADIANS_TO_DEGREES")] 94

def k19m0 : Method := { name := "<init>", desc := "()V", sig := { parameters := [], returnType := none }, accessFlags := 2, code := none }
def k19c1 : Code := { maxStack := 2, maxLocals := 2, code := jdk_29_method_65_code, exceptionTable := #[], attributes := #[] }
def k19m1 : Method := { name := "max", desc := "(II)I", sig := { parameters := [.int, .int], returnType := some .int }, accessFlags := 9, code := some k19c1 }
def k19c2 : Code := { maxStack := 2, maxLocals := 2, code := jdk_29_method_69_code, exceptionTable := #[], attributes := #[] }
def k19m2 : Method := { name := "min", desc := "(II)I", sig := { parameters := [.int, .int], returnType := some .int }, accessFlags := 9, code := some k19c2 }
/-- java/lang/Math -/
def k19 : Class := { plain "java/lang/Math" (some 0) with
  accessFlags := 49
  interfaces := #[]
  cf := some (fileOf pool19 1 #[.nestMembers #[98]] #[{ accessFlags := 2, nameIndex := 7, descriptorIndex := 8, attributes := #[] }, { accessFlags := 9, nameIndex := 198, descriptorIndex := 335, attributes := #[] }, { accessFlags := 9, nameIndex := 201, descriptorIndex := 335, attributes := #[] }] 49 4 #[] #[{ accessFlags := 25, nameIndex := 354, descriptorIndex := 339, attributes := #[] }, { accessFlags := 25, nameIndex := 358, descriptorIndex := 339, attributes := #[] }, { accessFlags := 25, nameIndex := 361, descriptorIndex := 339, attributes := #[] }, { accessFlags := 26, nameIndex := 364, descriptorIndex := 339, attributes := #[] }, { accessFlags := 26, nameIndex := 365, descriptorIndex := 339, attributes := #[] }, { accessFlags := 26, nameIndex := 172, descriptorIndex := 173, attributes := #[] }, { accessFlags := 26, nameIndex := 176, descriptorIndex := 173, attributes := #[] }, { accessFlags := 8, nameIndex := 344, descriptorIndex := 339, attributes := #[] }, { accessFlags := 8, nameIndex := 338, descriptorIndex := 339, attributes := #[] }, { accessFlags := 4120, nameIndex := 245, descriptorIndex := 246, attributes := #[] }])
  fields := #[{ name := "E", type := .double, accessFlags := 25, slot := 0, constantValue := 0 }, { name := "PI", type := .double, accessFlags := 25, slot := 1, constantValue := 0 }, { name := "TAU", type := .double, accessFlags := 25, slot := 2, constantValue := 0 }, { name := "DEGREES_TO_RADIANS", type := .double, accessFlags := 26, slot := 3, constantValue := 0 }, { name := "RADIANS_TO_DEGREES", type := .double, accessFlags := 26, slot := 4, constantValue := 0 }, { name := "negativeZeroFloatBits", type := .long, accessFlags := 26, slot := 5, constantValue := 0 }, { name := "negativeZeroDoubleBits", type := .long, accessFlags := 26, slot := 6, constantValue := 0 }, { name := "twoToTheDoubleScaleUp", type := .double, accessFlags := 8, slot := 7, constantValue := 0 }, { name := "twoToTheDoubleScaleDown", type := .double, accessFlags := 8, slot := 8, constantValue := 0 }, { name := "$assertionsDisabled", type := .boolean, accessFlags := 4120, slot := 9, constantValue := 0 }]
  methods := #[k19m0, k19m1, k19m2]
  instanceTypes := #[]
  staticTypes := #[.double, .double, .double, .double, .double, .long, .long, .double, .double, .boolean]
  resolved := Array.replicate 460 none
  statics := none }

def pool20 : Array CpInfo := pool [(4, .class_ 6), (1, u "java/lang/Object"), (0, u "<init>"), (0, u "()V"), (5, .class_ 16), (1, u "java/lang/StringLatin1"), (104, u "$assertionsDisabled"), (0, u "Z"), (98, .class_ 223), (1, u "java/lang/StringLatin1$LinesSpliterator"), (57, u "equals"), (0, u "([B[B)Z"), (107, .class_ 391), (0, u "java/lang/StringLatin1$CharsSpliterator")] 3

def k20m0 : Method := { name := "<init>", desc := "()V", sig := { parameters := [], returnType := none }, accessFlags := 0, code := none }
def k20c1 : Code := { maxStack := 3, maxLocals := 3, code := jdk_43_method_13_code, exceptionTable := #[], attributes := #[] }
def k20m1 : Method := { name := "equals", desc := "([B[B)Z", sig := { parameters := [(.array .byte), (.array .byte)], returnType := some .boolean }, accessFlags := 9, code := some k20c1 }
/-- java/lang/StringLatin1 -/
def k20 : Class := { plain "java/lang/StringLatin1" (some 0) with
  accessFlags := 48
  interfaces := #[]
  cf := some (fileOf pool20 14 #[.nestMembers #[390, 221]] #[{ accessFlags := 0, nameIndex := 7, descriptorIndex := 8, attributes := #[] }, { accessFlags := 9, nameIndex := 281, descriptorIndex := 282, attributes := #[] }] 48 4 #[] #[{ accessFlags := 4120, nameIndex := 121, descriptorIndex := 122, attributes := #[] }])
  fields := #[{ name := "$assertionsDisabled", type := .boolean, accessFlags := 4120, slot := 0, constantValue := 0 }]
  methods := #[k20m0, k20m1]
  instanceTypes := #[]
  staticTypes := #[.boolean]
  resolved := Array.replicate 395 none
  statics := none }

def pool21 : Array CpInfo := pool [(2, .class_ 4), (1, u "java/lang/Object"), (0, u "<init>"), (0, u "()V"), (35, .class_ 44), (1, u "java/util/Objects"), (60, .methodref 106 107), (0, .class_ 108), (0, .nameAndType 109 110), (0, u "jdk/internal/util/Preconditions"), (0, u "checkIndex"), (0, u "(IILjava/util/function/BiFunction;)I"), (60, u "(II)I")] 12

def k21m0 : Method := { name := "<init>", desc := "()V", sig := { parameters := [], returnType := none }, accessFlags := 2, code := none }
def k21c1 : Code := { maxStack := 3, maxLocals := 2, code := jdk_31_method_17_code, exceptionTable := #[], attributes := #[] }
def k21m1 : Method := { name := "checkIndex", desc := "(II)I", sig := { parameters := [.int, .int], returnType := some .int }, accessFlags := 9, code := some k21c1 }
/-- java/util/Objects -/
def k21 : Class := { plain "java/util/Objects" (some 0) with
  accessFlags := 49
  interfaces := #[]
  cf := some (fileOf pool21 42 #[] #[{ accessFlags := 2, nameIndex := 5, descriptorIndex := 6, attributes := #[] }, { accessFlags := 9, nameIndex := 109, descriptorIndex := 171, attributes := #[] }] 49 2 #[] #[])
  fields := #[]
  methods := #[k21m0, k21m1]
  instanceTypes := #[]
  staticTypes := #[]
  resolved := Array.replicate 184 none
  statics := none }

def pool22 : Array CpInfo := pool [(2, .class_ 4), (1, u "java/lang/Object"), (0, u "<init>"), (0, u "()V"), (17, .class_ 26), (1, u "jdk/internal/util/Preconditions"), (6, u "checkIndex"), (21, .class_ 56), (0, u "jdk/internal/util/Preconditions$4"), (57, .class_ 115), (0, u "jdk/internal/util/Preconditions$1"), (7, u "SIOOBE_FORMATTER"), (0, u "Ljava/util/function/BiFunction;"), (0, .class_ 126), (0, u "jdk/internal/util/Preconditions$2"), (3, u "AIOOBE_FORMATTER"), (0, .class_ 132), (0, u "jdk/internal/util/Preconditions$3"), (3, u "IOOBE_FORMATTER"), (41, u "(IILjava/util/function/BiFunction;)I")] 15

def k22m0 : Method := { name := "<init>", desc := "()V", sig := { parameters := [], returnType := none }, accessFlags := 1, code := none }
def k22c1 : Code := { maxStack := 3, maxLocals := 3, code := jdk_41_method_11_code, exceptionTable := #[], attributes := #[] }
def k22m1 : Method := { name := "checkIndex", desc := "(IILjava/util/function/BiFunction;)I", sig := { parameters := [.int, .int, (.object "java/util/function/BiFunction")], returnType := some .int }, accessFlags := 9, code := some k22c1 }
/-- jdk/internal/util/Preconditions -/
def k22 : Class := { plain "jdk/internal/util/Preconditions" (some 0) with
  accessFlags := 33
  interfaces := #[]
  cf := some (fileOf pool22 24 #[.nestMembers #[55, 131, 125, 114]] #[{ accessFlags := 1, nameIndex := 5, descriptorIndex := 6, attributes := #[] }, { accessFlags := 9, nameIndex := 33, descriptorIndex := 178, attributes := #[] }] 33 2 #[] #[{ accessFlags := 25, nameIndex := 123, descriptorIndex := 124, attributes := #[] }, { accessFlags := 25, nameIndex := 130, descriptorIndex := 124, attributes := #[] }, { accessFlags := 25, nameIndex := 136, descriptorIndex := 124, attributes := #[] }])
  fields := #[{ name := "SIOOBE_FORMATTER", type := (.object "java/util/function/BiFunction"), accessFlags := 25, slot := 0, constantValue := 0 }, { name := "AIOOBE_FORMATTER", type := (.object "java/util/function/BiFunction"), accessFlags := 25, slot := 1, constantValue := 0 }, { name := "IOOBE_FORMATTER", type := (.object "java/util/function/BiFunction"), accessFlags := 25, slot := 2, constantValue := 0 }]
  methods := #[k22m0, k22m1]
  instanceTypes := #[]
  staticTypes := #[(.object "java/util/function/BiFunction"), (.object "java/util/function/BiFunction"), (.object "java/util/function/BiFunction")]
  resolved := Array.replicate 194 none
  statics := some 2 }

def pool23 : Array CpInfo := pool [(1, .methodref 2 3), (0, .class_ 4), (0, .nameAndType 5 6), (0, u "java/util/AbstractList"), (0, u "<init>"), (0, u "()V"), (0, .fieldref 8 9), (0, .class_ 10), (0, .nameAndType 11 12), (0, u "java/util/ArrayList$SubList"), (0, u "root"), (0, u "Ljava/util/ArrayList;"), (0, .fieldref 8 14), (0, .nameAndType 15 16), (0, u "parent"), (0, u "Ljava/util/ArrayList$SubList;"), (0, .fieldref 8 18), (0, .nameAndType 19 20), (0, u "offset"), (0, u "I"), (0, .fieldref 8 22), (0, .nameAndType 23 20), (0, u "size"), (0, .fieldref 25 26), (0, .class_ 27), (0, .nameAndType 28 20), (0, u "java/util/ArrayList"), (0, u "modCount"), (0, .fieldref 8 26), (6, .methodref 8 37), (0, .nameAndType 38 6), (0, u "checkForComodification"), (2, u "elementData"), (1, .fieldref 25 44), (0, .nameAndType 41 45), (0, u "[Ljava/lang/Object;"), (44, .methodref 91 92), (0, .class_ 93), (0, .nameAndType 94 95), (0, u "java/util/Arrays"), (0, u "copyOfRange"), (0, u "([Ljava/lang/Object;II)[Ljava/lang/Object;"), (86, .class_ 183), (0, u "java/util/RandomAccess"), (3, u "(Ljava/util/ArrayList;II)V"), (49, u "toArray"), (0, u "()[Ljava/lang/Object;")] 31

def k23c0 : Code := { maxStack := 3, maxLocals := 4, code := jdk_130_method_1_code, exceptionTable := #[], attributes := #[] }
def k23m0 : Method := { name := "<init>", desc := "(Ljava/util/ArrayList;II)V", sig := { parameters := [(.object "java/util/ArrayList"), .int, .int], returnType := none }, accessFlags := 1, code := some k23c0 }
def k23c1 : Code := { maxStack := 4, maxLocals := 1, code := jdk_130_method_16_code, exceptionTable := #[], attributes := #[] }
def k23m1 : Method := { name := "toArray", desc := "()[Ljava/lang/Object;", sig := { parameters := [], returnType := some (.array (.object "java/lang/Object")) }, accessFlags := 1, code := some k23c1 }
def k23c2 : Code := { maxStack := 2, maxLocals := 1, code := jdk_130_method_28_code, exceptionTable := #[], attributes := #[] }
def k23m2 : Method := { name := "checkForComodification", desc := "()V", sig := { parameters := [], returnType := none }, accessFlags := 2, code := some k23c2 }
/-- java/util/ArrayList$SubList -/
def k23 : Class := { plain "java/util/ArrayList$SubList" (some 15) with
  accessFlags := 32
  interfaces := #[16]
  cf := some (fileOf pool23 8 #[.nestHost 25] #[{ accessFlags := 1, nameIndex := 5, descriptorIndex := 187, attributes := #[] }, { accessFlags := 1, nameIndex := 237, descriptorIndex := 238, attributes := #[] }, { accessFlags := 2, nameIndex := 38, descriptorIndex := 6, attributes := #[] }] 32 2 #[182] #[{ accessFlags := 18, nameIndex := 11, descriptorIndex := 12, attributes := #[] }, { accessFlags := 18, nameIndex := 15, descriptorIndex := 16, attributes := #[] }, { accessFlags := 18, nameIndex := 19, descriptorIndex := 20, attributes := #[] }, { accessFlags := 2, nameIndex := 23, descriptorIndex := 20, attributes := #[] }])
  fields := #[{ name := "root", type := (.object "java/util/ArrayList"), accessFlags := 18, slot := 1, constantValue := 0 }, { name := "parent", type := (.object "java/util/ArrayList$SubList"), accessFlags := 18, slot := 2, constantValue := 0 }, { name := "offset", type := .int, accessFlags := 18, slot := 3, constantValue := 0 }, { name := "size", type := .int, accessFlags := 2, slot := 4, constantValue := 0 }]
  methods := #[k23m0, k23m1, k23m2]
  instanceTypes := #[.int, (.object "java/util/ArrayList"), (.object "java/util/ArrayList$SubList"), .int, .int]
  staticTypes := #[]
  resolved := Array.replicate 270 none
  mirror := some 4
  statics := none }

def pool24 : Array CpInfo := pool [(2, .class_ 4), (1, u "java/lang/Object"), (0, u "<init>"), (0, u "()V"), (7, .class_ 16), (1, u "java/util/Arrays"), (57, .class_ 76), (1, u "java/util/Arrays$NaturalOrder"), (9, .methodref 2 87), (0, .nameAndType 88 89), (0, u "getClass"), (0, u "()Ljava/lang/Class;"), (20, .class_ 111), (0, u "[Ljava/lang/Object;"), (1, .class_ 115), (1, u "java/util/Arrays$LegacyMergeSort"), (1, u "Z"), (21, u "copyOfRange"), (0, u "([Ljava/lang/Object;II)[Ljava/lang/Object;"), (9, .methodref 151 152), (0, .class_ 153), (0, .nameAndType 154 155), (0, u "java/lang/System"), (0, u "arraycopy"), (0, u "(Ljava/lang/Object;ILjava/lang/Object;II)V"), (144, .methodref 14 301), (0, .nameAndType 302 303), (0, u "copyOf"), (0, u "([Ljava/lang/Object;ILjava/lang/Class;)[Ljava/lang/Object;"), (0, .methodref 305 306), (0, .class_ 307), (0, .nameAndType 308 309), (0, u "java/lang/Math"), (0, u "min"), (0, u "(II)I"), (24, .methodref 14 335), (0, .nameAndType 139 336), (0, u "([Ljava/lang/Object;IILjava/lang/Class;)[Ljava/lang/Object;"), (38, .class_ 376), (0, u "java/util/Arrays$ArrayList"), (68, u "$assertionsDisabled"), (269, u "MIN_ARRAY_SORT_GRAN"), (0, u "I"), (2, u "INSERTIONSORT_THRESHOLD"), (140, u "([Ljava/lang/Object;I)[Ljava/lang/Object;"), (114, .class_ 976), (0, u "java/util/Arrays$ArrayItr")] 52

def k24m0 : Method := { name := "<init>", desc := "()V", sig := { parameters := [], returnType := none }, accessFlags := 2, code := none }
def k24c1 : Code := { maxStack := 3, maxLocals := 2, code := jdk_65_method_119_code, exceptionTable := #[], attributes := #[] }
def k24m1 : Method := { name := "copyOf", desc := "([Ljava/lang/Object;I)[Ljava/lang/Object;", sig := { parameters := [(.array (.object "java/lang/Object")), .int], returnType := some (.array (.object "java/lang/Object")) }, accessFlags := 9, code := some k24c1 }
def k24c2 : Code := { maxStack := 6, maxLocals := 4, code := jdk_65_method_120_code, exceptionTable := #[], attributes := #[] }
def k24m2 : Method := { name := "copyOf", desc := "([Ljava/lang/Object;ILjava/lang/Class;)[Ljava/lang/Object;", sig := { parameters := [(.array (.object "java/lang/Object")), .int, (.object "java/lang/Class")], returnType := some (.array (.object "java/lang/Object")) }, accessFlags := 9, code := some k24c2 }
def k24c3 : Code := { maxStack := 4, maxLocals := 3, code := jdk_65_method_129_code, exceptionTable := #[], attributes := #[] }
def k24m3 : Method := { name := "copyOfRange", desc := "([Ljava/lang/Object;II)[Ljava/lang/Object;", sig := { parameters := [(.array (.object "java/lang/Object")), .int, .int], returnType := some (.array (.object "java/lang/Object")) }, accessFlags := 9, code := some k24c3 }
def k24c4 : Code := { maxStack := 6, maxLocals := 6, code := jdk_65_method_130_code, exceptionTable := #[], attributes := #[] }
def k24m4 : Method := { name := "copyOfRange", desc := "([Ljava/lang/Object;IILjava/lang/Class;)[Ljava/lang/Object;", sig := { parameters := [(.array (.object "java/lang/Object")), .int, .int, (.object "java/lang/Class")], returnType := some (.array (.object "java/lang/Object")) }, accessFlags := 9, code := some k24c4 }
/-- java/util/Arrays -/
def k24 : Class := { plain "java/util/Arrays" (some 0) with
  accessFlags := 49
  interfaces := #[]
  cf := some (fileOf pool24 14 #[.nestMembers #[975, 375, 113, 74]] #[{ accessFlags := 2, nameIndex := 5, descriptorIndex := 6, attributes := #[] }, { accessFlags := 9, nameIndex := 302, descriptorIndex := 860, attributes := #[] }, { accessFlags := 9, nameIndex := 302, descriptorIndex := 303, attributes := #[] }, { accessFlags := 9, nameIndex := 139, descriptorIndex := 140, attributes := #[] }, { accessFlags := 9, nameIndex := 139, descriptorIndex := 336, attributes := #[] }] 49 2 #[] #[{ accessFlags := 26, nameIndex := 715, descriptorIndex := 716, attributes := #[] }, { accessFlags := 26, nameIndex := 719, descriptorIndex := 716, attributes := #[] }, { accessFlags := 4120, nameIndex := 445, descriptorIndex := 117, attributes := #[] }])
  fields := #[{ name := "MIN_ARRAY_SORT_GRAN", type := .int, accessFlags := 26, slot := 0, constantValue := 0 }, { name := "INSERTIONSORT_THRESHOLD", type := .int, accessFlags := 26, slot := 1, constantValue := 0 }, { name := "$assertionsDisabled", type := .boolean, accessFlags := 4120, slot := 2, constantValue := 0 }]
  methods := #[k24m0, k24m1, k24m2, k24m3, k24m4]
  instanceTypes := #[]
  staticTypes := #[.int, .int, .boolean]
  resolved := Array.replicate 1029 none
  statics := none }

def pool25 : Array CpInfo := pool [(2, .class_ 4), (1, u "java/lang/Object"), (0, u "<init>"), (0, u "()V"), (1, .class_ 10), (1, u "java/lang/System"), (0, u "allowSecurityManager"), (0, u "I"), (16, u "cons"), (0, u "Ljava/io/Console;"), (77, .class_ 110), (1, u "java/lang/System$CallersHolder"), (43, u "initialErrStream"), (0, u "Ljava/io/PrintStream;"), (19, u "security"), (0, u "Ljava/lang/SecurityManager;"), (31, .class_ 209), (0, u "java/lang/System$1"), (7, u "props"), (0, u "Ljava/util/Properties;"), (2, u "lineSeparator"), (0, u "Ljava/lang/String;"), (96, .class_ 321), (1, u "java/lang/System$LoggerFinder"), (5, .class_ 328), (0, u "java/lang/System$Logger"), (67, u "err"), (2, u "out"), (91, u "notSupportedJnuEncoding"), (15, u "in"), (17, u "initialIn"), (0, u "Ljava/io/InputStream;"), (35, u "bootLayer"), (0, u "Ljava/lang/ModuleLayer;"), (99, .class_ 664), (0, u "java/lang/System$2"), (9, u "NEVER"), (2, u "MAYBE"), (49, u "arraycopy"), (0, u "(Ljava/lang/Object;ILjava/lang/Object;II)V"), (72, .class_ 802), (0, u "java/lang/System$Logger$Level")] 31

def k25m0 : Method := { name := "<init>", desc := "()V", sig := { parameters := [], returnType := none }, accessFlags := 2, code := none }
def k25m1 : Method := { name := "arraycopy", desc := "(Ljava/lang/Object;ILjava/lang/Object;II)V", sig := { parameters := [(.object "java/lang/Object"), .int, (.object "java/lang/Object"), .int, .int], returnType := none }, accessFlags := 265, code := none }
/-- java/lang/System -/
def k25 : Class := { plain "java/lang/System" (some 0) with
  accessFlags := 49
  interfaces := #[]
  cf := some (fileOf pool25 8 #[.nestMembers #[319, 327, 801, 108, 663, 208]] #[{ accessFlags := 2, nameIndex := 5, descriptorIndex := 6, attributes := #[] }, { accessFlags := 265, nameIndex := 727, descriptorIndex := 728, attributes := #[] }] 49 2 #[] #[{ accessFlags := 25, nameIndex := 507, descriptorIndex := 526, attributes := #[] }, { accessFlags := 25, nameIndex := 399, descriptorIndex := 155, attributes := #[] }, { accessFlags := 25, nameIndex := 396, descriptorIndex := 155, attributes := #[] }, { accessFlags := 10, nameIndex := 525, descriptorIndex := 526, attributes := #[] }, { accessFlags := 26, nameIndex := 674, descriptorIndex := 12, attributes := #[] }, { accessFlags := 26, nameIndex := 677, descriptorIndex := 12, attributes := #[] }, { accessFlags := 10, nameIndex := 11, descriptorIndex := 12, attributes := #[] }, { accessFlags := 74, nameIndex := 175, descriptorIndex := 176, attributes := #[] }, { accessFlags := 10, nameIndex := 491, descriptorIndex := 222, attributes := #[] }, { accessFlags := 74, nameIndex := 29, descriptorIndex := 30, attributes := #[] }, { accessFlags := 74, nameIndex := 154, descriptorIndex := 155, attributes := #[] }, { accessFlags := 10, nameIndex := 217, descriptorIndex := 218, attributes := #[] }, { accessFlags := 10, nameIndex := 221, descriptorIndex := 222, attributes := #[] }, { accessFlags := 8, nameIndex := 562, descriptorIndex := 563, attributes := #[] }])
  fields := #[{ name := "in", type := (.object "java/io/InputStream"), accessFlags := 25, slot := 0, constantValue := 0 }, { name := "out", type := (.object "java/io/PrintStream"), accessFlags := 25, slot := 1, constantValue := 0 }, { name := "err", type := (.object "java/io/PrintStream"), accessFlags := 25, slot := 2, constantValue := 0 }, { name := "initialIn", type := (.object "java/io/InputStream"), accessFlags := 10, slot := 3, constantValue := 0 }, { name := "NEVER", type := .int, accessFlags := 26, slot := 4, constantValue := 0 }, { name := "MAYBE", type := .int, accessFlags := 26, slot := 5, constantValue := 0 }, { name := "allowSecurityManager", type := .int, accessFlags := 10, slot := 6, constantValue := 0 }, { name := "security", type := (.object "java/lang/SecurityManager"), accessFlags := 74, slot := 7, constantValue := 0 }, { name := "notSupportedJnuEncoding", type := (.object "java/lang/String"), accessFlags := 10, slot := 8, constantValue := 0 }, { name := "cons", type := (.object "java/io/Console"), accessFlags := 74, slot := 9, constantValue := 0 }, { name := "initialErrStream", type := (.object "java/io/PrintStream"), accessFlags := 74, slot := 10, constantValue := 0 }, { name := "props", type := (.object "java/util/Properties"), accessFlags := 10, slot := 11, constantValue := 0 }, { name := "lineSeparator", type := (.object "java/lang/String"), accessFlags := 10, slot := 12, constantValue := 0 }, { name := "bootLayer", type := (.object "java/lang/ModuleLayer"), accessFlags := 8, slot := 13, constantValue := 0 }]
  methods := #[k25m0, k25m1]
  instanceTypes := #[]
  staticTypes := #[(.object "java/io/InputStream"), (.object "java/io/PrintStream"), (.object "java/io/PrintStream"), (.object "java/io/InputStream"), .int, .int, .int, (.object "java/lang/SecurityManager"), (.object "java/lang/String"), (.object "java/io/Console"), (.object "java/io/PrintStream"), (.object "java/util/Properties"), (.object "java/lang/String"), (.object "java/lang/ModuleLayer")]
  resolved := Array.replicate 834 none
  statics := none }

def pool26 : Array CpInfo := pool [(9, u "<init>"), (6, .class_ 18), (1, u "java/lang/Object"), (0, u "()V"), (1, .class_ 23), (1, u "jdk/internal/util/ArraysSupport"), (0, u "LOG2_ARRAY_LONG_INDEX_SCALE"), (0, u "I"), (2, u "U"), (0, u "Ljdk/internal/misc/Unsafe;"), (8, u "BIG_ENDIAN"), (0, u "Z"), (8, u "LOG2_BYTE_BIT_SIZE"), (4, u "LOG2_ARRAY_INT_INDEX_SCALE"), (54, u "JLA"), (0, u "Ljdk/internal/access/JavaLangAccess;"), (11, u "LOG2_ARRAY_BOOLEAN_INDEX_SCALE"), (9, u "LOG2_ARRAY_BYTE_INDEX_SCALE"), (5, u "LOG2_ARRAY_CHAR_INDEX_SCALE"), (5, u "LOG2_ARRAY_SHORT_INDEX_SCALE"), (18, u "LOG2_ARRAY_FLOAT_INDEX_SCALE"), (24, u "LOG2_ARRAY_DOUBLE_INDEX_SCALE"), (6, .methodref 195 196), (0, .class_ 197), (0, .nameAndType 198 199), (0, u "java/lang/Math"), (0, u "max"), (0, u "(II)I"), (0, .integer 2147483639), (76, u "T_BOOLEAN"), (2, u "T_CHAR"), (1, u "T_FLOAT"), (1, u "T_DOUBLE"), (1, u "T_BYTE"), (1, u "T_SHORT"), (1, u "T_INT"), (1, u "T_LONG"), (1, u "SOFT_MAX_ARRAY_LENGTH"), (56, u "newLength"), (0, u "(III)I")] 25

def k26m0 : Method := { name := "<init>", desc := "()V", sig := { parameters := [], returnType := none }, accessFlags := 2, code := none }
def k26c1 : Code := { maxStack := 3, maxLocals := 4, code := jdk_48_method_27_code, exceptionTable := #[], attributes := #[] }
def k26m1 : Method := { name := "newLength", desc := "(III)I", sig := { parameters := [.int, .int, .int], returnType := some .int }, accessFlags := 9, code := some k26c1 }
/-- jdk/internal/util/ArraysSupport -/
def k26 : Class := { plain "jdk/internal/util/ArraysSupport" (some 0) with
  accessFlags := 33
  interfaces := #[]
  cf := some (fileOf pool26 21 #[] #[{ accessFlags := 2, nameIndex := 9, descriptorIndex := 19, attributes := #[] }, { accessFlags := 9, nameIndex := 351, descriptorIndex := 352, attributes := #[] }] 33 16 #[] #[{ accessFlags := 24, nameIndex := 28, descriptorIndex := 29, attributes := #[] }, { accessFlags := 26, nameIndex := 38, descriptorIndex := 39, attributes := #[] }, { accessFlags := 25, nameIndex := 121, descriptorIndex := 25, attributes := #[] }, { accessFlags := 25, nameIndex := 131, descriptorIndex := 25, attributes := #[] }, { accessFlags := 25, nameIndex := 137, descriptorIndex := 25, attributes := #[] }, { accessFlags := 25, nameIndex := 143, descriptorIndex := 25, attributes := #[] }, { accessFlags := 25, nameIndex := 53, descriptorIndex := 25, attributes := #[] }, { accessFlags := 25, nameIndex := 24, descriptorIndex := 25, attributes := #[] }, { accessFlags := 25, nameIndex := 162, descriptorIndex := 25, attributes := #[] }, { accessFlags := 25, nameIndex := 187, descriptorIndex := 25, attributes := #[] }, { accessFlags := 26, nameIndex := 48, descriptorIndex := 25, attributes := #[] }, { accessFlags := 25, nameIndex := 277, descriptorIndex := 25, attributes := #[] }, { accessFlags := 25, nameIndex := 280, descriptorIndex := 25, attributes := #[] }, { accessFlags := 25, nameIndex := 282, descriptorIndex := 25, attributes := #[] }, { accessFlags := 25, nameIndex := 284, descriptorIndex := 25, attributes := #[] }, { accessFlags := 25, nameIndex := 286, descriptorIndex := 25, attributes := #[] }, { accessFlags := 25, nameIndex := 288, descriptorIndex := 25, attributes := #[] }, { accessFlags := 25, nameIndex := 290, descriptorIndex := 25, attributes := #[] }, { accessFlags := 25, nameIndex := 292, descriptorIndex := 25, attributes := #[] }, { accessFlags := 26, nameIndex := 108, descriptorIndex := 109, attributes := #[] }, { accessFlags := 25, nameIndex := 294, descriptorIndex := 25, attributes := #[] }])
  fields := #[{ name := "U", type := (.object "jdk/internal/misc/Unsafe"), accessFlags := 24, slot := 0, constantValue := 0 }, { name := "BIG_ENDIAN", type := .boolean, accessFlags := 26, slot := 1, constantValue := 0 }, { name := "LOG2_ARRAY_BOOLEAN_INDEX_SCALE", type := .int, accessFlags := 25, slot := 2, constantValue := 0 }, { name := "LOG2_ARRAY_BYTE_INDEX_SCALE", type := .int, accessFlags := 25, slot := 3, constantValue := 0 }, { name := "LOG2_ARRAY_CHAR_INDEX_SCALE", type := .int, accessFlags := 25, slot := 4, constantValue := 0 }, { name := "LOG2_ARRAY_SHORT_INDEX_SCALE", type := .int, accessFlags := 25, slot := 5, constantValue := 0 }, { name := "LOG2_ARRAY_INT_INDEX_SCALE", type := .int, accessFlags := 25, slot := 6, constantValue := 0 }, { name := "LOG2_ARRAY_LONG_INDEX_SCALE", type := .int, accessFlags := 25, slot := 7, constantValue := 0 }, { name := "LOG2_ARRAY_FLOAT_INDEX_SCALE", type := .int, accessFlags := 25, slot := 8, constantValue := 0 }, { name := "LOG2_ARRAY_DOUBLE_INDEX_SCALE", type := .int, accessFlags := 25, slot := 9, constantValue := 0 }, { name := "LOG2_BYTE_BIT_SIZE", type := .int, accessFlags := 26, slot := 10, constantValue := 0 }, { name := "T_BOOLEAN", type := .int, accessFlags := 25, slot := 11, constantValue := 0 }, { name := "T_CHAR", type := .int, accessFlags := 25, slot := 12, constantValue := 0 }, { name := "T_FLOAT", type := .int, accessFlags := 25, slot := 13, constantValue := 0 }, { name := "T_DOUBLE", type := .int, accessFlags := 25, slot := 14, constantValue := 0 }, { name := "T_BYTE", type := .int, accessFlags := 25, slot := 15, constantValue := 0 }, { name := "T_SHORT", type := .int, accessFlags := 25, slot := 16, constantValue := 0 }, { name := "T_INT", type := .int, accessFlags := 25, slot := 17, constantValue := 0 }, { name := "T_LONG", type := .int, accessFlags := 25, slot := 18, constantValue := 0 }, { name := "JLA", type := (.object "jdk/internal/access/JavaLangAccess"), accessFlags := 26, slot := 19, constantValue := 0 }, { name := "SOFT_MAX_ARRAY_LENGTH", type := .int, accessFlags := 25, slot := 20, constantValue := 0 }]
  methods := #[k26m0, k26m1]
  instanceTypes := #[]
  staticTypes := #[(.object "jdk/internal/misc/Unsafe"), .boolean, .int, .int, .int, .int, .int, .int, .int, .int, .int, .int, .int, .int, .int, .int, .int, .int, .int, (.object "jdk/internal/access/JavaLangAccess"), .int]
  resolved := Array.replicate 378 none
  statics := none }

def pool27 : Array CpInfo := pool [(1, u "java/lang/Class"), (0, .class_ 1), (0, u "java/lang/Object"), (0, .class_ 3)] 3

/-- java/lang/Class -/
def k27 : Class := { plain "java/lang/Class" (some 0) with
  accessFlags := 49
  interfaces := #[]
  cf := some (fileOf pool27 2 #[] #[] 49 4 #[] #[])
  fields := #[]
  methods := #[]
  instanceTypes := #[]
  staticTypes := #[]
  resolved := Array.replicate 8 none
  statics := none }

/-- the primitive byte -/
def k28 : Class := { plain "byte" none with kind := .primitive 'B', accessFlags := 0x411 }
/-- [B -/
def k29 : Class := { plain "[B" (some 0) with kind := .array 28 .byte, interfaces := #[17, 2], accessFlags := 1041 }

/-- the primitive char -/
def k30 : Class := { plain "char" none with kind := .primitive 'C', accessFlags := 0x411 }
/-- [C -/
def k31 : Class := { plain "[C" (some 0) with kind := .array 30 .char, interfaces := #[17, 2], accessFlags := 1041 }

/-- the primitive int -/
def k32 : Class := { plain "int" none with kind := .primitive 'I', accessFlags := 0x411 }
/-- [I -/
def k33 : Class := { plain "[I" (some 0) with kind := .array 32 .int, interfaces := #[17, 2], accessFlags := 1041 }

/-- [Ljava/lang/Object; -/
def k34 : Class := { plain "[Ljava/lang/Object;" (some 0) with kind := .array 0 (.object "java/lang/Object"), interfaces := #[17, 2], accessFlags := 1041, mirror := some 3 }

def heap : Heap := #[{ cls := 7, slots := #[.long 0, .int 1, .null, .int 0, .null, .int 0, .int 0], vm := .statics 7 },
  { cls := 18, slots := #[.long 0, .int 0, .ref 6, .ref 7], vm := .statics 18 },
  { cls := 22, slots := #[.null, .null, .null], vm := .statics 22 },
  { cls := 27, slots := #[], vm := .mirror 34 },
  { cls := 27, slots := #[], vm := .mirror 23 },
  { cls := 27, slots := #[], vm := .mirror 18 },
  { cls := 34, slots := #[], vm := .none },
  { cls := 34, slots := #[], vm := .none }]
def classes : Array Class := #[k0, k1, k2, k3, k4, k5, k6, k7, k8, k9, k10, k11, k12, k13, k14, k15, k16, k17, k18, k19, k20, k21, k22, k23, k24, k25, k26, k27, k28, k29, k30, k31, k32, k33, k34]
def interned : List (Array UInt16 × Addr) := []
def slotsUsed : Nat := 14
def theMethod : MethodId := ⟨1, 1⟩
def args0 : Array Value := #[.int 1, .int 2, .int 3]
def aboutOver (below : List Frame) : State where
  vm := { classes := classes, interned := interned.toArray }
  heap := heap
  slotsUsed := slotsUsed
  threads := #[{ frames := .invoking theMethod args0 :: below }]
def below0 : List Frame := [.native { method := ⟨0, 0⟩, args := #[] }]
def about1 : State := aboutOver below0
def p0 : Program := .bare "" "" ""
def e0 : Env := launch0.env 0 0 0
theorem w_frames : about1.frames = Frame.invoking theMethod args0 :: below0 := rfl
set_option maxRecDepth 65536 in
theorem w_args : argsFit about1.vm theMethod args0 = true := by decide +kernel
set_option maxRecDepth 65536 in
theorem w_heap : heapFits about1 = true := by decide +kernel
set_option maxRecDepth 65536 in
theorem w_runnable : about1.curStatus? = some .runnable := by decide +kernel
set_option maxRecDepth 65536 in
theorem w_alone : about1.alone = true := by decide +kernel
set_option maxRecDepth 65536 in
theorem w_named : about1.methodNamed? x = some theMethod := by decide +kernel
set_option maxRecDepth 65536 in
theorem w_hears : about1.hears theMethod below0 = true := by decide +kernel
set_option maxRecDepth 65536 in
theorem w_ripe : about1.ripe theMethod args0 below0 = true := by decide +kernel
theorem w_running : about1.status = .running := rfl
set_option maxRecDepth 65536 in
theorem w_room : about1.hasRoom e0.platform room_1 = true :=
  launch0.hasRoom_least _ room_1 (by decide +kernel) (by decide +kernel) (by decide +kernel) (by decide +kernel) (by decide +kernel) (by decide +kernel)
theorem allAtoms_all (ts : List Jvm.Cond) (a : Array Jvm.Value) (st : Jvm.State) : (allAtoms ts).before a st = ts.all (fun c => c.before a st) := by
  induction ts with
  | nil => rfl
  | cons c t ih =>
    show (Jvm.Cond.and c (allAtoms t)).before a st = _
    rw [Jvm.Cond.before_and, ih, List.all_cons]
def words1 : List Jvm.Cond := Jvm.Cond.code x code maxLocals ret :: tables_1
/-- a 'code' word, met by the world's own term for the bytes: nothing is compared byte by byte -/
theorem code_word {y : MethodName} {bytes : ByteArray} {mx : Nat} {rt : Option FieldType} {a : Array Value} {s : State} {m : MethodId} {meth : Method} {c : Code} (h1 : s.methodNamed? y = some m) (h2 : s.vm.method? m = some meth) (h3 : meth.code = some c) (h4 : c.code = bytes)
    (h5 : (c.maxLocals == mx && c.exceptionTable.isEmpty && decide (c.maxStack ≤ mostOperands) && decide (meth.sig.returnType = rt) && !meth.locks && decide (parseMethodDescriptor y.desc = some meth.sig)) = true) : (Jvm.Cond.code y bytes mx rt).before a s = true := by
  simp only [Bool.and_eq_true, beq_iff_eq, Bool.not_eq_true', decide_eq_true_eq] at h5
  obtain ⟨⟨⟨⟨⟨g1, g2⟩, g3⟩, g4⟩, g5⟩, g6⟩ := h5
  simp [Cond.before, Cond.holds, Cond.value, h1, h2, h3, h4, g1, g2, g3, g4, g5, g6]
def isCode : Jvm.Cond → Bool
  | .code _ _ _ _ => true
  | _ => false
theorem all_split {L : List Jvm.Cond} {P : Jvm.Cond → Bool} (h1 : L.all (fun c => isCode c || P c) = true) (h2 : ∀ c ∈ L.filter isCode, P c = true) : L.all P = true := by
  refine List.all_eq_true.mpr fun c hc => ?_
  have h := List.all_eq_true.mp h1 c hc
  rcases Bool.eq_false_or_eq_true (isCode c) with hi | hi
  · exact h2 c (List.mem_filter.mpr ⟨hc, hi⟩)
  · simpa [hi] using h
set_option maxRecDepth 65536 in
theorem w_c0 : (Jvm.Cond.code x code maxLocals ret).before args0 about1 = true := code_word (m := ⟨1, 1⟩) (meth := k1m1) (c := k1c1) (by decide +kernel) rfl rfl rfl (by decide +kernel)
set_option maxRecDepth 65536 in
theorem w_c1 : (Jvm.Cond.code ({ cls := "java/lang/String", name := "<init>", desc := "([C)V" } : Jvm.MethodName) jdk_42_method_3_code (2 : Nat) (Option.none : Option Jvm.ClassFile.FieldType)).before args0 about1 = true := code_word (m := ⟨7, 1⟩) (meth := k7m1) (c := k7c1) (by decide +kernel) rfl rfl rfl (by decide +kernel)
set_option maxRecDepth 65536 in
theorem w_c2 : (Jvm.Cond.code ({ cls := "java/lang/String", name := "<init>", desc := "([CIILjava/lang/Void;)V" } : Jvm.MethodName) jdk_42_method_149_code (6 : Nat) (Option.none : Option Jvm.ClassFile.FieldType)).before args0 about1 = true := code_word (m := ⟨7, 3⟩) (meth := k7m3) (c := k7c3) (by decide +kernel) rfl rfl rfl (by decide +kernel)
set_option maxRecDepth 65536 in
theorem w_c3 : (Jvm.Cond.code ({ cls := "java/lang/Object", name := "<init>", desc := "()V" } : Jvm.MethodName) object_method_1_code (1 : Nat) (Option.none : Option Jvm.ClassFile.FieldType)).before args0 about1 = true := code_word (m := ⟨0, 0⟩) (meth := k0m0) (c := k0c0) (by decide +kernel) rfl rfl rfl (by decide +kernel)
set_option maxRecDepth 65536 in
theorem w_c4 : (Jvm.Cond.code ({ cls := "java/lang/StringUTF16", name := "compress", desc := "([CII)[B" } : Jvm.MethodName) jdk_52_method_16_code (6 : Nat) (Option.some (Jvm.ClassFile.FieldType.array Jvm.ClassFile.FieldType.byte))).before args0 about1 = true := code_word (m := ⟨8, 2⟩) (meth := k8m2) (c := k8c2) (by decide +kernel) rfl rfl rfl (by decide +kernel)
set_option maxRecDepth 65536 in
theorem w_c5 : (Jvm.Cond.code ({ cls := "java/lang/StringUTF16", name := "compress", desc := "([CI[BII)I" } : Jvm.MethodName) jdk_52_method_21_code (7 : Nat) (Option.some Jvm.ClassFile.FieldType.int)).before args0 about1 = true := code_word (m := ⟨8, 3⟩) (meth := k8m3) (c := k8c3) (by decide +kernel) rfl rfl rfl (by decide +kernel)
set_option maxRecDepth 65536 in
theorem w_c6 : (Jvm.Cond.code ({ cls := "java/lang/StringUTF16", name := "coderFromArrayLen", desc := "([BI)B" } : Jvm.MethodName) jdk_52_method_15_code (2 : Nat) (Option.some Jvm.ClassFile.FieldType.byte)).before args0 about1 = true := code_word (m := ⟨8, 1⟩) (meth := k8m1) (c := k8c1) (by decide +kernel) rfl rfl rfl (by decide +kernel)
set_option maxRecDepth 65536 in
theorem w_c7 : (Jvm.Cond.code ({ cls := "com/example/temanggung/temanggung/beans/factory/Creating", name := "<init>", desc := "()V" } : Jvm.MethodName) prog_33_method_1_code (1 : Nat) (Option.none : Option Jvm.ClassFile.FieldType)).before args0 about1 = true := code_word (m := ⟨9, 0⟩) (meth := k9m0) (c := k9c0) (by decide +kernel) rfl rfl rfl (by decide +kernel)
set_option maxRecDepth 65536 in
theorem w_c8 : (Jvm.Cond.code ({ cls := "java/util/ArrayList", name := "<init>", desc := "()V" } : Jvm.MethodName) jdk_38_method_2_code (1 : Nat) (Option.none : Option Jvm.ClassFile.FieldType)).before args0 about1 = true := code_word (m := ⟨18, 0⟩) (meth := k18m0) (c := k18c0) (by decide +kernel) rfl rfl rfl (by decide +kernel)
set_option maxRecDepth 65536 in
theorem w_c9 : (Jvm.Cond.code ({ cls := "java/util/AbstractList", name := "<init>", desc := "()V" } : Jvm.MethodName) jdk_39_method_1_code (1 : Nat) (Option.none : Option Jvm.ClassFile.FieldType)).before args0 about1 = true := code_word (m := ⟨15, 0⟩) (meth := k15m0) (c := k15c0) (by decide +kernel) rfl rfl rfl (by decide +kernel)
set_option maxRecDepth 65536 in
theorem w_c10 : (Jvm.Cond.code ({ cls := "java/util/AbstractCollection", name := "<init>", desc := "()V" } : Jvm.MethodName) jdk_22_method_1_code (1 : Nat) (Option.none : Option Jvm.ClassFile.FieldType)).before args0 about1 = true := code_word (m := ⟨12, 0⟩) (meth := k12m0) (c := k12c0) (by decide +kernel) rfl rfl rfl (by decide +kernel)
set_option maxRecDepth 65536 in
theorem w_c11 : (Jvm.Cond.code ({ cls := "com/example/temanggung/temanggung/beans/factory/Creating", name := "enter", desc := "(Ljava/lang/String;)Lcom/example/temanggung/temanggung/beans/factory/Creating;" } : Jvm.MethodName) prog_33_method_2_code (3 : Nat) (Option.some (Jvm.ClassFile.FieldType.object "com/example/temanggung/temanggung/beans/factory/Creating"))).before args0 about1 = true := code_word (m := ⟨9, 1⟩) (meth := k9m1) (c := k9c1) (by decide +kernel) rfl rfl rfl (by decide +kernel)
set_option maxRecDepth 65536 in
theorem w_c12 : (Jvm.Cond.code ({ cls := "com/example/temanggung/temanggung/beans/factory/Creating", name := "cycleTo", desc := "(Ljava/lang/String;)Ljava/util/List;" } : Jvm.MethodName) prog_33_method_4_code (4 : Nat) (Option.some (Jvm.ClassFile.FieldType.object "java/util/List"))).before args0 about1 = true := code_word (m := ⟨9, 3⟩) (meth := k9m3) (c := k9c3) (by decide +kernel) rfl rfl rfl (by decide +kernel)
set_option maxRecDepth 65536 in
theorem w_c13 : (Jvm.Cond.code ({ cls := "java/util/ArrayList", name := "indexOf", desc := "(Ljava/lang/Object;)I" } : Jvm.MethodName) jdk_38_method_11_code (2 : Nat) (Option.some Jvm.ClassFile.FieldType.int)).before args0 about1 = true := code_word (m := ⟨18, 5⟩) (meth := k18m5) (c := k18c5) (by decide +kernel) rfl rfl rfl (by decide +kernel)
set_option maxRecDepth 65536 in
theorem w_c14 : (Jvm.Cond.code ({ cls := "java/util/ArrayList", name := "indexOfRange", desc := "(Ljava/lang/Object;II)I" } : Jvm.MethodName) jdk_38_method_12_code (6 : Nat) (Option.some Jvm.ClassFile.FieldType.int)).before args0 about1 = true := code_word (m := ⟨18, 6⟩) (meth := k18m6) (c := k18c6) (by decide +kernel) rfl rfl rfl (by decide +kernel)
set_option maxRecDepth 65536 in
theorem w_c15 : (Jvm.Cond.code ({ cls := "java/util/ArrayList", name := "add", desc := "(Ljava/lang/Object;)Z" } : Jvm.MethodName) jdk_38_method_25_code (2 : Nat) (Option.some Jvm.ClassFile.FieldType.boolean)).before args0 about1 = true := code_word (m := ⟨18, 10⟩) (meth := k18m10) (c := k18c10) (by decide +kernel) rfl rfl rfl (by decide +kernel)
set_option maxRecDepth 65536 in
theorem w_c16 : (Jvm.Cond.code ({ cls := "java/util/ArrayList", name := "add", desc := "(Ljava/lang/Object;[Ljava/lang/Object;I)V" } : Jvm.MethodName) jdk_38_method_24_code (4 : Nat) (Option.none : Option Jvm.ClassFile.FieldType)).before args0 about1 = true := code_word (m := ⟨18, 9⟩) (meth := k18m9) (c := k18c9) (by decide +kernel) rfl rfl rfl (by decide +kernel)
set_option maxRecDepth 65536 in
theorem w_c17 : (Jvm.Cond.code ({ cls := "java/util/ArrayList", name := "grow", desc := "()[Ljava/lang/Object;" } : Jvm.MethodName) jdk_38_method_7_code (1 : Nat) (Option.some (Jvm.ClassFile.FieldType.array (Jvm.ClassFile.FieldType.object "java/lang/Object")))).before args0 about1 = true := code_word (m := ⟨18, 3⟩) (meth := k18m3) (c := k18c3) (by decide +kernel) rfl rfl rfl (by decide +kernel)
set_option maxRecDepth 65536 in
theorem w_c18 : (Jvm.Cond.code ({ cls := "java/util/ArrayList", name := "grow", desc := "(I)[Ljava/lang/Object;" } : Jvm.MethodName) jdk_38_method_6_code (4 : Nat) (Option.some (Jvm.ClassFile.FieldType.array (Jvm.ClassFile.FieldType.object "java/lang/Object")))).before args0 about1 = true := code_word (m := ⟨18, 2⟩) (meth := k18m2) (c := k18c2) (by decide +kernel) rfl rfl rfl (by decide +kernel)
set_option maxRecDepth 65536 in
theorem w_c19 : (Jvm.Cond.code ({ cls := "java/lang/Math", name := "max", desc := "(II)I" } : Jvm.MethodName) jdk_29_method_65_code (2 : Nat) (Option.some Jvm.ClassFile.FieldType.int)).before args0 about1 = true := code_word (m := ⟨19, 1⟩) (meth := k19m1) (c := k19c1) (by decide +kernel) rfl rfl rfl (by decide +kernel)
set_option maxRecDepth 65536 in
theorem w_c20 : (Jvm.Cond.code ({ cls := "java/lang/String", name := "equals", desc := "(Ljava/lang/Object;)Z" } : Jvm.MethodName) jdk_42_method_66_code (3 : Nat) (Option.some Jvm.ClassFile.FieldType.boolean)).before args0 about1 = true := code_word (m := ⟨7, 2⟩) (meth := k7m2) (c := k7c2) (by decide +kernel) rfl rfl rfl (by decide +kernel)
set_option maxRecDepth 65536 in
theorem w_c21 : (Jvm.Cond.code ({ cls := "java/lang/StringLatin1", name := "equals", desc := "([B[B)Z" } : Jvm.MethodName) jdk_43_method_13_code (3 : Nat) (Option.some Jvm.ClassFile.FieldType.boolean)).before args0 about1 = true := code_word (m := ⟨20, 1⟩) (meth := k20m1) (c := k20c1) (by decide +kernel) rfl rfl rfl (by decide +kernel)
set_option maxRecDepth 65536 in
theorem w_c22 : (Jvm.Cond.code ({ cls := "com/example/temanggung/temanggung/beans/factory/Creating", name := "leave", desc := "()V" } : Jvm.MethodName) prog_33_method_3_code (1 : Nat) (Option.none : Option Jvm.ClassFile.FieldType)).before args0 about1 = true := code_word (m := ⟨9, 2⟩) (meth := k9m2) (c := k9c2) (by decide +kernel) rfl rfl rfl (by decide +kernel)
set_option maxRecDepth 65536 in
theorem w_c23 : (Jvm.Cond.code ({ cls := "java/util/ArrayList", name := "size", desc := "()I" } : Jvm.MethodName) jdk_38_method_8_code (1 : Nat) (Option.some Jvm.ClassFile.FieldType.int)).before args0 about1 = true := code_word (m := ⟨18, 4⟩) (meth := k18m4) (c := k18c4) (by decide +kernel) rfl rfl rfl (by decide +kernel)
set_option maxRecDepth 65536 in
theorem w_c24 : (Jvm.Cond.code ({ cls := "java/util/ArrayList", name := "remove", desc := "(I)Ljava/lang/Object;" } : Jvm.MethodName) jdk_38_method_29_code (4 : Nat) (Option.some (Jvm.ClassFile.FieldType.object "java/lang/Object"))).before args0 about1 = true := code_word (m := ⟨18, 11⟩) (meth := k18m11) (c := k18c11) (by decide +kernel) rfl rfl rfl (by decide +kernel)
set_option maxRecDepth 65536 in
theorem w_c25 : (Jvm.Cond.code ({ cls := "java/util/Objects", name := "checkIndex", desc := "(II)I" } : Jvm.MethodName) jdk_31_method_17_code (2 : Nat) (Option.some Jvm.ClassFile.FieldType.int)).before args0 about1 = true := code_word (m := ⟨21, 1⟩) (meth := k21m1) (c := k21c1) (by decide +kernel) rfl rfl rfl (by decide +kernel)
set_option maxRecDepth 65536 in
theorem w_c26 : (Jvm.Cond.code ({ cls := "jdk/internal/util/Preconditions", name := "checkIndex", desc := "(IILjava/util/function/BiFunction;)I" } : Jvm.MethodName) jdk_41_method_11_code (3 : Nat) (Option.some Jvm.ClassFile.FieldType.int)).before args0 about1 = true := code_word (m := ⟨22, 1⟩) (meth := k22m1) (c := k22c1) (by decide +kernel) rfl rfl rfl (by decide +kernel)
set_option maxRecDepth 65536 in
theorem w_c27 : (Jvm.Cond.code ({ cls := "java/util/ArrayList", name := "fastRemove", desc := "([Ljava/lang/Object;I)V" } : Jvm.MethodName) jdk_38_method_39_code (4 : Nat) (Option.none : Option Jvm.ClassFile.FieldType)).before args0 about1 = true := code_word (m := ⟨18, 12⟩) (meth := k18m12) (c := k18c12) (by decide +kernel) rfl rfl rfl (by decide +kernel)
set_option maxRecDepth 65536 in
theorem w_c28 : (Jvm.Cond.code ({ cls := "java/util/ArrayList", name := "subList", desc := "(II)Ljava/util/List;" } : Jvm.MethodName) jdk_38_method_56_code (3 : Nat) (Option.some (Jvm.ClassFile.FieldType.object "java/util/List"))).before args0 about1 = true := code_word (m := ⟨18, 13⟩) (meth := k18m13) (c := k18c13) (by decide +kernel) rfl rfl rfl (by decide +kernel)
set_option maxRecDepth 65536 in
theorem w_c29 : (Jvm.Cond.code ({ cls := "java/util/AbstractList", name := "subListRangeCheck", desc := "(III)V" } : Jvm.MethodName) jdk_39_method_15_code (3 : Nat) (Option.none : Option Jvm.ClassFile.FieldType)).before args0 about1 = true := code_word (m := ⟨15, 1⟩) (meth := k15m1) (c := k15c1) (by decide +kernel) rfl rfl rfl (by decide +kernel)
set_option maxRecDepth 65536 in
theorem w_c30 : (Jvm.Cond.code ({ cls := "java/util/ArrayList$SubList", name := "<init>", desc := "(Ljava/util/ArrayList;II)V" } : Jvm.MethodName) jdk_130_method_1_code (4 : Nat) (Option.none : Option Jvm.ClassFile.FieldType)).before args0 about1 = true := code_word (m := ⟨23, 0⟩) (meth := k23m0) (c := k23c0) (by decide +kernel) rfl rfl rfl (by decide +kernel)
set_option maxRecDepth 65536 in
theorem w_c31 : (Jvm.Cond.code ({ cls := "java/util/ArrayList", name := "<init>", desc := "(Ljava/util/Collection;)V" } : Jvm.MethodName) jdk_38_method_3_code (3 : Nat) (Option.none : Option Jvm.ClassFile.FieldType)).before args0 about1 = true := code_word (m := ⟨18, 1⟩) (meth := k18m1) (c := k18c1) (by decide +kernel) rfl rfl rfl (by decide +kernel)
set_option maxRecDepth 65536 in
theorem w_c32 : (Jvm.Cond.code ({ cls := "java/util/ArrayList$SubList", name := "toArray", desc := "()[Ljava/lang/Object;" } : Jvm.MethodName) jdk_130_method_16_code (1 : Nat) (Option.some (Jvm.ClassFile.FieldType.array (Jvm.ClassFile.FieldType.object "java/lang/Object")))).before args0 about1 = true := code_word (m := ⟨23, 1⟩) (meth := k23m1) (c := k23c1) (by decide +kernel) rfl rfl rfl (by decide +kernel)
set_option maxRecDepth 65536 in
theorem w_c33 : (Jvm.Cond.code ({ cls := "java/util/ArrayList$SubList", name := "checkForComodification", desc := "()V" } : Jvm.MethodName) jdk_130_method_28_code (1 : Nat) (Option.none : Option Jvm.ClassFile.FieldType)).before args0 about1 = true := code_word (m := ⟨23, 2⟩) (meth := k23m2) (c := k23c2) (by decide +kernel) rfl rfl rfl (by decide +kernel)
set_option maxRecDepth 65536 in
theorem w_c34 : (Jvm.Cond.code ({ cls := "java/util/Arrays", name := "copyOfRange", desc := "([Ljava/lang/Object;II)[Ljava/lang/Object;" } : Jvm.MethodName) jdk_65_method_129_code (3 : Nat) (Option.some (Jvm.ClassFile.FieldType.array (Jvm.ClassFile.FieldType.object "java/lang/Object")))).before args0 about1 = true := code_word (m := ⟨24, 3⟩) (meth := k24m3) (c := k24c3) (by decide +kernel) rfl rfl rfl (by decide +kernel)
set_option maxRecDepth 65536 in
theorem w_c35 : (Jvm.Cond.code ({ cls := "java/util/Arrays", name := "copyOfRange", desc := "([Ljava/lang/Object;IILjava/lang/Class;)[Ljava/lang/Object;" } : Jvm.MethodName) jdk_65_method_130_code (6 : Nat) (Option.some (Jvm.ClassFile.FieldType.array (Jvm.ClassFile.FieldType.object "java/lang/Object")))).before args0 about1 = true := code_word (m := ⟨24, 4⟩) (meth := k24m4) (c := k24c4) (by decide +kernel) rfl rfl rfl (by decide +kernel)
set_option maxRecDepth 65536 in
theorem w_c36 : (Jvm.Cond.code ({ cls := "java/lang/Math", name := "min", desc := "(II)I" } : Jvm.MethodName) jdk_29_method_69_code (2 : Nat) (Option.some Jvm.ClassFile.FieldType.int)).before args0 about1 = true := code_word (m := ⟨19, 2⟩) (meth := k19m2) (c := k19c2) (by decide +kernel) rfl rfl rfl (by decide +kernel)
set_option maxRecDepth 65536 in
theorem w_c37 : (Jvm.Cond.code ({ cls := "java/util/Arrays", name := "copyOf", desc := "([Ljava/lang/Object;ILjava/lang/Class;)[Ljava/lang/Object;" } : Jvm.MethodName) jdk_65_method_120_code (4 : Nat) (Option.some (Jvm.ClassFile.FieldType.array (Jvm.ClassFile.FieldType.object "java/lang/Object")))).before args0 about1 = true := code_word (m := ⟨24, 2⟩) (meth := k24m2) (c := k24c2) (by decide +kernel) rfl rfl rfl (by decide +kernel)
set_option maxRecDepth 65536 in
theorem w_c38 : (Jvm.Cond.code ({ cls := "jdk/internal/util/ArraysSupport", name := "newLength", desc := "(III)I" } : Jvm.MethodName) jdk_48_method_27_code (4 : Nat) (Option.some Jvm.ClassFile.FieldType.int)).before args0 about1 = true := code_word (m := ⟨26, 1⟩) (meth := k26m1) (c := k26c1) (by decide +kernel) rfl rfl rfl (by decide +kernel)
set_option maxRecDepth 65536 in
theorem w_c39 : (Jvm.Cond.code ({ cls := "java/util/Arrays", name := "copyOf", desc := "([Ljava/lang/Object;I)[Ljava/lang/Object;" } : Jvm.MethodName) jdk_65_method_119_code (2 : Nat) (Option.some (Jvm.ClassFile.FieldType.array (Jvm.ClassFile.FieldType.object "java/lang/Object")))).before args0 about1 = true := code_word (m := ⟨24, 1⟩) (meth := k24m1) (c := k24c1) (by decide +kernel) rfl rfl rfl (by decide +kernel)
set_option maxRecDepth 65536 in
theorem w_c40 : (Jvm.Cond.code ({ cls := "com/example/temanggung/temanggung/beans/factory/CreatingLeavePinLaw", name := "expected", desc := "(Ljava/util/List;Ljava/lang/String;IILjava/lang/String;)Z" } : Jvm.MethodName) method_3_code (6 : Nat) (Option.some Jvm.ClassFile.FieldType.boolean)).before args0 about1 = true := code_word (m := ⟨1, 2⟩) (meth := k1m2) (c := k1c2) (by decide +kernel) rfl rfl rfl (by decide +kernel)
set_option maxRecDepth 65536 in
theorem w_c41 : (Jvm.Cond.code ({ cls := "java/util/ArrayList", name := "get", desc := "(I)Ljava/lang/Object;" } : Jvm.MethodName) jdk_38_method_20_code (2 : Nat) (Option.some (Jvm.ClassFile.FieldType.object "java/lang/Object"))).before args0 about1 = true := code_word (m := ⟨18, 8⟩) (meth := k18m8) (c := k18c8) (by decide +kernel) rfl rfl rfl (by decide +kernel)
set_option maxRecDepth 65536 in
theorem w_c42 : (Jvm.Cond.code ({ cls := "java/util/ArrayList", name := "elementData", desc := "(I)Ljava/lang/Object;" } : Jvm.MethodName) jdk_38_method_18_code (2 : Nat) (Option.some (Jvm.ClassFile.FieldType.object "java/lang/Object"))).before args0 about1 = true := code_word (m := ⟨18, 7⟩) (meth := k18m7) (c := k18c7) (by decide +kernel) rfl rfl rfl (by decide +kernel)
def codes1 : List Jvm.Cond := [Jvm.Cond.code x code maxLocals ret, Jvm.Cond.code ({ cls := "java/lang/String", name := "<init>", desc := "([C)V" } : Jvm.MethodName) jdk_42_method_3_code (2 : Nat) (Option.none : Option Jvm.ClassFile.FieldType), Jvm.Cond.code ({ cls := "java/lang/String", name := "<init>", desc := "([CIILjava/lang/Void;)V" } : Jvm.MethodName) jdk_42_method_149_code (6 : Nat) (Option.none : Option Jvm.ClassFile.FieldType), Jvm.Cond.code ({ cls := "java/lang/Object", name := "<init>", desc := "()V" } : Jvm.MethodName) object_method_1_code (1 : Nat) (Option.none : Option Jvm.ClassFile.FieldType), Jvm.Cond.code ({ cls := "java/lang/StringUTF16", name := "compress", desc := "([CII)[B" } : Jvm.MethodName) jdk_52_method_16_code (6 : Nat) (Option.some (Jvm.ClassFile.FieldType.array Jvm.ClassFile.FieldType.byte)), Jvm.Cond.code ({ cls := "java/lang/StringUTF16", name := "compress", desc := "([CI[BII)I" } : Jvm.MethodName) jdk_52_method_21_code (7 : Nat) (Option.some Jvm.ClassFile.FieldType.int), Jvm.Cond.code ({ cls := "java/lang/StringUTF16", name := "coderFromArrayLen", desc := "([BI)B" } : Jvm.MethodName) jdk_52_method_15_code (2 : Nat) (Option.some Jvm.ClassFile.FieldType.byte), Jvm.Cond.code ({ cls := "com/example/temanggung/temanggung/beans/factory/Creating", name := "<init>", desc := "()V" } : Jvm.MethodName) prog_33_method_1_code (1 : Nat) (Option.none : Option Jvm.ClassFile.FieldType), Jvm.Cond.code ({ cls := "java/util/ArrayList", name := "<init>", desc := "()V" } : Jvm.MethodName) jdk_38_method_2_code (1 : Nat) (Option.none : Option Jvm.ClassFile.FieldType), Jvm.Cond.code ({ cls := "java/util/AbstractList", name := "<init>", desc := "()V" } : Jvm.MethodName) jdk_39_method_1_code (1 : Nat) (Option.none : Option Jvm.ClassFile.FieldType), Jvm.Cond.code ({ cls := "java/util/AbstractCollection", name := "<init>", desc := "()V" } : Jvm.MethodName) jdk_22_method_1_code (1 : Nat) (Option.none : Option Jvm.ClassFile.FieldType), Jvm.Cond.code ({ cls := "com/example/temanggung/temanggung/beans/factory/Creating", name := "enter", desc := "(Ljava/lang/String;)Lcom/example/temanggung/temanggung/beans/factory/Creating;" } : Jvm.MethodName) prog_33_method_2_code (3 : Nat) (Option.some (Jvm.ClassFile.FieldType.object "com/example/temanggung/temanggung/beans/factory/Creating")), Jvm.Cond.code ({ cls := "com/example/temanggung/temanggung/beans/factory/Creating", name := "cycleTo", desc := "(Ljava/lang/String;)Ljava/util/List;" } : Jvm.MethodName) prog_33_method_4_code (4 : Nat) (Option.some (Jvm.ClassFile.FieldType.object "java/util/List")), Jvm.Cond.code ({ cls := "java/util/ArrayList", name := "indexOf", desc := "(Ljava/lang/Object;)I" } : Jvm.MethodName) jdk_38_method_11_code (2 : Nat) (Option.some Jvm.ClassFile.FieldType.int), Jvm.Cond.code ({ cls := "java/util/ArrayList", name := "indexOfRange", desc := "(Ljava/lang/Object;II)I" } : Jvm.MethodName) jdk_38_method_12_code (6 : Nat) (Option.some Jvm.ClassFile.FieldType.int), Jvm.Cond.code ({ cls := "java/util/ArrayList", name := "add", desc := "(Ljava/lang/Object;)Z" } : Jvm.MethodName) jdk_38_method_25_code (2 : Nat) (Option.some Jvm.ClassFile.FieldType.boolean), Jvm.Cond.code ({ cls := "java/util/ArrayList", name := "add", desc := "(Ljava/lang/Object;[Ljava/lang/Object;I)V" } : Jvm.MethodName) jdk_38_method_24_code (4 : Nat) (Option.none : Option Jvm.ClassFile.FieldType), Jvm.Cond.code ({ cls := "java/util/ArrayList", name := "grow", desc := "()[Ljava/lang/Object;" } : Jvm.MethodName) jdk_38_method_7_code (1 : Nat) (Option.some (Jvm.ClassFile.FieldType.array (Jvm.ClassFile.FieldType.object "java/lang/Object"))), Jvm.Cond.code ({ cls := "java/util/ArrayList", name := "grow", desc := "(I)[Ljava/lang/Object;" } : Jvm.MethodName) jdk_38_method_6_code (4 : Nat) (Option.some (Jvm.ClassFile.FieldType.array (Jvm.ClassFile.FieldType.object "java/lang/Object"))), Jvm.Cond.code ({ cls := "java/lang/Math", name := "max", desc := "(II)I" } : Jvm.MethodName) jdk_29_method_65_code (2 : Nat) (Option.some Jvm.ClassFile.FieldType.int), Jvm.Cond.code ({ cls := "java/lang/String", name := "equals", desc := "(Ljava/lang/Object;)Z" } : Jvm.MethodName) jdk_42_method_66_code (3 : Nat) (Option.some Jvm.ClassFile.FieldType.boolean), Jvm.Cond.code ({ cls := "java/lang/StringLatin1", name := "equals", desc := "([B[B)Z" } : Jvm.MethodName) jdk_43_method_13_code (3 : Nat) (Option.some Jvm.ClassFile.FieldType.boolean), Jvm.Cond.code ({ cls := "com/example/temanggung/temanggung/beans/factory/Creating", name := "leave", desc := "()V" } : Jvm.MethodName) prog_33_method_3_code (1 : Nat) (Option.none : Option Jvm.ClassFile.FieldType), Jvm.Cond.code ({ cls := "java/util/ArrayList", name := "size", desc := "()I" } : Jvm.MethodName) jdk_38_method_8_code (1 : Nat) (Option.some Jvm.ClassFile.FieldType.int), Jvm.Cond.code ({ cls := "java/util/ArrayList", name := "remove", desc := "(I)Ljava/lang/Object;" } : Jvm.MethodName) jdk_38_method_29_code (4 : Nat) (Option.some (Jvm.ClassFile.FieldType.object "java/lang/Object")), Jvm.Cond.code ({ cls := "java/util/Objects", name := "checkIndex", desc := "(II)I" } : Jvm.MethodName) jdk_31_method_17_code (2 : Nat) (Option.some Jvm.ClassFile.FieldType.int), Jvm.Cond.code ({ cls := "jdk/internal/util/Preconditions", name := "checkIndex", desc := "(IILjava/util/function/BiFunction;)I" } : Jvm.MethodName) jdk_41_method_11_code (3 : Nat) (Option.some Jvm.ClassFile.FieldType.int), Jvm.Cond.code ({ cls := "java/util/ArrayList", name := "fastRemove", desc := "([Ljava/lang/Object;I)V" } : Jvm.MethodName) jdk_38_method_39_code (4 : Nat) (Option.none : Option Jvm.ClassFile.FieldType), Jvm.Cond.code ({ cls := "java/util/ArrayList", name := "subList", desc := "(II)Ljava/util/List;" } : Jvm.MethodName) jdk_38_method_56_code (3 : Nat) (Option.some (Jvm.ClassFile.FieldType.object "java/util/List")), Jvm.Cond.code ({ cls := "java/util/AbstractList", name := "subListRangeCheck", desc := "(III)V" } : Jvm.MethodName) jdk_39_method_15_code (3 : Nat) (Option.none : Option Jvm.ClassFile.FieldType), Jvm.Cond.code ({ cls := "java/util/ArrayList$SubList", name := "<init>", desc := "(Ljava/util/ArrayList;II)V" } : Jvm.MethodName) jdk_130_method_1_code (4 : Nat) (Option.none : Option Jvm.ClassFile.FieldType), Jvm.Cond.code ({ cls := "java/util/ArrayList", name := "<init>", desc := "(Ljava/util/Collection;)V" } : Jvm.MethodName) jdk_38_method_3_code (3 : Nat) (Option.none : Option Jvm.ClassFile.FieldType), Jvm.Cond.code ({ cls := "java/util/ArrayList$SubList", name := "toArray", desc := "()[Ljava/lang/Object;" } : Jvm.MethodName) jdk_130_method_16_code (1 : Nat) (Option.some (Jvm.ClassFile.FieldType.array (Jvm.ClassFile.FieldType.object "java/lang/Object"))), Jvm.Cond.code ({ cls := "java/util/ArrayList$SubList", name := "checkForComodification", desc := "()V" } : Jvm.MethodName) jdk_130_method_28_code (1 : Nat) (Option.none : Option Jvm.ClassFile.FieldType), Jvm.Cond.code ({ cls := "java/util/Arrays", name := "copyOfRange", desc := "([Ljava/lang/Object;II)[Ljava/lang/Object;" } : Jvm.MethodName) jdk_65_method_129_code (3 : Nat) (Option.some (Jvm.ClassFile.FieldType.array (Jvm.ClassFile.FieldType.object "java/lang/Object"))), Jvm.Cond.code ({ cls := "java/util/Arrays", name := "copyOfRange", desc := "([Ljava/lang/Object;IILjava/lang/Class;)[Ljava/lang/Object;" } : Jvm.MethodName) jdk_65_method_130_code (6 : Nat) (Option.some (Jvm.ClassFile.FieldType.array (Jvm.ClassFile.FieldType.object "java/lang/Object"))), Jvm.Cond.code ({ cls := "java/lang/Math", name := "min", desc := "(II)I" } : Jvm.MethodName) jdk_29_method_69_code (2 : Nat) (Option.some Jvm.ClassFile.FieldType.int), Jvm.Cond.code ({ cls := "java/util/Arrays", name := "copyOf", desc := "([Ljava/lang/Object;ILjava/lang/Class;)[Ljava/lang/Object;" } : Jvm.MethodName) jdk_65_method_120_code (4 : Nat) (Option.some (Jvm.ClassFile.FieldType.array (Jvm.ClassFile.FieldType.object "java/lang/Object"))), Jvm.Cond.code ({ cls := "jdk/internal/util/ArraysSupport", name := "newLength", desc := "(III)I" } : Jvm.MethodName) jdk_48_method_27_code (4 : Nat) (Option.some Jvm.ClassFile.FieldType.int), Jvm.Cond.code ({ cls := "java/util/Arrays", name := "copyOf", desc := "([Ljava/lang/Object;I)[Ljava/lang/Object;" } : Jvm.MethodName) jdk_65_method_119_code (2 : Nat) (Option.some (Jvm.ClassFile.FieldType.array (Jvm.ClassFile.FieldType.object "java/lang/Object"))), Jvm.Cond.code ({ cls := "com/example/temanggung/temanggung/beans/factory/CreatingLeavePinLaw", name := "expected", desc := "(Ljava/util/List;Ljava/lang/String;IILjava/lang/String;)Z" } : Jvm.MethodName) method_3_code (6 : Nat) (Option.some Jvm.ClassFile.FieldType.boolean), Jvm.Cond.code ({ cls := "java/util/ArrayList", name := "get", desc := "(I)Ljava/lang/Object;" } : Jvm.MethodName) jdk_38_method_20_code (2 : Nat) (Option.some (Jvm.ClassFile.FieldType.object "java/lang/Object")), Jvm.Cond.code ({ cls := "java/util/ArrayList", name := "elementData", desc := "(I)Ljava/lang/Object;" } : Jvm.MethodName) jdk_38_method_18_code (2 : Nat) (Option.some (Jvm.ClassFile.FieldType.object "java/lang/Object"))]
set_option maxRecDepth 65536 in
theorem codes_eq : words1.filter isCode = codes1 := rfl
theorem w_codes : ∀ c ∈ words1.filter isCode, c.before args0 about1 = true := by
  rw [codes_eq]
  intro c hc
  simp only [codes1, List.mem_cons, List.not_mem_nil, or_false] at hc
  rcases hc with rfl | rfl | rfl | rfl | rfl | rfl | rfl | rfl | rfl | rfl | rfl | rfl | rfl | rfl | rfl | rfl | rfl | rfl | rfl | rfl | rfl | rfl | rfl | rfl | rfl | rfl | rfl | rfl | rfl | rfl | rfl | rfl | rfl | rfl | rfl | rfl | rfl | rfl | rfl | rfl | rfl | rfl | rfl
  · exact w_c0
  · exact w_c1
  · exact w_c2
  · exact w_c3
  · exact w_c4
  · exact w_c5
  · exact w_c6
  · exact w_c7
  · exact w_c8
  · exact w_c9
  · exact w_c10
  · exact w_c11
  · exact w_c12
  · exact w_c13
  · exact w_c14
  · exact w_c15
  · exact w_c16
  · exact w_c17
  · exact w_c18
  · exact w_c19
  · exact w_c20
  · exact w_c21
  · exact w_c22
  · exact w_c23
  · exact w_c24
  · exact w_c25
  · exact w_c26
  · exact w_c27
  · exact w_c28
  · exact w_c29
  · exact w_c30
  · exact w_c31
  · exact w_c32
  · exact w_c33
  · exact w_c34
  · exact w_c35
  · exact w_c36
  · exact w_c37
  · exact w_c38
  · exact w_c39
  · exact w_c40
  · exact w_c41
  · exact w_c42
set_option maxRecDepth 65536 in
theorem w_t1 : (words1.take 24).all (fun c => isCode c || c.before args0 about1) = true := by decide +kernel
set_option maxRecDepth 65536 in
theorem w_t2 : ((words1.drop 24).take 24).all (fun c => isCode c || c.before args0 about1) = true := by decide +kernel
set_option maxRecDepth 65536 in
theorem w_t3 : (((words1.drop 24).drop 24).take 24).all (fun c => isCode c || c.before args0 about1) = true := by decide +kernel
set_option maxRecDepth 65536 in
theorem w_t4 : ((((words1.drop 24).drop 24).drop 24).take 24).all (fun c => isCode c || c.before args0 about1) = true := by decide +kernel
set_option maxRecDepth 65536 in
theorem w_t5 : (((((words1.drop 24).drop 24).drop 24).drop 24).take 24).all (fun c => isCode c || c.before args0 about1) = true := by decide +kernel
set_option maxRecDepth 65536 in
theorem w_t6 : ((((((words1.drop 24).drop 24).drop 24).drop 24).drop 24).take 24).all (fun c => isCode c || c.before args0 about1) = true := by decide +kernel
set_option maxRecDepth 65536 in
theorem w_t7 : (((((((words1.drop 24).drop 24).drop 24).drop 24).drop 24).drop 24).take 24).all (fun c => isCode c || c.before args0 about1) = true := by decide +kernel
set_option maxRecDepth 65536 in
theorem w_t8 : ((((((((words1.drop 24).drop 24).drop 24).drop 24).drop 24).drop 24).drop 24).take 24).all (fun c => isCode c || c.before args0 about1) = true := by decide +kernel
set_option maxRecDepth 65536 in
theorem w_t9 : (((((((((words1.drop 24).drop 24).drop 24).drop 24).drop 24).drop 24).drop 24).drop 24).take 24).all (fun c => isCode c || c.before args0 about1) = true := by decide +kernel
set_option maxRecDepth 65536 in
theorem w_t10 : ((((((((((words1.drop 24).drop 24).drop 24).drop 24).drop 24).drop 24).drop 24).drop 24).drop 24).take 24).all (fun c => isCode c || c.before args0 about1) = true := by decide +kernel
set_option maxRecDepth 65536 in
theorem w_t11 : (((((((((((words1.drop 24).drop 24).drop 24).drop 24).drop 24).drop 24).drop 24).drop 24).drop 24).drop 24).take 24).all (fun c => isCode c || c.before args0 about1) = true := by decide +kernel
set_option maxRecDepth 65536 in
theorem w_t12 : (((((((((((words1.drop 24).drop 24).drop 24).drop 24).drop 24).drop 24).drop 24).drop 24).drop 24).drop 24).drop 24).all (fun c => isCode c || c.before args0 about1) = true := by decide +kernel
theorem w_tables : (allAtoms (Jvm.Cond.code x code maxLocals ret :: tables_1)).before args0 about1 = true := by
  rw [allAtoms_all]
  show words1.all (fun c => c.before args0 about1) = true
  refine all_split ?_ w_codes
  rw [← List.take_append_drop 24 words1, List.all_append, w_t1, ← List.take_append_drop 24 (words1.drop 24), List.all_append, w_t2, ← List.take_append_drop 24 ((words1.drop 24).drop 24), List.all_append, w_t3, ← List.take_append_drop 24 (((words1.drop 24).drop 24).drop 24), List.all_append, w_t4, ← List.take_append_drop 24 ((((words1.drop 24).drop 24).drop 24).drop 24), List.all_append, w_t5, ← List.take_append_drop 24 (((((words1.drop 24).drop 24).drop 24).drop 24).drop 24), List.all_append, w_t6, ← List.take_append_drop 24 ((((((words1.drop 24).drop 24).drop 24).drop 24).drop 24).drop 24), List.all_append, w_t7, ← List.take_append_drop 24 (((((((words1.drop 24).drop 24).drop 24).drop 24).drop 24).drop 24).drop 24), List.all_append, w_t8, ← List.take_append_drop 24 ((((((((words1.drop 24).drop 24).drop 24).drop 24).drop 24).drop 24).drop 24).drop 24), List.all_append, w_t9, ← List.take_append_drop 24 (((((((((words1.drop 24).drop 24).drop 24).drop 24).drop 24).drop 24).drop 24).drop 24).drop 24), List.all_append, w_t10, ← List.take_append_drop 24 ((((((((((words1.drop 24).drop 24).drop 24).drop 24).drop 24).drop 24).drop 24).drop 24).drop 24).drop 24), List.all_append, w_t11, w_t12]
  rfl
set_option maxRecDepth 65536 in
theorem w_rest : rest_1_c.before args0 about1 = true := by decide +kernel
set_option maxRecDepth 65536 in
theorem w_case : (Jvm.Cond.and given_1 narrow_1).before args0 about1 = true := by decide +kernel
theorem w_applies : (headSpec (Jvm.Cond.code x code maxLocals ret :: tables_1) room_1).applies x e0.platform about1 = true :=
  (Spec.applies_iff w_frames).mpr ⟨w_running, w_runnable, w_alone, w_named, w_hears, w_ripe, w_room, w_tables⟩
theorem atStart : AtStart classFile x code maxLocals ret World_1 tables_1 room_1 Calls_1 rest_1 Pre_1 launch0 p0 e0 about1 theMethod args0 below0 :=
  ⟨lists_1, trivial, launch0.admits_env _ _ _, launch0.least_env, fairChoices_fair.cas, fairChoices_fair.clock, w_frames, w_args, w_heap, w_applies, ⟨⟨34, k34, 3, by decide +kernel, rfl, rfl, _, rfl, rfl⟩, ⟨⟨23, k23, 4, by decide +kernel, rfl, rfl, _, rfl, rfl⟩, ⟨⟨18, k18, 5, by decide +kernel, rfl, rfl, _, rfl, rfl⟩, trivial⟩⟩⟩, w_rest, w_case⟩
end start1
theorem witness_1 : WitnessClaimed_1 := ⟨start1.p0, start1.e0, start1.about1, start1.theMethod, start1.args0, start1.below0, start1.atStart⟩
end Jvm.Pilot.@@N@@
