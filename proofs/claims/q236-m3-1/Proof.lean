import JvmDerived
import JvmDerived.Pilot.@@N@@Statement
import JvmDerived.Pilot.@@N@@Code
set_option linter.unusedVariables false
set_option linter.unusedSimpArgs false
namespace Jvm.Pilot.@@N@@
open Jvm Jvm.ClassFile Sem Op Lib Jvm.Free Jvm.Stand Jvm.LawKit Jvm.RoadKit Bundle Jvm.Pilot.@@N@@.Jvm.D
section Own
variable {p : Program} {l : Launch} {e : Env} {R : Room} {s : State} {m : MethodId} {args : Array Value} {below : List Frame} {meth : Method} {c : Code} {T : State} {locs : List Loc} {cells slots : Nat} {Z : State} {a0 : Array Value} {h : Heap}
def own_Go (p : Program) (e : Env) (below : List Frame) (P : Outcome → State → Prop) (U : State) : Prop := ∃ s₂ o, Steps p.tables e below U s₂ ∧ s₂.status = .running ∧ Ended s₂ below o ∧ P o s₂
theorem own_st {P : Outcome → State → Prop} {U V : State} (k : ∀ t, Steps p.tables e below U t → Steps p.tables e below V t) (h : own_Go p e below P U) : own_Go p e below P V := by
  obtain ⟨a, b, c, d⟩ := h; exact ⟨a, b, k _ c, d⟩
def own_P (s : State) (Q : Option Value → Heap → List Loc → Prop) (rc rs : Nat) (o : Outcome) (U : State) : Prop := ∃ v L, o = .returned v ∧ Q v U.heap L ∧ FrameEnd s o U L rc rs
theorem own_ret (X : Stand p l e R s m args below meth c T locs cells slots) {Q : Option Value → Heap → List Loc → Prop} {rc rs : Nat} {g : JFrame} {v : Option Value} (hlk : meth.locks = false) (hv : meth.sig.returnType = none → v = none) (hq : Q v T.heap locs) (hc : cells ≤ rc) (hl : slots ≤ rs)
    (k : ∀ fs, (∀ (f : JFrame) (acts : List Action), f.method = m → f.locked = none → f.entered = [] → (doReturn e (T.setTop f) acts v).1 = T.setFrames fs) → Steps p.tables e below (T.setTop g) (T.setFrames fs)) : own_Go p e below (own_P s Q rc rs) (T.setTop g) := by
  obtain ⟨fs, hr, hrun, hended, hW, hsame⟩ := X.leave (v := v) hv hlk
  exact ⟨_, _, k fs hr, hrun, hended, _, _, rfl, hq, ⟨_, rfl⟩, hW, hsame.mono hc hl⟩
theorem own_retV (X : Stand p l e R s m args below meth c T locs cells slots) (hx : p.tables.exec = Jvm.exec) {Q : Option Value → Heap → List Loc → Prop} {rc rs pc : Nat} {Ls : Array Slot} (hlk : meth.locks = false) (hret : meth.sig.returnType = none) (hd : decode c.code pc = .ok (.return_, 1)) (hc : cells ≤ rc) (hl : slots ≤ rs) (hq : Q none T.heap locs) : own_Go p e below (own_P s Q rc rs) (T.setTop (mkF m pc Ls [])) :=
  own_ret X hlk (fun _ => rfl) hq hc hl fun _ hr => X.returnOut hx hret hd hr
theorem own_retX (X : Stand p l e R s m args below meth c T locs cells slots) (hx : p.tables.exec = Jvm.exec) {Q : Option Value → Heap → List Loc → Prop} {rc rs pc : Nat} {Ls : Array Slot} {w : Value} {t : FieldType} {i : Instr} {rest : List Value} (hlk : meth.locks = false) (hret : meth.sig.returnType = some t) (hn : narrow t w = w)
    (hi : (i = .ireturn ∧ (t = .int ∨ t = .boolean ∨ t = .byte ∨ t = .char ∨ t = .short) ∧ ∃ z, w = .int z) ∨ (i = .lreturn ∧ t = .long ∧ ∃ z, w = .long z) ∨ (i = .dreturn ∧ t = .double ∧ ∃ z, w = .double z) ∨ (i = .freturn ∧ t = .float ∧ ∃ z, w = .float z) ∨ (i = .areturn ∧ t.isReference = true ∧ w.isRef = true))
    (hd : decode c.code pc = .ok (i, 1)) (hc : cells ≤ rc) (hl : slots ≤ rs) (hq : Q (some w) T.heap locs) : own_Go p e below (own_P s Q rc rs) (T.setTop (mkF m pc Ls (w :: rest))) :=
  own_ret X hlk (fun q => by rw [hret] at q; cases q) hq hc hl fun _ hr => retOut X hx hret hn hi hd hr
theorem own_body {y : MethodName} {bytes : ByteArray} {maxL : Nat} {ret : Option FieldType} {rm : Room} {ws : List Cond} {as' : Array Value} {Q : Option Value → Heap → List Loc → Prop} (hn : plainFor y = true)
    (b : ∀ (p : Program) (e : Env) (s : State) (m : MethodId) (below : List Frame) (meth : Method) (c : Code) (s₁ : State), p.tables.exec = Jvm.exec → c.code = bytes → c.maxLocals = maxL → s.vm.findClass y.cls = some m.cls → meth.name = y.name → meth.sig.returnType = ret → meth.locks = false → Z.Warmed39 s.vm → s₁.heap = h → Stand p l e rm s m as' below meth c s₁ [] 0 0 →
      own_Go p e below (own_P s Q rm.cells rm.slots) (s₁.setTop (entryFrame m as' maxL))) :
    MetFree l y (head1 (Cond.code y bytes maxL ret :: ws) rm) (fun a U => a = as' ∧ Z.Warmed39 U.vm ∧ U.heap = h) (fun _ _ _ _ _ => True) (fun _ U o U' => ∃ v L, o = .returned v ∧ Q v U'.heap L ∧ FrameEnd U o U' L rm.cells rm.slots) := by
  refine MetFree.of_bodySF hn hisR ?_
  intro p e s m args below meth c s₁ Bd hml0 hP hK
  obtain ⟨rfl, hZ, hh⟩ := hP
  exact b p e s m below meth c s₁ Bd.exec Bd.bytes hml0 (findClass_of_methodNamed Bd.named) (name_of_methodNamed Bd.named Bd.method).1 Bd.returns Bd.notSynchronized hZ (by rw [← hh, Bd.state]; rfl) (Stand.of_body Bd)
abbrev own_Met (l : Launch) (y : MethodName) (bytes : ByteArray) (maxL : Nat) (ret : Option FieldType) (ws : List Cond) (rm : Room) (Z : State) (h : Heap) (as' : Array Value) (Q : Option Value → Heap → List Loc → Prop) : Prop :=
  MetFree l y (head1 (Cond.code y bytes maxL ret :: ws) rm) (fun a U => a = as' ∧ Z.Warmed39 U.vm ∧ U.heap = h) (fun _ _ _ _ _ => True) (fun _ U o U' => ∃ v L, o = .returned v ∧ Q v U'.heap L ∧ FrameEnd U o U' L rm.cells rm.slots)
abbrev own_Came (p : Program) (l : Launch) (e : Env) (R : Room) (s : State) (m : MethodId) (args : Array Value) (below : List Frame) (meth : Method) (c : Code) (T : State) (locs : List Loc) (cells slots : Nat) (g : JFrame) (len : Nat) (rest : List Value) (Q : Option Value → Heap → List Loc → Prop) : Prop :=
  ∃ (T' : State) (v : Option Value) (L : List Loc), Stand p l e R s m args below meth c T' (locs ++ L) cells slots ∧ Q v T'.heap L ∧ ∀ t, Steps p.tables e below (T'.setTop { g with pc := g.pc + len, stack := v.toList ++ rest }) t → Steps p.tables e below (T.setTop g) t
theorem own_callS (X : Stand p l e R s m args below meth c T locs cells slots) (hx : p.tables.exec = Jvm.exec) (hZ : Z.Warmed39 s.vm) {own : String} {index : Nat} {y : MethodName} {bytes : ByteArray} {maxL : Nat} {ret : Option FieldType} {rm : Room} {as' : Array Value} {Q : Option Value → Heap → List Loc → Prop}
    (hown : s.vm.findClass own = some m.cls) (w1 : (Cond.methodLink own index y).before a0 Z = true) (w2 : (Cond.static y).before a0 Z = true) (w3 : (Cond.initialized y.cls).before a0 Z = true) (w4 : (Cond.code y bytes maxL ret).before a0 Z = true)
    (hy : y.cls ≠ "java/lang/invoke/MethodHandle" ∧ y.cls ≠ "java/lang/invoke/VarHandle") (hM : own_Met l y bytes maxL ret [] rm Z h as' Q) (eT : T.heap = h) {ps : List FieldType} {r : Option FieldType} (hd : parseMethodDescriptor y.desc = some ⟨ps, r⟩) {argsL rest : List Value} (hl : argsL.length = ps.length) (ha : argsL.toArray = as')
    {g : JFrame} (hg : g.method = m) (hsize : g.locals.size = c.maxLocals) (hstack : g.stack = argsL.reverse ++ rest) (hdg : decode c.code g.pc = .ok (.invokestatic index, 3)) {W : Nat} (hW : 2 * g.monitorRoom + (rest.map fun v => v.category).sum = W) (h1 : rm.frames + 1 ≤ R.frames) (h2 : W + (maxL + 11) + rm.locals ≤ R.locals) (h3 : cells + rm.cells ≤ R.cells) (h4 : slots + rm.slots ≤ R.slots) :
    own_Came p l e R s m args below meth c T locs (cells + rm.cells) (slots + rm.slots) g 3 rest Q := by
  obtain ⟨v, _, ⟨T', L', k', n'⟩, -, X', ⟨Lc, hQ, l1, y1, z1⟩, st⟩ := Jvm.LawKit.callS X hx (y := y) hown (mvT hZ w1) (mvT hZ w2) (mvT hZ w3) (mvT hZ w4) hy (backOf (W := W) hM hZ w4 w3 h1 h2) (g := g) hg hsize (argsL := argsL) (rest := rest) (lenOf hd hl) hstack (Nat.le_of_eq hW) hdg (fun _ _ => ⟨ha, eT, h3, h4⟩)
  dsimp only [Pt.U, Pt.locs, Pt.cells, Pt.slots] at X' l1 y1 z1 st hQ
  subst l1 y1 z1
  exact ⟨T', v, Lc, X', hQ, st⟩
theorem own_callN (X : Stand p l e R s m args below meth c T locs cells slots) (hx : p.tables.exec = Jvm.exec) (hZ : Z.Warmed39 s.vm) {own : String} {index : Nat} {y : MethodName} {bytes : ByteArray} {maxL : Nat} {rm : Room} {as' : Array Value} {Q : Option Value → Heap → List Loc → Prop} (hy1 : y.name = "<init>")
    (hown : s.vm.findClass own = some m.cls) (w1 : (Cond.methodLink own index y).before a0 Z = true) (w2 : (Cond.instanceMethod y).before a0 Z = true) (w3 : (Cond.initialized y.cls).before a0 Z = true) (w4 : (Cond.code y bytes maxL none).before a0 Z = true)
    (hy : y.cls ≠ "java/lang/invoke/MethodHandle" ∧ y.cls ≠ "java/lang/invoke/VarHandle") (hM : own_Met l y bytes maxL none [] rm Z h as' Q) (eT : T.heap = h) {ps : List FieldType} {r : Option FieldType} (hd : parseMethodDescriptor y.desc = some ⟨ps, r⟩) {a : Addr} {argsL rest : List Value} (hl : argsL.length = ps.length) (ha : (.ref a :: argsL).toArray = as')
    {g : JFrame} (hg : g.method = m) (hsize : g.locals.size = c.maxLocals) (hstack : g.stack = argsL.reverse ++ .ref a :: rest) (hdg : decode c.code g.pc = .ok (.invokespecial index, 3)) {W : Nat} (hW : 2 * g.monitorRoom + (rest.map fun v => v.category).sum = W) (h1 : rm.frames + 1 ≤ R.frames) (h2 : W + (maxL + 11) + rm.locals ≤ R.locals) (h3 : cells + rm.cells ≤ R.cells) (h4 : slots + rm.slots ≤ R.slots) :
    own_Came p l e R s m args below meth c T locs (cells + rm.cells) (slots + rm.slots) g 3 rest Q := by
  obtain ⟨v, _, ⟨T', L', k', n'⟩, -, X', ⟨Lc, hQ, l1, y1, z1⟩, st⟩ := X.specialBack hx (y := y) hy1 hown (mvT hZ w1) (mvT hZ w2) (mvT hZ w4) hy (backOf (W := W) hM hZ w4 w3 h1 h2) (g := g) hg hsize (Steps.refl _) (a := a) (argsL := argsL) (rest := rest) (lenOf hd hl) hstack (Nat.le_of_eq hW) hdg (fun _ _ => ⟨ha, eT, h3, h4⟩)
  dsimp only [Pt.U, Pt.locs, Pt.cells, Pt.slots] at X' l1 y1 z1 st hQ
  subst l1 y1 z1
  exact ⟨T', v, Lc, X', hQ, fun _ k => st.trans k⟩
theorem own_callV (X : Stand p l e R s m args below meth c T locs cells slots) (hx : p.tables.exec = Jvm.exec) (hZ : Z.Warmed39 s.vm) {own C : String} {index : Nat} {y z : MethodName} {bytes : ByteArray} {maxL : Nat} {ret : Option FieldType} {rm : Room} {as' : Array Value} {Q : Option Value → Heap → List Loc → Prop}
    (hown : s.vm.findClass own = some m.cls) (w1 : (Cond.methodLink own index y).before a0 Z = true) (w2 : (Cond.declares y).before a0 Z = true) (hnf : NotFace s y) (w5 : (Cond.selects C y z).before a0 Z = true) (w6 : (Cond.instanceMethod z).before a0 Z = true) (w3 : (Cond.initialized z.cls).before a0 Z = true) (w4 : (Cond.code z bytes maxL ret).before a0 Z = true)
    (hy : y.cls ≠ "java/lang/invoke/MethodHandle" ∧ y.cls ≠ "java/lang/invoke/VarHandle") (hM : own_Met l z bytes maxL ret [] rm Z h as' Q) (eT : T.heap = h) {a : Addr} (E : Exa Z h a C) {ps : List FieldType} {r : Option FieldType} (hd : parseMethodDescriptor y.desc = some ⟨ps, r⟩) {argsL rest : List Value} (hl : argsL.length = ps.length) (ha : (.ref a :: argsL).toArray = as')
    {g : JFrame} (hg : g.method = m) (hsize : g.locals.size = c.maxLocals) (hstack : g.stack = argsL.reverse ++ .ref a :: rest) (hdg : decode c.code g.pc = .ok (.invokevirtual index, 3)) {W : Nat} (hW : 2 * g.monitorRoom + (rest.map fun v => v.category).sum = W) (h1 : rm.frames + 1 ≤ R.frames) (h2 : W + (maxL + 11) + rm.locals ≤ R.locals) (h3 : cells + rm.cells ≤ R.cells) (h4 : slots + rm.slots ≤ R.slots) :
    own_Came p l e R s m args below meth c T locs (cells + rm.cells) (slots + rm.slots) g 3 rest Q := by
  obtain ⟨cq, kq, qa, qb, qc⟩ := isOf hZ eT E
  obtain ⟨v, _, ⟨T', L', k', n'⟩, -, X', ⟨Lc, hQ, l1, y1, z1⟩, st⟩ := X.virtualBack hx (y := y) (z := z) hown (mvT hZ w1) (mvT hZ w2) hnf (mvT hZ w5) (mvT hZ w6) hy (backOf (W := W) hM hZ w4 w3 h1 h2) qa qc (g := g) hg hsize (Steps.refl _) (argsL := argsL) (rest := rest) (lenOf hd hl) hstack (Nat.le_of_eq hW) hdg (fun _ _ => ⟨ha, eT, h3, h4⟩)
  dsimp only [Pt.U, Pt.locs, Pt.cells, Pt.slots] at X' l1 y1 z1 st hQ
  subst l1 y1 z1
  exact ⟨T', v, Lc, X', hQ, fun _ k => st.trans k⟩
theorem own_callU (X : Stand p l e R s m args below meth c T locs cells slots) (hx : p.tables.exec = Jvm.exec) (hZ : Z.Warmed39 s.vm) {own C owner : String} {index : Nat} {y z : MethodName} {bytes : ByteArray} {maxL : Nat} {ret : Option FieldType} {rm : Room} {as' : Array Value} {Q : Option Value → Heap → List Loc → Prop}
    (hown : s.vm.findClass own = some m.cls) (w1 : (Cond.methodLink own index y).before a0 Z = true) (w7 : (Cond.sameMethod y.cls owner y.name y.desc).before a0 Z = true) (w2 : (Cond.declares ⟨owner, y.name, y.desc⟩).before a0 Z = true) (w5 : (Cond.selects C y z).before a0 Z = true) (w6 : (Cond.instanceMethod z).before a0 Z = true) (w3 : (Cond.initialized z.cls).before a0 Z = true) (w4 : (Cond.code z bytes maxL ret).before a0 Z = true)
    (hy : owner ≠ "java/lang/invoke/MethodHandle" ∧ owner ≠ "java/lang/invoke/VarHandle") (hM : own_Met l z bytes maxL ret [] rm Z h as' Q) (eT : T.heap = h) {a : Addr} (E : Exa Z h a C) {ps : List FieldType} {r : Option FieldType} (hd : parseMethodDescriptor y.desc = some ⟨ps, r⟩) {argsL rest : List Value} (hl : argsL.length = ps.length) (ha : (.ref a :: argsL).toArray = as')
    {g : JFrame} (hg : g.method = m) (hsize : g.locals.size = c.maxLocals) (hstack : g.stack = argsL.reverse ++ .ref a :: rest) (hdg : decode c.code g.pc = .ok (.invokevirtual index, 3)) {W : Nat} (hW : 2 * g.monitorRoom + (rest.map fun v => v.category).sum = W) (h1 : rm.frames + 1 ≤ R.frames) (h2 : W + (maxL + 11) + rm.locals ≤ R.locals) (h3 : cells + rm.cells ≤ R.cells) (h4 : slots + rm.slots ≤ R.slots) :
    own_Came p l e R s m args below meth c T locs (cells + rm.cells) (slots + rm.slots) g 3 rest Q := by
  obtain ⟨cq, kq, qa, qb, qc⟩ := isOf hZ eT E
  obtain ⟨v, _, ⟨T', L', k', n'⟩, -, X', ⟨Lc, hQ, l1, y1, z1⟩, st⟩ := X.virtualBackUp hx (x := y) (y := z) hown (mvT hZ w1) (mvT hZ w7) (mvT hZ w2) hy (mvT hZ w5) (mvT hZ w6) (backOf (W := W) hM hZ w4 w3 h1 h2) qa qc (g := g) hg hsize (Steps.refl _) (argsL := argsL) (rest := rest) (lenOf hd hl) hstack (Nat.le_of_eq hW) hdg (fun _ _ => ⟨ha, eT, h3, h4⟩)
  dsimp only [Pt.U, Pt.locs, Pt.cells, Pt.slots] at X' l1 y1 z1 st hQ
  subst l1 y1 z1
  exact ⟨T', v, Lc, X', hQ, fun _ k => st.trans k⟩
theorem own_callI (X : Stand p l e R s m args below meth c T locs cells slots) (hx : p.tables.exec = Jvm.exec) (hZ : Z.Warmed39 s.vm) {own C : String} {index count : Nat} {y z : MethodName} {bytes : ByteArray} {maxL : Nat} {ret : Option FieldType} {rm : Room} {as' : Array Value} {Q : Option Value → Heap → List Loc → Prop}
    (hown : s.vm.findClass own = some m.cls) (w1 : (Cond.methodLink own index y).before a0 Z = true) (w2 : (Cond.declares y).before a0 Z = true) (w7 : (Cond.interfaceMethod y.cls y.cls y.name y.desc).before args s = true) (w5 : (Cond.selects C y z).before a0 Z = true) (w6 : (Cond.instanceMethod z).before a0 Z = true) (w8 : (Cond.publicMethod z).before a0 Z = true) (w9 : (Cond.unhidden C y.name y.desc).before a0 Z = true) (w10 : (Cond.castable C y.cls).before a0 Z = true) (w3 : (Cond.initialized z.cls).before a0 Z = true) (w4 : (Cond.code z bytes maxL ret).before a0 Z = true)
    (hy : y.cls ≠ "java/lang/invoke/MethodHandle" ∧ y.cls ≠ "java/lang/invoke/VarHandle") (hM : own_Met l z bytes maxL ret [] rm Z h as' Q) (eT : T.heap = h) {a : Addr} (E : Exa Z h a C) {ps : List FieldType} {r : Option FieldType} (hd : parseMethodDescriptor y.desc = some ⟨ps, r⟩) {argsL rest : List Value} (hl : argsL.length = ps.length) (ha : (.ref a :: argsL).toArray = as')
    {g : JFrame} (hg : g.method = m) (hsize : g.locals.size = c.maxLocals) (hstack : g.stack = argsL.reverse ++ .ref a :: rest) (hdg : decode c.code g.pc = .ok (.invokeinterface index count, 5)) {W : Nat} (hW : 2 * g.monitorRoom + (rest.map fun v => v.category).sum = W) (h1 : rm.frames + 1 ≤ R.frames) (h2 : W + (maxL + 11) + rm.locals ≤ R.locals) (h3 : cells + rm.cells ≤ R.cells) (h4 : slots + rm.slots ≤ R.slots) :
    own_Came p l e R s m args below meth c T locs (cells + rm.cells) (slots + rm.slots) g 5 rest Q := by
  obtain ⟨cq, kq, qa, qb, qc⟩ := isOf hZ eT E
  obtain ⟨v, _, ⟨T', L', k', n'⟩, -, X', ⟨Lc, hQ, l1, y1, z1⟩, st⟩ := X.interfaceBack hx (xi := y) (y := z) hown (mvT hZ w1) (mvT hZ w2) w7 (mvT hZ w5) (mvT hZ w6) (mvT hZ w8) (mvT hZ w9) (mvT hZ w10) hy (backOf (W := W) hM hZ w4 w3 h1 h2) qa qb qc (g := g) hg hsize (Steps.refl _) (argsL := argsL) (rest := rest) (lenOf hd hl) hstack (Nat.le_of_eq hW) hdg (fun _ _ => ⟨ha, eT, h3, h4⟩)
  dsimp only [Pt.U, Pt.locs, Pt.cells, Pt.slots] at X' l1 y1 z1 st hQ
  subst l1 y1 z1
  exact ⟨T', v, Lc, X', hQ, fun _ k => st.trans k⟩
theorem own_selP (hZ : Z.Warmed39 s.vm) {y : MethodName} {n : Nat} (w1 : (Cond.instantiable y.cls n).before a0 Z = true) (w2 : (Cond.privateMethod y).before a0 Z = true) (w3 : (Cond.instanceMethod y).before a0 Z = true) (hy : y.cls ≠ "java/lang/invoke/MethodHandle" ∧ y.cls ≠ "java/lang/invoke/VarHandle") : (Cond.selects y.cls y y).before args s = true := by
  obtain ⟨c, k, h1, h2, -, h3, -⟩ := Cond.instantiable_spec (mvT hZ w1 (args := args))
  exact Jvm.Stand.selects_self_of_private h1 h2 (by simp at h3; exact h3.1) (Cond.privateMethod_at (mvP hZ w2 (args := args))) (mvT hZ w3) hy
theorem own_callP (X : Stand p l e R s m args below meth c T locs cells slots) (hx : p.tables.exec = Jvm.exec) (hZ : Z.Warmed39 s.vm) {own : String} {index : Nat} {y : MethodName} {bytes : ByteArray} {maxL : Nat} {ret : Option FieldType} {rm : Room} {as' : Array Value} {Q : Option Value → Heap → List Loc → Prop}
    (hown : s.vm.findClass own = some m.cls) (w1 : (Cond.methodLink own index y).before a0 Z = true) (w6 : (Cond.instanceMethod y).before a0 Z = true) (w5 : (Cond.selects y.cls y y).before args s = true) (w7 : (Cond.privateMethod y).before a0 Z = true) (w3 : (Cond.initialized y.cls).before a0 Z = true) (w4 : (Cond.code y bytes maxL ret).before a0 Z = true)
    (hy : y.cls ≠ "java/lang/invoke/MethodHandle" ∧ y.cls ≠ "java/lang/invoke/VarHandle") (hM : own_Met l y bytes maxL ret [] rm Z h as' Q) (eT : T.heap = h) {a : Addr} {C : String} (E : Exa Z h a C) {ps : List FieldType} {r : Option FieldType} (hd : parseMethodDescriptor y.desc = some ⟨ps, r⟩) {argsL rest : List Value} (hl : argsL.length = ps.length) (ha : (.ref a :: argsL).toArray = as')
    {g : JFrame} (hg : g.method = m) (hsize : g.locals.size = c.maxLocals) (hstack : g.stack = argsL.reverse ++ .ref a :: rest) (hdg : decode c.code g.pc = .ok (.invokevirtual index, 3)) {W : Nat} (hW : 2 * g.monitorRoom + (rest.map fun v => v.category).sum = W) (h1 : rm.frames + 1 ≤ R.frames) (h2 : W + (maxL + 11) + rm.locals ≤ R.locals) (h3 : cells + rm.cells ≤ R.cells) (h4 : slots + rm.slots ≤ R.slots) :
    own_Came p l e R s m args below meth c T locs (cells + rm.cells) (slots + rm.slots) g 3 rest Q := by
  obtain ⟨cq, q, q'⟩ := E.cell
  obtain ⟨v, _, ⟨T', L', k', n'⟩, -, X', ⟨Lc, hQ, l1, y1, z1⟩, st⟩ := X.privateBack hx (y := y) hown (mvT hZ w1) (mvT hZ w6) w5 (Cond.privateMethod_at (mvP hZ w7 (args := #[]))) (mvT hZ w4) hy (backOf (W := W) hM hZ w4 w3 h1 h2) (g := g) hg hsize (Steps.refl _) (a := a) (by rw [eT]; exact q) q' (argsL := argsL) (rest := rest) (lenOf hd hl) hstack (Nat.le_of_eq hW) hdg (fun _ _ => ⟨ha, eT, h3, h4⟩)
  dsimp only [Pt.U, Pt.locs, Pt.cells, Pt.slots] at X' l1 y1 z1 st hQ
  subst l1 y1 z1
  exact ⟨T', v, Lc, X', hQ, fun _ k => st.trans k⟩
theorem own_nl {n0 : Nat} {Z : State} (O : Old Z n0 h) : n0 ≤ h.size := O.1 ▸ O.2.1
theorem own_tt {x : Bool} (h : x = true) : x = true := h
end Own
section Own2
variable {args : Array Value} {Z : State} {a : Addr} {O f d : String} {k : Int32} {t : Term} {v : Value} {ty : FieldType}
theorem own_fldI (ht : t.eval args Z none [] Z = some (.ref a)) (h : (Cond.eq (.field t O f d) (.int k)).value args Z none Z [] = some true) : Fld Z Z.heap a O f d (.int k) := by
  obtain ⟨x, y, ea, eb, -, k2⟩ := cmp_v (Or.inl h)
  obtain rfl : y = .int k := (Option.some.inj (eb.symm.trans (Term.int_eval k)))
  obtain ⟨z, rfl⟩ := k2
  obtain rfl : z = k := by simpa [Cond.value, ea, eb] using h
  rw [fld_at ht] at ea
  exact Fld.start ea
theorem own_len {c : Cell} (ht : t.eval args Z none [] Z = some (.ref a)) (A : Arr Z Z.heap a c ty) (h : (Cond.eq (.length t) (.int k)).value args Z none Z [] = some true) : c.slots.size < 2 ^ 31 ∧ c.slots.size.toInt32 = k := by
  obtain ⟨x, y, ea, eb, -, k2⟩ := cmp_v (Or.inl h)
  obtain rfl : y = .int k := (Option.some.inj (eb.symm.trans (Term.int_eval k)))
  obtain ⟨z, rfl⟩ := k2
  obtain rfl : z = k := by simpa [Cond.value, ea, eb] using h
  have hc := Arr.fin (State.Warmed39.refl Z).alike A
  simp only [Term.eval, ht, Option.bind_eq_bind, Option.bind_some, hc] at ea
  split at ea
  · rename_i hl
    exact ⟨by simpa using hl, by simpa using ea⟩
  · cases ea
theorem own_lenN {n : Nat} {k : Int32} (h : n < 2 ^ 31) (e : n.toInt32 = k) : n = k.toNatClampNeg := by
  subst e
  have := len_toInt h
  simp [Int32.toNatClampNeg, this]
theorem own_elem {c : Cell} {i : Int32} (ht : t.eval args Z none [] Z = some (.ref a)) (A : Arr Z Z.heap a c ty) (h : (Cond.eq (.elem t (.int i)) (.int k)).value args Z none Z [] = some true) : c.slots[i.toNatClampNeg]? = some (.int k) := by
  obtain ⟨x, y, ea, eb, -, k2⟩ := cmp_v (Or.inl h)
  obtain rfl : y = .int k := (Option.some.inj (eb.symm.trans (Term.int_eval k)))
  obtain ⟨z, rfl⟩ := k2
  obtain rfl : z = k := by simpa [Cond.value, ea, eb] using h
  exact (elem_in ea ht (Term.int_eval i) A.1).2
theorem own_bb (x : Int32) : x.toInt8.toInt32.toInt8.toInt32 = x.toInt8.toInt32 := by simp
theorem own_narG (h : v.isRef = true) : narrow ty v = v := by cases v <;> first | rfl | (cases ty <;> rfl) | simp [Value.isRef] at h
theorem own_fitG (h : v.isRef = true) (ht : ty.isReference = true := by rfl) : fits ty v = true := by cases v <;> cases ty <;> simp_all [Value.isRef, fits, FieldType.isReference]
end Own2
section OwnW
variable {p : Program} {l : Launch} {e : Env} {R : Room} {s : State} {m : MethodId} {args : Array Value} {below : List Frame} {meth : Method} {c : Code} {T : State} {locs : List Loc} {cells slots : Nat} {Z : State} {a0 : Array Value} {h : Heap} {vm₀ : Vm} {k₀ : Nat}
def own_PW (s : State) (Q : Option Value → Heap → List Loc → Prop) (rc rs : Nat) (o : Outcome) (U : State) : Prop := ∃ v L, o = .returned v ∧ Q v U.heap L ∧ ReturnedEndW s o U L rc rs
theorem own_retW (X : Stand p l e R (s.setVm vm₀) m args below meth c T locs cells slots) (hS : s.Since vm₀ k₀) (hk : k₀ ≤ h.size) (eT : T.heap = h) {Q : Option Value → Heap → List Loc → Prop} {rc rs : Nat} {g : JFrame} {v : Option Value} (hlk : meth.locks = false) (hv : meth.sig.returnType = none → v = none) (hq : Q v T.heap locs) (hc : cells ≤ rc) (hl : slots ≤ rs)
    (k : ∀ fs, (∀ (f : JFrame) (acts : List Action), f.method = m → f.locked = none → f.entered = [] → (doReturn e (T.setTop f) acts v).1 = T.setFrames fs) → Steps p.tables e below (T.setTop g) (T.setFrames fs)) : own_Go p e below (own_PW s Q rc rs) (T.setTop g) := by
  obtain ⟨fs, hr, hrun, hended, hR⟩ := X.leaveW hS (by rw [eT]; exact hk) (v := v) hv hlk
  exact ⟨_, _, k fs hr, hrun, hended, _, _, rfl, hq, hR.1, hR.2.1, hR.2.2.1, hR.2.2.2.mono hc hl⟩
theorem own_retVW (X : Stand p l e R (s.setVm vm₀) m args below meth c T locs cells slots) (hS : s.Since vm₀ k₀) (hk : k₀ ≤ h.size) (eT : T.heap = h) (hx : p.tables.exec = Jvm.exec) {Q : Option Value → Heap → List Loc → Prop} {rc rs pc : Nat} {Ls : Array Slot} (hlk : meth.locks = false) (hret : meth.sig.returnType = none) (hd : decode c.code pc = .ok (.return_, 1)) (hc : cells ≤ rc) (hl : slots ≤ rs) (hq : Q none T.heap locs) : own_Go p e below (own_PW s Q rc rs) (T.setTop (mkF m pc Ls [])) :=
  own_retW X hS hk eT hlk (fun _ => rfl) hq hc hl fun _ hr => X.returnOut hx hret hd hr
theorem own_retXW (X : Stand p l e R (s.setVm vm₀) m args below meth c T locs cells slots) (hS : s.Since vm₀ k₀) (hk : k₀ ≤ h.size) (eT : T.heap = h) (hx : p.tables.exec = Jvm.exec) {Q : Option Value → Heap → List Loc → Prop} {rc rs pc : Nat} {Ls : Array Slot} {w : Value} {t : FieldType} {i : Instr} {rest : List Value} (hlk : meth.locks = false) (hret : meth.sig.returnType = some t) (hn : narrow t w = w)
    (hi : (i = .ireturn ∧ (t = .int ∨ t = .boolean ∨ t = .byte ∨ t = .char ∨ t = .short) ∧ ∃ z, w = .int z) ∨ (i = .lreturn ∧ t = .long ∧ ∃ z, w = .long z) ∨ (i = .dreturn ∧ t = .double ∧ ∃ z, w = .double z) ∨ (i = .freturn ∧ t = .float ∧ ∃ z, w = .float z) ∨ (i = .areturn ∧ t.isReference = true ∧ w.isRef = true))
    (hd : decode c.code pc = .ok (i, 1)) (hc : cells ≤ rc) (hl : slots ≤ rs) (hq : Q (some w) T.heap locs) : own_Go p e below (own_PW s Q rc rs) (T.setTop (mkF m pc Ls (w :: rest))) :=
  own_retW X hS hk eT hlk (fun q => by rw [hret] at q; cases q) hq hc hl fun _ hr => retOut X hx hret hn hi hd hr
abbrev own_MetW (l : Launch) (y : MethodName) (bytes : ByteArray) (maxL : Nat) (ret : Option FieldType) (ws : List Cond) (rm : Room) (Z : State) (h : Heap) (as' : Array Value) (Q : Option Value → Heap → List Loc → Prop) : Prop :=
  MetFree l y (head1 (Cond.code y bytes maxL ret :: ws) rm) (fun a U => a = as' ∧ Z.Warmed39 U.vm ∧ U.heap = h) (fun _ _ _ _ _ => True) (fun _ U o U' => ∃ v L, o = .returned v ∧ Q v U'.heap L ∧ ReturnedEndW U o U' L rm.cells rm.slots)
theorem own_bodyW {y : MethodName} {bytes : ByteArray} {maxL : Nat} {ret : Option FieldType} {rm : Room} {ws : List Cond} {as' : Array Value} {Q : Option Value → Heap → List Loc → Prop} (hn : plainFor y = true)
    (b : ∀ (p : Program) (e : Env) (s : State) (m : MethodId) (below : List Frame) (meth : Method) (c : Code) (s₁ : State), p.tables.exec = Jvm.exec → c.code = bytes → c.maxLocals = maxL → (s.setVm s.vm).vm.findClass y.cls = some m.cls → meth.name = y.name → meth.sig.returnType = ret → meth.locks = false → Z.Warmed39 (s.setVm s.vm).vm → s₁.heap = h → Stand p l e rm (s.setVm s.vm) m as' below meth c s₁ [] 0 0 → s.Since s.vm 0 →
      own_Go p e below (own_PW s Q rm.cells rm.slots) (s₁.setTop (entryFrame m as' maxL))) :
    own_MetW l y bytes maxL ret ws rm Z h as' Q := by
  refine MetFree.of_bodySF hn hisR ?_
  intro p e s m args below meth c s₁ Bd hml0 hP hK
  obtain ⟨rfl, hZ, hh⟩ := hP
  exact b p e s m below meth c s₁ Bd.exec Bd.bytes hml0 (findClass_of_methodNamed Bd.named) (name_of_methodNamed Bd.named Bd.method).1 Bd.returns Bd.notSynchronized hZ (by rw [← hh, Bd.state]; rfl) (Stand.of_body Bd) ((State.WarmedH.refl s).since 0)
abbrev own_CameW (p : Program) (l : Launch) (e : Env) (R : Room) (s : State) (m : MethodId) (args : Array Value) (below : List Frame) (meth : Method) (c : Code) (T : State) (locs : List Loc) (cells slots : Nat) (Z : State) (own : String) (g : JFrame) (len : Nat) (rest : List Value) (Q : Option Value → Heap → List Loc → Prop) : Prop :=
  ∃ (T' : State) (v : Option Value) (L : List Loc), Stand p l e R (s.setVm T'.vm) m args below meth c T' (locs ++ L) cells slots ∧ s.Since T'.vm T'.heap.size ∧ Z.Warmed39 (s.setVm T'.vm).vm ∧ (s.setVm T'.vm).vm.findClass own = some m.cls ∧ Q v T'.heap L ∧ ∀ t, Steps p.tables e below (T'.setTop { g with pc := g.pc + len, stack := v.toList ++ rest }) t → Steps p.tables e below (T.setTop g) t
theorem own_callSW (X : Stand p l e R (s.setVm vm₀) m args below meth c T locs cells slots) (hx : p.tables.exec = Jvm.exec) (hZ : Z.Warmed39 (s.setVm vm₀).vm) (hS : s.Since vm₀ k₀) (hk : k₀ ≤ h.size) {own : String} {index : Nat} {y : MethodName} {bytes : ByteArray} {maxL : Nat} {ret : Option FieldType} {rm : Room} {as' : Array Value} {Q : Option Value → Heap → List Loc → Prop}
    (hown : (s.setVm vm₀).vm.findClass own = some m.cls) (w1 : (Cond.methodLink own index y).before a0 Z = true) (w2 : (Cond.static y).before a0 Z = true) (w3 : (Cond.initialized y.cls).before a0 Z = true) (w4 : (Cond.code y bytes maxL ret).before a0 Z = true)
    (hy : y.cls ≠ "java/lang/invoke/MethodHandle" ∧ y.cls ≠ "java/lang/invoke/VarHandle") (hM : own_MetW l y bytes maxL ret [] rm Z h as' Q) (eT : T.heap = h) {ps : List FieldType} {r : Option FieldType} (hd : parseMethodDescriptor y.desc = some ⟨ps, r⟩) {argsL rest : List Value} (hl : argsL.length = ps.length) (ha : argsL.toArray = as')
    {g : JFrame} (hg : g.method = m) (hsize : g.locals.size = c.maxLocals) (hstack : g.stack = argsL.reverse ++ rest) (hdg : decode c.code g.pc = .ok (.invokestatic index, 3)) {W : Nat} (hW : 2 * g.monitorRoom + (rest.map fun v => v.category).sum = W) (h1 : rm.frames + 1 ≤ R.frames) (h2 : W + (maxL + 11) + rm.locals ≤ R.locals) (h3 : cells + rm.cells ≤ R.cells) (h4 : slots + rm.slots ≤ R.slots) :
    own_CameW p l e R s m args below meth c T locs (cells + rm.cells) (slots + rm.slots) Z own g 3 rest Q := by
  obtain ⟨v, _, ⟨T', L', k', n'⟩, -, X', hS', hgr, ⟨Lc, hQ, l1, y1, z1⟩, st⟩ := callSS X hx (y := y) hown (mvT hZ w1) (mvT hZ w2) (mvT hZ w3) (mvT hZ w4) hy (backOfS (W := W) hM hZ w4 w3 h1 h2) (g := g) hg hsize (argsL := argsL) (rest := rest) (lenOf hd hl) hstack (Nat.le_of_eq hW) hdg (fun _ _ => ⟨ha, eT, h3, h4⟩)
  dsimp only [Pt.U, Pt.locs, Pt.cells, Pt.slots] at X' hS' hgr l1 y1 z1 st hQ
  subst l1 y1 z1
  obtain ⟨r1, r2, r3, r4⟩ := rebS hS (by rw [eT]; exact hk) X' hS' hgr hZ hown
  exact ⟨T', v, Lc, r1, r2, r3, r4, hQ, fun _ k => st.trans k⟩
theorem own_callNW (X : Stand p l e R (s.setVm vm₀) m args below meth c T locs cells slots) (hx : p.tables.exec = Jvm.exec) (hZ : Z.Warmed39 (s.setVm vm₀).vm) (hS : s.Since vm₀ k₀) (hk : k₀ ≤ h.size) {own : String} {index : Nat} {y : MethodName} {bytes : ByteArray} {maxL : Nat} {rm : Room} {as' : Array Value} {Q : Option Value → Heap → List Loc → Prop} (hy1 : y.name = "<init>")
    (hown : (s.setVm vm₀).vm.findClass own = some m.cls) (w1 : (Cond.methodLink own index y).before a0 Z = true) (w2 : (Cond.instanceMethod y).before a0 Z = true) (w3 : (Cond.initialized y.cls).before a0 Z = true) (w4 : (Cond.code y bytes maxL none).before a0 Z = true)
    (hy : y.cls ≠ "java/lang/invoke/MethodHandle" ∧ y.cls ≠ "java/lang/invoke/VarHandle") (hM : own_MetW l y bytes maxL none [] rm Z h as' Q) (eT : T.heap = h) {ps : List FieldType} {r : Option FieldType} (hd : parseMethodDescriptor y.desc = some ⟨ps, r⟩) {a : Addr} {argsL rest : List Value} (hl : argsL.length = ps.length) (ha : (.ref a :: argsL).toArray = as')
    {g : JFrame} (hg : g.method = m) (hsize : g.locals.size = c.maxLocals) (hstack : g.stack = argsL.reverse ++ .ref a :: rest) (hdg : decode c.code g.pc = .ok (.invokespecial index, 3)) {W : Nat} (hW : 2 * g.monitorRoom + (rest.map fun v => v.category).sum = W) (h1 : rm.frames + 1 ≤ R.frames) (h2 : W + (maxL + 11) + rm.locals ≤ R.locals) (h3 : cells + rm.cells ≤ R.cells) (h4 : slots + rm.slots ≤ R.slots) :
    own_CameW p l e R s m args below meth c T locs (cells + rm.cells) (slots + rm.slots) Z own g 3 rest Q := by
  obtain ⟨v, _, ⟨T', L', k', n'⟩, -, X', hS', hgr, ⟨Lc, hQ, l1, y1, z1⟩, st⟩ := X.specialBackS hx (y := y) hy1 hown (mvT hZ w1) (mvT hZ w2) (mvT hZ w4) hy (backOfS (W := W) hM hZ w4 w3 h1 h2) (g := g) hg hsize (Steps.refl _) (a := a) (argsL := argsL) (rest := rest) (lenOf hd hl) hstack (Nat.le_of_eq hW) hdg (fun _ _ => ⟨ha, eT, h3, h4⟩)
  dsimp only [Pt.U, Pt.locs, Pt.cells, Pt.slots] at X' hS' hgr l1 y1 z1 st hQ
  subst l1 y1 z1
  obtain ⟨r1, r2, r3, r4⟩ := rebS hS (by rw [eT]; exact hk) X' hS' hgr hZ hown
  exact ⟨T', v, Lc, r1, r2, r3, r4, hQ, fun _ k => st.trans k⟩
theorem own_callVW (X : Stand p l e R (s.setVm vm₀) m args below meth c T locs cells slots) (hx : p.tables.exec = Jvm.exec) (hZ : Z.Warmed39 (s.setVm vm₀).vm) (hS : s.Since vm₀ k₀) (hk : k₀ ≤ h.size) {own C : String} {index : Nat} {y z : MethodName} {bytes : ByteArray} {maxL : Nat} {ret : Option FieldType} {rm : Room} {as' : Array Value} {Q : Option Value → Heap → List Loc → Prop}
    (hown : (s.setVm vm₀).vm.findClass own = some m.cls) (w1 : (Cond.methodLink own index y).before a0 Z = true) (w2 : (Cond.declares y).before a0 Z = true) (hnf : NotFace (s.setVm vm₀) y) (w5 : (Cond.selects C y z).before a0 Z = true) (w6 : (Cond.instanceMethod z).before a0 Z = true) (w3 : (Cond.initialized z.cls).before a0 Z = true) (w4 : (Cond.code z bytes maxL ret).before a0 Z = true)
    (hy : y.cls ≠ "java/lang/invoke/MethodHandle" ∧ y.cls ≠ "java/lang/invoke/VarHandle") (hM : own_MetW l z bytes maxL ret [] rm Z h as' Q) (eT : T.heap = h) {a : Addr} (E : Exa Z h a C) {ps : List FieldType} {r : Option FieldType} (hd : parseMethodDescriptor y.desc = some ⟨ps, r⟩) {argsL rest : List Value} (hl : argsL.length = ps.length) (ha : (.ref a :: argsL).toArray = as')
    {g : JFrame} (hg : g.method = m) (hsize : g.locals.size = c.maxLocals) (hstack : g.stack = argsL.reverse ++ .ref a :: rest) (hdg : decode c.code g.pc = .ok (.invokevirtual index, 3)) {W : Nat} (hW : 2 * g.monitorRoom + (rest.map fun v => v.category).sum = W) (h1 : rm.frames + 1 ≤ R.frames) (h2 : W + (maxL + 11) + rm.locals ≤ R.locals) (h3 : cells + rm.cells ≤ R.cells) (h4 : slots + rm.slots ≤ R.slots) :
    own_CameW p l e R s m args below meth c T locs (cells + rm.cells) (slots + rm.slots) Z own g 3 rest Q := by
  obtain ⟨cq, kq, qa, qb, qc⟩ := isOf hZ eT E
  obtain ⟨v, _, ⟨T', L', k', n'⟩, -, X', hS', hgr, ⟨Lc, hQ, l1, y1, z1⟩, st⟩ := X.virtualBackS hx (y := y) (z := z) hown (mvT hZ w1) (mvT hZ w2) hnf (mvT hZ w5) (mvT hZ w6) hy (backOfS (W := W) hM hZ w4 w3 h1 h2) qa qc (g := g) hg hsize (Steps.refl _) (argsL := argsL) (rest := rest) (lenOf hd hl) hstack (Nat.le_of_eq hW) hdg (fun _ _ => ⟨ha, eT, h3, h4⟩)
  dsimp only [Pt.U, Pt.locs, Pt.cells, Pt.slots] at X' hS' hgr l1 y1 z1 st hQ
  subst l1 y1 z1
  obtain ⟨r1, r2, r3, r4⟩ := rebS hS (by rw [eT]; exact hk) X' hS' hgr hZ hown
  exact ⟨T', v, Lc, r1, r2, r3, r4, hQ, fun _ k => st.trans k⟩
theorem own_callUW (X : Stand p l e R (s.setVm vm₀) m args below meth c T locs cells slots) (hx : p.tables.exec = Jvm.exec) (hZ : Z.Warmed39 (s.setVm vm₀).vm) (hS : s.Since vm₀ k₀) (hk : k₀ ≤ h.size) {own C owner : String} {index : Nat} {y z : MethodName} {bytes : ByteArray} {maxL : Nat} {ret : Option FieldType} {rm : Room} {as' : Array Value} {Q : Option Value → Heap → List Loc → Prop}
    (hown : (s.setVm vm₀).vm.findClass own = some m.cls) (w1 : (Cond.methodLink own index y).before a0 Z = true) (w7 : (Cond.sameMethod y.cls owner y.name y.desc).before a0 Z = true) (w2 : (Cond.declares ⟨owner, y.name, y.desc⟩).before a0 Z = true) (w5 : (Cond.selects C y z).before a0 Z = true) (w6 : (Cond.instanceMethod z).before a0 Z = true) (w3 : (Cond.initialized z.cls).before a0 Z = true) (w4 : (Cond.code z bytes maxL ret).before a0 Z = true)
    (hy : owner ≠ "java/lang/invoke/MethodHandle" ∧ owner ≠ "java/lang/invoke/VarHandle") (hM : own_MetW l z bytes maxL ret [] rm Z h as' Q) (eT : T.heap = h) {a : Addr} (E : Exa Z h a C) {ps : List FieldType} {r : Option FieldType} (hd : parseMethodDescriptor y.desc = some ⟨ps, r⟩) {argsL rest : List Value} (hl : argsL.length = ps.length) (ha : (.ref a :: argsL).toArray = as')
    {g : JFrame} (hg : g.method = m) (hsize : g.locals.size = c.maxLocals) (hstack : g.stack = argsL.reverse ++ .ref a :: rest) (hdg : decode c.code g.pc = .ok (.invokevirtual index, 3)) {W : Nat} (hW : 2 * g.monitorRoom + (rest.map fun v => v.category).sum = W) (h1 : rm.frames + 1 ≤ R.frames) (h2 : W + (maxL + 11) + rm.locals ≤ R.locals) (h3 : cells + rm.cells ≤ R.cells) (h4 : slots + rm.slots ≤ R.slots) :
    own_CameW p l e R s m args below meth c T locs (cells + rm.cells) (slots + rm.slots) Z own g 3 rest Q := by
  obtain ⟨cq, kq, qa, qb, qc⟩ := isOf hZ eT E
  obtain ⟨v, _, ⟨T', L', k', n'⟩, -, X', hS', hgr, ⟨Lc, hQ, l1, y1, z1⟩, st⟩ := virtualBackUpS X hx (x := y) (y := z) hown (mvT hZ w1) (mvT hZ w7) (mvT hZ w2) hy (mvT hZ w5) (mvT hZ w6) (backOfS (W := W) hM hZ w4 w3 h1 h2) qa qc (g := g) hg hsize (Steps.refl _) (argsL := argsL) (rest := rest) (lenOf hd hl) hstack (Nat.le_of_eq hW) hdg (fun _ _ => ⟨ha, eT, h3, h4⟩)
  dsimp only [Pt.U, Pt.locs, Pt.cells, Pt.slots] at X' hS' hgr l1 y1 z1 st hQ
  subst l1 y1 z1
  obtain ⟨r1, r2, r3, r4⟩ := rebS hS (by rw [eT]; exact hk) X' hS' hgr hZ hown
  exact ⟨T', v, Lc, r1, r2, r3, r4, hQ, fun _ k => st.trans k⟩
theorem own_callIW (X : Stand p l e R (s.setVm vm₀) m args below meth c T locs cells slots) (hx : p.tables.exec = Jvm.exec) (hZ : Z.Warmed39 (s.setVm vm₀).vm) (hS : s.Since vm₀ k₀) (hk : k₀ ≤ h.size) {own C : String} {index count : Nat} {y z : MethodName} {bytes : ByteArray} {maxL : Nat} {ret : Option FieldType} {rm : Room} {as' : Array Value} {Q : Option Value → Heap → List Loc → Prop}
    (hown : (s.setVm vm₀).vm.findClass own = some m.cls) (w1 : (Cond.methodLink own index y).before a0 Z = true) (w2 : (Cond.declares y).before a0 Z = true) (w7 : (Cond.interfaceMethod y.cls y.cls y.name y.desc).before args (s.setVm vm₀) = true) (w5 : (Cond.selects C y z).before a0 Z = true) (w6 : (Cond.instanceMethod z).before a0 Z = true) (w8 : (Cond.publicMethod z).before a0 Z = true) (w9 : (Cond.unhidden C y.name y.desc).before a0 Z = true) (w10 : (Cond.castable C y.cls).before a0 Z = true) (w3 : (Cond.initialized z.cls).before a0 Z = true) (w4 : (Cond.code z bytes maxL ret).before a0 Z = true)
    (hy : y.cls ≠ "java/lang/invoke/MethodHandle" ∧ y.cls ≠ "java/lang/invoke/VarHandle") (hM : own_MetW l z bytes maxL ret [] rm Z h as' Q) (eT : T.heap = h) {a : Addr} (E : Exa Z h a C) {ps : List FieldType} {r : Option FieldType} (hd : parseMethodDescriptor y.desc = some ⟨ps, r⟩) {argsL rest : List Value} (hl : argsL.length = ps.length) (ha : (.ref a :: argsL).toArray = as')
    {g : JFrame} (hg : g.method = m) (hsize : g.locals.size = c.maxLocals) (hstack : g.stack = argsL.reverse ++ .ref a :: rest) (hdg : decode c.code g.pc = .ok (.invokeinterface index count, 5)) {W : Nat} (hW : 2 * g.monitorRoom + (rest.map fun v => v.category).sum = W) (h1 : rm.frames + 1 ≤ R.frames) (h2 : W + (maxL + 11) + rm.locals ≤ R.locals) (h3 : cells + rm.cells ≤ R.cells) (h4 : slots + rm.slots ≤ R.slots) :
    own_CameW p l e R s m args below meth c T locs (cells + rm.cells) (slots + rm.slots) Z own g 5 rest Q := by
  obtain ⟨cq, kq, qa, qb, qc⟩ := isOf hZ eT E
  obtain ⟨v, _, ⟨T', L', k', n'⟩, -, X', hS', hgr, ⟨Lc, hQ, l1, y1, z1⟩, st⟩ := X.interfaceBackS hx (xi := y) (y := z) hown (mvT hZ w1) (mvT hZ w2) w7 (mvT hZ w5) (mvT hZ w6) (mvT hZ w8) (mvT hZ w9) (mvT hZ w10) hy (backOfS (W := W) hM hZ w4 w3 h1 h2) qa qb qc (g := g) hg hsize (Steps.refl _) (argsL := argsL) (rest := rest) (lenOf hd hl) hstack (Nat.le_of_eq hW) hdg (fun _ _ => ⟨ha, eT, h3, h4⟩)
  dsimp only [Pt.U, Pt.locs, Pt.cells, Pt.slots] at X' hS' hgr l1 y1 z1 st hQ
  subst l1 y1 z1
  obtain ⟨r1, r2, r3, r4⟩ := rebS hS (by rw [eT]; exact hk) X' hS' hgr hZ hown
  exact ⟨T', v, Lc, r1, r2, r3, r4, hQ, fun _ k => st.trans k⟩
theorem own_callPW (X : Stand p l e R (s.setVm vm₀) m args below meth c T locs cells slots) (hx : p.tables.exec = Jvm.exec) (hZ : Z.Warmed39 (s.setVm vm₀).vm) (hS : s.Since vm₀ k₀) (hk : k₀ ≤ h.size) {own : String} {index : Nat} {y : MethodName} {bytes : ByteArray} {maxL : Nat} {ret : Option FieldType} {rm : Room} {as' : Array Value} {Q : Option Value → Heap → List Loc → Prop}
    (hown : (s.setVm vm₀).vm.findClass own = some m.cls) (w1 : (Cond.methodLink own index y).before a0 Z = true) (w6 : (Cond.instanceMethod y).before a0 Z = true) (w5 : (Cond.selects y.cls y y).before args (s.setVm vm₀) = true) (w7 : (Cond.privateMethod y).before a0 Z = true) (w3 : (Cond.initialized y.cls).before a0 Z = true) (w4 : (Cond.code y bytes maxL ret).before a0 Z = true)
    (hy : y.cls ≠ "java/lang/invoke/MethodHandle" ∧ y.cls ≠ "java/lang/invoke/VarHandle") (hM : own_MetW l y bytes maxL ret [] rm Z h as' Q) (eT : T.heap = h) {a : Addr} {C : String} (E : Exa Z h a C) {ps : List FieldType} {r : Option FieldType} (hd : parseMethodDescriptor y.desc = some ⟨ps, r⟩) {argsL rest : List Value} (hl : argsL.length = ps.length) (ha : (.ref a :: argsL).toArray = as')
    {g : JFrame} (hg : g.method = m) (hsize : g.locals.size = c.maxLocals) (hstack : g.stack = argsL.reverse ++ .ref a :: rest) (hdg : decode c.code g.pc = .ok (.invokevirtual index, 3)) {W : Nat} (hW : 2 * g.monitorRoom + (rest.map fun v => v.category).sum = W) (h1 : rm.frames + 1 ≤ R.frames) (h2 : W + (maxL + 11) + rm.locals ≤ R.locals) (h3 : cells + rm.cells ≤ R.cells) (h4 : slots + rm.slots ≤ R.slots) :
    own_CameW p l e R s m args below meth c T locs (cells + rm.cells) (slots + rm.slots) Z own g 3 rest Q := by
  obtain ⟨cq, q, q'⟩ := E.cell
  obtain ⟨v, _, ⟨T', L', k', n'⟩, -, X', hS', hgr, ⟨Lc, hQ, l1, y1, z1⟩, st⟩ := privateBackS X hx (y := y) hown (mvT hZ w1) (mvT hZ w6) w5 (Cond.privateMethod_at (mvP hZ w7 (args := #[]))) (mvT hZ w4) hy (backOfS (W := W) hM hZ w4 w3 h1 h2) (g := g) hg hsize (Steps.refl _) (a := a) (by rw [eT]; exact q) q' (argsL := argsL) (rest := rest) (lenOf hd hl) hstack (Nat.le_of_eq hW) hdg (fun _ _ => ⟨ha, eT, h3, h4⟩)
  dsimp only [Pt.U, Pt.locs, Pt.cells, Pt.slots] at X' hS' hgr l1 y1 z1 st hQ
  subst l1 y1 z1
  obtain ⟨r1, r2, r3, r4⟩ := rebS hS (by rw [eT]; exact hk) X' hS' hgr hZ hown
  exact ⟨T', v, Lc, r1, r2, r3, r4, hQ, fun _ k => st.trans k⟩
end OwnW
theorem own_strW {a0 : Array Value} {Z : State} (hw : ∀ d ∈ tables_1, d.before a0 Z = true) : ∀ a ∈ Bundle.stringAtoms, a.before a0 Z = true := fun a ha => hw a (by revert a; decide +kernel)
def own_any2 (u x : Int64) : Int32 := if (0 : Int32) < lcmpW u (0 : Int64) ∨ (0 : Int32) < lcmpW x (0 : Int64) then 1 else 0
def own_D (u x : Int64) (e : Int32) (u2 x2 : Int64) : Prop := (e = 0 ∧ u2 = u ∧ x2 = x) ∨ (e = 1 ∧ u2 = u + 1 ∧ x2 = x) ∨ (e = 1 ∧ u2 = u ∧ x2 = x + 1)
theorem own_any {e1 e2 e3 : Int32} {u1 x1 u2 x2 u3 x3 : Int64} (d1 : own_D 0 0 e1 u1 x1) (d2 : own_D u1 x1 e2 u2 x2) (d3 : own_D u2 x2 e3 u3 x3) : own_any2 u3 x3 = if e1 = 0 ∧ e2 = 0 ∧ e3 = 0 then 0 else 1 := by
  rcases d1 with ⟨rfl, rfl, rfl⟩ | ⟨rfl, rfl, rfl⟩ | ⟨rfl, rfl, rfl⟩ <;> rcases d2 with ⟨rfl, rfl, rfl⟩ | ⟨rfl, rfl, rfl⟩ | ⟨rfl, rfl, rfl⟩ <;> rcases d3 with ⟨rfl, rfl, rfl⟩ | ⟨rfl, rfl, rfl⟩ | ⟨rfl, rfl, rfl⟩ <;> decide
def own_S (Z : State) (w0 : Addr) (w1 : Addr) (w2 : Addr) (wm : Addr) (km : ClassId) : Prop := Sta Z Z.heap "com/example/gridwright/gridwright/AnnealOutcome" "UNSOLVABLE" "Lcom/example/gridwright/gridwright/AnnealOutcome;" (.ref w0) ∧ Exa Z Z.heap w0 "com/example/gridwright/gridwright/AnnealOutcome" ∧ Fld Z Z.heap w0 "java/lang/Enum" "ordinal" "I" (.int (2 : Int32)) ∧ Sta Z Z.heap "com/example/gridwright/gridwright/AnnealOutcome" "UNSOLVED" "Lcom/example/gridwright/gridwright/AnnealOutcome;" (.ref w1) ∧ Exa Z Z.heap w1 "com/example/gridwright/gridwright/AnnealOutcome" ∧ Fld Z Z.heap w1 "java/lang/Enum" "ordinal" "I" (.int (1 : Int32)) ∧ Sta Z Z.heap "com/example/gridwright/gridwright/AnnealOutcome" "SOLVED" "Lcom/example/gridwright/gridwright/AnnealOutcome;" (.ref w2) ∧ Exa Z Z.heap w2 "com/example/gridwright/gridwright/AnnealOutcome" ∧ Fld Z Z.heap w2 "java/lang/Enum" "ordinal" "I" (.int (0 : Int32)) ∧ Sta Z Z.heap "com/example/gridwright/gridwright/AnnealSummary$1" "$SwitchMap$com$example$gridwright$gridwright$AnnealOutcome" "[I" (.ref wm) ∧ Arv Z Z.heap wm km .int (3 : Int32) [(.int (1 : Int32)), (.int (2 : Int32)), (.int (3 : Int32))] (.int (0 : Int32))
theorem own_d_prog_4_1_0 : decode prog_4_method_1_code 0 = .ok (.aload_n 0, 1) := by decide +kernel
theorem own_d_prog_4_1_1 : decode prog_4_method_1_code 1 = .ok (.invokespecial 1, 3) := by decide +kernel
theorem own_d_prog_4_1_4 : decode prog_4_method_1_code 4 = .ok (.return_, 1) := by decide +kernel
theorem own_pn_3 : plainName "com/example/gridwright/gridwright/AnnealSummary" = true := by first | (simp [plainName, overriddenIn]; done) | decide +kernel
theorem own_ef_rmS (m : MethodId) (a : Addr)  : entryFrame m #[(.ref a)] 1 = mkF m 0 #[.val (.ref a)] [] := by first | (simp [entryFrame, mkF, argsToLocals, Value.category, maxLocals]; done) | rfl
def QrmS (Z : State) (w0 : Addr) (w1 : Addr) (w2 : Addr) (wm : Addr) (km : ClassId) (a : Addr) (h0 : Heap) (n0 : Nat) (v : Option Value) (h : Heap) (L : List Loc) : Prop := v = none ∧ Fr n0 L ∧ h = h0
set_option maxRecDepth 65536 in
set_option maxHeartbeats 40000000 in
theorem rmS (l : Launch) (Z : State) (a0 : Array Value) (hw : ∀ d ∈ tables_1, d.before a0 Z = true) (ws : List Jvm.Cond) (w0 : Addr) (w1 : Addr) (w2 : Addr) (wm : Addr) (km : ClassId) (hS : own_S Z w0 w1 w2 wm km) (a : Addr) (h0 : Heap) (n0 : Nat) (O0 : Old Z n0 h0)  :
    own_Met l (⟨"com/example/gridwright/gridwright/AnnealSummary", "<init>", "()V"⟩ : MethodName) prog_4_method_1_code 1 none ws ({ frames := 1, cells := 0, slots := 0, locals := 12 } : Room) Z h0 #[(.ref a)] (QrmS Z w0 w1 w2 wm km a h0 n0) := by
  refine own_body (plainFor_of_name own_pn_3) ?_
  intro p e s m below meth c s₁ hx hby hml hown hnm hret hlk hZ e0 X0
  have N0 := Fr.nil n0
  refine own_st (fun u_ k_ => castTop (own_ef_rmS m a) k_) ?_
  show own_Go p e below _ (s₁.setTop (mkF m 0 #[.val (.ref a)] []))
  refine own_st (fun u_ k_ => XS.aloadN X0.here hx rfl (hb hby own_d_prog_4_1_0) rfl rfl k_) ?_
  show own_Go p e below _ (s₁.setTop (mkF m 1 #[.val (.ref a)] [(.ref a)]))
  obtain ⟨T1, X1, e1, st1⟩ := initO X0 hx hZ hown (hw _ (List.mem_of_getElem? (i := 6) rfl)) (hw _ (List.mem_of_getElem? (i := 7) rfl)) (hw _ (List.mem_of_getElem? (i := 8) rfl)) e0 (g := (mkF m 1 #[.val (.ref a)] [(.ref a)])) rfl (by rw [hml]; rfl) rfl (hb hby own_d_prog_4_1_1) (by decide) (W := 0) (by show 2 * 0 + _ ≤ _; exact Nat.le_of_eq rfl) (by decide)
  refine own_st (fun u_ k_ => st1 u_ k_) ?_
  show own_Go p e below _ (T1.setTop (mkF m 4 #[.val (.ref a)] []))
  exact own_retV X1 hx hlk hret (hb hby own_d_prog_4_1_4) (by decide) (by decide) (show QrmS Z w0 w1 w2 wm km a h0 n0 none T1.heap _ from (by rw [e1]; exact ⟨rfl, N0, rfl⟩))
theorem own_d_prog_15_1_0 : decode prog_15_method_1_code 0 = .ok (.aload_n 0, 1) := by decide +kernel
theorem own_d_prog_15_1_1 : decode prog_15_method_1_code 1 = .ok (.invokespecial 3, 3) := by decide +kernel
theorem own_d_prog_15_1_4 : decode prog_15_method_1_code 4 = .ok (.aload_n 0, 1) := by decide +kernel
theorem own_d_prog_15_1_5 : decode prog_15_method_1_code 5 = .ok (.iload_n 1, 1) := by decide +kernel
theorem own_d_prog_15_1_6 : decode prog_15_method_1_code 6 = .ok (.putfield 9, 3) := by decide +kernel
theorem own_lm_9 : parseFieldDescriptor "I" = some .int := by decide +kernel
theorem own_d_prog_15_1_9 : decode prog_15_method_1_code 9 = .ok (.aload_n 0, 1) := by decide +kernel
theorem own_d_prog_15_1_10 : decode prog_15_method_1_code 10 = .ok (.iload_n 1, 1) := by decide +kernel
theorem own_d_prog_15_1_11 : decode prog_15_method_1_code 11 = .ok (.iload_n 1, 1) := by decide +kernel
theorem own_d_prog_15_1_12 : decode prog_15_method_1_code 12 = .ok (.imul, 1) := by decide +kernel
theorem own_d_prog_15_1_13 : decode prog_15_method_1_code 13 = .ok (.putfield 13, 3) := by decide +kernel
theorem own_lm_15 : ("side" : String) ≠ "boxSize" := by decide +kernel
theorem own_d_prog_15_1_16 : decode prog_15_method_1_code 16 = .ok (.aload_n 0, 1) := by decide +kernel
theorem own_d_prog_15_1_17 : decode prog_15_method_1_code 17 = .ok (.aload_n 2, 1) := by decide +kernel
theorem own_d_prog_15_1_18 : decode prog_15_method_1_code 18 = .ok (.putfield 16, 3) := by decide +kernel
theorem own_lm_19 : ("cells" : String) ≠ "boxSize" := by decide +kernel
theorem own_lm_20 : parseFieldDescriptor "[B" = some (.array .byte) := by decide +kernel
theorem own_lm_21 : ("cells" : String) ≠ "side" := by decide +kernel
theorem own_d_prog_15_1_21 : decode prog_15_method_1_code 21 = .ok (.return_, 1) := by decide +kernel
theorem own_pn_23 : plainName "com/example/gridwright/gridwright/Grid" = true := by first | (simp [plainName, overriddenIn]; done) | decide +kernel
theorem own_ef_rmG (m : MethodId) (a : Addr) (n : Int32) (b : Addr)  : entryFrame m #[(.ref a), (.int n), (.ref b)] 3 = mkF m 0 #[.val (.ref a), .val (.int n), .val (.ref b)] [] := by first | (simp [entryFrame, mkF, argsToLocals, Value.category, maxLocals]; done) | rfl
def QrmG (Z : State) (w0 : Addr) (w1 : Addr) (w2 : Addr) (wm : Addr) (km : ClassId) (a : Addr) (n : Int32) (b : Addr) (h0 : Heap) (n0 : Nat) (v : Option Value) (h : Heap) (L : List Loc) : Prop := v = none ∧ Fr n0 L ∧ Keep h0 h [a] ∧ Exa Z h a "com/example/gridwright/gridwright/Grid"
set_option maxRecDepth 65536 in
set_option maxHeartbeats 40000000 in
theorem rmG (l : Launch) (Z : State) (a0 : Array Value) (hw : ∀ d ∈ tables_1, d.before a0 Z = true) (ws : List Jvm.Cond) (w0 : Addr) (w1 : Addr) (w2 : Addr) (wm : Addr) (km : ClassId) (hS : own_S Z w0 w1 w2 wm km) (a : Addr) (n : Int32) (b : Addr) (h0 : Heap) (n0 : Nat) (O0 : Old Z n0 h0) (E : Exa Z h0 a "com/example/gridwright/gridwright/Grid") (ga : n0 ≤ a) (F1 : Fld Z h0 a "com/example/gridwright/gridwright/Grid" "boxSize" "I" (.int (0 : Int32))) (F2 : Fld Z h0 a "com/example/gridwright/gridwright/Grid" "side" "I" (.int (0 : Int32))) (F3 : Fld Z h0 a "com/example/gridwright/gridwright/Grid" "cells" "[B" .null) :
    own_Met l (⟨"com/example/gridwright/gridwright/Grid", "<init>", "(I[B)V"⟩ : MethodName) prog_15_method_1_code 3 none ws ({ frames := 1, cells := 0, slots := 0, locals := 12 } : Room) Z h0 #[(.ref a), (.int n), (.ref b)] (QrmG Z w0 w1 w2 wm km a n b h0 n0) := by
  refine own_body (plainFor_of_name own_pn_23) ?_
  intro p e s m below meth c s₁ hx hby hml hown hnm hret hlk hZ e0 X0
  have N0 := Fr.nil n0
  refine own_st (fun u_ k_ => castTop (own_ef_rmG m a n b) k_) ?_
  show own_Go p e below _ (s₁.setTop (mkF m 0 #[.val (.ref a), .val (.int n), .val (.ref b)] []))
  refine own_st (fun u_ k_ => XS.aloadN X0.here hx rfl (hb hby own_d_prog_15_1_0) rfl rfl k_) ?_
  show own_Go p e below _ (s₁.setTop (mkF m 1 #[.val (.ref a), .val (.int n), .val (.ref b)] [(.ref a)]))
  obtain ⟨T2, X2, e2, st2⟩ := initO X0 hx hZ hown (hw _ (List.mem_of_getElem? (i := 16) rfl)) (hw _ (List.mem_of_getElem? (i := 7) rfl)) (hw _ (List.mem_of_getElem? (i := 8) rfl)) e0 (g := (mkF m 1 #[.val (.ref a), .val (.int n), .val (.ref b)] [(.ref a)])) rfl (by rw [hml]; rfl) rfl (hb hby own_d_prog_15_1_1) (by decide) (W := 0) (by show 2 * 0 + _ ≤ _; exact Nat.le_of_eq rfl) (by decide)
  refine own_st (fun u_ k_ => st2 u_ k_) ?_
  show own_Go p e below _ (T2.setTop (mkF m 4 #[.val (.ref a), .val (.int n), .val (.ref b)] []))
  refine own_st (fun u_ k_ => XS.aloadN X2.here hx rfl (hb hby own_d_prog_15_1_4) rfl rfl k_) ?_
  show own_Go p e below _ (T2.setTop (mkF m 5 #[.val (.ref a), .val (.int n), .val (.ref b)] [(.ref a)]))
  refine own_st (fun u_ k_ => XS.iloadN X2.here hx rfl (hb hby own_d_prog_15_1_5) rfl k_) ?_
  show own_Go p e below _ (T2.setTop (mkF m 6 #[.val (.ref a), .val (.int n), .val (.ref b)] [(.int n), (.ref a)]))
  obtain ⟨T3, h3, X3, e3, W3, st3⟩ := putF X2 hx hZ hown (host := "") (Or.inl (hw _ (List.mem_of_getElem? (i := 17) rfl))) Via.refl e2 F1 E (Or.inr ⟨(hw _ (List.mem_of_getElem? (i := 18) rfl)), rfl, hnm⟩) (hw _ (List.mem_of_getElem? (i := 10) rfl)) (ty := .int) own_lm_9 rfl rfl (g := (mkF m 6 #[.val (.ref a), .val (.int n), .val (.ref b)] [(.int n), (.ref a)])) rfl rfl (hb hby own_d_prog_15_1_6)
  have N3 := Fr.snoc X3 N0 ga
  have F4 : Fld Z h3 a "com/example/gridwright/gridwright/Grid" "boxSize" "I" (.int n) := Fld.same W3 F1
  refine own_st (fun u_ k_ => st3 u_ k_) ?_
  show own_Go p e below _ (T3.setTop (mkF m 9 #[.val (.ref a), .val (.int n), .val (.ref b)] []))
  refine own_st (fun u_ k_ => XS.aloadN X3.here hx rfl (hb hby own_d_prog_15_1_9) rfl rfl k_) ?_
  show own_Go p e below _ (T3.setTop (mkF m 10 #[.val (.ref a), .val (.int n), .val (.ref b)] [(.ref a)]))
  refine own_st (fun u_ k_ => XS.iloadN X3.here hx rfl (hb hby own_d_prog_15_1_10) rfl k_) ?_
  show own_Go p e below _ (T3.setTop (mkF m 11 #[.val (.ref a), .val (.int n), .val (.ref b)] [(.int n), (.ref a)]))
  refine own_st (fun u_ k_ => XS.iloadN X3.here hx rfl (hb hby own_d_prog_15_1_11) rfl k_) ?_
  show own_Go p e below _ (T3.setTop (mkF m 12 #[.val (.ref a), .val (.int n), .val (.ref b)] [(.int n), (.int n), (.ref a)]))
  refine own_st (fun u_ k_ => XS.imul X3.here hx rfl (hb hby own_d_prog_15_1_12) rfl k_) ?_
  show own_Go p e below _ (T3.setTop (mkF m 13 #[.val (.ref a), .val (.int n), .val (.ref b)] [(.int (n * n)), (.ref a)]))
  have F5 : Exa Z h3 a "com/example/gridwright/gridwright/Grid" := (Exa.wr W3 E)
  have F6 : Fld Z h3 a "com/example/gridwright/gridwright/Grid" "side" "I" (.int (0 : Int32)) := (Fld.other W3 F2 (Or.inr (slot_ne (Or.inr (hw _ (List.mem_of_getElem? (i := 20) rfl))) (Or.inr (hw _ (List.mem_of_getElem? (i := 18) rfl))) own_lm_15 (t := .int) (t' := .int) own_lm_9 own_lm_9)))
  obtain ⟨T7, h7, X7, e7, W7, st7⟩ := putF X3 hx hZ hown (host := "") (Or.inl (hw _ (List.mem_of_getElem? (i := 19) rfl))) Via.refl e3 F6 F5 (Or.inr ⟨(hw _ (List.mem_of_getElem? (i := 20) rfl)), rfl, hnm⟩) (hw _ (List.mem_of_getElem? (i := 10) rfl)) (ty := .int) own_lm_9 rfl rfl (g := (mkF m 13 #[.val (.ref a), .val (.int n), .val (.ref b)] [(.int (n * n)), (.ref a)])) rfl rfl (hb hby own_d_prog_15_1_13)
  have N7 := Fr.snoc X7 N3 ga
  have F8 : Fld Z h7 a "com/example/gridwright/gridwright/Grid" "side" "I" (.int (n * n)) := Fld.same W7 F6
  refine own_st (fun u_ k_ => st7 u_ k_) ?_
  show own_Go p e below _ (T7.setTop (mkF m 16 #[.val (.ref a), .val (.int n), .val (.ref b)] []))
  refine own_st (fun u_ k_ => XS.aloadN X7.here hx rfl (hb hby own_d_prog_15_1_16) rfl rfl k_) ?_
  show own_Go p e below _ (T7.setTop (mkF m 17 #[.val (.ref a), .val (.int n), .val (.ref b)] [(.ref a)]))
  refine own_st (fun u_ k_ => XS.aloadN X7.here hx rfl (hb hby own_d_prog_15_1_17) rfl rfl k_) ?_
  show own_Go p e below _ (T7.setTop (mkF m 18 #[.val (.ref a), .val (.int n), .val (.ref b)] [(.ref b), (.ref a)]))
  have F9 : Exa Z h7 a "com/example/gridwright/gridwright/Grid" := (Exa.wr W7 F5)
  have F10 : Fld Z h7 a "com/example/gridwright/gridwright/Grid" "cells" "[B" .null := (Fld.other W7 (Fld.other W3 F3 (Or.inr (slot_ne (Or.inr (hw _ (List.mem_of_getElem? (i := 22) rfl))) (Or.inr (hw _ (List.mem_of_getElem? (i := 18) rfl))) own_lm_19 (t := (.array .byte)) (t' := .int) own_lm_20 own_lm_9))) (Or.inr (slot_ne (Or.inr (hw _ (List.mem_of_getElem? (i := 22) rfl))) (Or.inr (hw _ (List.mem_of_getElem? (i := 20) rfl))) own_lm_21 (t := (.array .byte)) (t' := .int) own_lm_20 own_lm_9)))
  obtain ⟨T11, h11, X11, e11, W11, st11⟩ := putF X7 hx hZ hown (host := "") (Or.inl (hw _ (List.mem_of_getElem? (i := 21) rfl))) Via.refl e7 F10 F9 (Or.inr ⟨(hw _ (List.mem_of_getElem? (i := 22) rfl)), rfl, hnm⟩) (hw _ (List.mem_of_getElem? (i := 10) rfl)) (ty := (.array .byte)) own_lm_20 rfl rfl (g := (mkF m 18 #[.val (.ref a), .val (.int n), .val (.ref b)] [(.ref b), (.ref a)])) rfl rfl (hb hby own_d_prog_15_1_18)
  have N11 := Fr.snoc X11 N7 ga
  have F12 : Fld Z h11 a "com/example/gridwright/gridwright/Grid" "cells" "[B" (.ref b) := Fld.same W11 F10
  refine own_st (fun u_ k_ => st11 u_ k_) ?_
  show own_Go p e below _ (T11.setTop (mkF m 21 #[.val (.ref a), .val (.int n), .val (.ref b)] []))
  have K13 : Keep h0 h3 [a] := (Keep.refl h0 [a]).wr W3 (Or.inl (List.mem_of_getElem? (i := 0) rfl))
  have K14 : Keep h0 h7 [a] := K13.wr W7 (Or.inl (List.mem_of_getElem? (i := 0) rfl))
  have K15 : Keep h0 h11 [a] := K14.wr W11 (Or.inl (List.mem_of_getElem? (i := 0) rfl))
  have F16 : Exa Z h11 a "com/example/gridwright/gridwright/Grid" := (Exa.wr W11 F9)
  exact own_retV X11 hx hlk hret (hb hby own_d_prog_15_1_21) (by decide) (by decide) (show QrmG Z w0 w1 w2 wm km a n b h0 n0 none T11.heap _ from (by rw [e11]; exact ⟨rfl, N11, K15, F16⟩))
theorem own_d_prog_4_4_0 : decode prog_4_method_4_code 0 = .ok (.aload_n 0, 1) := by decide +kernel
theorem own_d_prog_4_4_1 : decode prog_4_method_4_code 1 = .ok (.getfield 47, 3) := by decide +kernel
theorem own_d_prog_4_4_4 : decode prog_4_method_4_code 4 = .ok (.lconst 0, 1) := by decide +kernel
theorem own_d_prog_4_4_5 : decode prog_4_method_4_code 5 = .ok (.lcmp, 1) := by decide +kernel
theorem own_d_prog_4_4_6 : decode prog_4_method_4_code 6 = .ok (.ifCond .gt 12, 3) := by decide +kernel
theorem own_d_prog_4_4_18 : decode prog_4_method_4_code 18 = .ok (.iconst 1, 1) := by decide +kernel
theorem own_d_prog_4_4_19 : decode prog_4_method_4_code 19 = .ok (.goto 4, 3) := by decide +kernel
theorem own_d_prog_4_4_23 : decode prog_4_method_4_code 23 = .ok (.ireturn, 1) := by decide +kernel
theorem own_d_prog_4_4_9 : decode prog_4_method_4_code 9 = .ok (.aload_n 0, 1) := by decide +kernel
theorem own_d_prog_4_4_10 : decode prog_4_method_4_code 10 = .ok (.getfield 50, 3) := by decide +kernel
theorem own_d_prog_4_4_13 : decode prog_4_method_4_code 13 = .ok (.lconst 0, 1) := by decide +kernel
theorem own_d_prog_4_4_14 : decode prog_4_method_4_code 14 = .ok (.lcmp, 1) := by decide +kernel
theorem own_d_prog_4_4_15 : decode prog_4_method_4_code 15 = .ok (.ifCond .le 7, 3) := by decide +kernel
theorem own_d_prog_4_4_22 : decode prog_4_method_4_code 22 = .ok (.iconst 0, 1) := by decide +kernel
theorem own_ef_rmU (m : MethodId) (a : Addr)  : entryFrame m #[(.ref a)] 1 = mkF m 0 #[.val (.ref a)] [] := by first | (simp [entryFrame, mkF, argsToLocals, Value.category, maxLocals]; done) | rfl
def QrmU (Z : State) (w0 : Addr) (w1 : Addr) (w2 : Addr) (wm : Addr) (km : ClassId) (a : Addr) (u : Int64) (x : Int64) (h0 : Heap) (n0 : Nat) (v : Option Value) (h : Heap) (L : List Loc) : Prop := v = some (.int (own_any2 u x)) ∧ Fr n0 L ∧ h = h0
set_option maxRecDepth 65536 in
set_option maxHeartbeats 40000000 in
theorem rmU (l : Launch) (Z : State) (a0 : Array Value) (hw : ∀ d ∈ tables_1, d.before a0 Z = true) (ws : List Jvm.Cond) (w0 : Addr) (w1 : Addr) (w2 : Addr) (wm : Addr) (km : ClassId) (hS : own_S Z w0 w1 w2 wm km) (a : Addr) (u : Int64) (x : Int64) (h0 : Heap) (n0 : Nat) (O0 : Old Z n0 h0) (F1 : Fld Z h0 a "com/example/gridwright/gridwright/AnnealSummary" "unsolved" "J" (.long u)) (F2 : Fld Z h0 a "com/example/gridwright/gridwright/AnnealSummary" "unsolvable" "J" (.long x)) :
    own_Met l (⟨"com/example/gridwright/gridwright/AnnealSummary", "anyUnsolved", "()Z"⟩ : MethodName) prog_4_method_4_code 1 (some .boolean) ws ({ frames := 0, cells := 0, slots := 0, locals := 0 } : Room) Z h0 #[(.ref a)] (QrmU Z w0 w1 w2 wm km a u x h0 n0) := by
  refine own_body (plainFor_of_name own_pn_3) ?_
  intro p e s m below meth c s₁ hx hby hml hown hnm hret hlk hZ e0 X0
  have N0 := Fr.nil n0
  refine own_st (fun u_ k_ => castTop (own_ef_rmU m a) k_) ?_
  show own_Go p e below _ (s₁.setTop (mkF m 0 #[.val (.ref a)] []))
  refine own_st (fun u_ k_ => XS.aloadN X0.here hx rfl (hb hby own_d_prog_4_4_0) rfl rfl k_) ?_
  show own_Go p e below _ (s₁.setTop (mkF m 1 #[.val (.ref a)] [(.ref a)]))
  obtain ⟨T17, X17, e17, st17⟩ := getF X0 hx hZ hown (host := "") (Or.inl (hw _ (List.mem_of_getElem? (i := 28) rfl))) Via.refl e0 F1 (g := (mkF m 1 #[.val (.ref a)] [(.ref a)])) rfl rfl (hb hby own_d_prog_4_4_1)
  refine own_st (fun u_ k_ => st17 u_ k_) ?_
  show own_Go p e below _ (T17.setTop (mkF m 4 #[.val (.ref a)] [(.long u)]))
  refine own_st (fun u_ k_ => XS.lconst X17.here hx rfl (hb hby own_d_prog_4_4_4) k_) ?_
  show own_Go p e below _ (T17.setTop (mkF m 5 #[.val (.ref a)] [(.long (0 : Int64)), (.long u)]))
  refine own_st (fun u_ k_ => XS.lcmp X17.here hx rfl (hb hby own_d_prog_4_4_5) rfl k_) ?_
  show own_Go p e below _ (T17.setTop (mkF m 6 #[.val (.ref a)] [(.int (lcmpW u (0 : Int64)))]))
  by_cases hc18 : (0 : Int32) < (lcmpW u (0 : Int64))
  · refine own_st (fun u_ k_ => XS.ifYes X17.here hx rfl (pc0 := 6) (pc' := 18) rfl (hb hby own_d_prog_4_4_6) rfl (XT.i0_gt_t hc18) (by decide) (by decide) k_) ?_
    show own_Go p e below _ (T17.setTop (mkF m 18 #[.val (.ref a)] []))
    refine own_st (fun u_ k_ => XS.iconst X17.here hx rfl (hb hby own_d_prog_4_4_18) k_) ?_
    show own_Go p e below _ (T17.setTop (mkF m 19 #[.val (.ref a)] [(.int (1 : Int32))]))
    refine own_st (fun u_ k_ => XS.goto X17.here hx rfl (pc0 := 19) (pc' := 23) rfl (hb hby own_d_prog_4_4_19) (by decide) (by decide) k_) ?_
    show own_Go p e below _ (T17.setTop (mkF m 23 #[.val (.ref a)] [(.int (1 : Int32))]))
    exact own_retX X17 hx hlk hret rfl (Or.inl ⟨rfl, by simp, _, rfl⟩) (hb hby own_d_prog_4_4_23) (by decide) (by decide) (show QrmU Z w0 w1 w2 wm km a u x h0 n0 (some (.int (1 : Int32))) T17.heap _ from (by rw [e17]; exact ⟨(by simp [own_any2, *]), N0, rfl⟩))
  · refine own_st (fun u_ k_ => XS.ifNo X17.here hx rfl (hb hby own_d_prog_4_4_6) rfl (XT.i0_gt_f hc18) k_) ?_
    show own_Go p e below _ (T17.setTop (mkF m 9 #[.val (.ref a)] []))
    refine own_st (fun u_ k_ => XS.aloadN X17.here hx rfl (hb hby own_d_prog_4_4_9) rfl rfl k_) ?_
    show own_Go p e below _ (T17.setTop (mkF m 10 #[.val (.ref a)] [(.ref a)]))
    obtain ⟨T19, X19, e19, st19⟩ := getF X17 hx hZ hown (host := "") (Or.inl (hw _ (List.mem_of_getElem? (i := 30) rfl))) Via.refl e17 F2 (g := (mkF m 10 #[.val (.ref a)] [(.ref a)])) rfl rfl (hb hby own_d_prog_4_4_10)
    refine own_st (fun u_ k_ => st19 u_ k_) ?_
    show own_Go p e below _ (T19.setTop (mkF m 13 #[.val (.ref a)] [(.long x)]))
    refine own_st (fun u_ k_ => XS.lconst X19.here hx rfl (hb hby own_d_prog_4_4_13) k_) ?_
    show own_Go p e below _ (T19.setTop (mkF m 14 #[.val (.ref a)] [(.long (0 : Int64)), (.long x)]))
    refine own_st (fun u_ k_ => XS.lcmp X19.here hx rfl (hb hby own_d_prog_4_4_14) rfl k_) ?_
    show own_Go p e below _ (T19.setTop (mkF m 15 #[.val (.ref a)] [(.int (lcmpW x (0 : Int64)))]))
    by_cases hc20 : (0 : Int32) < (lcmpW x (0 : Int64))
    · refine own_st (fun u_ k_ => XS.ifNo X19.here hx rfl (hb hby own_d_prog_4_4_15) rfl (XT.i0_le_f hc20) k_) ?_
      show own_Go p e below _ (T19.setTop (mkF m 18 #[.val (.ref a)] []))
      refine own_st (fun u_ k_ => XS.iconst X19.here hx rfl (hb hby own_d_prog_4_4_18) k_) ?_
      show own_Go p e below _ (T19.setTop (mkF m 19 #[.val (.ref a)] [(.int (1 : Int32))]))
      refine own_st (fun u_ k_ => XS.goto X19.here hx rfl (pc0 := 19) (pc' := 23) rfl (hb hby own_d_prog_4_4_19) (by decide) (by decide) k_) ?_
      show own_Go p e below _ (T19.setTop (mkF m 23 #[.val (.ref a)] [(.int (1 : Int32))]))
      exact own_retX X19 hx hlk hret rfl (Or.inl ⟨rfl, by simp, _, rfl⟩) (hb hby own_d_prog_4_4_23) (by decide) (by decide) (show QrmU Z w0 w1 w2 wm km a u x h0 n0 (some (.int (1 : Int32))) T19.heap _ from (by rw [e19]; exact ⟨(by simp [own_any2, *]), N0, rfl⟩))
    · refine own_st (fun u_ k_ => XS.ifYes X19.here hx rfl (pc0 := 15) (pc' := 22) rfl (hb hby own_d_prog_4_4_15) rfl (XT.i0_le_t hc20) (by decide) (by decide) k_) ?_
      show own_Go p e below _ (T19.setTop (mkF m 22 #[.val (.ref a)] []))
      refine own_st (fun u_ k_ => XS.iconst X19.here hx rfl (hb hby own_d_prog_4_4_22) k_) ?_
      show own_Go p e below _ (T19.setTop (mkF m 23 #[.val (.ref a)] [(.int (0 : Int32))]))
      exact own_retX X19 hx hlk hret rfl (Or.inl ⟨rfl, by simp, _, rfl⟩) (hb hby own_d_prog_4_4_23) (by decide) (by decide) (show QrmU Z w0 w1 w2 wm km a u x h0 n0 (some (.int (0 : Int32))) T19.heap _ from (by rw [e19]; exact ⟨(by simp [own_any2, *]), N0, rfl⟩))
theorem own_d_prog_2_1_0 : decode prog_2_method_1_code 0 = .ok (.aload_n 0, 1) := by decide +kernel
theorem own_d_prog_2_1_1 : decode prog_2_method_1_code 1 = .ok (.invokespecial 1, 3) := by decide +kernel
theorem own_d_prog_2_1_4 : decode prog_2_method_1_code 4 = .ok (.aload_n 0, 1) := by decide +kernel
theorem own_d_prog_2_1_5 : decode prog_2_method_1_code 5 = .ok (.aload_n 1, 1) := by decide +kernel
theorem own_d_prog_2_1_6 : decode prog_2_method_1_code 6 = .ok (.putfield 7, 3) := by decide +kernel
theorem own_lm_43 : parseFieldDescriptor "Lcom/example/gridwright/gridwright/AnnealOutcome;" = some (.object "com/example/gridwright/gridwright/AnnealOutcome") := by decide +kernel
theorem own_d_prog_2_1_9 : decode prog_2_method_1_code 9 = .ok (.aload_n 0, 1) := by decide +kernel
theorem own_d_prog_2_1_10 : decode prog_2_method_1_code 10 = .ok (.aload_n 2, 1) := by decide +kernel
theorem own_d_prog_2_1_11 : decode prog_2_method_1_code 11 = .ok (.putfield 13, 3) := by decide +kernel
theorem own_lm_47 : ("solution" : String) ≠ "outcome" := by decide +kernel
theorem own_lm_48 : parseFieldDescriptor "Lcom/example/gridwright/gridwright/Grid;" = some (.object "com/example/gridwright/gridwright/Grid") := by decide +kernel
theorem own_d_prog_2_1_14 : decode prog_2_method_1_code 14 = .ok (.aload_n 0, 1) := by decide +kernel
theorem own_d_prog_2_1_15 : decode prog_2_method_1_code 15 = .ok (.lload_n 3, 1) := by decide +kernel
theorem own_d_prog_2_1_16 : decode prog_2_method_1_code 16 = .ok (.putfield 17, 3) := by decide +kernel
theorem own_lm_52 : ("moves" : String) ≠ "outcome" := by decide +kernel
theorem own_lm_53 : parseFieldDescriptor "J" = some .long := by decide +kernel
theorem own_lm_54 : ("moves" : String) ≠ "solution" := by decide +kernel
theorem own_d_prog_2_1_19 : decode prog_2_method_1_code 19 = .ok (.return_, 1) := by decide +kernel
theorem own_lm_56 : ("outcome" : String) ≠ "solution" := by decide +kernel
theorem own_lm_57 : ("outcome" : String) ≠ "moves" := by decide +kernel
theorem own_pn_58 : plainName "com/example/gridwright/gridwright/AnnealResult" = true := by first | (simp [plainName, overriddenIn]; done) | decide +kernel
theorem own_ef_rmR (m : MethodId) (a : Addr) (o : Addr) (g : Value) (mv : Int64) (hg : g.isRef = true) : entryFrame m #[(.ref a), (.ref o), g, (.long mv)] 5 = mkF m 0 #[.val (.ref a), .val (.ref o), .val g, .val (.long mv), .second] [] := by rcases ref_cases hg with rfl | ⟨_, rfl⟩ <;> first | (simp [entryFrame, mkF, argsToLocals, Value.category, maxLocals]; done) | rfl
def QrmR (Z : State) (w0 : Addr) (w1 : Addr) (w2 : Addr) (wm : Addr) (km : ClassId) (a : Addr) (o : Addr) (g : Value) (mv : Int64) (h0 : Heap) (n0 : Nat) (v : Option Value) (h : Heap) (L : List Loc) : Prop := v = none ∧ Fr n0 L ∧ Keep h0 h [a] ∧ Exa Z h a "com/example/gridwright/gridwright/AnnealResult" ∧ Fld Z h a "com/example/gridwright/gridwright/AnnealResult" "outcome" "Lcom/example/gridwright/gridwright/AnnealOutcome;" (.ref o) ∧ Fld Z h a "com/example/gridwright/gridwright/AnnealResult" "moves" "J" (.long mv)
set_option maxRecDepth 65536 in
set_option maxHeartbeats 40000000 in
theorem rmR (l : Launch) (Z : State) (a0 : Array Value) (hw : ∀ d ∈ tables_1, d.before a0 Z = true) (ws : List Jvm.Cond) (w0 : Addr) (w1 : Addr) (w2 : Addr) (wm : Addr) (km : ClassId) (hS : own_S Z w0 w1 w2 wm km) (a : Addr) (o : Addr) (g : Value) (mv : Int64) (h0 : Heap) (n0 : Nat) (O0 : Old Z n0 h0) (E : Exa Z h0 a "com/example/gridwright/gridwright/AnnealResult") (ga : n0 ≤ a) (hg : g.isRef = true) (F1 : Fld Z h0 a "com/example/gridwright/gridwright/AnnealResult" "outcome" "Lcom/example/gridwright/gridwright/AnnealOutcome;" .null) (F2 : Fld Z h0 a "com/example/gridwright/gridwright/AnnealResult" "solution" "Lcom/example/gridwright/gridwright/Grid;" .null) (F3 : Fld Z h0 a "com/example/gridwright/gridwright/AnnealResult" "moves" "J" (.long (0 : Int64))) :
    own_Met l (⟨"com/example/gridwright/gridwright/AnnealResult", "<init>", "(Lcom/example/gridwright/gridwright/AnnealOutcome;Lcom/example/gridwright/gridwright/Grid;J)V"⟩ : MethodName) prog_2_method_1_code 5 none ws ({ frames := 1, cells := 0, slots := 0, locals := 12 } : Room) Z h0 #[(.ref a), (.ref o), g, (.long mv)] (QrmR Z w0 w1 w2 wm km a o g mv h0 n0) := by
  refine own_body (plainFor_of_name own_pn_58) ?_
  intro p e s m below meth c s₁ hx hby hml hown hnm hret hlk hZ e0 X0
  have N0 := Fr.nil n0
  refine own_st (fun u_ k_ => castTop (own_ef_rmR m a o g mv hg) k_) ?_
  show own_Go p e below _ (s₁.setTop (mkF m 0 #[.val (.ref a), .val (.ref o), .val g, .val (.long mv), .second] []))
  refine own_st (fun u_ k_ => XS.aloadN X0.here hx rfl (hb hby own_d_prog_2_1_0) rfl rfl k_) ?_
  show own_Go p e below _ (s₁.setTop (mkF m 1 #[.val (.ref a), .val (.ref o), .val g, .val (.long mv), .second] [(.ref a)]))
  obtain ⟨T21, X21, e21, st21⟩ := initO X0 hx hZ hown (hw _ (List.mem_of_getElem? (i := 49) rfl)) (hw _ (List.mem_of_getElem? (i := 7) rfl)) (hw _ (List.mem_of_getElem? (i := 8) rfl)) e0 (g := (mkF m 1 #[.val (.ref a), .val (.ref o), .val g, .val (.long mv), .second] [(.ref a)])) rfl (by rw [hml]; rfl) rfl (hb hby own_d_prog_2_1_1) (by decide) (W := 0) (by show 2 * 0 + _ ≤ _; exact Nat.le_of_eq rfl) (by decide)
  refine own_st (fun u_ k_ => st21 u_ k_) ?_
  show own_Go p e below _ (T21.setTop (mkF m 4 #[.val (.ref a), .val (.ref o), .val g, .val (.long mv), .second] []))
  refine own_st (fun u_ k_ => XS.aloadN X21.here hx rfl (hb hby own_d_prog_2_1_4) rfl rfl k_) ?_
  show own_Go p e below _ (T21.setTop (mkF m 5 #[.val (.ref a), .val (.ref o), .val g, .val (.long mv), .second] [(.ref a)]))
  refine own_st (fun u_ k_ => XS.aloadN X21.here hx rfl (hb hby own_d_prog_2_1_5) rfl rfl k_) ?_
  show own_Go p e below _ (T21.setTop (mkF m 6 #[.val (.ref a), .val (.ref o), .val g, .val (.long mv), .second] [(.ref o), (.ref a)]))
  obtain ⟨T22, h22, X22, e22, W22, st22⟩ := putF X21 hx hZ hown (host := "") (Or.inl (hw _ (List.mem_of_getElem? (i := 50) rfl))) Via.refl e21 F1 E (Or.inr ⟨(hw _ (List.mem_of_getElem? (i := 51) rfl)), rfl, hnm⟩) (hw _ (List.mem_of_getElem? (i := 42) rfl)) (ty := (.object "com/example/gridwright/gridwright/AnnealOutcome")) own_lm_43 rfl rfl (g := (mkF m 6 #[.val (.ref a), .val (.ref o), .val g, .val (.long mv), .second] [(.ref o), (.ref a)])) rfl rfl (hb hby own_d_prog_2_1_6)
  have N22 := Fr.snoc X22 N0 ga
  have F23 : Fld Z h22 a "com/example/gridwright/gridwright/AnnealResult" "outcome" "Lcom/example/gridwright/gridwright/AnnealOutcome;" (.ref o) := Fld.same W22 F1
  refine own_st (fun u_ k_ => st22 u_ k_) ?_
  show own_Go p e below _ (T22.setTop (mkF m 9 #[.val (.ref a), .val (.ref o), .val g, .val (.long mv), .second] []))
  refine own_st (fun u_ k_ => XS.aloadN X22.here hx rfl (hb hby own_d_prog_2_1_9) rfl rfl k_) ?_
  show own_Go p e below _ (T22.setTop (mkF m 10 #[.val (.ref a), .val (.ref o), .val g, .val (.long mv), .second] [(.ref a)]))
  refine own_st (fun u_ k_ => XS.aloadN X22.here hx rfl (hb hby own_d_prog_2_1_10) rfl hg k_) ?_
  show own_Go p e below _ (T22.setTop (mkF m 11 #[.val (.ref a), .val (.ref o), .val g, .val (.long mv), .second] [g, (.ref a)]))
  have F24 : Exa Z h22 a "com/example/gridwright/gridwright/AnnealResult" := (Exa.wr W22 E)
  have F25 : Fld Z h22 a "com/example/gridwright/gridwright/AnnealResult" "solution" "Lcom/example/gridwright/gridwright/Grid;" .null := (Fld.other W22 F2 (Or.inr (slot_ne (Or.inr (hw _ (List.mem_of_getElem? (i := 53) rfl))) (Or.inr (hw _ (List.mem_of_getElem? (i := 51) rfl))) own_lm_47 (t := (.object "com/example/gridwright/gridwright/Grid")) (t' := (.object "com/example/gridwright/gridwright/AnnealOutcome")) own_lm_48 own_lm_43)))
  obtain ⟨T26, h26, X26, e26, W26, st26⟩ := putF X22 hx hZ hown (host := "") (Or.inl (hw _ (List.mem_of_getElem? (i := 52) rfl))) Via.refl e22 F25 F24 (Or.inr ⟨(hw _ (List.mem_of_getElem? (i := 53) rfl)), rfl, hnm⟩) (hw _ (List.mem_of_getElem? (i := 42) rfl)) (ty := (.object "com/example/gridwright/gridwright/Grid")) own_lm_48 (own_narG hg) (own_fitG hg) (g := (mkF m 11 #[.val (.ref a), .val (.ref o), .val g, .val (.long mv), .second] [g, (.ref a)])) rfl rfl (hb hby own_d_prog_2_1_11)
  have N26 := Fr.snoc X26 N22 ga
  have F27 : Fld Z h26 a "com/example/gridwright/gridwright/AnnealResult" "solution" "Lcom/example/gridwright/gridwright/Grid;" g := Fld.same W26 F25
  refine own_st (fun u_ k_ => st26 u_ k_) ?_
  show own_Go p e below _ (T26.setTop (mkF m 14 #[.val (.ref a), .val (.ref o), .val g, .val (.long mv), .second] []))
  refine own_st (fun u_ k_ => XS.aloadN X26.here hx rfl (hb hby own_d_prog_2_1_14) rfl rfl k_) ?_
  show own_Go p e below _ (T26.setTop (mkF m 15 #[.val (.ref a), .val (.ref o), .val g, .val (.long mv), .second] [(.ref a)]))
  refine own_st (fun u_ k_ => XS.lloadN X26.here hx rfl (hb hby own_d_prog_2_1_15) rfl k_) ?_
  show own_Go p e below _ (T26.setTop (mkF m 16 #[.val (.ref a), .val (.ref o), .val g, .val (.long mv), .second] [(.long mv), (.ref a)]))
  have F28 : Exa Z h26 a "com/example/gridwright/gridwright/AnnealResult" := (Exa.wr W26 F24)
  have F29 : Fld Z h26 a "com/example/gridwright/gridwright/AnnealResult" "moves" "J" (.long (0 : Int64)) := (Fld.other W26 (Fld.other W22 F3 (Or.inr (slot_ne (Or.inr (hw _ (List.mem_of_getElem? (i := 55) rfl))) (Or.inr (hw _ (List.mem_of_getElem? (i := 51) rfl))) own_lm_52 (t := .long) (t' := (.object "com/example/gridwright/gridwright/AnnealOutcome")) own_lm_53 own_lm_43))) (Or.inr (slot_ne (Or.inr (hw _ (List.mem_of_getElem? (i := 55) rfl))) (Or.inr (hw _ (List.mem_of_getElem? (i := 53) rfl))) own_lm_54 (t := .long) (t' := (.object "com/example/gridwright/gridwright/Grid")) own_lm_53 own_lm_48)))
  obtain ⟨T30, h30, X30, e30, W30, st30⟩ := putF X26 hx hZ hown (host := "") (Or.inl (hw _ (List.mem_of_getElem? (i := 54) rfl))) Via.refl e26 F29 F28 (Or.inr ⟨(hw _ (List.mem_of_getElem? (i := 55) rfl)), rfl, hnm⟩) (hw _ (List.mem_of_getElem? (i := 42) rfl)) (ty := .long) own_lm_53 rfl rfl (g := (mkF m 16 #[.val (.ref a), .val (.ref o), .val g, .val (.long mv), .second] [(.long mv), (.ref a)])) rfl rfl (hb hby own_d_prog_2_1_16)
  have N30 := Fr.snoc X30 N26 ga
  have F31 : Fld Z h30 a "com/example/gridwright/gridwright/AnnealResult" "moves" "J" (.long mv) := Fld.same W30 F29
  refine own_st (fun u_ k_ => st30 u_ k_) ?_
  show own_Go p e below _ (T30.setTop (mkF m 19 #[.val (.ref a), .val (.ref o), .val g, .val (.long mv), .second] []))
  have K32 : Keep h0 h22 [a] := (Keep.refl h0 [a]).wr W22 (Or.inl (List.mem_of_getElem? (i := 0) rfl))
  have K33 : Keep h0 h26 [a] := K32.wr W26 (Or.inl (List.mem_of_getElem? (i := 0) rfl))
  have K34 : Keep h0 h30 [a] := K33.wr W30 (Or.inl (List.mem_of_getElem? (i := 0) rfl))
  have F35 : Exa Z h30 a "com/example/gridwright/gridwright/AnnealResult" := (Exa.wr W30 F28)
  have F36 : Fld Z h30 a "com/example/gridwright/gridwright/AnnealResult" "outcome" "Lcom/example/gridwright/gridwright/AnnealOutcome;" (.ref o) := (Fld.other W30 (Fld.other W26 F23 (Or.inr (slot_ne (Or.inr (hw _ (List.mem_of_getElem? (i := 51) rfl))) (Or.inr (hw _ (List.mem_of_getElem? (i := 53) rfl))) own_lm_56 (t := (.object "com/example/gridwright/gridwright/AnnealOutcome")) (t' := (.object "com/example/gridwright/gridwright/Grid")) own_lm_43 own_lm_48))) (Or.inr (slot_ne (Or.inr (hw _ (List.mem_of_getElem? (i := 51) rfl))) (Or.inr (hw _ (List.mem_of_getElem? (i := 55) rfl))) own_lm_57 (t := (.object "com/example/gridwright/gridwright/AnnealOutcome")) (t' := .long) own_lm_43 own_lm_53)))
  exact own_retV X30 hx hlk hret (hb hby own_d_prog_2_1_19) (by decide) (by decide) (show QrmR Z w0 w1 w2 wm km a o g mv h0 n0 none T30.heap _ from (by rw [e30]; exact ⟨rfl, N30, K34, F35, F36, F31⟩))
theorem own_d_jdk_31_11_0 : decode jdk_31_method_11_code 0 = .ok (.aload_n 0, 1) := by decide +kernel
theorem own_d_jdk_31_11_1 : decode jdk_31_method_11_code 1 = .ok (.ifnonnull 12, 3) := by decide +kernel
theorem own_d_jdk_31_11_13 : decode jdk_31_method_11_code 13 = .ok (.aload_n 0, 1) := by decide +kernel
theorem own_d_jdk_31_11_14 : decode jdk_31_method_11_code 14 = .ok (.areturn, 1) := by decide +kernel
theorem own_pn_63 : plainName "java/util/Objects" = true := by first | (simp [plainName, overriddenIn]; done) | decide +kernel
theorem own_ef_rmN (m : MethodId) (a : Addr) (b : Addr)  : entryFrame m #[(.ref a), (.ref b)] 2 = mkF m 0 #[.val (.ref a), .val (.ref b)] [] := by first | (simp [entryFrame, mkF, argsToLocals, Value.category, maxLocals]; done) | rfl
def QrmN (Z : State) (w0 : Addr) (w1 : Addr) (w2 : Addr) (wm : Addr) (km : ClassId) (a : Addr) (b : Addr) (h0 : Heap) (n0 : Nat) (v : Option Value) (h : Heap) (L : List Loc) : Prop := v = some (.ref a) ∧ Fr n0 L ∧ h = h0
set_option maxRecDepth 65536 in
set_option maxHeartbeats 40000000 in
theorem rmN (l : Launch) (Z : State) (a0 : Array Value) (hw : ∀ d ∈ tables_1, d.before a0 Z = true) (ws : List Jvm.Cond) (w0 : Addr) (w1 : Addr) (w2 : Addr) (wm : Addr) (km : ClassId) (hS : own_S Z w0 w1 w2 wm km) (a : Addr) (b : Addr) (h0 : Heap) (n0 : Nat) (O0 : Old Z n0 h0)  :
    own_Met l (⟨"java/util/Objects", "requireNonNull", "(Ljava/lang/Object;Ljava/lang/String;)Ljava/lang/Object;"⟩ : MethodName) jdk_31_method_11_code 2 (some (.object "java/lang/Object")) ws ({ frames := 0, cells := 0, slots := 0, locals := 0 } : Room) Z h0 #[(.ref a), (.ref b)] (QrmN Z w0 w1 w2 wm km a b h0 n0) := by
  refine own_body (plainFor_of_name own_pn_63) ?_
  intro p e s m below meth c s₁ hx hby hml hown hnm hret hlk hZ e0 X0
  have N0 := Fr.nil n0
  refine own_st (fun u_ k_ => castTop (own_ef_rmN m a b) k_) ?_
  show own_Go p e below _ (s₁.setTop (mkF m 0 #[.val (.ref a), .val (.ref b)] []))
  refine own_st (fun u_ k_ => XS.aloadN X0.here hx rfl (hb hby own_d_jdk_31_11_0) rfl rfl k_) ?_
  show own_Go p e below _ (s₁.setTop (mkF m 1 #[.val (.ref a), .val (.ref b)] [(.ref a)]))
  refine own_st (fun u_ k_ => XS.ifnonnullYes X0.here hx rfl (pc0 := 1) (pc' := 13) rfl (hb hby own_d_jdk_31_11_1) rfl (by decide) (by decide) k_) ?_
  show own_Go p e below _ (s₁.setTop (mkF m 13 #[.val (.ref a), .val (.ref b)] []))
  refine own_st (fun u_ k_ => XS.aloadN X0.here hx rfl (hb hby own_d_jdk_31_11_13) rfl rfl k_) ?_
  show own_Go p e below _ (s₁.setTop (mkF m 14 #[.val (.ref a), .val (.ref b)] [(.ref a)]))
  exact own_retX X0 hx hlk hret rfl (Or.inr (Or.inr (Or.inr (Or.inr ⟨rfl, rfl, rfl⟩)))) (hb hby own_d_jdk_31_11_14) (by decide) (by decide) (show QrmN Z w0 w1 w2 wm km a b h0 n0 (some (.ref a)) s₁.heap _ from (by rw [e0]; exact ⟨rfl, N0, rfl⟩))
theorem own_d_prog_2_4_0 : decode prog_2_method_4_code 0 = .ok (.new 8, 3) := by decide +kernel
theorem own_d_prog_2_4_3 : decode prog_2_method_4_code 3 = .ok (.dup, 1) := by decide +kernel
theorem own_d_prog_2_4_4 : decode prog_2_method_4_code 4 = .ok (.getstatic 41, 3) := by decide +kernel
theorem own_d_prog_2_4_7 : decode prog_2_method_4_code 7 = .ok (.aconst_null, 1) := by decide +kernel
theorem own_d_prog_2_4_8 : decode prog_2_method_4_code 8 = .ok (.lconst 0, 1) := by decide +kernel
theorem own_d_prog_2_4_9 : decode prog_2_method_4_code 9 = .ok (.invokespecial 35, 3) := by decide +kernel
theorem own_lm_70 : ("com/example/gridwright/gridwright/AnnealResult" : String) ≠ "java/lang/invoke/MethodHandle" ∧ ("com/example/gridwright/gridwright/AnnealResult" : String) ≠ "java/lang/invoke/VarHandle" := by decide +kernel
theorem own_pd_71 : parseMethodDescriptor "(Lcom/example/gridwright/gridwright/AnnealOutcome;Lcom/example/gridwright/gridwright/Grid;J)V" = some ⟨[(.object "com/example/gridwright/gridwright/AnnealOutcome"), (.object "com/example/gridwright/gridwright/Grid"), .long], none⟩ := by decide +kernel
theorem own_d_prog_2_4_12 : decode prog_2_method_4_code 12 = .ok (.areturn, 1) := by decide +kernel
theorem own_ef_rm1 (m : MethodId)   : entryFrame m #[] 0 = mkF m 0 #[] [] := by first | (simp [entryFrame, mkF, argsToLocals, Value.category, maxLocals]; done) | rfl
def Qrm1 (Z : State) (w0 : Addr) (w1 : Addr) (w2 : Addr) (wm : Addr) (km : ClassId)  (h0 : Heap) (n0 : Nat) (v : Option Value) (h : Heap) (L : List Loc) : Prop := ∃ r : Addr, v = some (.ref r) ∧ Fr n0 L ∧ Keep h0 h [] ∧ h0.size ≤ r ∧ Exa Z h r "com/example/gridwright/gridwright/AnnealResult" ∧ Fld Z h r "com/example/gridwright/gridwright/AnnealResult" "outcome" "Lcom/example/gridwright/gridwright/AnnealOutcome;" (.ref w0) ∧ Fld Z h r "com/example/gridwright/gridwright/AnnealResult" "moves" "J" (.long (0 : Int64))
set_option maxRecDepth 65536 in
set_option maxHeartbeats 40000000 in
theorem rm1 (l : Launch) (Z : State) (a0 : Array Value) (hw : ∀ d ∈ tables_1, d.before a0 Z = true) (ws : List Jvm.Cond) (w0 : Addr) (w1 : Addr) (w2 : Addr) (wm : Addr) (km : ClassId) (hS : own_S Z w0 w1 w2 wm km)  (h0 : Heap) (n0 : Nat) (O0 : Old Z n0 h0)  :
    own_Met l (⟨"com/example/gridwright/gridwright/AnnealResult", "unsolvable", "()Lcom/example/gridwright/gridwright/AnnealResult;"⟩ : MethodName) prog_2_method_4_code 0 (some (.object "com/example/gridwright/gridwright/AnnealResult")) ws ({ frames := 2, cells := 1, slots := 3, locals := 29 } : Room) Z h0 #[] (Qrm1 Z w0 w1 w2 wm km  h0 n0) := by
  refine own_body (plainFor_of_name own_pn_58) ?_
  intro p e s m below meth c s₁ hx hby hml hown hnm hret hlk hZ e0 X0
  have N0 := Fr.nil n0
  refine own_st (fun u_ k_ => castTop (own_ef_rm1 m ) k_) ?_
  show own_Go p e below _ (s₁.setTop (mkF m 0 #[] []))
  obtain ⟨T37, h37, X37, e37, E37, A37, D37, U37, st37⟩ := newO X0 hx hZ hown (hw _ (List.mem_of_getElem? (i := 41) rfl)) (hw _ (List.mem_of_getElem? (i := 42) rfl)) (hw _ (List.mem_of_getElem? (i := 39) rfl)) e0 (g := (mkF m 0 #[] [])) rfl (hb hby own_d_prog_2_4_0) (by decide) (by decide)
  obtain ⟨b37, g37⟩ : ∃ z, z = h0.size := ⟨_, rfl⟩
  rw [← g37] at A37 D37 U37 st37
  have F37_outcome : Fld Z h37 b37 "com/example/gridwright/gridwright/AnnealResult" "outcome" "Lcom/example/gridwright/gridwright/AnnealOutcome;" .null := D37 (Or.inr (hw _ (List.mem_of_getElem? (i := 51) rfl))) (ty := (.object "com/example/gridwright/gridwright/AnnealOutcome")) own_lm_43
  have F37_solution : Fld Z h37 b37 "com/example/gridwright/gridwright/AnnealResult" "solution" "Lcom/example/gridwright/gridwright/Grid;" .null := D37 (Or.inr (hw _ (List.mem_of_getElem? (i := 53) rfl))) (ty := (.object "com/example/gridwright/gridwright/Grid")) own_lm_48
  have F37_moves : Fld Z h37 b37 "com/example/gridwright/gridwright/AnnealResult" "moves" "J" (.long (0 : Int64)) := D37 (Or.inr (hw _ (List.mem_of_getElem? (i := 55) rfl))) (ty := .long) own_lm_53
  refine own_st (fun u_ k_ => st37 u_ k_) ?_
  show own_Go p e below _ (T37.setTop (mkF m 3 #[] [(.ref b37)]))
  refine own_st (fun u_ k_ => XS.dup X37.here hx rfl (hb hby own_d_prog_2_4_3) rfl rfl k_) ?_
  show own_Go p e below _ (T37.setTop (mkF m 4 #[] [(.ref b37), (.ref b37)]))
  have O38 : Old Z n0 h37 := O0.ext E37
  have F39 : Sta Z h37 "com/example/gridwright/gridwright/AnnealOutcome" "UNSOLVABLE" "Lcom/example/gridwright/gridwright/AnnealOutcome;" (.ref w0) := Sta.ext O38.2 hS.1
  obtain ⟨T40, X40, e40, st40⟩ := getS2 X37 hx hZ hown (host := "") (Or.inl (hw _ (List.mem_of_getElem? (i := 43) rfl))) Via.refl e37 F39 (g := (mkF m 4 #[] [(.ref b37), (.ref b37)])) rfl (hb hby own_d_prog_2_4_4)
  refine own_st (fun u_ k_ => st40 u_ k_) ?_
  show own_Go p e below _ (T40.setTop (mkF m 7 #[] [(.ref w0), (.ref b37), (.ref b37)]))
  refine own_st (fun u_ k_ => XS.aconstNull X40.here hx rfl (hb hby own_d_prog_2_4_7) k_) ?_
  show own_Go p e below _ (T40.setTop (mkF m 8 #[] [.null, (.ref w0), (.ref b37), (.ref b37)]))
  refine own_st (fun u_ k_ => XS.lconst X40.here hx rfl (hb hby own_d_prog_2_4_8) k_) ?_
  show own_Go p e below _ (T40.setTop (mkF m 9 #[] [(.long (0 : Int64)), .null, (.ref w0), (.ref b37), (.ref b37)]))
  have g41 : n0 ≤ b37 := Nat.le_trans (own_nl O0) (Nat.le_of_eq g37.symm)
  obtain ⟨T42, v42, L42, X42, hQ42, st42⟩ := own_callN X40 hx hZ (y := (⟨"com/example/gridwright/gridwright/AnnealResult", "<init>", "(Lcom/example/gridwright/gridwright/AnnealOutcome;Lcom/example/gridwright/gridwright/Grid;J)V"⟩ : MethodName)) rfl hown (hw _ (List.mem_of_getElem? (i := 46) rfl)) (hw _ (List.mem_of_getElem? (i := 47) rfl)) (hw _ (List.mem_of_getElem? (i := 39) rfl)) (hw _ (List.mem_of_getElem? (i := 48) rfl)) own_lm_70 (rmR l Z a0 hw [] w0 w1 w2 wm km hS b37 w0 (.null : Value) (0 : Int64) h37 n0 O38 A37 g41 rfl F37_outcome F37_solution F37_moves) e40 own_pd_71 (a := b37) (argsL := [(.ref w0), .null, (.long (0 : Int64))]) (rest := [(.ref b37)]) rfl rfl (g := (mkF m 9 #[] [(.long (0 : Int64)), .null, (.ref w0), (.ref b37), (.ref b37)])) rfl (by rw [hml]; rfl) rfl (hb hby own_d_prog_2_4_9) (W := 1) rfl (by decide) (by decide) (by decide) (by decide)
  obtain ⟨rfl, M42, K42, F43, F44, F45⟩ := hQ42
  have N42 := Fr.app N0 M42
  refine own_st (fun u_ k_ => st42 u_ k_) ?_
  show own_Go p e below _ (T42.setTop (mkF m 12 #[] [(.ref b37)]))
  have K46 : Keep h0 h37 [] := (Keep.refl h0 []).ext E37
  have z48 : h0.size ≤ b37 := Nat.le_trans (Nat.le_refl _) (Nat.le_of_eq g37.symm)
  have K47 : Keep h0 T42.heap [] := K46.trans K42 (allS (Or.inr z48) all0)
  exact own_retX X42 hx hlk hret rfl (Or.inr (Or.inr (Or.inr (Or.inr ⟨rfl, rfl, rfl⟩)))) (hb hby own_d_prog_2_4_12) (by decide) (by decide) (show Qrm1 Z w0 w1 w2 wm km  h0 n0 (some (.ref b37)) T42.heap _ from (by exact ⟨b37, rfl, N42, K47, z48, F43, F44, F45⟩))
theorem own_d_prog_2_3_0 : decode prog_2_method_3_code 0 = .ok (.new 8, 3) := by decide +kernel
theorem own_d_prog_2_3_3 : decode prog_2_method_3_code 3 = .ok (.dup, 1) := by decide +kernel
theorem own_d_prog_2_3_4 : decode prog_2_method_3_code 4 = .ok (.getstatic 38, 3) := by decide +kernel
theorem own_d_prog_2_3_7 : decode prog_2_method_3_code 7 = .ok (.aconst_null, 1) := by decide +kernel
theorem own_d_prog_2_3_8 : decode prog_2_method_3_code 8 = .ok (.lload_n 0, 1) := by decide +kernel
theorem own_d_prog_2_3_9 : decode prog_2_method_3_code 9 = .ok (.invokespecial 35, 3) := by decide +kernel
theorem own_d_prog_2_3_12 : decode prog_2_method_3_code 12 = .ok (.areturn, 1) := by decide +kernel
theorem own_ef_rm2 (m : MethodId) (mv : Int64)  : entryFrame m #[(.long mv)] 2 = mkF m 0 #[.val (.long mv), .second] [] := by first | (simp [entryFrame, mkF, argsToLocals, Value.category, maxLocals]; done) | rfl
def Qrm2 (Z : State) (w0 : Addr) (w1 : Addr) (w2 : Addr) (wm : Addr) (km : ClassId) (mv : Int64) (h0 : Heap) (n0 : Nat) (v : Option Value) (h : Heap) (L : List Loc) : Prop := ∃ r : Addr, v = some (.ref r) ∧ Fr n0 L ∧ Keep h0 h [] ∧ h0.size ≤ r ∧ Exa Z h r "com/example/gridwright/gridwright/AnnealResult" ∧ Fld Z h r "com/example/gridwright/gridwright/AnnealResult" "outcome" "Lcom/example/gridwright/gridwright/AnnealOutcome;" (.ref w1) ∧ Fld Z h r "com/example/gridwright/gridwright/AnnealResult" "moves" "J" (.long mv)
set_option maxRecDepth 65536 in
set_option maxHeartbeats 40000000 in
theorem rm2 (l : Launch) (Z : State) (a0 : Array Value) (hw : ∀ d ∈ tables_1, d.before a0 Z = true) (ws : List Jvm.Cond) (w0 : Addr) (w1 : Addr) (w2 : Addr) (wm : Addr) (km : ClassId) (hS : own_S Z w0 w1 w2 wm km) (mv : Int64) (h0 : Heap) (n0 : Nat) (O0 : Old Z n0 h0)  :
    own_Met l (⟨"com/example/gridwright/gridwright/AnnealResult", "unsolved", "(J)Lcom/example/gridwright/gridwright/AnnealResult;"⟩ : MethodName) prog_2_method_3_code 2 (some (.object "com/example/gridwright/gridwright/AnnealResult")) ws ({ frames := 2, cells := 1, slots := 3, locals := 29 } : Room) Z h0 #[(.long mv)] (Qrm2 Z w0 w1 w2 wm km mv h0 n0) := by
  refine own_body (plainFor_of_name own_pn_58) ?_
  intro p e s m below meth c s₁ hx hby hml hown hnm hret hlk hZ e0 X0
  have N0 := Fr.nil n0
  refine own_st (fun u_ k_ => castTop (own_ef_rm2 m mv) k_) ?_
  show own_Go p e below _ (s₁.setTop (mkF m 0 #[.val (.long mv), .second] []))
  obtain ⟨T49, h49, X49, e49, E49, A49, D49, U49, st49⟩ := newO X0 hx hZ hown (hw _ (List.mem_of_getElem? (i := 41) rfl)) (hw _ (List.mem_of_getElem? (i := 42) rfl)) (hw _ (List.mem_of_getElem? (i := 39) rfl)) e0 (g := (mkF m 0 #[.val (.long mv), .second] [])) rfl (hb hby own_d_prog_2_3_0) (by decide) (by decide)
  obtain ⟨b49, g49⟩ : ∃ z, z = h0.size := ⟨_, rfl⟩
  rw [← g49] at A49 D49 U49 st49
  have F49_outcome : Fld Z h49 b49 "com/example/gridwright/gridwright/AnnealResult" "outcome" "Lcom/example/gridwright/gridwright/AnnealOutcome;" .null := D49 (Or.inr (hw _ (List.mem_of_getElem? (i := 51) rfl))) (ty := (.object "com/example/gridwright/gridwright/AnnealOutcome")) own_lm_43
  have F49_solution : Fld Z h49 b49 "com/example/gridwright/gridwright/AnnealResult" "solution" "Lcom/example/gridwright/gridwright/Grid;" .null := D49 (Or.inr (hw _ (List.mem_of_getElem? (i := 53) rfl))) (ty := (.object "com/example/gridwright/gridwright/Grid")) own_lm_48
  have F49_moves : Fld Z h49 b49 "com/example/gridwright/gridwright/AnnealResult" "moves" "J" (.long (0 : Int64)) := D49 (Or.inr (hw _ (List.mem_of_getElem? (i := 55) rfl))) (ty := .long) own_lm_53
  refine own_st (fun u_ k_ => st49 u_ k_) ?_
  show own_Go p e below _ (T49.setTop (mkF m 3 #[.val (.long mv), .second] [(.ref b49)]))
  refine own_st (fun u_ k_ => XS.dup X49.here hx rfl (hb hby own_d_prog_2_3_3) rfl rfl k_) ?_
  show own_Go p e below _ (T49.setTop (mkF m 4 #[.val (.long mv), .second] [(.ref b49), (.ref b49)]))
  have O50 : Old Z n0 h49 := O0.ext E49
  have F51 : Sta Z h49 "com/example/gridwright/gridwright/AnnealOutcome" "UNSOLVED" "Lcom/example/gridwright/gridwright/AnnealOutcome;" (.ref w1) := Sta.ext O50.2 hS.2.2.2.1
  obtain ⟨T52, X52, e52, st52⟩ := getS2 X49 hx hZ hown (host := "") (Or.inl (hw _ (List.mem_of_getElem? (i := 81) rfl))) Via.refl e49 F51 (g := (mkF m 4 #[.val (.long mv), .second] [(.ref b49), (.ref b49)])) rfl (hb hby own_d_prog_2_3_4)
  refine own_st (fun u_ k_ => st52 u_ k_) ?_
  show own_Go p e below _ (T52.setTop (mkF m 7 #[.val (.long mv), .second] [(.ref w1), (.ref b49), (.ref b49)]))
  refine own_st (fun u_ k_ => XS.aconstNull X52.here hx rfl (hb hby own_d_prog_2_3_7) k_) ?_
  show own_Go p e below _ (T52.setTop (mkF m 8 #[.val (.long mv), .second] [.null, (.ref w1), (.ref b49), (.ref b49)]))
  refine own_st (fun u_ k_ => XS.lloadN X52.here hx rfl (hb hby own_d_prog_2_3_8) rfl k_) ?_
  show own_Go p e below _ (T52.setTop (mkF m 9 #[.val (.long mv), .second] [(.long mv), .null, (.ref w1), (.ref b49), (.ref b49)]))
  have g53 : n0 ≤ b49 := Nat.le_trans (own_nl O0) (Nat.le_of_eq g49.symm)
  obtain ⟨T54, v54, L54, X54, hQ54, st54⟩ := own_callN X52 hx hZ (y := (⟨"com/example/gridwright/gridwright/AnnealResult", "<init>", "(Lcom/example/gridwright/gridwright/AnnealOutcome;Lcom/example/gridwright/gridwright/Grid;J)V"⟩ : MethodName)) rfl hown (hw _ (List.mem_of_getElem? (i := 46) rfl)) (hw _ (List.mem_of_getElem? (i := 47) rfl)) (hw _ (List.mem_of_getElem? (i := 39) rfl)) (hw _ (List.mem_of_getElem? (i := 48) rfl)) own_lm_70 (rmR l Z a0 hw [] w0 w1 w2 wm km hS b49 w1 (.null : Value) mv h49 n0 O50 A49 g53 rfl F49_outcome F49_solution F49_moves) e52 own_pd_71 (a := b49) (argsL := [(.ref w1), .null, (.long mv)]) (rest := [(.ref b49)]) rfl rfl (g := (mkF m 9 #[.val (.long mv), .second] [(.long mv), .null, (.ref w1), (.ref b49), (.ref b49)])) rfl (by rw [hml]; rfl) rfl (hb hby own_d_prog_2_3_9) (W := 1) rfl (by decide) (by decide) (by decide) (by decide)
  obtain ⟨rfl, M54, K54, F55, F56, F57⟩ := hQ54
  have N54 := Fr.app N0 M54
  refine own_st (fun u_ k_ => st54 u_ k_) ?_
  show own_Go p e below _ (T54.setTop (mkF m 12 #[.val (.long mv), .second] [(.ref b49)]))
  have K58 : Keep h0 h49 [] := (Keep.refl h0 []).ext E49
  have z60 : h0.size ≤ b49 := Nat.le_trans (Nat.le_refl _) (Nat.le_of_eq g49.symm)
  have K59 : Keep h0 T54.heap [] := K58.trans K54 (allS (Or.inr z60) all0)
  exact own_retX X54 hx hlk hret rfl (Or.inr (Or.inr (Or.inr (Or.inr ⟨rfl, rfl, rfl⟩)))) (hb hby own_d_prog_2_3_12) (by decide) (by decide) (show Qrm2 Z w0 w1 w2 wm km mv h0 n0 (some (.ref b49)) T54.heap _ from (by exact ⟨b49, rfl, N54, K59, z60, F55, F56, F57⟩))
theorem own_d_prog_2_2_0 : decode prog_2_method_2_code 0 = .ok (.new 8, 3) := by decide +kernel
theorem own_d_prog_2_2_3 : decode prog_2_method_2_code 3 = .ok (.dup, 1) := by decide +kernel
theorem own_d_prog_2_2_4 : decode prog_2_method_2_code 4 = .ok (.getstatic 21, 3) := by decide +kernel
theorem own_d_prog_2_2_7 : decode prog_2_method_2_code 7 = .ok (.aload_n 0, 1) := by decide +kernel
theorem own_d_prog_2_2_8 : decode prog_2_method_2_code 8 = .ok (.ldc 26, 2) := by decide +kernel
theorem own_d_prog_2_2_10 : decode prog_2_method_2_code 10 = .ok (.invokestatic 27, 3) := by decide +kernel
theorem own_lm_86 : ("java/util/Objects" : String) ≠ "java/lang/invoke/MethodHandle" ∧ ("java/util/Objects" : String) ≠ "java/lang/invoke/VarHandle" := by decide +kernel
theorem own_pd_87 : parseMethodDescriptor "(Ljava/lang/Object;Ljava/lang/String;)Ljava/lang/Object;" = some ⟨[(.object "java/lang/Object"), (.object "java/lang/String")], some (.object "java/lang/Object")⟩ := by decide +kernel
theorem own_d_prog_2_2_13 : decode prog_2_method_2_code 13 = .ok (.checkcast 33, 3) := by decide +kernel
theorem own_d_prog_2_2_16 : decode prog_2_method_2_code 16 = .ok (.lload_n 1, 1) := by decide +kernel
theorem own_d_prog_2_2_17 : decode prog_2_method_2_code 17 = .ok (.invokespecial 35, 3) := by decide +kernel
theorem own_d_prog_2_2_20 : decode prog_2_method_2_code 20 = .ok (.areturn, 1) := by decide +kernel
theorem own_ef_rm3 (m : MethodId) (g : Addr) (mv : Int64)  : entryFrame m #[(.ref g), (.long mv)] 3 = mkF m 0 #[.val (.ref g), .val (.long mv), .second] [] := by first | (simp [entryFrame, mkF, argsToLocals, Value.category, maxLocals]; done) | rfl
def Qrm3 (Z : State) (w0 : Addr) (w1 : Addr) (w2 : Addr) (wm : Addr) (km : ClassId) (g : Addr) (mv : Int64) (h0 : Heap) (n0 : Nat) (v : Option Value) (h : Heap) (L : List Loc) : Prop := ∃ r : Addr, v = some (.ref r) ∧ Fr n0 L ∧ Keep h0 h [] ∧ h0.size ≤ r ∧ Exa Z h r "com/example/gridwright/gridwright/AnnealResult" ∧ Fld Z h r "com/example/gridwright/gridwright/AnnealResult" "outcome" "Lcom/example/gridwright/gridwright/AnnealOutcome;" (.ref w2) ∧ Fld Z h r "com/example/gridwright/gridwright/AnnealResult" "moves" "J" (.long mv)
set_option maxRecDepth 65536 in
set_option maxHeartbeats 40000000 in
theorem rm3 (l : Launch) (Z : State) (a0 : Array Value) (hw : ∀ d ∈ tables_1, d.before a0 Z = true) (ws : List Jvm.Cond) (w0 : Addr) (w1 : Addr) (w2 : Addr) (wm : Addr) (km : ClassId) (hS : own_S Z w0 w1 w2 wm km) (g : Addr) (mv : Int64) (h0 : Heap) (n0 : Nat) (O0 : Old Z n0 h0) (E : Exa Z h0 g "com/example/gridwright/gridwright/Grid") :
    own_MetW l (⟨"com/example/gridwright/gridwright/AnnealResult", "solved", "(Lcom/example/gridwright/gridwright/Grid;J)Lcom/example/gridwright/gridwright/AnnealResult;"⟩ : MethodName) prog_2_method_2_code 3 (some (.object "com/example/gridwright/gridwright/AnnealResult")) ws ({ frames := 2, cells := 3, slots := 39, locals := 29 } : Room) Z h0 #[(.ref g), (.long mv)] (Qrm3 Z w0 w1 w2 wm km g mv h0 n0) := by
  refine own_bodyW (plainFor_of_name own_pn_58) ?_
  intro p e s m below meth c s₁ hx hby hml hown hnm hret hlk hZ e0 X0 hSi0
  have N0 := Fr.nil n0
  refine own_st (fun u_ k_ => castTop (own_ef_rm3 m g mv) k_) ?_
  show own_Go p e below _ (s₁.setTop (mkF m 0 #[.val (.ref g), .val (.long mv), .second] []))
  obtain ⟨T61, h61, X61, e61, E61, A61, D61, U61, st61⟩ := newO X0 hx hZ hown (hw _ (List.mem_of_getElem? (i := 41) rfl)) (hw _ (List.mem_of_getElem? (i := 42) rfl)) (hw _ (List.mem_of_getElem? (i := 39) rfl)) e0 (g := (mkF m 0 #[.val (.ref g), .val (.long mv), .second] [])) rfl (hb hby own_d_prog_2_2_0) (by decide) (by decide)
  obtain ⟨b61, g61⟩ : ∃ z, z = h0.size := ⟨_, rfl⟩
  rw [← g61] at A61 D61 U61 st61
  have F61_outcome : Fld Z h61 b61 "com/example/gridwright/gridwright/AnnealResult" "outcome" "Lcom/example/gridwright/gridwright/AnnealOutcome;" .null := D61 (Or.inr (hw _ (List.mem_of_getElem? (i := 51) rfl))) (ty := (.object "com/example/gridwright/gridwright/AnnealOutcome")) own_lm_43
  have F61_solution : Fld Z h61 b61 "com/example/gridwright/gridwright/AnnealResult" "solution" "Lcom/example/gridwright/gridwright/Grid;" .null := D61 (Or.inr (hw _ (List.mem_of_getElem? (i := 53) rfl))) (ty := (.object "com/example/gridwright/gridwright/Grid")) own_lm_48
  have F61_moves : Fld Z h61 b61 "com/example/gridwright/gridwright/AnnealResult" "moves" "J" (.long (0 : Int64)) := D61 (Or.inr (hw _ (List.mem_of_getElem? (i := 55) rfl))) (ty := .long) own_lm_53
  refine own_st (fun u_ k_ => st61 u_ k_) ?_
  show own_Go p e below _ (T61.setTop (mkF m 3 #[.val (.ref g), .val (.long mv), .second] [(.ref b61)]))
  refine own_st (fun u_ k_ => XS.dup X61.here hx rfl (hb hby own_d_prog_2_2_3) rfl rfl k_) ?_
  show own_Go p e below _ (T61.setTop (mkF m 4 #[.val (.ref g), .val (.long mv), .second] [(.ref b61), (.ref b61)]))
  have O62 : Old Z n0 h61 := O0.ext E61
  have F63 : Sta Z h61 "com/example/gridwright/gridwright/AnnealOutcome" "SOLVED" "Lcom/example/gridwright/gridwright/AnnealOutcome;" (.ref w2) := Sta.ext O62.2 hS.2.2.2.2.2.2.1
  obtain ⟨T64, X64, e64, st64⟩ := getS2 X61 hx hZ hown (host := "") (Or.inl (hw _ (List.mem_of_getElem? (i := 86) rfl))) Via.refl e61 F63 (g := (mkF m 4 #[.val (.ref g), .val (.long mv), .second] [(.ref b61), (.ref b61)])) rfl (hb hby own_d_prog_2_2_4)
  refine own_st (fun u_ k_ => st64 u_ k_) ?_
  show own_Go p e below _ (T64.setTop (mkF m 7 #[.val (.ref g), .val (.long mv), .second] [(.ref w2), (.ref b61), (.ref b61)]))
  refine own_st (fun u_ k_ => XS.aloadN X64.here hx rfl (hb hby own_d_prog_2_2_7) rfl rfl k_) ?_
  show own_Go p e below _ (T64.setTop (mkF m 8 #[.val (.ref g), .val (.long mv), .second] [(.ref g), (.ref w2), (.ref b61), (.ref b61)]))
  obtain ⟨a65, T65, h65, k65, X65, e65, E65, Si65, Sk65, hZ65, hown65, st65⟩ := ldcS X64 hx hZ hown (hw _ (List.mem_of_getElem? (i := 88) rfl)) (own_strW hw) e64 hSi0 (Nat.le_trans (Nat.zero_le _) E61.1) (g := (mkF m 8 #[.val (.ref g), .val (.long mv), .second] [(.ref g), (.ref w2), (.ref b61), (.ref b61)])) rfl (hb hby own_d_prog_2_2_8) (n := 32) (by decide) (by decide) (by decide) (by decide)
  refine own_st (fun u_ k_ => st65 u_ k_) ?_
  show own_Go p e below _ (T65.setTop (mkF m 10 #[.val (.ref g), .val (.long mv), .second] [(.ref a65), (.ref g), (.ref w2), (.ref b61), (.ref b61)]))
  have O67 : Old Z n0 h65 := O62.ext E65
  obtain ⟨T66, v66, L66, X66, hQ66, st66⟩ := own_callS X65 hx hZ65 (y := (⟨"java/util/Objects", "requireNonNull", "(Ljava/lang/Object;Ljava/lang/String;)Ljava/lang/Object;"⟩ : MethodName)) hown65 (hw _ (List.mem_of_getElem? (i := 95) rfl)) (hw _ (List.mem_of_getElem? (i := 96) rfl)) (hw _ (List.mem_of_getElem? (i := 97) rfl)) (hw _ (List.mem_of_getElem? (i := 98) rfl)) own_lm_86 (rmN l Z a0 hw [] w0 w1 w2 wm km hS g a65 h65 n0 O67 ) e65 own_pd_87 (argsL := [(.ref g), (.ref a65)]) (rest := [(.ref w2), (.ref b61), (.ref b61)]) rfl rfl (g := (mkF m 10 #[.val (.ref g), .val (.long mv), .second] [(.ref a65), (.ref g), (.ref w2), (.ref b61), (.ref b61)])) rfl (by rw [hml]; rfl) rfl (hb hby own_d_prog_2_2_10) (W := 3) rfl (by decide) (by decide) (by decide) (by decide)
  obtain ⟨rfl, M66, e66⟩ := hQ66
  have N66 := Fr.app N0 M66
  refine own_st (fun u_ k_ => st66 u_ k_) ?_
  show own_Go p e below _ (T66.setTop (mkF m 13 #[.val (.ref g), .val (.long mv), .second] [(.ref g), (.ref w2), (.ref b61), (.ref b61)]))
  have F69 : Exa Z h65 g "com/example/gridwright/gridwright/Grid" := (Exa.ext E65 (Exa.ext E61 E))
  obtain ⟨T68, X68, e68, st68⟩ := castY X66 hx hZ65 hown65 (hw _ (List.mem_of_getElem? (i := 99) rfl)) e66 (Ins.self F69) (g := (mkF m 13 #[.val (.ref g), .val (.long mv), .second] [(.ref g), (.ref w2), (.ref b61), (.ref b61)])) rfl rfl (hb hby own_d_prog_2_2_13)
  refine own_st (fun u_ k_ => st68 u_ k_) ?_
  show own_Go p e below _ (T68.setTop (mkF m 16 #[.val (.ref g), .val (.long mv), .second] [(.ref g), (.ref w2), (.ref b61), (.ref b61)]))
  refine own_st (fun u_ k_ => XS.lloadN X68.here hx rfl (hb hby own_d_prog_2_2_16) rfl k_) ?_
  show own_Go p e below _ (T68.setTop (mkF m 17 #[.val (.ref g), .val (.long mv), .second] [(.long mv), (.ref g), (.ref w2), (.ref b61), (.ref b61)]))
  have F70 : Exa Z h65 b61 "com/example/gridwright/gridwright/AnnealResult" := (Exa.ext E65 A61)
  have g71 : n0 ≤ b61 := Nat.le_trans (own_nl O0) (Nat.le_of_eq g61.symm)
  have F72 : Fld Z h65 b61 "com/example/gridwright/gridwright/AnnealResult" "outcome" "Lcom/example/gridwright/gridwright/AnnealOutcome;" .null := (Fld.ext E65 F61_outcome)
  have F73 : Fld Z h65 b61 "com/example/gridwright/gridwright/AnnealResult" "solution" "Lcom/example/gridwright/gridwright/Grid;" .null := (Fld.ext E65 F61_solution)
  have F74 : Fld Z h65 b61 "com/example/gridwright/gridwright/AnnealResult" "moves" "J" (.long (0 : Int64)) := (Fld.ext E65 F61_moves)
  obtain ⟨T75, v75, L75, X75, hQ75, st75⟩ := own_callN X68 hx hZ65 (y := (⟨"com/example/gridwright/gridwright/AnnealResult", "<init>", "(Lcom/example/gridwright/gridwright/AnnealOutcome;Lcom/example/gridwright/gridwright/Grid;J)V"⟩ : MethodName)) rfl hown65 (hw _ (List.mem_of_getElem? (i := 46) rfl)) (hw _ (List.mem_of_getElem? (i := 47) rfl)) (hw _ (List.mem_of_getElem? (i := 39) rfl)) (hw _ (List.mem_of_getElem? (i := 48) rfl)) own_lm_70 (rmR l Z a0 hw [] w0 w1 w2 wm km hS b61 w2 ((.ref g) : Value) mv h65 n0 O67 F70 g71 rfl F72 F73 F74) e68 own_pd_71 (a := b61) (argsL := [(.ref w2), (.ref g), (.long mv)]) (rest := [(.ref b61)]) rfl rfl (g := (mkF m 17 #[.val (.ref g), .val (.long mv), .second] [(.long mv), (.ref g), (.ref w2), (.ref b61), (.ref b61)])) rfl (by rw [hml]; rfl) rfl (hb hby own_d_prog_2_2_17) (W := 1) rfl (by decide) (by decide) (by decide) (by decide)
  obtain ⟨rfl, M75, K75, F76, F77, F78⟩ := hQ75
  have N75 := Fr.app N66 M75
  refine own_st (fun u_ k_ => st75 u_ k_) ?_
  show own_Go p e below _ (T75.setTop (mkF m 20 #[.val (.ref g), .val (.long mv), .second] [(.ref b61)]))
  have K79 : Keep h0 h61 [] := (Keep.refl h0 []).ext E61
  have K80 : Keep h0 h65 [] := K79.ext E65
  have z82 : h0.size ≤ b61 := Nat.le_trans (Nat.le_refl _) (Nat.le_of_eq g61.symm)
  have K81 : Keep h0 T75.heap [] := K80.trans K75 (allS (Or.inr z82) all0)
  exact own_retXW X75 Si65 (Nat.le_trans Sk65 K75.1) rfl hx hlk hret rfl (Or.inr (Or.inr (Or.inr (Or.inr ⟨rfl, rfl, rfl⟩)))) (hb hby own_d_prog_2_2_20) (by decide) (by decide) (show Qrm3 Z w0 w1 w2 wm km g mv h0 n0 (some (.ref b61)) T75.heap _ from (by exact ⟨b61, rfl, N75, K81, z82, F76, F77, F78⟩))
theorem own_d_prog_2_5_0 : decode prog_2_method_5_code 0 = .ok (.aload_n 0, 1) := by decide +kernel
theorem own_d_prog_2_5_1 : decode prog_2_method_5_code 1 = .ok (.getfield 7, 3) := by decide +kernel
theorem own_d_prog_2_5_4 : decode prog_2_method_5_code 4 = .ok (.areturn, 1) := by decide +kernel
theorem own_ef_rm4 (m : MethodId) (a : Addr)  : entryFrame m #[(.ref a)] 1 = mkF m 0 #[.val (.ref a)] [] := by first | (simp [entryFrame, mkF, argsToLocals, Value.category, maxLocals]; done) | rfl
def Qrm4 (Z : State) (w0 : Addr) (w1 : Addr) (w2 : Addr) (wm : Addr) (km : ClassId) (a : Addr) (o : Addr) (h0 : Heap) (n0 : Nat) (v : Option Value) (h : Heap) (L : List Loc) : Prop := v = some (.ref o) ∧ Fr n0 L ∧ h = h0
set_option maxRecDepth 65536 in
set_option maxHeartbeats 40000000 in
theorem rm4 (l : Launch) (Z : State) (a0 : Array Value) (hw : ∀ d ∈ tables_1, d.before a0 Z = true) (ws : List Jvm.Cond) (w0 : Addr) (w1 : Addr) (w2 : Addr) (wm : Addr) (km : ClassId) (hS : own_S Z w0 w1 w2 wm km) (a : Addr) (o : Addr) (h0 : Heap) (n0 : Nat) (O0 : Old Z n0 h0) (F1 : Fld Z h0 a "com/example/gridwright/gridwright/AnnealResult" "outcome" "Lcom/example/gridwright/gridwright/AnnealOutcome;" (.ref o)) :
    own_Met l (⟨"com/example/gridwright/gridwright/AnnealResult", "outcome", "()Lcom/example/gridwright/gridwright/AnnealOutcome;"⟩ : MethodName) prog_2_method_5_code 1 (some (.object "com/example/gridwright/gridwright/AnnealOutcome")) ws ({ frames := 0, cells := 0, slots := 0, locals := 0 } : Room) Z h0 #[(.ref a)] (Qrm4 Z w0 w1 w2 wm km a o h0 n0) := by
  refine own_body (plainFor_of_name own_pn_58) ?_
  intro p e s m below meth c s₁ hx hby hml hown hnm hret hlk hZ e0 X0
  have N0 := Fr.nil n0
  refine own_st (fun u_ k_ => castTop (own_ef_rm4 m a) k_) ?_
  show own_Go p e below _ (s₁.setTop (mkF m 0 #[.val (.ref a)] []))
  refine own_st (fun u_ k_ => XS.aloadN X0.here hx rfl (hb hby own_d_prog_2_5_0) rfl rfl k_) ?_
  show own_Go p e below _ (s₁.setTop (mkF m 1 #[.val (.ref a)] [(.ref a)]))
  obtain ⟨T83, X83, e83, st83⟩ := getF X0 hx hZ hown (host := "") (Or.inl (hw _ (List.mem_of_getElem? (i := 50) rfl))) Via.refl e0 F1 (g := (mkF m 1 #[.val (.ref a)] [(.ref a)])) rfl rfl (hb hby own_d_prog_2_5_1)
  refine own_st (fun u_ k_ => st83 u_ k_) ?_
  show own_Go p e below _ (T83.setTop (mkF m 4 #[.val (.ref a)] [(.ref o)]))
  exact own_retX X83 hx hlk hret rfl (Or.inr (Or.inr (Or.inr (Or.inr ⟨rfl, rfl, rfl⟩)))) (hb hby own_d_prog_2_5_4) (by decide) (by decide) (show Qrm4 Z w0 w1 w2 wm km a o h0 n0 (some (.ref o)) T83.heap _ from (by rw [e83]; exact ⟨rfl, N0, rfl⟩))
theorem own_d_prog_2_7_0 : decode prog_2_method_7_code 0 = .ok (.aload_n 0, 1) := by decide +kernel
theorem own_d_prog_2_7_1 : decode prog_2_method_7_code 1 = .ok (.getfield 17, 3) := by decide +kernel
theorem own_d_prog_2_7_4 : decode prog_2_method_7_code 4 = .ok (.lreturn, 1) := by decide +kernel
theorem own_ef_rm5 (m : MethodId) (a : Addr)  : entryFrame m #[(.ref a)] 1 = mkF m 0 #[.val (.ref a)] [] := by first | (simp [entryFrame, mkF, argsToLocals, Value.category, maxLocals]; done) | rfl
def Qrm5 (Z : State) (w0 : Addr) (w1 : Addr) (w2 : Addr) (wm : Addr) (km : ClassId) (a : Addr) (o : Int64) (h0 : Heap) (n0 : Nat) (v : Option Value) (h : Heap) (L : List Loc) : Prop := v = some (.long o) ∧ Fr n0 L ∧ h = h0
set_option maxRecDepth 65536 in
set_option maxHeartbeats 40000000 in
theorem rm5 (l : Launch) (Z : State) (a0 : Array Value) (hw : ∀ d ∈ tables_1, d.before a0 Z = true) (ws : List Jvm.Cond) (w0 : Addr) (w1 : Addr) (w2 : Addr) (wm : Addr) (km : ClassId) (hS : own_S Z w0 w1 w2 wm km) (a : Addr) (o : Int64) (h0 : Heap) (n0 : Nat) (O0 : Old Z n0 h0) (F1 : Fld Z h0 a "com/example/gridwright/gridwright/AnnealResult" "moves" "J" (.long o)) :
    own_Met l (⟨"com/example/gridwright/gridwright/AnnealResult", "moves", "()J"⟩ : MethodName) prog_2_method_7_code 1 (some .long) ws ({ frames := 0, cells := 0, slots := 0, locals := 0 } : Room) Z h0 #[(.ref a)] (Qrm5 Z w0 w1 w2 wm km a o h0 n0) := by
  refine own_body (plainFor_of_name own_pn_58) ?_
  intro p e s m below meth c s₁ hx hby hml hown hnm hret hlk hZ e0 X0
  have N0 := Fr.nil n0
  refine own_st (fun u_ k_ => castTop (own_ef_rm5 m a) k_) ?_
  show own_Go p e below _ (s₁.setTop (mkF m 0 #[.val (.ref a)] []))
  refine own_st (fun u_ k_ => XS.aloadN X0.here hx rfl (hb hby own_d_prog_2_7_0) rfl rfl k_) ?_
  show own_Go p e below _ (s₁.setTop (mkF m 1 #[.val (.ref a)] [(.ref a)]))
  obtain ⟨T84, X84, e84, st84⟩ := getF X0 hx hZ hown (host := "") (Or.inl (hw _ (List.mem_of_getElem? (i := 54) rfl))) Via.refl e0 F1 (g := (mkF m 1 #[.val (.ref a)] [(.ref a)])) rfl rfl (hb hby own_d_prog_2_7_1)
  refine own_st (fun u_ k_ => st84 u_ k_) ?_
  show own_Go p e below _ (T84.setTop (mkF m 4 #[.val (.ref a)] [(.long o)]))
  exact own_retX X84 hx hlk hret rfl (Or.inr (Or.inl ⟨rfl, rfl, _, rfl⟩)) (hb hby own_d_prog_2_7_4) (by decide) (by decide) (show Qrm5 Z w0 w1 w2 wm km a o h0 n0 (some (.long o)) T84.heap _ from (by rw [e84]; exact ⟨rfl, N0, rfl⟩))
theorem own_d_jdk_37_2_0 : decode jdk_37_method_2_code 0 = .ok (.aload_n 0, 1) := by decide +kernel
theorem own_d_jdk_37_2_1 : decode jdk_37_method_2_code 1 = .ok (.getfield 7, 3) := by decide +kernel
theorem own_d_jdk_37_2_4 : decode jdk_37_method_2_code 4 = .ok (.ireturn, 1) := by decide +kernel
theorem own_pn_101 : plainName "java/lang/Enum" = true := by first | (simp [plainName, overriddenIn]; done) | decide +kernel
theorem own_ef_rm6 (m : MethodId) (a : Addr)  : entryFrame m #[(.ref a)] 1 = mkF m 0 #[.val (.ref a)] [] := by first | (simp [entryFrame, mkF, argsToLocals, Value.category, maxLocals]; done) | rfl
def Qrm6 (Z : State) (w0 : Addr) (w1 : Addr) (w2 : Addr) (wm : Addr) (km : ClassId) (a : Addr) (o : Int32) (h0 : Heap) (n0 : Nat) (v : Option Value) (h : Heap) (L : List Loc) : Prop := v = some (.int o) ∧ Fr n0 L ∧ h = h0
set_option maxRecDepth 65536 in
set_option maxHeartbeats 40000000 in
theorem rm6 (l : Launch) (Z : State) (a0 : Array Value) (hw : ∀ d ∈ tables_1, d.before a0 Z = true) (ws : List Jvm.Cond) (w0 : Addr) (w1 : Addr) (w2 : Addr) (wm : Addr) (km : ClassId) (hS : own_S Z w0 w1 w2 wm km) (a : Addr) (o : Int32) (h0 : Heap) (n0 : Nat) (O0 : Old Z n0 h0) (F1 : Fld Z h0 a "java/lang/Enum" "ordinal" "I" (.int o)) :
    own_Met l (⟨"java/lang/Enum", "ordinal", "()I"⟩ : MethodName) jdk_37_method_2_code 1 (some .int) ws ({ frames := 0, cells := 0, slots := 0, locals := 0 } : Room) Z h0 #[(.ref a)] (Qrm6 Z w0 w1 w2 wm km a o h0 n0) := by
  refine own_body (plainFor_of_name own_pn_101) ?_
  intro p e s m below meth c s₁ hx hby hml hown hnm hret hlk hZ e0 X0
  have N0 := Fr.nil n0
  refine own_st (fun u_ k_ => castTop (own_ef_rm6 m a) k_) ?_
  show own_Go p e below _ (s₁.setTop (mkF m 0 #[.val (.ref a)] []))
  refine own_st (fun u_ k_ => XS.aloadN X0.here hx rfl (hb hby own_d_jdk_37_2_0) rfl rfl k_) ?_
  show own_Go p e below _ (s₁.setTop (mkF m 1 #[.val (.ref a)] [(.ref a)]))
  obtain ⟨T85, X85, e85, st85⟩ := getF X0 hx hZ hown (host := "") (Or.inl (hw _ (List.mem_of_getElem? (i := 76) rfl))) Via.refl e0 F1 (g := (mkF m 1 #[.val (.ref a)] [(.ref a)])) rfl rfl (hb hby own_d_jdk_37_2_1)
  refine own_st (fun u_ k_ => st85 u_ k_) ?_
  show own_Go p e below _ (T85.setTop (mkF m 4 #[.val (.ref a)] [(.int o)]))
  exact own_retX X85 hx hlk hret rfl (Or.inl ⟨rfl, by simp, _, rfl⟩) (hb hby own_d_jdk_37_2_4) (by decide) (by decide) (show Qrm6 Z w0 w1 w2 wm km a o h0 n0 (some (.int o)) T85.heap _ from (by rw [e85]; exact ⟨rfl, N0, rfl⟩))
theorem own_d_jdk_29_66_0 : decode jdk_29_method_66_code 0 = .ok (.lload_n 0, 1) := by decide +kernel
theorem own_d_jdk_29_66_1 : decode jdk_29_method_66_code 1 = .ok (.lload_n 2, 1) := by decide +kernel
theorem own_d_jdk_29_66_2 : decode jdk_29_method_66_code 2 = .ok (.lcmp, 1) := by decide +kernel
theorem own_d_jdk_29_66_3 : decode jdk_29_method_66_code 3 = .ok (.ifCond .lt 7, 3) := by decide +kernel
theorem own_d_jdk_29_66_10 : decode jdk_29_method_66_code 10 = .ok (.lload_n 2, 1) := by decide +kernel
theorem own_d_jdk_29_66_11 : decode jdk_29_method_66_code 11 = .ok (.lreturn, 1) := by decide +kernel
theorem own_d_jdk_29_66_6 : decode jdk_29_method_66_code 6 = .ok (.lload_n 0, 1) := by decide +kernel
theorem own_d_jdk_29_66_7 : decode jdk_29_method_66_code 7 = .ok (.goto 4, 3) := by decide +kernel
theorem own_pf_110 : plainFor (⟨"java/lang/Math", "max", "(JJ)J"⟩ : MethodName) = true := by decide +kernel
theorem own_ef_rm7 (m : MethodId) (x : Int64) (y : Int64)  : entryFrame m #[(.long x), (.long y)] 4 = mkF m 0 #[.val (.long x), .second, .val (.long y), .second] [] := by first | (simp [entryFrame, mkF, argsToLocals, Value.category, maxLocals]; done) | rfl
def Qrm7 (Z : State) (w0 : Addr) (w1 : Addr) (w2 : Addr) (wm : Addr) (km : ClassId) (x : Int64) (y : Int64) (h0 : Heap) (n0 : Nat) (v : Option Value) (h : Heap) (L : List Loc) : Prop := ∃ z : Int64, v = some (.long z) ∧ Fr n0 L ∧ h = h0
set_option maxRecDepth 65536 in
set_option maxHeartbeats 40000000 in
theorem rm7 (l : Launch) (Z : State) (a0 : Array Value) (hw : ∀ d ∈ tables_1, d.before a0 Z = true) (ws : List Jvm.Cond) (w0 : Addr) (w1 : Addr) (w2 : Addr) (wm : Addr) (km : ClassId) (hS : own_S Z w0 w1 w2 wm km) (x : Int64) (y : Int64) (h0 : Heap) (n0 : Nat) (O0 : Old Z n0 h0)  :
    own_Met l (⟨"java/lang/Math", "max", "(JJ)J"⟩ : MethodName) jdk_29_method_66_code 4 (some .long) ws ({ frames := 0, cells := 0, slots := 0, locals := 0 } : Room) Z h0 #[(.long x), (.long y)] (Qrm7 Z w0 w1 w2 wm km x y h0 n0) := by
  refine own_body own_pf_110 ?_
  intro p e s m below meth c s₁ hx hby hml hown hnm hret hlk hZ e0 X0
  have N0 := Fr.nil n0
  refine own_st (fun u_ k_ => castTop (own_ef_rm7 m x y) k_) ?_
  show own_Go p e below _ (s₁.setTop (mkF m 0 #[.val (.long x), .second, .val (.long y), .second] []))
  refine own_st (fun u_ k_ => XS.lloadN X0.here hx rfl (hb hby own_d_jdk_29_66_0) rfl k_) ?_
  show own_Go p e below _ (s₁.setTop (mkF m 1 #[.val (.long x), .second, .val (.long y), .second] [(.long x)]))
  refine own_st (fun u_ k_ => XS.lloadN X0.here hx rfl (hb hby own_d_jdk_29_66_1) rfl k_) ?_
  show own_Go p e below _ (s₁.setTop (mkF m 2 #[.val (.long x), .second, .val (.long y), .second] [(.long y), (.long x)]))
  refine own_st (fun u_ k_ => XS.lcmp X0.here hx rfl (hb hby own_d_jdk_29_66_2) rfl k_) ?_
  show own_Go p e below _ (s₁.setTop (mkF m 3 #[.val (.long x), .second, .val (.long y), .second] [(.int (lcmpW x y))]))
  by_cases hc86 : (lcmpW x y) < (0 : Int32)
  · refine own_st (fun u_ k_ => XS.ifYes X0.here hx rfl (pc0 := 3) (pc' := 10) rfl (hb hby own_d_jdk_29_66_3) rfl (XT.i0_lt_t hc86) (by decide) (by decide) k_) ?_
    show own_Go p e below _ (s₁.setTop (mkF m 10 #[.val (.long x), .second, .val (.long y), .second] []))
    refine own_st (fun u_ k_ => XS.lloadN X0.here hx rfl (hb hby own_d_jdk_29_66_10) rfl k_) ?_
    show own_Go p e below _ (s₁.setTop (mkF m 11 #[.val (.long x), .second, .val (.long y), .second] [(.long y)]))
    exact own_retX X0 hx hlk hret rfl (Or.inr (Or.inl ⟨rfl, rfl, _, rfl⟩)) (hb hby own_d_jdk_29_66_11) (by decide) (by decide) (show Qrm7 Z w0 w1 w2 wm km x y h0 n0 (some (.long y)) s₁.heap _ from (by rw [e0]; exact ⟨y, rfl, N0, rfl⟩))
  · refine own_st (fun u_ k_ => XS.ifNo X0.here hx rfl (hb hby own_d_jdk_29_66_3) rfl (XT.i0_lt_f hc86) k_) ?_
    show own_Go p e below _ (s₁.setTop (mkF m 6 #[.val (.long x), .second, .val (.long y), .second] []))
    refine own_st (fun u_ k_ => XS.lloadN X0.here hx rfl (hb hby own_d_jdk_29_66_6) rfl k_) ?_
    show own_Go p e below _ (s₁.setTop (mkF m 7 #[.val (.long x), .second, .val (.long y), .second] [(.long x)]))
    refine own_st (fun u_ k_ => XS.goto X0.here hx rfl (pc0 := 7) (pc' := 11) rfl (hb hby own_d_jdk_29_66_7) (by decide) (by decide) k_) ?_
    show own_Go p e below _ (s₁.setTop (mkF m 11 #[.val (.long x), .second, .val (.long y), .second] [(.long x)]))
    exact own_retX X0 hx hlk hret rfl (Or.inr (Or.inl ⟨rfl, rfl, _, rfl⟩)) (hb hby own_d_jdk_29_66_11) (by decide) (by decide) (show Qrm7 Z w0 w1 w2 wm km x y h0 n0 (some (.long x)) s₁.heap _ from (by rw [e0]; exact ⟨x, rfl, N0, rfl⟩))
theorem own_d_prog_4_2_0 : decode prog_4_method_2_code 0 = .ok (.aload_n 1, 1) := by decide +kernel
theorem own_d_prog_4_2_1 : decode prog_4_method_2_code 1 = .ok (.invokevirtual 7, 3) := by decide +kernel
theorem own_pd_113 : parseMethodDescriptor "()Lcom/example/gridwright/gridwright/AnnealOutcome;" = some ⟨[], some (.object "com/example/gridwright/gridwright/AnnealOutcome")⟩ := by decide +kernel
theorem own_d_prog_4_2_4 : decode prog_4_method_2_code 4 = .ok (.astore_n 2, 1) := by decide +kernel
theorem own_d_prog_4_2_5 : decode prog_4_method_2_code 5 = .ok (.getstatic 13, 3) := by decide +kernel
theorem own_d_prog_4_2_8 : decode prog_4_method_2_code 8 = .ok (.aload_n 2, 1) := by decide +kernel
theorem own_d_prog_4_2_9 : decode prog_4_method_2_code 9 = .ok (.invokevirtual 19, 3) := by decide +kernel
theorem own_lm_118 : ("java/lang/Enum" : String) ≠ "java/lang/invoke/MethodHandle" ∧ ("java/lang/Enum" : String) ≠ "java/lang/invoke/VarHandle" := by decide +kernel
theorem own_pd_119 : parseMethodDescriptor "()I" = some ⟨[], some .int⟩ := by decide +kernel
theorem own_d_prog_4_2_12 : decode prog_4_method_2_code 12 = .ok (.iaload, 1) := by decide +kernel
theorem own_d_prog_4_2_13 : decode prog_4_method_2_code 13 = .ok (.tableswitch 94 1 3 #[27, 68, 81], 27) := by decide +kernel
theorem own_d_prog_4_2_40 : decode prog_4_method_2_code 40 = .ok (.aload_n 0, 1) := by decide +kernel
theorem own_d_prog_4_2_41 : decode prog_4_method_2_code 41 = .ok (.dup, 1) := by decide +kernel
theorem own_d_prog_4_2_42 : decode prog_4_method_2_code 42 = .ok (.getfield 25, 3) := by decide +kernel
theorem own_d_prog_4_2_45 : decode prog_4_method_2_code 45 = .ok (.lconst 1, 1) := by decide +kernel
theorem own_d_prog_4_2_46 : decode prog_4_method_2_code 46 = .ok (.ladd, 1) := by decide +kernel
theorem own_d_prog_4_2_47 : decode prog_4_method_2_code 47 = .ok (.putfield 25, 3) := by decide +kernel
theorem own_d_prog_4_2_50 : decode prog_4_method_2_code 50 = .ok (.aload_n 0, 1) := by decide +kernel
theorem own_d_prog_4_2_51 : decode prog_4_method_2_code 51 = .ok (.dup, 1) := by decide +kernel
theorem own_d_prog_4_2_52 : decode prog_4_method_2_code 52 = .ok (.getfield 31, 3) := by decide +kernel
theorem own_lm_131 : ("movesTotal" : String) ≠ "solved" := by decide +kernel
theorem own_d_prog_4_2_55 : decode prog_4_method_2_code 55 = .ok (.aload_n 1, 1) := by decide +kernel
theorem own_d_prog_4_2_56 : decode prog_4_method_2_code 56 = .ok (.invokevirtual 34, 3) := by decide +kernel
theorem own_lm_134 : ("com/example/gridwright/gridwright/AnnealResult" : String) ≠ "com/example/gridwright/gridwright/AnnealSummary" := by decide +kernel
theorem own_pd_135 : parseMethodDescriptor "()J" = some ⟨[], some .long⟩ := by decide +kernel
theorem own_d_prog_4_2_59 : decode prog_4_method_2_code 59 = .ok (.ladd, 1) := by decide +kernel
theorem own_d_prog_4_2_60 : decode prog_4_method_2_code 60 = .ok (.putfield 31, 3) := by decide +kernel
theorem own_d_prog_4_2_63 : decode prog_4_method_2_code 63 = .ok (.aload_n 0, 1) := by decide +kernel
theorem own_d_prog_4_2_64 : decode prog_4_method_2_code 64 = .ok (.aload_n 0, 1) := by decide +kernel
theorem own_d_prog_4_2_65 : decode prog_4_method_2_code 65 = .ok (.getfield 38, 3) := by decide +kernel
theorem own_lm_141 : ("movesMax" : String) ≠ "solved" := by decide +kernel
theorem own_lm_142 : ("movesMax" : String) ≠ "movesTotal" := by decide +kernel
theorem own_d_prog_4_2_68 : decode prog_4_method_2_code 68 = .ok (.aload_n 1, 1) := by decide +kernel
theorem own_d_prog_4_2_69 : decode prog_4_method_2_code 69 = .ok (.invokevirtual 34, 3) := by decide +kernel
theorem own_d_prog_4_2_72 : decode prog_4_method_2_code 72 = .ok (.invokestatic 41, 3) := by decide +kernel
theorem own_lm_146 : ("java/lang/Math" : String) ≠ "java/lang/invoke/MethodHandle" ∧ ("java/lang/Math" : String) ≠ "java/lang/invoke/VarHandle" := by decide +kernel
theorem own_pd_147 : parseMethodDescriptor "(JJ)J" = some ⟨[.long, .long], some .long⟩ := by decide +kernel
theorem own_d_prog_4_2_75 : decode prog_4_method_2_code 75 = .ok (.putfield 38, 3) := by decide +kernel
theorem own_d_prog_4_2_78 : decode prog_4_method_2_code 78 = .ok (.goto 46, 3) := by decide +kernel
theorem own_d_prog_4_2_124 : decode prog_4_method_2_code 124 = .ok (.return_, 1) := by decide +kernel
theorem own_lm_151 : ("solved" : String) ≠ "movesTotal" := by decide +kernel
theorem own_lm_152 : ("solved" : String) ≠ "movesMax" := by decide +kernel
theorem own_lm_153 : ("movesTotal" : String) ≠ "movesMax" := by decide +kernel
theorem own_lm_154 : ("unsolved" : String) ≠ "solved" := by decide +kernel
theorem own_lm_155 : ("unsolved" : String) ≠ "movesTotal" := by decide +kernel
theorem own_lm_156 : ("unsolved" : String) ≠ "movesMax" := by decide +kernel
theorem own_lm_157 : ("unsolvable" : String) ≠ "solved" := by decide +kernel
theorem own_lm_158 : ("unsolvable" : String) ≠ "movesTotal" := by decide +kernel
theorem own_lm_159 : ("unsolvable" : String) ≠ "movesMax" := by decide +kernel
theorem own_lm_160 : ("invalid" : String) ≠ "solved" := by decide +kernel
theorem own_lm_161 : ("invalid" : String) ≠ "movesTotal" := by decide +kernel
theorem own_lm_162 : ("invalid" : String) ≠ "movesMax" := by decide +kernel
theorem own_ef_rm9 (m : MethodId) (a : Addr) (r : Addr)  : entryFrame m #[(.ref a), (.ref r)] 3 = mkF m 0 #[.val (.ref a), .val (.ref r), .unset] [] := by first | (simp [entryFrame, mkF, argsToLocals, Value.category, maxLocals]; done) | rfl
def Qrm9 (Z : State) (w0 : Addr) (w1 : Addr) (w2 : Addr) (wm : Addr) (km : ClassId) (a : Addr) (r : Addr) (mv : Int64) (sv : Int64) (tv : Int64) (mx : Int64) (u : Int64) (x : Int64) (iv : Int64) (h0 : Heap) (n0 : Nat) (v : Option Value) (h : Heap) (L : List Loc) : Prop := ∃ s2 : Int64, ∃ t2 : Int64, ∃ m2 : Int64, v = none ∧ Fr n0 L ∧ Keep h0 h [a] ∧ Exa Z h a "com/example/gridwright/gridwright/AnnealSummary" ∧ Fld Z h a "com/example/gridwright/gridwright/AnnealSummary" "solved" "J" (.long s2) ∧ Fld Z h a "com/example/gridwright/gridwright/AnnealSummary" "movesTotal" "J" (.long t2) ∧ Fld Z h a "com/example/gridwright/gridwright/AnnealSummary" "movesMax" "J" (.long m2) ∧ Fld Z h a "com/example/gridwright/gridwright/AnnealSummary" "unsolved" "J" (.long u) ∧ Fld Z h a "com/example/gridwright/gridwright/AnnealSummary" "unsolvable" "J" (.long x) ∧ Fld Z h a "com/example/gridwright/gridwright/AnnealSummary" "invalid" "J" (.long iv)
set_option maxRecDepth 65536 in
set_option maxHeartbeats 40000000 in
theorem rm9 (l : Launch) (Z : State) (a0 : Array Value) (hw : ∀ d ∈ tables_1, d.before a0 Z = true) (ws : List Jvm.Cond) (w0 : Addr) (w1 : Addr) (w2 : Addr) (wm : Addr) (km : ClassId) (hS : own_S Z w0 w1 w2 wm km) (a : Addr) (r : Addr) (mv : Int64) (sv : Int64) (tv : Int64) (mx : Int64) (u : Int64) (x : Int64) (iv : Int64) (h0 : Heap) (n0 : Nat) (O0 : Old Z n0 h0) (E : Exa Z h0 a "com/example/gridwright/gridwright/AnnealSummary") (Er : Exa Z h0 r "com/example/gridwright/gridwright/AnnealResult") (ga : n0 ≤ a) (Fo : Fld Z h0 r "com/example/gridwright/gridwright/AnnealResult" "outcome" "Lcom/example/gridwright/gridwright/AnnealOutcome;" (.ref w2)) (Fm : Fld Z h0 r "com/example/gridwright/gridwright/AnnealResult" "moves" "J" (.long mv)) (G0 : Fld Z h0 a "com/example/gridwright/gridwright/AnnealSummary" "solved" "J" (.long sv)) (G1 : Fld Z h0 a "com/example/gridwright/gridwright/AnnealSummary" "movesTotal" "J" (.long tv)) (G2 : Fld Z h0 a "com/example/gridwright/gridwright/AnnealSummary" "movesMax" "J" (.long mx)) (G3 : Fld Z h0 a "com/example/gridwright/gridwright/AnnealSummary" "unsolved" "J" (.long u)) (G4 : Fld Z h0 a "com/example/gridwright/gridwright/AnnealSummary" "unsolvable" "J" (.long x)) (G5 : Fld Z h0 a "com/example/gridwright/gridwright/AnnealSummary" "invalid" "J" (.long iv)) :
    own_Met l (⟨"com/example/gridwright/gridwright/AnnealSummary", "add", "(Lcom/example/gridwright/gridwright/AnnealResult;)V"⟩ : MethodName) prog_4_method_2_code 3 none ws ({ frames := 1, cells := 0, slots := 0, locals := 16 } : Room) Z h0 #[(.ref a), (.ref r)] (Qrm9 Z w0 w1 w2 wm km a r mv sv tv mx u x iv h0 n0) := by
  refine own_body (plainFor_of_name own_pn_3) ?_
  intro p e s m below meth c s₁ hx hby hml hown hnm hret hlk hZ e0 X0
  have N0 := Fr.nil n0
  refine own_st (fun u_ k_ => castTop (own_ef_rm9 m a r) k_) ?_
  show own_Go p e below _ (s₁.setTop (mkF m 0 #[.val (.ref a), .val (.ref r), .unset] []))
  refine own_st (fun u_ k_ => XS.aloadN X0.here hx rfl (hb hby own_d_prog_4_2_0) rfl rfl k_) ?_
  show own_Go p e below _ (s₁.setTop (mkF m 1 #[.val (.ref a), .val (.ref r), .unset] [(.ref r)]))
  obtain ⟨T87, v87, L87, X87, hQ87, st87⟩ := own_callV X0 hx hZ (y := (⟨"com/example/gridwright/gridwright/AnnealResult", "outcome", "()Lcom/example/gridwright/gridwright/AnnealOutcome;"⟩ : MethodName)) (z := (⟨"com/example/gridwright/gridwright/AnnealResult", "outcome", "()Lcom/example/gridwright/gridwright/AnnealOutcome;"⟩ : MethodName)) hown (hw _ (List.mem_of_getElem? (i := 61) rfl)) (hw _ (List.mem_of_getElem? (i := 62) rfl)) (notFace_of_selects (args := #[]) (mvT hZ (hw _ (List.mem_of_getElem? (i := 64) rfl)))) (hw _ (List.mem_of_getElem? (i := 64) rfl)) (hw _ (List.mem_of_getElem? (i := 63) rfl)) (hw _ (List.mem_of_getElem? (i := 39) rfl)) (hw _ (List.mem_of_getElem? (i := 65) rfl)) own_lm_70 (rm4 l Z a0 hw [] w0 w1 w2 wm km hS r w2 h0 n0 O0 Fo) e0 Er own_pd_113 (argsL := []) (rest := []) rfl rfl (g := (mkF m 1 #[.val (.ref a), .val (.ref r), .unset] [(.ref r)])) rfl (by rw [hml]; rfl) rfl (hb hby own_d_prog_4_2_1) (W := 0) rfl (by decide) (by decide) (by decide) (by decide)
  obtain ⟨rfl, M87, e87⟩ := hQ87
  have N87 := Fr.app N0 M87
  refine own_st (fun u_ k_ => st87 u_ k_) ?_
  show own_Go p e below _ (T87.setTop (mkF m 4 #[.val (.ref a), .val (.ref r), .unset] [(.ref w2)]))
  refine own_st (fun u_ k_ => XS.astoreN X87.here hx rfl (hb hby own_d_prog_4_2_4) rfl rfl (l' := #[.val (.ref a), .val (.ref r), .val (.ref w2)]) rfl k_) ?_
  show own_Go p e below _ (T87.setTop (mkF m 5 #[.val (.ref a), .val (.ref r), .val (.ref w2)] []))
  have F88 : Sta Z h0 "com/example/gridwright/gridwright/AnnealSummary$1" "$SwitchMap$com$example$gridwright$gridwright$AnnealOutcome" "[I" (.ref wm) := Sta.ext O0.2 hS.2.2.2.2.2.2.2.2.2.1
  obtain ⟨T89, X89, e89, st89⟩ := getS2 X87 hx hZ hown (host := "") (Or.inl (hw _ (List.mem_of_getElem? (i := 66) rfl))) Via.refl e87 F88 (g := (mkF m 5 #[.val (.ref a), .val (.ref r), .val (.ref w2)] [])) rfl (hb hby own_d_prog_4_2_5)
  refine own_st (fun u_ k_ => st89 u_ k_) ?_
  show own_Go p e below _ (T89.setTop (mkF m 8 #[.val (.ref a), .val (.ref r), .val (.ref w2)] [(.ref wm)]))
  refine own_st (fun u_ k_ => XS.aloadN X89.here hx rfl (hb hby own_d_prog_4_2_8) rfl rfl k_) ?_
  show own_Go p e below _ (T89.setTop (mkF m 9 #[.val (.ref a), .val (.ref r), .val (.ref w2)] [(.ref w2), (.ref wm)]))
  have F90 : Fld Z h0 w2 "java/lang/Enum" "ordinal" "I" (.int (0 : Int32)) := Fld.ext O0.2 hS.2.2.2.2.2.2.2.2.1
  have F92 : Exa Z h0 w2 "com/example/gridwright/gridwright/AnnealOutcome" := Exa.ext O0.2 hS.2.2.2.2.2.2.2.1
  obtain ⟨T91, v91, L91, X91, hQ91, st91⟩ := own_callU X89 hx hZ (y := (⟨"com/example/gridwright/gridwright/AnnealOutcome", "ordinal", "()I"⟩ : MethodName)) (z := (⟨"java/lang/Enum", "ordinal", "()I"⟩ : MethodName)) hown (hw _ (List.mem_of_getElem? (i := 69) rfl)) (hw _ (List.mem_of_getElem? (i := 70) rfl)) (hw _ (List.mem_of_getElem? (i := 71) rfl)) (hw _ (List.mem_of_getElem? (i := 73) rfl)) (hw _ (List.mem_of_getElem? (i := 72) rfl)) (hw _ (List.mem_of_getElem? (i := 74) rfl)) (hw _ (List.mem_of_getElem? (i := 75) rfl)) own_lm_118 (rm6 l Z a0 hw [] w0 w1 w2 wm km hS w2 (0 : Int32) h0 n0 O0 F90) e89 F92 own_pd_119 (argsL := []) (rest := [(.ref wm)]) rfl rfl (g := (mkF m 9 #[.val (.ref a), .val (.ref r), .val (.ref w2)] [(.ref w2), (.ref wm)])) rfl (by rw [hml]; rfl) rfl (hb hby own_d_prog_4_2_9) (W := 1) rfl (by decide) (by decide) (by decide) (by decide)
  obtain ⟨rfl, M91, e91⟩ := hQ91
  have N91 := Fr.app N87 M91
  refine own_st (fun u_ k_ => st91 u_ k_) ?_
  show own_Go p e below _ (T91.setTop (mkF m 12 #[.val (.ref a), .val (.ref r), .val (.ref w2)] [(.int (0 : Int32)), (.ref wm)]))
  have F93 : Arv Z h0 wm km .int (3 : Int32) [(.int (1 : Int32)), (.int (2 : Int32)), (.int (3 : Int32))] (.int (0 : Int32)) := Arv.ext hS.2.2.2.2.2.2.2.2.2.2 O0.2
  obtain ⟨cl94, Ar94, q94, S94, N94, H94, G94⟩ := id F93
  have hi94 : ¬ ((0 : Int32) < 0 ∨ cl94.slots.size ≤ ((0 : Int32)).toNatClampNeg) := inb_of S94 ⟨by decide, by decide⟩
  have ha94 : cl94.slots[((0 : Int32)).toNatClampNeg]? = some (.int (1 : Int32)) := H94.at hi94 rfl
  refine own_st (X91.iaload hx (j := (0 : Int32)) (v := (.int (1 : Int32))) (by rw [e91]; exact Ar94.1) (State.isArrayOf_alike hZ.alike Ar94.2.1) Ar94.2.2 hi94 ha94 (g := (mkF m 12 #[.val (.ref a), .val (.ref r), .val (.ref w2)] [(.int (0 : Int32)), (.ref wm)])) rfl rfl (hb hby own_d_prog_4_2_12)) ?_
  show own_Go p e below _ (T91.setTop (mkF m 13 #[.val (.ref a), .val (.ref r), .val (.ref w2)] [(.int (1 : Int32))]))
  refine own_st (fun u_ k_ => XS.tswIn X91.here hx rfl (pc0 := 13) (pc' := 40) (o := 27) rfl (hb hby own_d_prog_4_2_13) rfl (by decide) (by decide) (by decide) (by decide) k_) ?_
  show own_Go p e below _ (T91.setTop (mkF m 40 #[.val (.ref a), .val (.ref r), .val (.ref w2)] []))
  refine own_st (fun u_ k_ => XS.aloadN X91.here hx rfl (hb hby own_d_prog_4_2_40) rfl rfl k_) ?_
  show own_Go p e below _ (T91.setTop (mkF m 41 #[.val (.ref a), .val (.ref r), .val (.ref w2)] [(.ref a)]))
  refine own_st (fun u_ k_ => XS.dup X91.here hx rfl (hb hby own_d_prog_4_2_41) rfl rfl k_) ?_
  show own_Go p e below _ (T91.setTop (mkF m 42 #[.val (.ref a), .val (.ref r), .val (.ref w2)] [(.ref a), (.ref a)]))
  obtain ⟨T95, X95, e95, st95⟩ := getF X91 hx hZ hown (host := "") (Or.inl (hw _ (List.mem_of_getElem? (i := 101) rfl))) Via.refl e91 G0 (g := (mkF m 42 #[.val (.ref a), .val (.ref r), .val (.ref w2)] [(.ref a), (.ref a)])) rfl rfl (hb hby own_d_prog_4_2_42)
  refine own_st (fun u_ k_ => st95 u_ k_) ?_
  show own_Go p e below _ (T95.setTop (mkF m 45 #[.val (.ref a), .val (.ref r), .val (.ref w2)] [(.long sv), (.ref a)]))
  refine own_st (fun u_ k_ => XS.lconst X95.here hx rfl (hb hby own_d_prog_4_2_45) k_) ?_
  show own_Go p e below _ (T95.setTop (mkF m 46 #[.val (.ref a), .val (.ref r), .val (.ref w2)] [(.long (1 : Int64)), (.long sv), (.ref a)]))
  refine own_st (fun u_ k_ => XS.ladd X95.here hx rfl (hb hby own_d_prog_4_2_46) rfl k_) ?_
  show own_Go p e below _ (T95.setTop (mkF m 47 #[.val (.ref a), .val (.ref r), .val (.ref w2)] [(.long (sv + (1 : Int64))), (.ref a)]))
  obtain ⟨T96, h96, X96, e96, W96, st96⟩ := putF X95 hx hZ hown (host := "") (Or.inl (hw _ (List.mem_of_getElem? (i := 101) rfl))) Via.refl e95 G0 E (Or.inl (hw _ (List.mem_of_getElem? (i := 102) rfl))) (hw _ (List.mem_of_getElem? (i := 1) rfl)) (ty := .long) own_lm_53 rfl rfl (g := (mkF m 47 #[.val (.ref a), .val (.ref r), .val (.ref w2)] [(.long (sv + (1 : Int64))), (.ref a)])) rfl rfl (hb hby own_d_prog_4_2_47)
  have N96 := Fr.snoc X96 N91 ga
  have F97 : Fld Z h96 a "com/example/gridwright/gridwright/AnnealSummary" "solved" "J" (.long (sv + (1 : Int64))) := Fld.same W96 G0
  refine own_st (fun u_ k_ => st96 u_ k_) ?_
  show own_Go p e below _ (T96.setTop (mkF m 50 #[.val (.ref a), .val (.ref r), .val (.ref w2)] []))
  refine own_st (fun u_ k_ => XS.aloadN X96.here hx rfl (hb hby own_d_prog_4_2_50) rfl rfl k_) ?_
  show own_Go p e below _ (T96.setTop (mkF m 51 #[.val (.ref a), .val (.ref r), .val (.ref w2)] [(.ref a)]))
  refine own_st (fun u_ k_ => XS.dup X96.here hx rfl (hb hby own_d_prog_4_2_51) rfl rfl k_) ?_
  show own_Go p e below _ (T96.setTop (mkF m 52 #[.val (.ref a), .val (.ref r), .val (.ref w2)] [(.ref a), (.ref a)]))
  have F98 : Fld Z h96 a "com/example/gridwright/gridwright/AnnealSummary" "movesTotal" "J" (.long tv) := (Fld.other W96 G1 (Or.inr (slot_ne (Or.inl (hw _ (List.mem_of_getElem? (i := 104) rfl))) (Or.inl (hw _ (List.mem_of_getElem? (i := 102) rfl))) own_lm_131 (t := .long) (t' := .long) own_lm_53 own_lm_53)))
  obtain ⟨T99, X99, e99, st99⟩ := getF X96 hx hZ hown (host := "") (Or.inl (hw _ (List.mem_of_getElem? (i := 103) rfl))) Via.refl e96 F98 (g := (mkF m 52 #[.val (.ref a), .val (.ref r), .val (.ref w2)] [(.ref a), (.ref a)])) rfl rfl (hb hby own_d_prog_4_2_52)
  refine own_st (fun u_ k_ => st99 u_ k_) ?_
  show own_Go p e below _ (T99.setTop (mkF m 55 #[.val (.ref a), .val (.ref r), .val (.ref w2)] [(.long tv), (.ref a)]))
  refine own_st (fun u_ k_ => XS.aloadN X99.here hx rfl (hb hby own_d_prog_4_2_55) rfl rfl k_) ?_
  show own_Go p e below _ (T99.setTop (mkF m 56 #[.val (.ref a), .val (.ref r), .val (.ref w2)] [(.ref r), (.long tv), (.ref a)]))
  have F100 : Exa Z h96 r "com/example/gridwright/gridwright/AnnealResult" := (Exa.wr W96 Er)
  have F101 : Exa Z h96 a "com/example/gridwright/gridwright/AnnealSummary" := (Exa.wr W96 E)
  have ne102 : r ≠ a := (ne_exa F100 F101 own_lm_134)
  have F103 : Fld Z h96 r "com/example/gridwright/gridwright/AnnealResult" "moves" "J" (.long mv) := (Fld.other W96 Fm (Or.inl ne102))
  have O105 : Old Z n0 h96 := O0.wr W96 ga
  obtain ⟨T104, v104, L104, X104, hQ104, st104⟩ := own_callV X99 hx hZ (y := (⟨"com/example/gridwright/gridwright/AnnealResult", "moves", "()J"⟩ : MethodName)) (z := (⟨"com/example/gridwright/gridwright/AnnealResult", "moves", "()J"⟩ : MethodName)) hown (hw _ (List.mem_of_getElem? (i := 105) rfl)) (hw _ (List.mem_of_getElem? (i := 106) rfl)) (notFace_of_selects (args := #[]) (mvT hZ (hw _ (List.mem_of_getElem? (i := 108) rfl)))) (hw _ (List.mem_of_getElem? (i := 108) rfl)) (hw _ (List.mem_of_getElem? (i := 107) rfl)) (hw _ (List.mem_of_getElem? (i := 39) rfl)) (hw _ (List.mem_of_getElem? (i := 109) rfl)) own_lm_70 (rm5 l Z a0 hw [] w0 w1 w2 wm km hS r mv h96 n0 O105 F103) e99 F100 own_pd_135 (argsL := []) (rest := [(.long tv), (.ref a)]) rfl rfl (g := (mkF m 56 #[.val (.ref a), .val (.ref r), .val (.ref w2)] [(.ref r), (.long tv), (.ref a)])) rfl (by rw [hml]; rfl) rfl (hb hby own_d_prog_4_2_56) (W := 3) rfl (by decide) (by decide) (by decide) (by decide)
  obtain ⟨rfl, M104, e104⟩ := hQ104
  have N104 := Fr.app N96 M104
  refine own_st (fun u_ k_ => st104 u_ k_) ?_
  show own_Go p e below _ (T104.setTop (mkF m 59 #[.val (.ref a), .val (.ref r), .val (.ref w2)] [(.long mv), (.long tv), (.ref a)]))
  refine own_st (fun u_ k_ => XS.ladd X104.here hx rfl (hb hby own_d_prog_4_2_59) rfl k_) ?_
  show own_Go p e below _ (T104.setTop (mkF m 60 #[.val (.ref a), .val (.ref r), .val (.ref w2)] [(.long (tv + mv)), (.ref a)]))
  obtain ⟨T106, h106, X106, e106, W106, st106⟩ := putF X104 hx hZ hown (host := "") (Or.inl (hw _ (List.mem_of_getElem? (i := 103) rfl))) Via.refl e104 F98 F101 (Or.inl (hw _ (List.mem_of_getElem? (i := 104) rfl))) (hw _ (List.mem_of_getElem? (i := 1) rfl)) (ty := .long) own_lm_53 rfl rfl (g := (mkF m 60 #[.val (.ref a), .val (.ref r), .val (.ref w2)] [(.long (tv + mv)), (.ref a)])) rfl rfl (hb hby own_d_prog_4_2_60)
  have N106 := Fr.snoc X106 N104 ga
  have F107 : Fld Z h106 a "com/example/gridwright/gridwright/AnnealSummary" "movesTotal" "J" (.long (tv + mv)) := Fld.same W106 F98
  refine own_st (fun u_ k_ => st106 u_ k_) ?_
  show own_Go p e below _ (T106.setTop (mkF m 63 #[.val (.ref a), .val (.ref r), .val (.ref w2)] []))
  refine own_st (fun u_ k_ => XS.aloadN X106.here hx rfl (hb hby own_d_prog_4_2_63) rfl rfl k_) ?_
  show own_Go p e below _ (T106.setTop (mkF m 64 #[.val (.ref a), .val (.ref r), .val (.ref w2)] [(.ref a)]))
  refine own_st (fun u_ k_ => XS.aloadN X106.here hx rfl (hb hby own_d_prog_4_2_64) rfl rfl k_) ?_
  show own_Go p e below _ (T106.setTop (mkF m 65 #[.val (.ref a), .val (.ref r), .val (.ref w2)] [(.ref a), (.ref a)]))
  have F108 : Fld Z h106 a "com/example/gridwright/gridwright/AnnealSummary" "movesMax" "J" (.long mx) := (Fld.other W106 (Fld.other W96 G2 (Or.inr (slot_ne (Or.inl (hw _ (List.mem_of_getElem? (i := 111) rfl))) (Or.inl (hw _ (List.mem_of_getElem? (i := 102) rfl))) own_lm_141 (t := .long) (t' := .long) own_lm_53 own_lm_53))) (Or.inr (slot_ne (Or.inl (hw _ (List.mem_of_getElem? (i := 111) rfl))) (Or.inl (hw _ (List.mem_of_getElem? (i := 104) rfl))) own_lm_142 (t := .long) (t' := .long) own_lm_53 own_lm_53)))
  obtain ⟨T109, X109, e109, st109⟩ := getF X106 hx hZ hown (host := "") (Or.inl (hw _ (List.mem_of_getElem? (i := 110) rfl))) Via.refl e106 F108 (g := (mkF m 65 #[.val (.ref a), .val (.ref r), .val (.ref w2)] [(.ref a), (.ref a)])) rfl rfl (hb hby own_d_prog_4_2_65)
  refine own_st (fun u_ k_ => st109 u_ k_) ?_
  show own_Go p e below _ (T109.setTop (mkF m 68 #[.val (.ref a), .val (.ref r), .val (.ref w2)] [(.long mx), (.ref a)]))
  refine own_st (fun u_ k_ => XS.aloadN X109.here hx rfl (hb hby own_d_prog_4_2_68) rfl rfl k_) ?_
  show own_Go p e below _ (T109.setTop (mkF m 69 #[.val (.ref a), .val (.ref r), .val (.ref w2)] [(.ref r), (.long mx), (.ref a)]))
  have F110 : Fld Z h106 r "com/example/gridwright/gridwright/AnnealResult" "moves" "J" (.long mv) := (Fld.other W106 F103 (Or.inl ne102))
  have O112 : Old Z n0 h106 := O105.wr W106 ga
  have F113 : Exa Z h106 r "com/example/gridwright/gridwright/AnnealResult" := (Exa.wr W106 F100)
  obtain ⟨T111, v111, L111, X111, hQ111, st111⟩ := own_callV X109 hx hZ (y := (⟨"com/example/gridwright/gridwright/AnnealResult", "moves", "()J"⟩ : MethodName)) (z := (⟨"com/example/gridwright/gridwright/AnnealResult", "moves", "()J"⟩ : MethodName)) hown (hw _ (List.mem_of_getElem? (i := 105) rfl)) (hw _ (List.mem_of_getElem? (i := 106) rfl)) (notFace_of_selects (args := #[]) (mvT hZ (hw _ (List.mem_of_getElem? (i := 108) rfl)))) (hw _ (List.mem_of_getElem? (i := 108) rfl)) (hw _ (List.mem_of_getElem? (i := 107) rfl)) (hw _ (List.mem_of_getElem? (i := 39) rfl)) (hw _ (List.mem_of_getElem? (i := 109) rfl)) own_lm_70 (rm5 l Z a0 hw [] w0 w1 w2 wm km hS r mv h106 n0 O112 F110) e109 F113 own_pd_135 (argsL := []) (rest := [(.long mx), (.ref a)]) rfl rfl (g := (mkF m 69 #[.val (.ref a), .val (.ref r), .val (.ref w2)] [(.ref r), (.long mx), (.ref a)])) rfl (by rw [hml]; rfl) rfl (hb hby own_d_prog_4_2_69) (W := 3) rfl (by decide) (by decide) (by decide) (by decide)
  obtain ⟨rfl, M111, e111⟩ := hQ111
  have N111 := Fr.app N106 M111
  refine own_st (fun u_ k_ => st111 u_ k_) ?_
  show own_Go p e below _ (T111.setTop (mkF m 72 #[.val (.ref a), .val (.ref r), .val (.ref w2)] [(.long mv), (.long mx), (.ref a)]))
  obtain ⟨T114, v114, L114, X114, hQ114, st114⟩ := own_callS X111 hx hZ (y := (⟨"java/lang/Math", "max", "(JJ)J"⟩ : MethodName)) hown (hw _ (List.mem_of_getElem? (i := 112) rfl)) (hw _ (List.mem_of_getElem? (i := 113) rfl)) (hw _ (List.mem_of_getElem? (i := 114) rfl)) (hw _ (List.mem_of_getElem? (i := 115) rfl)) own_lm_146 (rm7 l Z a0 hw [] w0 w1 w2 wm km hS mx mv h106 n0 O112 ) e111 own_pd_147 (argsL := [(.long mx), (.long mv)]) (rest := [(.ref a)]) rfl rfl (g := (mkF m 72 #[.val (.ref a), .val (.ref r), .val (.ref w2)] [(.long mv), (.long mx), (.ref a)])) rfl (by rw [hml]; rfl) rfl (hb hby own_d_prog_4_2_72) (W := 1) rfl (by decide) (by decide) (by decide) (by decide)
  obtain ⟨z_115, rfl, M114, e114⟩ := hQ114
  have N114 := Fr.app N111 M114
  refine own_st (fun u_ k_ => st114 u_ k_) ?_
  show own_Go p e below _ (T114.setTop (mkF m 75 #[.val (.ref a), .val (.ref r), .val (.ref w2)] [(.long z_115), (.ref a)]))
  have F116 : Exa Z h106 a "com/example/gridwright/gridwright/AnnealSummary" := (Exa.wr W106 F101)
  obtain ⟨T117, h117, X117, e117, W117, st117⟩ := putF X114 hx hZ hown (host := "") (Or.inl (hw _ (List.mem_of_getElem? (i := 110) rfl))) Via.refl e114 F108 F116 (Or.inl (hw _ (List.mem_of_getElem? (i := 111) rfl))) (hw _ (List.mem_of_getElem? (i := 1) rfl)) (ty := .long) own_lm_53 rfl rfl (g := (mkF m 75 #[.val (.ref a), .val (.ref r), .val (.ref w2)] [(.long z_115), (.ref a)])) rfl rfl (hb hby own_d_prog_4_2_75)
  have N117 := Fr.snoc X117 N114 ga
  have F118 : Fld Z h117 a "com/example/gridwright/gridwright/AnnealSummary" "movesMax" "J" (.long z_115) := Fld.same W117 F108
  refine own_st (fun u_ k_ => st117 u_ k_) ?_
  show own_Go p e below _ (T117.setTop (mkF m 78 #[.val (.ref a), .val (.ref r), .val (.ref w2)] []))
  refine own_st (fun u_ k_ => XS.goto X117.here hx rfl (pc0 := 78) (pc' := 124) rfl (hb hby own_d_prog_4_2_78) (by decide) (by decide) k_) ?_
  show own_Go p e below _ (T117.setTop (mkF m 124 #[.val (.ref a), .val (.ref r), .val (.ref w2)] []))
  have K119 : Keep h0 h96 [a] := (Keep.refl h0 [a]).wr W96 (Or.inl (List.mem_of_getElem? (i := 0) rfl))
  have K120 : Keep h0 h106 [a] := K119.wr W106 (Or.inl (List.mem_of_getElem? (i := 0) rfl))
  have K121 : Keep h0 h117 [a] := K120.wr W117 (Or.inl (List.mem_of_getElem? (i := 0) rfl))
  have F122 : Exa Z h117 a "com/example/gridwright/gridwright/AnnealSummary" := (Exa.wr W117 F116)
  have F123 : Fld Z h117 a "com/example/gridwright/gridwright/AnnealSummary" "solved" "J" (.long (sv + (1 : Int64))) := (Fld.other W117 (Fld.other W106 F97 (Or.inr (slot_ne (Or.inl (hw _ (List.mem_of_getElem? (i := 102) rfl))) (Or.inl (hw _ (List.mem_of_getElem? (i := 104) rfl))) own_lm_151 (t := .long) (t' := .long) own_lm_53 own_lm_53))) (Or.inr (slot_ne (Or.inl (hw _ (List.mem_of_getElem? (i := 102) rfl))) (Or.inl (hw _ (List.mem_of_getElem? (i := 111) rfl))) own_lm_152 (t := .long) (t' := .long) own_lm_53 own_lm_53)))
  have F124 : Fld Z h117 a "com/example/gridwright/gridwright/AnnealSummary" "movesTotal" "J" (.long (tv + mv)) := (Fld.other W117 F107 (Or.inr (slot_ne (Or.inl (hw _ (List.mem_of_getElem? (i := 104) rfl))) (Or.inl (hw _ (List.mem_of_getElem? (i := 111) rfl))) own_lm_153 (t := .long) (t' := .long) own_lm_53 own_lm_53)))
  have F125 : Fld Z h117 a "com/example/gridwright/gridwright/AnnealSummary" "unsolved" "J" (.long u) := (Fld.other W117 (Fld.other W106 (Fld.other W96 G3 (Or.inr (slot_ne (Or.inl (hw _ (List.mem_of_getElem? (i := 29) rfl))) (Or.inl (hw _ (List.mem_of_getElem? (i := 102) rfl))) own_lm_154 (t := .long) (t' := .long) own_lm_53 own_lm_53))) (Or.inr (slot_ne (Or.inl (hw _ (List.mem_of_getElem? (i := 29) rfl))) (Or.inl (hw _ (List.mem_of_getElem? (i := 104) rfl))) own_lm_155 (t := .long) (t' := .long) own_lm_53 own_lm_53))) (Or.inr (slot_ne (Or.inl (hw _ (List.mem_of_getElem? (i := 29) rfl))) (Or.inl (hw _ (List.mem_of_getElem? (i := 111) rfl))) own_lm_156 (t := .long) (t' := .long) own_lm_53 own_lm_53)))
  have F126 : Fld Z h117 a "com/example/gridwright/gridwright/AnnealSummary" "unsolvable" "J" (.long x) := (Fld.other W117 (Fld.other W106 (Fld.other W96 G4 (Or.inr (slot_ne (Or.inl (hw _ (List.mem_of_getElem? (i := 31) rfl))) (Or.inl (hw _ (List.mem_of_getElem? (i := 102) rfl))) own_lm_157 (t := .long) (t' := .long) own_lm_53 own_lm_53))) (Or.inr (slot_ne (Or.inl (hw _ (List.mem_of_getElem? (i := 31) rfl))) (Or.inl (hw _ (List.mem_of_getElem? (i := 104) rfl))) own_lm_158 (t := .long) (t' := .long) own_lm_53 own_lm_53))) (Or.inr (slot_ne (Or.inl (hw _ (List.mem_of_getElem? (i := 31) rfl))) (Or.inl (hw _ (List.mem_of_getElem? (i := 111) rfl))) own_lm_159 (t := .long) (t' := .long) own_lm_53 own_lm_53)))
  have F127 : Fld Z h117 a "com/example/gridwright/gridwright/AnnealSummary" "invalid" "J" (.long iv) := (Fld.other W117 (Fld.other W106 (Fld.other W96 G5 (Or.inr (slot_ne (Or.inl (hw _ (List.mem_of_getElem? (i := 122) rfl))) (Or.inl (hw _ (List.mem_of_getElem? (i := 102) rfl))) own_lm_160 (t := .long) (t' := .long) own_lm_53 own_lm_53))) (Or.inr (slot_ne (Or.inl (hw _ (List.mem_of_getElem? (i := 122) rfl))) (Or.inl (hw _ (List.mem_of_getElem? (i := 104) rfl))) own_lm_161 (t := .long) (t' := .long) own_lm_53 own_lm_53))) (Or.inr (slot_ne (Or.inl (hw _ (List.mem_of_getElem? (i := 122) rfl))) (Or.inl (hw _ (List.mem_of_getElem? (i := 111) rfl))) own_lm_162 (t := .long) (t' := .long) own_lm_53 own_lm_53)))
  exact own_retV X117 hx hlk hret (hb hby own_d_prog_4_2_124) (by decide) (by decide) (show Qrm9 Z w0 w1 w2 wm km a r mv sv tv mx u x iv h0 n0 none T117.heap _ from (by rw [e117]; exact ⟨(sv + (1 : Int64)), (tv + mv), z_115, rfl, N117, K121, F122, F123, F124, F118, F125, F126, F127⟩))
theorem own_d_prog_4_2_81 : decode prog_4_method_2_code 81 = .ok (.aload_n 0, 1) := by decide +kernel
theorem own_d_prog_4_2_82 : decode prog_4_method_2_code 82 = .ok (.dup, 1) := by decide +kernel
theorem own_d_prog_4_2_83 : decode prog_4_method_2_code 83 = .ok (.getfield 47, 3) := by decide +kernel
theorem own_d_prog_4_2_86 : decode prog_4_method_2_code 86 = .ok (.lconst 1, 1) := by decide +kernel
theorem own_d_prog_4_2_87 : decode prog_4_method_2_code 87 = .ok (.ladd, 1) := by decide +kernel
theorem own_d_prog_4_2_88 : decode prog_4_method_2_code 88 = .ok (.putfield 47, 3) := by decide +kernel
theorem own_d_prog_4_2_91 : decode prog_4_method_2_code 91 = .ok (.goto 33, 3) := by decide +kernel
theorem own_lm_170 : ("solved" : String) ≠ "unsolved" := by decide +kernel
theorem own_lm_171 : ("movesTotal" : String) ≠ "unsolved" := by decide +kernel
theorem own_lm_172 : ("movesMax" : String) ≠ "unsolved" := by decide +kernel
theorem own_lm_173 : ("unsolvable" : String) ≠ "unsolved" := by decide +kernel
theorem own_lm_174 : ("invalid" : String) ≠ "unsolved" := by decide +kernel
theorem own_ef_rm10 (m : MethodId) (a : Addr) (r : Addr)  : entryFrame m #[(.ref a), (.ref r)] 3 = mkF m 0 #[.val (.ref a), .val (.ref r), .unset] [] := by first | (simp [entryFrame, mkF, argsToLocals, Value.category, maxLocals]; done) | rfl
def Qrm10 (Z : State) (w0 : Addr) (w1 : Addr) (w2 : Addr) (wm : Addr) (km : ClassId) (a : Addr) (r : Addr) (mv : Int64) (sv : Int64) (tv : Int64) (mx : Int64) (u : Int64) (x : Int64) (iv : Int64) (h0 : Heap) (n0 : Nat) (v : Option Value) (h : Heap) (L : List Loc) : Prop := ∃ s2 : Int64, ∃ t2 : Int64, ∃ m2 : Int64, v = none ∧ Fr n0 L ∧ Keep h0 h [a] ∧ Exa Z h a "com/example/gridwright/gridwright/AnnealSummary" ∧ Fld Z h a "com/example/gridwright/gridwright/AnnealSummary" "solved" "J" (.long s2) ∧ Fld Z h a "com/example/gridwright/gridwright/AnnealSummary" "movesTotal" "J" (.long t2) ∧ Fld Z h a "com/example/gridwright/gridwright/AnnealSummary" "movesMax" "J" (.long m2) ∧ Fld Z h a "com/example/gridwright/gridwright/AnnealSummary" "unsolved" "J" (.long (u + (1 : Int64))) ∧ Fld Z h a "com/example/gridwright/gridwright/AnnealSummary" "unsolvable" "J" (.long x) ∧ Fld Z h a "com/example/gridwright/gridwright/AnnealSummary" "invalid" "J" (.long iv)
set_option maxRecDepth 65536 in
set_option maxHeartbeats 40000000 in
theorem rm10 (l : Launch) (Z : State) (a0 : Array Value) (hw : ∀ d ∈ tables_1, d.before a0 Z = true) (ws : List Jvm.Cond) (w0 : Addr) (w1 : Addr) (w2 : Addr) (wm : Addr) (km : ClassId) (hS : own_S Z w0 w1 w2 wm km) (a : Addr) (r : Addr) (mv : Int64) (sv : Int64) (tv : Int64) (mx : Int64) (u : Int64) (x : Int64) (iv : Int64) (h0 : Heap) (n0 : Nat) (O0 : Old Z n0 h0) (E : Exa Z h0 a "com/example/gridwright/gridwright/AnnealSummary") (Er : Exa Z h0 r "com/example/gridwright/gridwright/AnnealResult") (ga : n0 ≤ a) (Fo : Fld Z h0 r "com/example/gridwright/gridwright/AnnealResult" "outcome" "Lcom/example/gridwright/gridwright/AnnealOutcome;" (.ref w1)) (Fm : Fld Z h0 r "com/example/gridwright/gridwright/AnnealResult" "moves" "J" (.long mv)) (G0 : Fld Z h0 a "com/example/gridwright/gridwright/AnnealSummary" "solved" "J" (.long sv)) (G1 : Fld Z h0 a "com/example/gridwright/gridwright/AnnealSummary" "movesTotal" "J" (.long tv)) (G2 : Fld Z h0 a "com/example/gridwright/gridwright/AnnealSummary" "movesMax" "J" (.long mx)) (G3 : Fld Z h0 a "com/example/gridwright/gridwright/AnnealSummary" "unsolved" "J" (.long u)) (G4 : Fld Z h0 a "com/example/gridwright/gridwright/AnnealSummary" "unsolvable" "J" (.long x)) (G5 : Fld Z h0 a "com/example/gridwright/gridwright/AnnealSummary" "invalid" "J" (.long iv)) :
    own_Met l (⟨"com/example/gridwright/gridwright/AnnealSummary", "add", "(Lcom/example/gridwright/gridwright/AnnealResult;)V"⟩ : MethodName) prog_4_method_2_code 3 none ws ({ frames := 1, cells := 0, slots := 0, locals := 13 } : Room) Z h0 #[(.ref a), (.ref r)] (Qrm10 Z w0 w1 w2 wm km a r mv sv tv mx u x iv h0 n0) := by
  refine own_body (plainFor_of_name own_pn_3) ?_
  intro p e s m below meth c s₁ hx hby hml hown hnm hret hlk hZ e0 X0
  have N0 := Fr.nil n0
  refine own_st (fun u_ k_ => castTop (own_ef_rm10 m a r) k_) ?_
  show own_Go p e below _ (s₁.setTop (mkF m 0 #[.val (.ref a), .val (.ref r), .unset] []))
  refine own_st (fun u_ k_ => XS.aloadN X0.here hx rfl (hb hby own_d_prog_4_2_0) rfl rfl k_) ?_
  show own_Go p e below _ (s₁.setTop (mkF m 1 #[.val (.ref a), .val (.ref r), .unset] [(.ref r)]))
  obtain ⟨T128, v128, L128, X128, hQ128, st128⟩ := own_callV X0 hx hZ (y := (⟨"com/example/gridwright/gridwright/AnnealResult", "outcome", "()Lcom/example/gridwright/gridwright/AnnealOutcome;"⟩ : MethodName)) (z := (⟨"com/example/gridwright/gridwright/AnnealResult", "outcome", "()Lcom/example/gridwright/gridwright/AnnealOutcome;"⟩ : MethodName)) hown (hw _ (List.mem_of_getElem? (i := 61) rfl)) (hw _ (List.mem_of_getElem? (i := 62) rfl)) (notFace_of_selects (args := #[]) (mvT hZ (hw _ (List.mem_of_getElem? (i := 64) rfl)))) (hw _ (List.mem_of_getElem? (i := 64) rfl)) (hw _ (List.mem_of_getElem? (i := 63) rfl)) (hw _ (List.mem_of_getElem? (i := 39) rfl)) (hw _ (List.mem_of_getElem? (i := 65) rfl)) own_lm_70 (rm4 l Z a0 hw [] w0 w1 w2 wm km hS r w1 h0 n0 O0 Fo) e0 Er own_pd_113 (argsL := []) (rest := []) rfl rfl (g := (mkF m 1 #[.val (.ref a), .val (.ref r), .unset] [(.ref r)])) rfl (by rw [hml]; rfl) rfl (hb hby own_d_prog_4_2_1) (W := 0) rfl (by decide) (by decide) (by decide) (by decide)
  obtain ⟨rfl, M128, e128⟩ := hQ128
  have N128 := Fr.app N0 M128
  refine own_st (fun u_ k_ => st128 u_ k_) ?_
  show own_Go p e below _ (T128.setTop (mkF m 4 #[.val (.ref a), .val (.ref r), .unset] [(.ref w1)]))
  refine own_st (fun u_ k_ => XS.astoreN X128.here hx rfl (hb hby own_d_prog_4_2_4) rfl rfl (l' := #[.val (.ref a), .val (.ref r), .val (.ref w1)]) rfl k_) ?_
  show own_Go p e below _ (T128.setTop (mkF m 5 #[.val (.ref a), .val (.ref r), .val (.ref w1)] []))
  have F129 : Sta Z h0 "com/example/gridwright/gridwright/AnnealSummary$1" "$SwitchMap$com$example$gridwright$gridwright$AnnealOutcome" "[I" (.ref wm) := Sta.ext O0.2 hS.2.2.2.2.2.2.2.2.2.1
  obtain ⟨T130, X130, e130, st130⟩ := getS2 X128 hx hZ hown (host := "") (Or.inl (hw _ (List.mem_of_getElem? (i := 66) rfl))) Via.refl e128 F129 (g := (mkF m 5 #[.val (.ref a), .val (.ref r), .val (.ref w1)] [])) rfl (hb hby own_d_prog_4_2_5)
  refine own_st (fun u_ k_ => st130 u_ k_) ?_
  show own_Go p e below _ (T130.setTop (mkF m 8 #[.val (.ref a), .val (.ref r), .val (.ref w1)] [(.ref wm)]))
  refine own_st (fun u_ k_ => XS.aloadN X130.here hx rfl (hb hby own_d_prog_4_2_8) rfl rfl k_) ?_
  show own_Go p e below _ (T130.setTop (mkF m 9 #[.val (.ref a), .val (.ref r), .val (.ref w1)] [(.ref w1), (.ref wm)]))
  have F131 : Fld Z h0 w1 "java/lang/Enum" "ordinal" "I" (.int (1 : Int32)) := Fld.ext O0.2 hS.2.2.2.2.2.1
  have F133 : Exa Z h0 w1 "com/example/gridwright/gridwright/AnnealOutcome" := Exa.ext O0.2 hS.2.2.2.2.1
  obtain ⟨T132, v132, L132, X132, hQ132, st132⟩ := own_callU X130 hx hZ (y := (⟨"com/example/gridwright/gridwright/AnnealOutcome", "ordinal", "()I"⟩ : MethodName)) (z := (⟨"java/lang/Enum", "ordinal", "()I"⟩ : MethodName)) hown (hw _ (List.mem_of_getElem? (i := 69) rfl)) (hw _ (List.mem_of_getElem? (i := 70) rfl)) (hw _ (List.mem_of_getElem? (i := 71) rfl)) (hw _ (List.mem_of_getElem? (i := 73) rfl)) (hw _ (List.mem_of_getElem? (i := 72) rfl)) (hw _ (List.mem_of_getElem? (i := 74) rfl)) (hw _ (List.mem_of_getElem? (i := 75) rfl)) own_lm_118 (rm6 l Z a0 hw [] w0 w1 w2 wm km hS w1 (1 : Int32) h0 n0 O0 F131) e130 F133 own_pd_119 (argsL := []) (rest := [(.ref wm)]) rfl rfl (g := (mkF m 9 #[.val (.ref a), .val (.ref r), .val (.ref w1)] [(.ref w1), (.ref wm)])) rfl (by rw [hml]; rfl) rfl (hb hby own_d_prog_4_2_9) (W := 1) rfl (by decide) (by decide) (by decide) (by decide)
  obtain ⟨rfl, M132, e132⟩ := hQ132
  have N132 := Fr.app N128 M132
  refine own_st (fun u_ k_ => st132 u_ k_) ?_
  show own_Go p e below _ (T132.setTop (mkF m 12 #[.val (.ref a), .val (.ref r), .val (.ref w1)] [(.int (1 : Int32)), (.ref wm)]))
  have F134 : Arv Z h0 wm km .int (3 : Int32) [(.int (1 : Int32)), (.int (2 : Int32)), (.int (3 : Int32))] (.int (0 : Int32)) := Arv.ext hS.2.2.2.2.2.2.2.2.2.2 O0.2
  obtain ⟨cl135, Ar135, q135, S135, N135, H135, G135⟩ := id F134
  have hi135 : ¬ ((1 : Int32) < 0 ∨ cl135.slots.size ≤ ((1 : Int32)).toNatClampNeg) := inb_of S135 ⟨by decide, by decide⟩
  have ha135 : cl135.slots[((1 : Int32)).toNatClampNeg]? = some (.int (2 : Int32)) := H135.at hi135 rfl
  refine own_st (X132.iaload hx (j := (1 : Int32)) (v := (.int (2 : Int32))) (by rw [e132]; exact Ar135.1) (State.isArrayOf_alike hZ.alike Ar135.2.1) Ar135.2.2 hi135 ha135 (g := (mkF m 12 #[.val (.ref a), .val (.ref r), .val (.ref w1)] [(.int (1 : Int32)), (.ref wm)])) rfl rfl (hb hby own_d_prog_4_2_12)) ?_
  show own_Go p e below _ (T132.setTop (mkF m 13 #[.val (.ref a), .val (.ref r), .val (.ref w1)] [(.int (2 : Int32))]))
  refine own_st (fun u_ k_ => XS.tswIn X132.here hx rfl (pc0 := 13) (pc' := 81) (o := 68) rfl (hb hby own_d_prog_4_2_13) rfl (by decide) (by decide) (by decide) (by decide) k_) ?_
  show own_Go p e below _ (T132.setTop (mkF m 81 #[.val (.ref a), .val (.ref r), .val (.ref w1)] []))
  refine own_st (fun u_ k_ => XS.aloadN X132.here hx rfl (hb hby own_d_prog_4_2_81) rfl rfl k_) ?_
  show own_Go p e below _ (T132.setTop (mkF m 82 #[.val (.ref a), .val (.ref r), .val (.ref w1)] [(.ref a)]))
  refine own_st (fun u_ k_ => XS.dup X132.here hx rfl (hb hby own_d_prog_4_2_82) rfl rfl k_) ?_
  show own_Go p e below _ (T132.setTop (mkF m 83 #[.val (.ref a), .val (.ref r), .val (.ref w1)] [(.ref a), (.ref a)]))
  obtain ⟨T136, X136, e136, st136⟩ := getF X132 hx hZ hown (host := "") (Or.inl (hw _ (List.mem_of_getElem? (i := 28) rfl))) Via.refl e132 G3 (g := (mkF m 83 #[.val (.ref a), .val (.ref r), .val (.ref w1)] [(.ref a), (.ref a)])) rfl rfl (hb hby own_d_prog_4_2_83)
  refine own_st (fun u_ k_ => st136 u_ k_) ?_
  show own_Go p e below _ (T136.setTop (mkF m 86 #[.val (.ref a), .val (.ref r), .val (.ref w1)] [(.long u), (.ref a)]))
  refine own_st (fun u_ k_ => XS.lconst X136.here hx rfl (hb hby own_d_prog_4_2_86) k_) ?_
  show own_Go p e below _ (T136.setTop (mkF m 87 #[.val (.ref a), .val (.ref r), .val (.ref w1)] [(.long (1 : Int64)), (.long u), (.ref a)]))
  refine own_st (fun u_ k_ => XS.ladd X136.here hx rfl (hb hby own_d_prog_4_2_87) rfl k_) ?_
  show own_Go p e below _ (T136.setTop (mkF m 88 #[.val (.ref a), .val (.ref r), .val (.ref w1)] [(.long (u + (1 : Int64))), (.ref a)]))
  obtain ⟨T137, h137, X137, e137, W137, st137⟩ := putF X136 hx hZ hown (host := "") (Or.inl (hw _ (List.mem_of_getElem? (i := 28) rfl))) Via.refl e136 G3 E (Or.inl (hw _ (List.mem_of_getElem? (i := 29) rfl))) (hw _ (List.mem_of_getElem? (i := 1) rfl)) (ty := .long) own_lm_53 rfl rfl (g := (mkF m 88 #[.val (.ref a), .val (.ref r), .val (.ref w1)] [(.long (u + (1 : Int64))), (.ref a)])) rfl rfl (hb hby own_d_prog_4_2_88)
  have N137 := Fr.snoc X137 N132 ga
  have F138 : Fld Z h137 a "com/example/gridwright/gridwright/AnnealSummary" "unsolved" "J" (.long (u + (1 : Int64))) := Fld.same W137 G3
  refine own_st (fun u_ k_ => st137 u_ k_) ?_
  show own_Go p e below _ (T137.setTop (mkF m 91 #[.val (.ref a), .val (.ref r), .val (.ref w1)] []))
  refine own_st (fun u_ k_ => XS.goto X137.here hx rfl (pc0 := 91) (pc' := 124) rfl (hb hby own_d_prog_4_2_91) (by decide) (by decide) k_) ?_
  show own_Go p e below _ (T137.setTop (mkF m 124 #[.val (.ref a), .val (.ref r), .val (.ref w1)] []))
  have K139 : Keep h0 h137 [a] := (Keep.refl h0 [a]).wr W137 (Or.inl (List.mem_of_getElem? (i := 0) rfl))
  have F140 : Exa Z h137 a "com/example/gridwright/gridwright/AnnealSummary" := (Exa.wr W137 E)
  have F141 : Fld Z h137 a "com/example/gridwright/gridwright/AnnealSummary" "solved" "J" (.long sv) := (Fld.other W137 G0 (Or.inr (slot_ne (Or.inl (hw _ (List.mem_of_getElem? (i := 102) rfl))) (Or.inl (hw _ (List.mem_of_getElem? (i := 29) rfl))) own_lm_170 (t := .long) (t' := .long) own_lm_53 own_lm_53)))
  have F142 : Fld Z h137 a "com/example/gridwright/gridwright/AnnealSummary" "movesTotal" "J" (.long tv) := (Fld.other W137 G1 (Or.inr (slot_ne (Or.inl (hw _ (List.mem_of_getElem? (i := 104) rfl))) (Or.inl (hw _ (List.mem_of_getElem? (i := 29) rfl))) own_lm_171 (t := .long) (t' := .long) own_lm_53 own_lm_53)))
  have F143 : Fld Z h137 a "com/example/gridwright/gridwright/AnnealSummary" "movesMax" "J" (.long mx) := (Fld.other W137 G2 (Or.inr (slot_ne (Or.inl (hw _ (List.mem_of_getElem? (i := 111) rfl))) (Or.inl (hw _ (List.mem_of_getElem? (i := 29) rfl))) own_lm_172 (t := .long) (t' := .long) own_lm_53 own_lm_53)))
  have F144 : Fld Z h137 a "com/example/gridwright/gridwright/AnnealSummary" "unsolvable" "J" (.long x) := (Fld.other W137 G4 (Or.inr (slot_ne (Or.inl (hw _ (List.mem_of_getElem? (i := 31) rfl))) (Or.inl (hw _ (List.mem_of_getElem? (i := 29) rfl))) own_lm_173 (t := .long) (t' := .long) own_lm_53 own_lm_53)))
  have F145 : Fld Z h137 a "com/example/gridwright/gridwright/AnnealSummary" "invalid" "J" (.long iv) := (Fld.other W137 G5 (Or.inr (slot_ne (Or.inl (hw _ (List.mem_of_getElem? (i := 122) rfl))) (Or.inl (hw _ (List.mem_of_getElem? (i := 29) rfl))) own_lm_174 (t := .long) (t' := .long) own_lm_53 own_lm_53)))
  exact own_retV X137 hx hlk hret (hb hby own_d_prog_4_2_124) (by decide) (by decide) (show Qrm10 Z w0 w1 w2 wm km a r mv sv tv mx u x iv h0 n0 none T137.heap _ from (by rw [e137]; exact ⟨sv, tv, mx, rfl, N137, K139, F140, F141, F142, F143, F138, F144, F145⟩))
theorem own_d_prog_4_2_94 : decode prog_4_method_2_code 94 = .ok (.aload_n 0, 1) := by decide +kernel
theorem own_d_prog_4_2_95 : decode prog_4_method_2_code 95 = .ok (.dup, 1) := by decide +kernel
theorem own_d_prog_4_2_96 : decode prog_4_method_2_code 96 = .ok (.getfield 50, 3) := by decide +kernel
theorem own_d_prog_4_2_99 : decode prog_4_method_2_code 99 = .ok (.lconst 1, 1) := by decide +kernel
theorem own_d_prog_4_2_100 : decode prog_4_method_2_code 100 = .ok (.ladd, 1) := by decide +kernel
theorem own_d_prog_4_2_101 : decode prog_4_method_2_code 101 = .ok (.putfield 50, 3) := by decide +kernel
theorem own_d_prog_4_2_104 : decode prog_4_method_2_code 104 = .ok (.goto 20, 3) := by decide +kernel
theorem own_lm_182 : ("solved" : String) ≠ "unsolvable" := by decide +kernel
theorem own_lm_183 : ("movesTotal" : String) ≠ "unsolvable" := by decide +kernel
theorem own_lm_184 : ("movesMax" : String) ≠ "unsolvable" := by decide +kernel
theorem own_lm_185 : ("unsolved" : String) ≠ "unsolvable" := by decide +kernel
theorem own_lm_186 : ("invalid" : String) ≠ "unsolvable" := by decide +kernel
theorem own_ef_rm11 (m : MethodId) (a : Addr) (r : Addr)  : entryFrame m #[(.ref a), (.ref r)] 3 = mkF m 0 #[.val (.ref a), .val (.ref r), .unset] [] := by first | (simp [entryFrame, mkF, argsToLocals, Value.category, maxLocals]; done) | rfl
def Qrm11 (Z : State) (w0 : Addr) (w1 : Addr) (w2 : Addr) (wm : Addr) (km : ClassId) (a : Addr) (r : Addr) (mv : Int64) (sv : Int64) (tv : Int64) (mx : Int64) (u : Int64) (x : Int64) (iv : Int64) (h0 : Heap) (n0 : Nat) (v : Option Value) (h : Heap) (L : List Loc) : Prop := ∃ s2 : Int64, ∃ t2 : Int64, ∃ m2 : Int64, v = none ∧ Fr n0 L ∧ Keep h0 h [a] ∧ Exa Z h a "com/example/gridwright/gridwright/AnnealSummary" ∧ Fld Z h a "com/example/gridwright/gridwright/AnnealSummary" "solved" "J" (.long s2) ∧ Fld Z h a "com/example/gridwright/gridwright/AnnealSummary" "movesTotal" "J" (.long t2) ∧ Fld Z h a "com/example/gridwright/gridwright/AnnealSummary" "movesMax" "J" (.long m2) ∧ Fld Z h a "com/example/gridwright/gridwright/AnnealSummary" "unsolved" "J" (.long u) ∧ Fld Z h a "com/example/gridwright/gridwright/AnnealSummary" "unsolvable" "J" (.long (x + (1 : Int64))) ∧ Fld Z h a "com/example/gridwright/gridwright/AnnealSummary" "invalid" "J" (.long iv)
set_option maxRecDepth 65536 in
set_option maxHeartbeats 40000000 in
theorem rm11 (l : Launch) (Z : State) (a0 : Array Value) (hw : ∀ d ∈ tables_1, d.before a0 Z = true) (ws : List Jvm.Cond) (w0 : Addr) (w1 : Addr) (w2 : Addr) (wm : Addr) (km : ClassId) (hS : own_S Z w0 w1 w2 wm km) (a : Addr) (r : Addr) (mv : Int64) (sv : Int64) (tv : Int64) (mx : Int64) (u : Int64) (x : Int64) (iv : Int64) (h0 : Heap) (n0 : Nat) (O0 : Old Z n0 h0) (E : Exa Z h0 a "com/example/gridwright/gridwright/AnnealSummary") (Er : Exa Z h0 r "com/example/gridwright/gridwright/AnnealResult") (ga : n0 ≤ a) (Fo : Fld Z h0 r "com/example/gridwright/gridwright/AnnealResult" "outcome" "Lcom/example/gridwright/gridwright/AnnealOutcome;" (.ref w0)) (Fm : Fld Z h0 r "com/example/gridwright/gridwright/AnnealResult" "moves" "J" (.long mv)) (G0 : Fld Z h0 a "com/example/gridwright/gridwright/AnnealSummary" "solved" "J" (.long sv)) (G1 : Fld Z h0 a "com/example/gridwright/gridwright/AnnealSummary" "movesTotal" "J" (.long tv)) (G2 : Fld Z h0 a "com/example/gridwright/gridwright/AnnealSummary" "movesMax" "J" (.long mx)) (G3 : Fld Z h0 a "com/example/gridwright/gridwright/AnnealSummary" "unsolved" "J" (.long u)) (G4 : Fld Z h0 a "com/example/gridwright/gridwright/AnnealSummary" "unsolvable" "J" (.long x)) (G5 : Fld Z h0 a "com/example/gridwright/gridwright/AnnealSummary" "invalid" "J" (.long iv)) :
    own_Met l (⟨"com/example/gridwright/gridwright/AnnealSummary", "add", "(Lcom/example/gridwright/gridwright/AnnealResult;)V"⟩ : MethodName) prog_4_method_2_code 3 none ws ({ frames := 1, cells := 0, slots := 0, locals := 13 } : Room) Z h0 #[(.ref a), (.ref r)] (Qrm11 Z w0 w1 w2 wm km a r mv sv tv mx u x iv h0 n0) := by
  refine own_body (plainFor_of_name own_pn_3) ?_
  intro p e s m below meth c s₁ hx hby hml hown hnm hret hlk hZ e0 X0
  have N0 := Fr.nil n0
  refine own_st (fun u_ k_ => castTop (own_ef_rm11 m a r) k_) ?_
  show own_Go p e below _ (s₁.setTop (mkF m 0 #[.val (.ref a), .val (.ref r), .unset] []))
  refine own_st (fun u_ k_ => XS.aloadN X0.here hx rfl (hb hby own_d_prog_4_2_0) rfl rfl k_) ?_
  show own_Go p e below _ (s₁.setTop (mkF m 1 #[.val (.ref a), .val (.ref r), .unset] [(.ref r)]))
  obtain ⟨T146, v146, L146, X146, hQ146, st146⟩ := own_callV X0 hx hZ (y := (⟨"com/example/gridwright/gridwright/AnnealResult", "outcome", "()Lcom/example/gridwright/gridwright/AnnealOutcome;"⟩ : MethodName)) (z := (⟨"com/example/gridwright/gridwright/AnnealResult", "outcome", "()Lcom/example/gridwright/gridwright/AnnealOutcome;"⟩ : MethodName)) hown (hw _ (List.mem_of_getElem? (i := 61) rfl)) (hw _ (List.mem_of_getElem? (i := 62) rfl)) (notFace_of_selects (args := #[]) (mvT hZ (hw _ (List.mem_of_getElem? (i := 64) rfl)))) (hw _ (List.mem_of_getElem? (i := 64) rfl)) (hw _ (List.mem_of_getElem? (i := 63) rfl)) (hw _ (List.mem_of_getElem? (i := 39) rfl)) (hw _ (List.mem_of_getElem? (i := 65) rfl)) own_lm_70 (rm4 l Z a0 hw [] w0 w1 w2 wm km hS r w0 h0 n0 O0 Fo) e0 Er own_pd_113 (argsL := []) (rest := []) rfl rfl (g := (mkF m 1 #[.val (.ref a), .val (.ref r), .unset] [(.ref r)])) rfl (by rw [hml]; rfl) rfl (hb hby own_d_prog_4_2_1) (W := 0) rfl (by decide) (by decide) (by decide) (by decide)
  obtain ⟨rfl, M146, e146⟩ := hQ146
  have N146 := Fr.app N0 M146
  refine own_st (fun u_ k_ => st146 u_ k_) ?_
  show own_Go p e below _ (T146.setTop (mkF m 4 #[.val (.ref a), .val (.ref r), .unset] [(.ref w0)]))
  refine own_st (fun u_ k_ => XS.astoreN X146.here hx rfl (hb hby own_d_prog_4_2_4) rfl rfl (l' := #[.val (.ref a), .val (.ref r), .val (.ref w0)]) rfl k_) ?_
  show own_Go p e below _ (T146.setTop (mkF m 5 #[.val (.ref a), .val (.ref r), .val (.ref w0)] []))
  have F147 : Sta Z h0 "com/example/gridwright/gridwright/AnnealSummary$1" "$SwitchMap$com$example$gridwright$gridwright$AnnealOutcome" "[I" (.ref wm) := Sta.ext O0.2 hS.2.2.2.2.2.2.2.2.2.1
  obtain ⟨T148, X148, e148, st148⟩ := getS2 X146 hx hZ hown (host := "") (Or.inl (hw _ (List.mem_of_getElem? (i := 66) rfl))) Via.refl e146 F147 (g := (mkF m 5 #[.val (.ref a), .val (.ref r), .val (.ref w0)] [])) rfl (hb hby own_d_prog_4_2_5)
  refine own_st (fun u_ k_ => st148 u_ k_) ?_
  show own_Go p e below _ (T148.setTop (mkF m 8 #[.val (.ref a), .val (.ref r), .val (.ref w0)] [(.ref wm)]))
  refine own_st (fun u_ k_ => XS.aloadN X148.here hx rfl (hb hby own_d_prog_4_2_8) rfl rfl k_) ?_
  show own_Go p e below _ (T148.setTop (mkF m 9 #[.val (.ref a), .val (.ref r), .val (.ref w0)] [(.ref w0), (.ref wm)]))
  have F149 : Fld Z h0 w0 "java/lang/Enum" "ordinal" "I" (.int (2 : Int32)) := Fld.ext O0.2 hS.2.2.1
  have F151 : Exa Z h0 w0 "com/example/gridwright/gridwright/AnnealOutcome" := Exa.ext O0.2 hS.2.1
  obtain ⟨T150, v150, L150, X150, hQ150, st150⟩ := own_callU X148 hx hZ (y := (⟨"com/example/gridwright/gridwright/AnnealOutcome", "ordinal", "()I"⟩ : MethodName)) (z := (⟨"java/lang/Enum", "ordinal", "()I"⟩ : MethodName)) hown (hw _ (List.mem_of_getElem? (i := 69) rfl)) (hw _ (List.mem_of_getElem? (i := 70) rfl)) (hw _ (List.mem_of_getElem? (i := 71) rfl)) (hw _ (List.mem_of_getElem? (i := 73) rfl)) (hw _ (List.mem_of_getElem? (i := 72) rfl)) (hw _ (List.mem_of_getElem? (i := 74) rfl)) (hw _ (List.mem_of_getElem? (i := 75) rfl)) own_lm_118 (rm6 l Z a0 hw [] w0 w1 w2 wm km hS w0 (2 : Int32) h0 n0 O0 F149) e148 F151 own_pd_119 (argsL := []) (rest := [(.ref wm)]) rfl rfl (g := (mkF m 9 #[.val (.ref a), .val (.ref r), .val (.ref w0)] [(.ref w0), (.ref wm)])) rfl (by rw [hml]; rfl) rfl (hb hby own_d_prog_4_2_9) (W := 1) rfl (by decide) (by decide) (by decide) (by decide)
  obtain ⟨rfl, M150, e150⟩ := hQ150
  have N150 := Fr.app N146 M150
  refine own_st (fun u_ k_ => st150 u_ k_) ?_
  show own_Go p e below _ (T150.setTop (mkF m 12 #[.val (.ref a), .val (.ref r), .val (.ref w0)] [(.int (2 : Int32)), (.ref wm)]))
  have F152 : Arv Z h0 wm km .int (3 : Int32) [(.int (1 : Int32)), (.int (2 : Int32)), (.int (3 : Int32))] (.int (0 : Int32)) := Arv.ext hS.2.2.2.2.2.2.2.2.2.2 O0.2
  obtain ⟨cl153, Ar153, q153, S153, N153, H153, G153⟩ := id F152
  have hi153 : ¬ ((2 : Int32) < 0 ∨ cl153.slots.size ≤ ((2 : Int32)).toNatClampNeg) := inb_of S153 ⟨by decide, by decide⟩
  have ha153 : cl153.slots[((2 : Int32)).toNatClampNeg]? = some (.int (3 : Int32)) := H153.at hi153 rfl
  refine own_st (X150.iaload hx (j := (2 : Int32)) (v := (.int (3 : Int32))) (by rw [e150]; exact Ar153.1) (State.isArrayOf_alike hZ.alike Ar153.2.1) Ar153.2.2 hi153 ha153 (g := (mkF m 12 #[.val (.ref a), .val (.ref r), .val (.ref w0)] [(.int (2 : Int32)), (.ref wm)])) rfl rfl (hb hby own_d_prog_4_2_12)) ?_
  show own_Go p e below _ (T150.setTop (mkF m 13 #[.val (.ref a), .val (.ref r), .val (.ref w0)] [(.int (3 : Int32))]))
  refine own_st (fun u_ k_ => XS.tswIn X150.here hx rfl (pc0 := 13) (pc' := 94) (o := 81) rfl (hb hby own_d_prog_4_2_13) rfl (by decide) (by decide) (by decide) (by decide) k_) ?_
  show own_Go p e below _ (T150.setTop (mkF m 94 #[.val (.ref a), .val (.ref r), .val (.ref w0)] []))
  refine own_st (fun u_ k_ => XS.aloadN X150.here hx rfl (hb hby own_d_prog_4_2_94) rfl rfl k_) ?_
  show own_Go p e below _ (T150.setTop (mkF m 95 #[.val (.ref a), .val (.ref r), .val (.ref w0)] [(.ref a)]))
  refine own_st (fun u_ k_ => XS.dup X150.here hx rfl (hb hby own_d_prog_4_2_95) rfl rfl k_) ?_
  show own_Go p e below _ (T150.setTop (mkF m 96 #[.val (.ref a), .val (.ref r), .val (.ref w0)] [(.ref a), (.ref a)]))
  obtain ⟨T154, X154, e154, st154⟩ := getF X150 hx hZ hown (host := "") (Or.inl (hw _ (List.mem_of_getElem? (i := 30) rfl))) Via.refl e150 G4 (g := (mkF m 96 #[.val (.ref a), .val (.ref r), .val (.ref w0)] [(.ref a), (.ref a)])) rfl rfl (hb hby own_d_prog_4_2_96)
  refine own_st (fun u_ k_ => st154 u_ k_) ?_
  show own_Go p e below _ (T154.setTop (mkF m 99 #[.val (.ref a), .val (.ref r), .val (.ref w0)] [(.long x), (.ref a)]))
  refine own_st (fun u_ k_ => XS.lconst X154.here hx rfl (hb hby own_d_prog_4_2_99) k_) ?_
  show own_Go p e below _ (T154.setTop (mkF m 100 #[.val (.ref a), .val (.ref r), .val (.ref w0)] [(.long (1 : Int64)), (.long x), (.ref a)]))
  refine own_st (fun u_ k_ => XS.ladd X154.here hx rfl (hb hby own_d_prog_4_2_100) rfl k_) ?_
  show own_Go p e below _ (T154.setTop (mkF m 101 #[.val (.ref a), .val (.ref r), .val (.ref w0)] [(.long (x + (1 : Int64))), (.ref a)]))
  obtain ⟨T155, h155, X155, e155, W155, st155⟩ := putF X154 hx hZ hown (host := "") (Or.inl (hw _ (List.mem_of_getElem? (i := 30) rfl))) Via.refl e154 G4 E (Or.inl (hw _ (List.mem_of_getElem? (i := 31) rfl))) (hw _ (List.mem_of_getElem? (i := 1) rfl)) (ty := .long) own_lm_53 rfl rfl (g := (mkF m 101 #[.val (.ref a), .val (.ref r), .val (.ref w0)] [(.long (x + (1 : Int64))), (.ref a)])) rfl rfl (hb hby own_d_prog_4_2_101)
  have N155 := Fr.snoc X155 N150 ga
  have F156 : Fld Z h155 a "com/example/gridwright/gridwright/AnnealSummary" "unsolvable" "J" (.long (x + (1 : Int64))) := Fld.same W155 G4
  refine own_st (fun u_ k_ => st155 u_ k_) ?_
  show own_Go p e below _ (T155.setTop (mkF m 104 #[.val (.ref a), .val (.ref r), .val (.ref w0)] []))
  refine own_st (fun u_ k_ => XS.goto X155.here hx rfl (pc0 := 104) (pc' := 124) rfl (hb hby own_d_prog_4_2_104) (by decide) (by decide) k_) ?_
  show own_Go p e below _ (T155.setTop (mkF m 124 #[.val (.ref a), .val (.ref r), .val (.ref w0)] []))
  have K157 : Keep h0 h155 [a] := (Keep.refl h0 [a]).wr W155 (Or.inl (List.mem_of_getElem? (i := 0) rfl))
  have F158 : Exa Z h155 a "com/example/gridwright/gridwright/AnnealSummary" := (Exa.wr W155 E)
  have F159 : Fld Z h155 a "com/example/gridwright/gridwright/AnnealSummary" "solved" "J" (.long sv) := (Fld.other W155 G0 (Or.inr (slot_ne (Or.inl (hw _ (List.mem_of_getElem? (i := 102) rfl))) (Or.inl (hw _ (List.mem_of_getElem? (i := 31) rfl))) own_lm_182 (t := .long) (t' := .long) own_lm_53 own_lm_53)))
  have F160 : Fld Z h155 a "com/example/gridwright/gridwright/AnnealSummary" "movesTotal" "J" (.long tv) := (Fld.other W155 G1 (Or.inr (slot_ne (Or.inl (hw _ (List.mem_of_getElem? (i := 104) rfl))) (Or.inl (hw _ (List.mem_of_getElem? (i := 31) rfl))) own_lm_183 (t := .long) (t' := .long) own_lm_53 own_lm_53)))
  have F161 : Fld Z h155 a "com/example/gridwright/gridwright/AnnealSummary" "movesMax" "J" (.long mx) := (Fld.other W155 G2 (Or.inr (slot_ne (Or.inl (hw _ (List.mem_of_getElem? (i := 111) rfl))) (Or.inl (hw _ (List.mem_of_getElem? (i := 31) rfl))) own_lm_184 (t := .long) (t' := .long) own_lm_53 own_lm_53)))
  have F162 : Fld Z h155 a "com/example/gridwright/gridwright/AnnealSummary" "unsolved" "J" (.long u) := (Fld.other W155 G3 (Or.inr (slot_ne (Or.inl (hw _ (List.mem_of_getElem? (i := 29) rfl))) (Or.inl (hw _ (List.mem_of_getElem? (i := 31) rfl))) own_lm_185 (t := .long) (t' := .long) own_lm_53 own_lm_53)))
  have F163 : Fld Z h155 a "com/example/gridwright/gridwright/AnnealSummary" "invalid" "J" (.long iv) := (Fld.other W155 G5 (Or.inr (slot_ne (Or.inl (hw _ (List.mem_of_getElem? (i := 122) rfl))) (Or.inl (hw _ (List.mem_of_getElem? (i := 31) rfl))) own_lm_186 (t := .long) (t' := .long) own_lm_53 own_lm_53)))
  exact own_retV X155 hx hlk hret (hb hby own_d_prog_4_2_124) (by decide) (by decide) (show Qrm11 Z w0 w1 w2 wm km a r mv sv tv mx u x iv h0 n0 none T155.heap _ from (by rw [e155]; exact ⟨sv, tv, mx, rfl, N155, K157, F158, F159, F160, F161, F162, F156, F163⟩))
theorem own_d_prog_4_3_0 : decode prog_4_method_3_code 0 = .ok (.aload_n 0, 1) := by decide +kernel
theorem own_d_prog_4_3_1 : decode prog_4_method_3_code 1 = .ok (.dup, 1) := by decide +kernel
theorem own_d_prog_4_3_2 : decode prog_4_method_3_code 2 = .ok (.getfield 68, 3) := by decide +kernel
theorem own_d_prog_4_3_5 : decode prog_4_method_3_code 5 = .ok (.lconst 1, 1) := by decide +kernel
theorem own_d_prog_4_3_6 : decode prog_4_method_3_code 6 = .ok (.ladd, 1) := by decide +kernel
theorem own_d_prog_4_3_7 : decode prog_4_method_3_code 7 = .ok (.putfield 68, 3) := by decide +kernel
theorem own_d_prog_4_3_10 : decode prog_4_method_3_code 10 = .ok (.return_, 1) := by decide +kernel
theorem own_lm_194 : ("solved" : String) ≠ "invalid" := by decide +kernel
theorem own_lm_195 : ("movesTotal" : String) ≠ "invalid" := by decide +kernel
theorem own_lm_196 : ("movesMax" : String) ≠ "invalid" := by decide +kernel
theorem own_lm_197 : ("unsolved" : String) ≠ "invalid" := by decide +kernel
theorem own_lm_198 : ("unsolvable" : String) ≠ "invalid" := by decide +kernel
theorem own_ef_rm12 (m : MethodId) (a : Addr)  : entryFrame m #[(.ref a)] 1 = mkF m 0 #[.val (.ref a)] [] := by first | (simp [entryFrame, mkF, argsToLocals, Value.category, maxLocals]; done) | rfl
def Qrm12 (Z : State) (w0 : Addr) (w1 : Addr) (w2 : Addr) (wm : Addr) (km : ClassId) (a : Addr) (sv : Int64) (tv : Int64) (mx : Int64) (u : Int64) (x : Int64) (iv : Int64) (h0 : Heap) (n0 : Nat) (v : Option Value) (h : Heap) (L : List Loc) : Prop := ∃ i2 : Int64, v = none ∧ Fr n0 L ∧ Keep h0 h [a] ∧ Exa Z h a "com/example/gridwright/gridwright/AnnealSummary" ∧ Fld Z h a "com/example/gridwright/gridwright/AnnealSummary" "solved" "J" (.long sv) ∧ Fld Z h a "com/example/gridwright/gridwright/AnnealSummary" "movesTotal" "J" (.long tv) ∧ Fld Z h a "com/example/gridwright/gridwright/AnnealSummary" "movesMax" "J" (.long mx) ∧ Fld Z h a "com/example/gridwright/gridwright/AnnealSummary" "unsolved" "J" (.long u) ∧ Fld Z h a "com/example/gridwright/gridwright/AnnealSummary" "unsolvable" "J" (.long x) ∧ Fld Z h a "com/example/gridwright/gridwright/AnnealSummary" "invalid" "J" (.long i2)
set_option maxRecDepth 65536 in
set_option maxHeartbeats 40000000 in
theorem rm12 (l : Launch) (Z : State) (a0 : Array Value) (hw : ∀ d ∈ tables_1, d.before a0 Z = true) (ws : List Jvm.Cond) (w0 : Addr) (w1 : Addr) (w2 : Addr) (wm : Addr) (km : ClassId) (hS : own_S Z w0 w1 w2 wm km) (a : Addr) (sv : Int64) (tv : Int64) (mx : Int64) (u : Int64) (x : Int64) (iv : Int64) (h0 : Heap) (n0 : Nat) (O0 : Old Z n0 h0) (E : Exa Z h0 a "com/example/gridwright/gridwright/AnnealSummary") (ga : n0 ≤ a) (G0 : Fld Z h0 a "com/example/gridwright/gridwright/AnnealSummary" "solved" "J" (.long sv)) (G1 : Fld Z h0 a "com/example/gridwright/gridwright/AnnealSummary" "movesTotal" "J" (.long tv)) (G2 : Fld Z h0 a "com/example/gridwright/gridwright/AnnealSummary" "movesMax" "J" (.long mx)) (G3 : Fld Z h0 a "com/example/gridwright/gridwright/AnnealSummary" "unsolved" "J" (.long u)) (G4 : Fld Z h0 a "com/example/gridwright/gridwright/AnnealSummary" "unsolvable" "J" (.long x)) (G5 : Fld Z h0 a "com/example/gridwright/gridwright/AnnealSummary" "invalid" "J" (.long iv)) :
    own_Met l (⟨"com/example/gridwright/gridwright/AnnealSummary", "addInvalid", "()V"⟩ : MethodName) prog_4_method_3_code 1 none ws ({ frames := 0, cells := 0, slots := 0, locals := 0 } : Room) Z h0 #[(.ref a)] (Qrm12 Z w0 w1 w2 wm km a sv tv mx u x iv h0 n0) := by
  refine own_body (plainFor_of_name own_pn_3) ?_
  intro p e s m below meth c s₁ hx hby hml hown hnm hret hlk hZ e0 X0
  have N0 := Fr.nil n0
  refine own_st (fun u_ k_ => castTop (own_ef_rm12 m a) k_) ?_
  show own_Go p e below _ (s₁.setTop (mkF m 0 #[.val (.ref a)] []))
  refine own_st (fun u_ k_ => XS.aloadN X0.here hx rfl (hb hby own_d_prog_4_3_0) rfl rfl k_) ?_
  show own_Go p e below _ (s₁.setTop (mkF m 1 #[.val (.ref a)] [(.ref a)]))
  refine own_st (fun u_ k_ => XS.dup X0.here hx rfl (hb hby own_d_prog_4_3_1) rfl rfl k_) ?_
  show own_Go p e below _ (s₁.setTop (mkF m 2 #[.val (.ref a)] [(.ref a), (.ref a)]))
  obtain ⟨T164, X164, e164, st164⟩ := getF X0 hx hZ hown (host := "") (Or.inl (hw _ (List.mem_of_getElem? (i := 121) rfl))) Via.refl e0 G5 (g := (mkF m 2 #[.val (.ref a)] [(.ref a), (.ref a)])) rfl rfl (hb hby own_d_prog_4_3_2)
  refine own_st (fun u_ k_ => st164 u_ k_) ?_
  show own_Go p e below _ (T164.setTop (mkF m 5 #[.val (.ref a)] [(.long iv), (.ref a)]))
  refine own_st (fun u_ k_ => XS.lconst X164.here hx rfl (hb hby own_d_prog_4_3_5) k_) ?_
  show own_Go p e below _ (T164.setTop (mkF m 6 #[.val (.ref a)] [(.long (1 : Int64)), (.long iv), (.ref a)]))
  refine own_st (fun u_ k_ => XS.ladd X164.here hx rfl (hb hby own_d_prog_4_3_6) rfl k_) ?_
  show own_Go p e below _ (T164.setTop (mkF m 7 #[.val (.ref a)] [(.long (iv + (1 : Int64))), (.ref a)]))
  obtain ⟨T165, h165, X165, e165, W165, st165⟩ := putF X164 hx hZ hown (host := "") (Or.inl (hw _ (List.mem_of_getElem? (i := 121) rfl))) Via.refl e164 G5 E (Or.inl (hw _ (List.mem_of_getElem? (i := 122) rfl))) (hw _ (List.mem_of_getElem? (i := 1) rfl)) (ty := .long) own_lm_53 rfl rfl (g := (mkF m 7 #[.val (.ref a)] [(.long (iv + (1 : Int64))), (.ref a)])) rfl rfl (hb hby own_d_prog_4_3_7)
  have N165 := Fr.snoc X165 N0 ga
  have F166 : Fld Z h165 a "com/example/gridwright/gridwright/AnnealSummary" "invalid" "J" (.long (iv + (1 : Int64))) := Fld.same W165 G5
  refine own_st (fun u_ k_ => st165 u_ k_) ?_
  show own_Go p e below _ (T165.setTop (mkF m 10 #[.val (.ref a)] []))
  have K167 : Keep h0 h165 [a] := (Keep.refl h0 [a]).wr W165 (Or.inl (List.mem_of_getElem? (i := 0) rfl))
  have F168 : Exa Z h165 a "com/example/gridwright/gridwright/AnnealSummary" := (Exa.wr W165 E)
  have F169 : Fld Z h165 a "com/example/gridwright/gridwright/AnnealSummary" "solved" "J" (.long sv) := (Fld.other W165 G0 (Or.inr (slot_ne (Or.inl (hw _ (List.mem_of_getElem? (i := 102) rfl))) (Or.inl (hw _ (List.mem_of_getElem? (i := 122) rfl))) own_lm_194 (t := .long) (t' := .long) own_lm_53 own_lm_53)))
  have F170 : Fld Z h165 a "com/example/gridwright/gridwright/AnnealSummary" "movesTotal" "J" (.long tv) := (Fld.other W165 G1 (Or.inr (slot_ne (Or.inl (hw _ (List.mem_of_getElem? (i := 104) rfl))) (Or.inl (hw _ (List.mem_of_getElem? (i := 122) rfl))) own_lm_195 (t := .long) (t' := .long) own_lm_53 own_lm_53)))
  have F171 : Fld Z h165 a "com/example/gridwright/gridwright/AnnealSummary" "movesMax" "J" (.long mx) := (Fld.other W165 G2 (Or.inr (slot_ne (Or.inl (hw _ (List.mem_of_getElem? (i := 111) rfl))) (Or.inl (hw _ (List.mem_of_getElem? (i := 122) rfl))) own_lm_196 (t := .long) (t' := .long) own_lm_53 own_lm_53)))
  have F172 : Fld Z h165 a "com/example/gridwright/gridwright/AnnealSummary" "unsolved" "J" (.long u) := (Fld.other W165 G3 (Or.inr (slot_ne (Or.inl (hw _ (List.mem_of_getElem? (i := 29) rfl))) (Or.inl (hw _ (List.mem_of_getElem? (i := 122) rfl))) own_lm_197 (t := .long) (t' := .long) own_lm_53 own_lm_53)))
  have F173 : Fld Z h165 a "com/example/gridwright/gridwright/AnnealSummary" "unsolvable" "J" (.long x) := (Fld.other W165 G4 (Or.inr (slot_ne (Or.inl (hw _ (List.mem_of_getElem? (i := 31) rfl))) (Or.inl (hw _ (List.mem_of_getElem? (i := 122) rfl))) own_lm_198 (t := .long) (t' := .long) own_lm_53 own_lm_53)))
  exact own_retV X165 hx hlk hret (hb hby own_d_prog_4_3_10) (by decide) (by decide) (show Qrm12 Z w0 w1 w2 wm km a sv tv mx u x iv h0 n0 none T165.heap _ from (by rw [e165]; exact ⟨(iv + (1 : Int64)), rfl, N165, K167, F168, F169, F170, F171, F172, F173, F166⟩))
theorem own_d_method_2_0 : decode method_2_code 0 = .ok (.iload_n 1, 1) := by decide +kernel
theorem own_d_method_2_1 : decode method_2_code 1 = .ok (.iconst 1, 1) := by decide +kernel
theorem own_d_method_2_2 : decode method_2_code 2 = .ok (.if_icmp .ne 15, 3) := by decide +kernel
theorem own_d_method_2_5 : decode method_2_code 5 = .ok (.aload_n 0, 1) := by decide +kernel
theorem own_d_method_2_6 : decode method_2_code 6 = .ok (.aload 4, 2) := by decide +kernel
theorem own_d_method_2_8 : decode method_2_code 8 = .ok (.lload_n 2, 1) := by decide +kernel
theorem own_d_method_2_9 : decode method_2_code 9 = .ok (.invokestatic 7, 3) := by decide +kernel
theorem own_pd_206 : parseMethodDescriptor "(Lcom/example/gridwright/gridwright/Grid;J)Lcom/example/gridwright/gridwright/AnnealResult;" = some ⟨[(.object "com/example/gridwright/gridwright/Grid"), .long], some (.object "com/example/gridwright/gridwright/AnnealResult")⟩ := by decide +kernel
theorem own_d_method_2_12 : decode method_2_code 12 = .ok (.invokevirtual 13, 3) := by decide +kernel
theorem own_lm_208 : ("com/example/gridwright/gridwright/AnnealSummary" : String) ≠ "java/lang/invoke/MethodHandle" ∧ ("com/example/gridwright/gridwright/AnnealSummary" : String) ≠ "java/lang/invoke/VarHandle" := by decide +kernel
theorem own_pd_209 : parseMethodDescriptor "(Lcom/example/gridwright/gridwright/AnnealResult;)V" = some ⟨[(.object "com/example/gridwright/gridwright/AnnealResult")], none⟩ := by decide +kernel
theorem own_d_method_2_15 : decode method_2_code 15 = .ok (.iconst 0, 1) := by decide +kernel
theorem own_d_method_2_16 : decode method_2_code 16 = .ok (.ireturn, 1) := by decide +kernel
theorem own_d_method_2_17 : decode method_2_code 17 = .ok (.iload_n 1, 1) := by decide +kernel
theorem own_d_method_2_18 : decode method_2_code 18 = .ok (.iconst 2, 1) := by decide +kernel
theorem own_d_method_2_19 : decode method_2_code 19 = .ok (.if_icmp .ne 13, 3) := by decide +kernel
theorem own_d_method_2_22 : decode method_2_code 22 = .ok (.aload_n 0, 1) := by decide +kernel
theorem own_d_method_2_23 : decode method_2_code 23 = .ok (.lload_n 2, 1) := by decide +kernel
theorem own_d_method_2_24 : decode method_2_code 24 = .ok (.invokestatic 19, 3) := by decide +kernel
theorem own_pd_218 : parseMethodDescriptor "(J)Lcom/example/gridwright/gridwright/AnnealResult;" = some ⟨[.long], some (.object "com/example/gridwright/gridwright/AnnealResult")⟩ := by decide +kernel
theorem own_d_method_2_27 : decode method_2_code 27 = .ok (.invokevirtual 13, 3) := by decide +kernel
theorem own_d_method_2_30 : decode method_2_code 30 = .ok (.iconst 1, 1) := by decide +kernel
theorem own_d_method_2_31 : decode method_2_code 31 = .ok (.ireturn, 1) := by decide +kernel
theorem own_d_method_2_32 : decode method_2_code 32 = .ok (.iload_n 1, 1) := by decide +kernel
theorem own_d_method_2_33 : decode method_2_code 33 = .ok (.iconst 3, 1) := by decide +kernel
theorem own_d_method_2_34 : decode method_2_code 34 = .ok (.if_icmp .ne 12, 3) := by decide +kernel
theorem own_d_method_2_37 : decode method_2_code 37 = .ok (.aload_n 0, 1) := by decide +kernel
theorem own_d_method_2_38 : decode method_2_code 38 = .ok (.invokestatic 23, 3) := by decide +kernel
theorem own_pd_227 : parseMethodDescriptor "()Lcom/example/gridwright/gridwright/AnnealResult;" = some ⟨[], some (.object "com/example/gridwright/gridwright/AnnealResult")⟩ := by decide +kernel
theorem own_d_method_2_41 : decode method_2_code 41 = .ok (.invokevirtual 13, 3) := by decide +kernel
theorem own_d_method_2_44 : decode method_2_code 44 = .ok (.iconst 1, 1) := by decide +kernel
theorem own_d_method_2_45 : decode method_2_code 45 = .ok (.ireturn, 1) := by decide +kernel
theorem own_d_method_2_46 : decode method_2_code 46 = .ok (.iload_n 1, 1) := by decide +kernel
theorem own_d_method_2_47 : decode method_2_code 47 = .ok (.iconst 4, 1) := by decide +kernel
theorem own_d_method_2_48 : decode method_2_code 48 = .ok (.if_icmp .ne 9, 3) := by decide +kernel
theorem own_d_method_2_51 : decode method_2_code 51 = .ok (.aload_n 0, 1) := by decide +kernel
theorem own_d_method_2_52 : decode method_2_code 52 = .ok (.invokevirtual 27, 3) := by decide +kernel
theorem own_pd_236 : parseMethodDescriptor "()V" = some ⟨[], none⟩ := by decide +kernel
theorem own_d_method_2_55 : decode method_2_code 55 = .ok (.iconst 0, 1) := by decide +kernel
theorem own_d_method_2_56 : decode method_2_code 56 = .ok (.ireturn, 1) := by decide +kernel
theorem own_d_method_2_57 : decode method_2_code 57 = .ok (.iconst 0, 1) := by decide +kernel
theorem own_d_method_2_58 : decode method_2_code 58 = .ok (.ireturn, 1) := by decide +kernel
theorem own_pn_241 : plainName "com/example/gridwright/gridwright/AnnealSummaryAnyUnsolvedPinLaw" = true := by first | (simp [plainName, overriddenIn]; done) | decide +kernel
theorem own_ef_rm13 (m : MethodId) (a : Addr) (k : Int32) (mv : Int64) (g : Addr)  : entryFrame m #[(.ref a), (.int k), (.long mv), (.ref g)] 5 = mkF m 0 #[.val (.ref a), .val (.int k), .val (.long mv), .second, .val (.ref g)] [] := by first | (simp [entryFrame, mkF, argsToLocals, Value.category, maxLocals]; done) | rfl
def Qrm13 (Z : State) (w0 : Addr) (w1 : Addr) (w2 : Addr) (wm : Addr) (km : ClassId) (a : Addr) (k : Int32) (mv : Int64) (g : Addr) (sv : Int64) (tv : Int64) (mx : Int64) (u : Int64) (x : Int64) (iv : Int64) (h0 : Heap) (n0 : Nat) (v : Option Value) (h : Heap) (L : List Loc) : Prop := ∃ e1 : Int32, ∃ sv2 : Int64, ∃ tv2 : Int64, ∃ mx2 : Int64, ∃ u2 : Int64, ∃ x2 : Int64, ∃ iv2 : Int64, v = some (.int e1) ∧ Fr n0 L ∧ Keep h0 h [a] ∧ Exa Z h a "com/example/gridwright/gridwright/AnnealSummary" ∧ Fld Z h a "com/example/gridwright/gridwright/AnnealSummary" "solved" "J" (.long sv2) ∧ Fld Z h a "com/example/gridwright/gridwright/AnnealSummary" "movesTotal" "J" (.long tv2) ∧ Fld Z h a "com/example/gridwright/gridwright/AnnealSummary" "movesMax" "J" (.long mx2) ∧ Fld Z h a "com/example/gridwright/gridwright/AnnealSummary" "unsolved" "J" (.long u2) ∧ Fld Z h a "com/example/gridwright/gridwright/AnnealSummary" "unsolvable" "J" (.long x2) ∧ Fld Z h a "com/example/gridwright/gridwright/AnnealSummary" "invalid" "J" (.long iv2) ∧ own_D u x e1 u2 x2
set_option maxRecDepth 65536 in
set_option maxHeartbeats 40000000 in
theorem rm13 (l : Launch) (Z : State) (a0 : Array Value) (hw : ∀ d ∈ tables_1, d.before a0 Z = true) (ws : List Jvm.Cond) (w0 : Addr) (w1 : Addr) (w2 : Addr) (wm : Addr) (km : ClassId) (hS : own_S Z w0 w1 w2 wm km) (a : Addr) (k : Int32) (mv : Int64) (g : Addr) (sv : Int64) (tv : Int64) (mx : Int64) (u : Int64) (x : Int64) (iv : Int64) (h0 : Heap) (n0 : Nat) (O0 : Old Z n0 h0) (E : Exa Z h0 a "com/example/gridwright/gridwright/AnnealSummary") (Eg : Exa Z h0 g "com/example/gridwright/gridwright/Grid") (ga : n0 ≤ a) (G0 : Fld Z h0 a "com/example/gridwright/gridwright/AnnealSummary" "solved" "J" (.long sv)) (G1 : Fld Z h0 a "com/example/gridwright/gridwright/AnnealSummary" "movesTotal" "J" (.long tv)) (G2 : Fld Z h0 a "com/example/gridwright/gridwright/AnnealSummary" "movesMax" "J" (.long mx)) (G3 : Fld Z h0 a "com/example/gridwright/gridwright/AnnealSummary" "unsolved" "J" (.long u)) (G4 : Fld Z h0 a "com/example/gridwright/gridwright/AnnealSummary" "unsolvable" "J" (.long x)) (G5 : Fld Z h0 a "com/example/gridwright/gridwright/AnnealSummary" "invalid" "J" (.long iv)) :
    own_MetW l (⟨"com/example/gridwright/gridwright/AnnealSummaryAnyUnsolvedPinLaw", "step", "(Lcom/example/gridwright/gridwright/AnnealSummary;IJLcom/example/gridwright/gridwright/Grid;)Z"⟩ : MethodName) method_2_code 5 (some .boolean) ws ({ frames := 3, cells := 3, slots := 39, locals := 44 } : Room) Z h0 #[(.ref a), (.int k), (.long mv), (.ref g)] (Qrm13 Z w0 w1 w2 wm km a k mv g sv tv mx u x iv h0 n0) := by
  refine own_bodyW (plainFor_of_name own_pn_241) ?_
  intro p e s m below meth c s₁ hx hby hml hown hnm hret hlk hZ e0 X0 hSi0
  have N0 := Fr.nil n0
  refine own_st (fun u_ k_ => castTop (own_ef_rm13 m a k mv g) k_) ?_
  show own_Go p e below _ (s₁.setTop (mkF m 0 #[.val (.ref a), .val (.int k), .val (.long mv), .second, .val (.ref g)] []))
  refine own_st (fun u_ k_ => XS.iloadN X0.here hx rfl (hb hby own_d_method_2_0) rfl k_) ?_
  show own_Go p e below _ (s₁.setTop (mkF m 1 #[.val (.ref a), .val (.int k), .val (.long mv), .second, .val (.ref g)] [(.int k)]))
  refine own_st (fun u_ k_ => XS.iconst X0.here hx rfl (hb hby own_d_method_2_1) k_) ?_
  show own_Go p e below _ (s₁.setTop (mkF m 2 #[.val (.ref a), .val (.int k), .val (.long mv), .second, .val (.ref g)] [(.int (1 : Int32)), (.int k)]))
  by_cases hc174 : k = (1 : Int32)
  · refine own_st (fun u_ k_ => XS.icmpNo X0.here hx rfl (hb hby own_d_method_2_2) rfl (XT.ii_ne_f hc174) k_) ?_
    show own_Go p e below _ (s₁.setTop (mkF m 5 #[.val (.ref a), .val (.int k), .val (.long mv), .second, .val (.ref g)] []))
    refine own_st (fun u_ k_ => XS.aloadN X0.here hx rfl (hb hby own_d_method_2_5) rfl rfl k_) ?_
    show own_Go p e below _ (s₁.setTop (mkF m 6 #[.val (.ref a), .val (.int k), .val (.long mv), .second, .val (.ref g)] [(.ref a)]))
    refine own_st (fun u_ k_ => XS.aload X0.here hx rfl (hb hby own_d_method_2_6) rfl rfl k_) ?_
    show own_Go p e below _ (s₁.setTop (mkF m 8 #[.val (.ref a), .val (.int k), .val (.long mv), .second, .val (.ref g)] [(.ref g), (.ref a)]))
    refine own_st (fun u_ k_ => XS.lloadN X0.here hx rfl (hb hby own_d_method_2_8) rfl k_) ?_
    show own_Go p e below _ (s₁.setTop (mkF m 9 #[.val (.ref a), .val (.int k), .val (.long mv), .second, .val (.ref g)] [(.long mv), (.ref g), (.ref a)]))
    obtain ⟨T175, v175, L175, X175, Si175, hZ175, hown175, hQ175, st175⟩ := own_callSW X0 hx hZ hSi0 (Nat.zero_le _) (y := (⟨"com/example/gridwright/gridwright/AnnealResult", "solved", "(Lcom/example/gridwright/gridwright/Grid;J)Lcom/example/gridwright/gridwright/AnnealResult;"⟩ : MethodName)) hown (hw _ (List.mem_of_getElem? (i := 83) rfl)) (hw _ (List.mem_of_getElem? (i := 84) rfl)) (hw _ (List.mem_of_getElem? (i := 39) rfl)) (hw _ (List.mem_of_getElem? (i := 85) rfl)) own_lm_70 (rm3 l Z a0 hw [] w0 w1 w2 wm km hS g mv h0 n0 O0 Eg) e0 own_pd_206 (argsL := [(.ref g), (.long mv)]) (rest := [(.ref a)]) rfl rfl (g := (mkF m 9 #[.val (.ref a), .val (.int k), .val (.long mv), .second, .val (.ref g)] [(.long mv), (.ref g), (.ref a)])) rfl (by rw [hml]; rfl) rfl (hb hby own_d_method_2_9) (W := 1) rfl (by decide) (by decide) (by decide) (by decide)
    obtain ⟨r_176, rfl, M175, K175, z177, F178, F179, F180⟩ := hQ175
    have N175 := Fr.app N0 M175
    refine own_st (fun u_ k_ => st175 u_ k_) ?_
    show own_Go p e below _ (T175.setTop (mkF m 12 #[.val (.ref a), .val (.int k), .val (.long mv), .second, .val (.ref g)] [(.ref r_176), (.ref a)]))
    have F181 : Exa Z T175.heap a "com/example/gridwright/gridwright/AnnealSummary" := (E.keep K175)
    have F182 : Fld Z T175.heap a "com/example/gridwright/gridwright/AnnealSummary" "solved" "J" (.long sv) := (G0.keep K175 nin0)
    have F183 : Fld Z T175.heap a "com/example/gridwright/gridwright/AnnealSummary" "movesTotal" "J" (.long tv) := (G1.keep K175 nin0)
    have F184 : Fld Z T175.heap a "com/example/gridwright/gridwright/AnnealSummary" "movesMax" "J" (.long mx) := (G2.keep K175 nin0)
    have F185 : Fld Z T175.heap a "com/example/gridwright/gridwright/AnnealSummary" "unsolved" "J" (.long u) := (G3.keep K175 nin0)
    have F186 : Fld Z T175.heap a "com/example/gridwright/gridwright/AnnealSummary" "unsolvable" "J" (.long x) := (G4.keep K175 nin0)
    have F187 : Fld Z T175.heap a "com/example/gridwright/gridwright/AnnealSummary" "invalid" "J" (.long iv) := (G5.keep K175 nin0)
    have O189 : Old Z n0 T175.heap := O0.keep K175 all0
    obtain ⟨T188, v188, L188, X188, hQ188, st188⟩ := own_callV X175 hx hZ175 (y := (⟨"com/example/gridwright/gridwright/AnnealSummary", "add", "(Lcom/example/gridwright/gridwright/AnnealResult;)V"⟩ : MethodName)) (z := (⟨"com/example/gridwright/gridwright/AnnealSummary", "add", "(Lcom/example/gridwright/gridwright/AnnealResult;)V"⟩ : MethodName)) hown175 (hw _ (List.mem_of_getElem? (i := 56) rfl)) (hw _ (List.mem_of_getElem? (i := 57) rfl)) (notFace_of_selects (args := #[]) (mvT hZ175 (hw _ (List.mem_of_getElem? (i := 59) rfl)))) (hw _ (List.mem_of_getElem? (i := 59) rfl)) (hw _ (List.mem_of_getElem? (i := 58) rfl)) (hw _ (List.mem_of_getElem? (i := 2) rfl)) (hw _ (List.mem_of_getElem? (i := 60) rfl)) own_lm_208 (rm9 l Z a0 hw [] w0 w1 w2 wm km hS a r_176 mv sv tv mx u x iv T175.heap n0 O189 F181 F178 ga F179 F180 F182 F183 F184 F185 F186 F187) rfl F181 own_pd_209 (argsL := [(.ref r_176)]) (rest := []) rfl rfl (g := (mkF m 12 #[.val (.ref a), .val (.int k), .val (.long mv), .second, .val (.ref g)] [(.ref r_176), (.ref a)])) rfl (by rw [hml]; rfl) rfl (hb hby own_d_method_2_12) (W := 0) rfl (by decide) (by decide) (by decide) (by decide)
    obtain ⟨s2_190, t2_191, m2_192, rfl, M188, K188, F193, F194, F195, F196, F197, F198, F199⟩ := hQ188
    have N188 := Fr.app N175 M188
    refine own_st (fun u_ k_ => st188 u_ k_) ?_
    show own_Go p e below _ (T188.setTop (mkF m 15 #[.val (.ref a), .val (.int k), .val (.long mv), .second, .val (.ref g)] []))
    refine own_st (fun u_ k_ => XS.iconst X188.here hx rfl (hb hby own_d_method_2_15) k_) ?_
    show own_Go p e below _ (T188.setTop (mkF m 16 #[.val (.ref a), .val (.int k), .val (.long mv), .second, .val (.ref g)] [(.int (0 : Int32))]))
    have K200 : Keep h0 T175.heap [a] := (Keep.refl h0 [a]).trans K175 all0
    have K201 : Keep h0 T188.heap [a] := K200.trans K188 (allS (Or.inl (List.mem_of_getElem? (i := 0) rfl)) all0)
    exact own_retXW X188 Si175 (Nat.le_trans (Nat.le_refl _) K188.1) rfl hx hlk hret rfl (Or.inl ⟨rfl, by simp, _, rfl⟩) (hb hby own_d_method_2_16) (by decide) (by decide) (show Qrm13 Z w0 w1 w2 wm km a k mv g sv tv mx u x iv h0 n0 (some (.int (0 : Int32))) T188.heap _ from (by exact ⟨(0 : Int32), s2_190, t2_191, m2_192, u, x, iv, rfl, N188, K201, F193, F194, F195, F196, F197, F198, F199, (by simp [own_D])⟩))
  · refine own_st (fun u_ k_ => XS.icmpYes X0.here hx rfl (pc0 := 2) (pc' := 17) rfl (hb hby own_d_method_2_2) rfl (XT.ii_ne_t hc174) (by decide) (by decide) k_) ?_
    show own_Go p e below _ (s₁.setTop (mkF m 17 #[.val (.ref a), .val (.int k), .val (.long mv), .second, .val (.ref g)] []))
    refine own_st (fun u_ k_ => XS.iloadN X0.here hx rfl (hb hby own_d_method_2_17) rfl k_) ?_
    show own_Go p e below _ (s₁.setTop (mkF m 18 #[.val (.ref a), .val (.int k), .val (.long mv), .second, .val (.ref g)] [(.int k)]))
    refine own_st (fun u_ k_ => XS.iconst X0.here hx rfl (hb hby own_d_method_2_18) k_) ?_
    show own_Go p e below _ (s₁.setTop (mkF m 19 #[.val (.ref a), .val (.int k), .val (.long mv), .second, .val (.ref g)] [(.int (2 : Int32)), (.int k)]))
    by_cases hc202 : k = (2 : Int32)
    · refine own_st (fun u_ k_ => XS.icmpNo X0.here hx rfl (hb hby own_d_method_2_19) rfl (XT.ii_ne_f hc202) k_) ?_
      show own_Go p e below _ (s₁.setTop (mkF m 22 #[.val (.ref a), .val (.int k), .val (.long mv), .second, .val (.ref g)] []))
      refine own_st (fun u_ k_ => XS.aloadN X0.here hx rfl (hb hby own_d_method_2_22) rfl rfl k_) ?_
      show own_Go p e below _ (s₁.setTop (mkF m 23 #[.val (.ref a), .val (.int k), .val (.long mv), .second, .val (.ref g)] [(.ref a)]))
      refine own_st (fun u_ k_ => XS.lloadN X0.here hx rfl (hb hby own_d_method_2_23) rfl k_) ?_
      show own_Go p e below _ (s₁.setTop (mkF m 24 #[.val (.ref a), .val (.int k), .val (.long mv), .second, .val (.ref g)] [(.long mv), (.ref a)]))
      obtain ⟨T203, v203, L203, X203, hQ203, st203⟩ := own_callS X0 hx hZ (y := (⟨"com/example/gridwright/gridwright/AnnealResult", "unsolved", "(J)Lcom/example/gridwright/gridwright/AnnealResult;"⟩ : MethodName)) hown (hw _ (List.mem_of_getElem? (i := 78) rfl)) (hw _ (List.mem_of_getElem? (i := 79) rfl)) (hw _ (List.mem_of_getElem? (i := 39) rfl)) (hw _ (List.mem_of_getElem? (i := 80) rfl)) own_lm_70 (rm2 l Z a0 hw [] w0 w1 w2 wm km hS mv h0 n0 O0 ) e0 own_pd_218 (argsL := [(.long mv)]) (rest := [(.ref a)]) rfl rfl (g := (mkF m 24 #[.val (.ref a), .val (.int k), .val (.long mv), .second, .val (.ref g)] [(.long mv), (.ref a)])) rfl (by rw [hml]; rfl) rfl (hb hby own_d_method_2_24) (W := 1) rfl (by decide) (by decide) (by decide) (by decide)
      obtain ⟨r_204, rfl, M203, K203, z205, F206, F207, F208⟩ := hQ203
      have N203 := Fr.app N0 M203
      refine own_st (fun u_ k_ => st203 u_ k_) ?_
      show own_Go p e below _ (T203.setTop (mkF m 27 #[.val (.ref a), .val (.int k), .val (.long mv), .second, .val (.ref g)] [(.ref r_204), (.ref a)]))
      have F209 : Exa Z T203.heap a "com/example/gridwright/gridwright/AnnealSummary" := (E.keep K203)
      have F210 : Fld Z T203.heap a "com/example/gridwright/gridwright/AnnealSummary" "solved" "J" (.long sv) := (G0.keep K203 nin0)
      have F211 : Fld Z T203.heap a "com/example/gridwright/gridwright/AnnealSummary" "movesTotal" "J" (.long tv) := (G1.keep K203 nin0)
      have F212 : Fld Z T203.heap a "com/example/gridwright/gridwright/AnnealSummary" "movesMax" "J" (.long mx) := (G2.keep K203 nin0)
      have F213 : Fld Z T203.heap a "com/example/gridwright/gridwright/AnnealSummary" "unsolved" "J" (.long u) := (G3.keep K203 nin0)
      have F214 : Fld Z T203.heap a "com/example/gridwright/gridwright/AnnealSummary" "unsolvable" "J" (.long x) := (G4.keep K203 nin0)
      have F215 : Fld Z T203.heap a "com/example/gridwright/gridwright/AnnealSummary" "invalid" "J" (.long iv) := (G5.keep K203 nin0)
      have O217 : Old Z n0 T203.heap := O0.keep K203 all0
      obtain ⟨T216, v216, L216, X216, hQ216, st216⟩ := own_callV X203 hx hZ (y := (⟨"com/example/gridwright/gridwright/AnnealSummary", "add", "(Lcom/example/gridwright/gridwright/AnnealResult;)V"⟩ : MethodName)) (z := (⟨"com/example/gridwright/gridwright/AnnealSummary", "add", "(Lcom/example/gridwright/gridwright/AnnealResult;)V"⟩ : MethodName)) hown (hw _ (List.mem_of_getElem? (i := 56) rfl)) (hw _ (List.mem_of_getElem? (i := 57) rfl)) (notFace_of_selects (args := #[]) (mvT hZ (hw _ (List.mem_of_getElem? (i := 59) rfl)))) (hw _ (List.mem_of_getElem? (i := 59) rfl)) (hw _ (List.mem_of_getElem? (i := 58) rfl)) (hw _ (List.mem_of_getElem? (i := 2) rfl)) (hw _ (List.mem_of_getElem? (i := 60) rfl)) own_lm_208 (rm10 l Z a0 hw [] w0 w1 w2 wm km hS a r_204 mv sv tv mx u x iv T203.heap n0 O217 F209 F206 ga F207 F208 F210 F211 F212 F213 F214 F215) rfl F209 own_pd_209 (argsL := [(.ref r_204)]) (rest := []) rfl rfl (g := (mkF m 27 #[.val (.ref a), .val (.int k), .val (.long mv), .second, .val (.ref g)] [(.ref r_204), (.ref a)])) rfl (by rw [hml]; rfl) rfl (hb hby own_d_method_2_27) (W := 0) rfl (by decide) (by decide) (by decide) (by decide)
      obtain ⟨s2_218, t2_219, m2_220, rfl, M216, K216, F221, F222, F223, F224, F225, F226, F227⟩ := hQ216
      have N216 := Fr.app N203 M216
      refine own_st (fun u_ k_ => st216 u_ k_) ?_
      show own_Go p e below _ (T216.setTop (mkF m 30 #[.val (.ref a), .val (.int k), .val (.long mv), .second, .val (.ref g)] []))
      refine own_st (fun u_ k_ => XS.iconst X216.here hx rfl (hb hby own_d_method_2_30) k_) ?_
      show own_Go p e below _ (T216.setTop (mkF m 31 #[.val (.ref a), .val (.int k), .val (.long mv), .second, .val (.ref g)] [(.int (1 : Int32))]))
      have K228 : Keep h0 T203.heap [a] := (Keep.refl h0 [a]).trans K203 all0
      have K229 : Keep h0 T216.heap [a] := K228.trans K216 (allS (Or.inl (List.mem_of_getElem? (i := 0) rfl)) all0)
      exact own_retXW X216 hSi0 (Nat.le_trans (Nat.zero_le _) (Nat.le_trans K203.1 K216.1)) rfl hx hlk hret rfl (Or.inl ⟨rfl, by simp, _, rfl⟩) (hb hby own_d_method_2_31) (by decide) (by decide) (show Qrm13 Z w0 w1 w2 wm km a k mv g sv tv mx u x iv h0 n0 (some (.int (1 : Int32))) T216.heap _ from (by exact ⟨(1 : Int32), s2_218, t2_219, m2_220, (u + (1 : Int64)), x, iv, rfl, N216, K229, F221, F222, F223, F224, F225, F226, F227, (by simp [own_D])⟩))
    · refine own_st (fun u_ k_ => XS.icmpYes X0.here hx rfl (pc0 := 19) (pc' := 32) rfl (hb hby own_d_method_2_19) rfl (XT.ii_ne_t hc202) (by decide) (by decide) k_) ?_
      show own_Go p e below _ (s₁.setTop (mkF m 32 #[.val (.ref a), .val (.int k), .val (.long mv), .second, .val (.ref g)] []))
      refine own_st (fun u_ k_ => XS.iloadN X0.here hx rfl (hb hby own_d_method_2_32) rfl k_) ?_
      show own_Go p e below _ (s₁.setTop (mkF m 33 #[.val (.ref a), .val (.int k), .val (.long mv), .second, .val (.ref g)] [(.int k)]))
      refine own_st (fun u_ k_ => XS.iconst X0.here hx rfl (hb hby own_d_method_2_33) k_) ?_
      show own_Go p e below _ (s₁.setTop (mkF m 34 #[.val (.ref a), .val (.int k), .val (.long mv), .second, .val (.ref g)] [(.int (3 : Int32)), (.int k)]))
      by_cases hc230 : k = (3 : Int32)
      · refine own_st (fun u_ k_ => XS.icmpNo X0.here hx rfl (hb hby own_d_method_2_34) rfl (XT.ii_ne_f hc230) k_) ?_
        show own_Go p e below _ (s₁.setTop (mkF m 37 #[.val (.ref a), .val (.int k), .val (.long mv), .second, .val (.ref g)] []))
        refine own_st (fun u_ k_ => XS.aloadN X0.here hx rfl (hb hby own_d_method_2_37) rfl rfl k_) ?_
        show own_Go p e below _ (s₁.setTop (mkF m 38 #[.val (.ref a), .val (.int k), .val (.long mv), .second, .val (.ref g)] [(.ref a)]))
        obtain ⟨T231, v231, L231, X231, hQ231, st231⟩ := own_callS X0 hx hZ (y := (⟨"com/example/gridwright/gridwright/AnnealResult", "unsolvable", "()Lcom/example/gridwright/gridwright/AnnealResult;"⟩ : MethodName)) hown (hw _ (List.mem_of_getElem? (i := 37) rfl)) (hw _ (List.mem_of_getElem? (i := 38) rfl)) (hw _ (List.mem_of_getElem? (i := 39) rfl)) (hw _ (List.mem_of_getElem? (i := 40) rfl)) own_lm_70 (rm1 l Z a0 hw [] w0 w1 w2 wm km hS  h0 n0 O0 ) e0 own_pd_227 (argsL := []) (rest := [(.ref a)]) rfl rfl (g := (mkF m 38 #[.val (.ref a), .val (.int k), .val (.long mv), .second, .val (.ref g)] [(.ref a)])) rfl (by rw [hml]; rfl) rfl (hb hby own_d_method_2_38) (W := 1) rfl (by decide) (by decide) (by decide) (by decide)
        obtain ⟨r_232, rfl, M231, K231, z233, F234, F235, F236⟩ := hQ231
        have N231 := Fr.app N0 M231
        refine own_st (fun u_ k_ => st231 u_ k_) ?_
        show own_Go p e below _ (T231.setTop (mkF m 41 #[.val (.ref a), .val (.int k), .val (.long mv), .second, .val (.ref g)] [(.ref r_232), (.ref a)]))
        have F237 : Exa Z T231.heap a "com/example/gridwright/gridwright/AnnealSummary" := (E.keep K231)
        have F238 : Fld Z T231.heap a "com/example/gridwright/gridwright/AnnealSummary" "solved" "J" (.long sv) := (G0.keep K231 nin0)
        have F239 : Fld Z T231.heap a "com/example/gridwright/gridwright/AnnealSummary" "movesTotal" "J" (.long tv) := (G1.keep K231 nin0)
        have F240 : Fld Z T231.heap a "com/example/gridwright/gridwright/AnnealSummary" "movesMax" "J" (.long mx) := (G2.keep K231 nin0)
        have F241 : Fld Z T231.heap a "com/example/gridwright/gridwright/AnnealSummary" "unsolved" "J" (.long u) := (G3.keep K231 nin0)
        have F242 : Fld Z T231.heap a "com/example/gridwright/gridwright/AnnealSummary" "unsolvable" "J" (.long x) := (G4.keep K231 nin0)
        have F243 : Fld Z T231.heap a "com/example/gridwright/gridwright/AnnealSummary" "invalid" "J" (.long iv) := (G5.keep K231 nin0)
        have O245 : Old Z n0 T231.heap := O0.keep K231 all0
        obtain ⟨T244, v244, L244, X244, hQ244, st244⟩ := own_callV X231 hx hZ (y := (⟨"com/example/gridwright/gridwright/AnnealSummary", "add", "(Lcom/example/gridwright/gridwright/AnnealResult;)V"⟩ : MethodName)) (z := (⟨"com/example/gridwright/gridwright/AnnealSummary", "add", "(Lcom/example/gridwright/gridwright/AnnealResult;)V"⟩ : MethodName)) hown (hw _ (List.mem_of_getElem? (i := 56) rfl)) (hw _ (List.mem_of_getElem? (i := 57) rfl)) (notFace_of_selects (args := #[]) (mvT hZ (hw _ (List.mem_of_getElem? (i := 59) rfl)))) (hw _ (List.mem_of_getElem? (i := 59) rfl)) (hw _ (List.mem_of_getElem? (i := 58) rfl)) (hw _ (List.mem_of_getElem? (i := 2) rfl)) (hw _ (List.mem_of_getElem? (i := 60) rfl)) own_lm_208 (rm11 l Z a0 hw [] w0 w1 w2 wm km hS a r_232 (0 : Int64) sv tv mx u x iv T231.heap n0 O245 F237 F234 ga F235 F236 F238 F239 F240 F241 F242 F243) rfl F237 own_pd_209 (argsL := [(.ref r_232)]) (rest := []) rfl rfl (g := (mkF m 41 #[.val (.ref a), .val (.int k), .val (.long mv), .second, .val (.ref g)] [(.ref r_232), (.ref a)])) rfl (by rw [hml]; rfl) rfl (hb hby own_d_method_2_41) (W := 0) rfl (by decide) (by decide) (by decide) (by decide)
        obtain ⟨s2_246, t2_247, m2_248, rfl, M244, K244, F249, F250, F251, F252, F253, F254, F255⟩ := hQ244
        have N244 := Fr.app N231 M244
        refine own_st (fun u_ k_ => st244 u_ k_) ?_
        show own_Go p e below _ (T244.setTop (mkF m 44 #[.val (.ref a), .val (.int k), .val (.long mv), .second, .val (.ref g)] []))
        refine own_st (fun u_ k_ => XS.iconst X244.here hx rfl (hb hby own_d_method_2_44) k_) ?_
        show own_Go p e below _ (T244.setTop (mkF m 45 #[.val (.ref a), .val (.int k), .val (.long mv), .second, .val (.ref g)] [(.int (1 : Int32))]))
        have K256 : Keep h0 T231.heap [a] := (Keep.refl h0 [a]).trans K231 all0
        have K257 : Keep h0 T244.heap [a] := K256.trans K244 (allS (Or.inl (List.mem_of_getElem? (i := 0) rfl)) all0)
        exact own_retXW X244 hSi0 (Nat.le_trans (Nat.zero_le _) (Nat.le_trans K231.1 K244.1)) rfl hx hlk hret rfl (Or.inl ⟨rfl, by simp, _, rfl⟩) (hb hby own_d_method_2_45) (by decide) (by decide) (show Qrm13 Z w0 w1 w2 wm km a k mv g sv tv mx u x iv h0 n0 (some (.int (1 : Int32))) T244.heap _ from (by exact ⟨(1 : Int32), s2_246, t2_247, m2_248, u, (x + (1 : Int64)), iv, rfl, N244, K257, F249, F250, F251, F252, F253, F254, F255, (by simp [own_D])⟩))
      · refine own_st (fun u_ k_ => XS.icmpYes X0.here hx rfl (pc0 := 34) (pc' := 46) rfl (hb hby own_d_method_2_34) rfl (XT.ii_ne_t hc230) (by decide) (by decide) k_) ?_
        show own_Go p e below _ (s₁.setTop (mkF m 46 #[.val (.ref a), .val (.int k), .val (.long mv), .second, .val (.ref g)] []))
        refine own_st (fun u_ k_ => XS.iloadN X0.here hx rfl (hb hby own_d_method_2_46) rfl k_) ?_
        show own_Go p e below _ (s₁.setTop (mkF m 47 #[.val (.ref a), .val (.int k), .val (.long mv), .second, .val (.ref g)] [(.int k)]))
        refine own_st (fun u_ k_ => XS.iconst X0.here hx rfl (hb hby own_d_method_2_47) k_) ?_
        show own_Go p e below _ (s₁.setTop (mkF m 48 #[.val (.ref a), .val (.int k), .val (.long mv), .second, .val (.ref g)] [(.int (4 : Int32)), (.int k)]))
        by_cases hc258 : k = (4 : Int32)
        · refine own_st (fun u_ k_ => XS.icmpNo X0.here hx rfl (hb hby own_d_method_2_48) rfl (XT.ii_ne_f hc258) k_) ?_
          show own_Go p e below _ (s₁.setTop (mkF m 51 #[.val (.ref a), .val (.int k), .val (.long mv), .second, .val (.ref g)] []))
          refine own_st (fun u_ k_ => XS.aloadN X0.here hx rfl (hb hby own_d_method_2_51) rfl rfl k_) ?_
          show own_Go p e below _ (s₁.setTop (mkF m 52 #[.val (.ref a), .val (.int k), .val (.long mv), .second, .val (.ref g)] [(.ref a)]))
          obtain ⟨T259, v259, L259, X259, hQ259, st259⟩ := own_callV X0 hx hZ (y := (⟨"com/example/gridwright/gridwright/AnnealSummary", "addInvalid", "()V"⟩ : MethodName)) (z := (⟨"com/example/gridwright/gridwright/AnnealSummary", "addInvalid", "()V"⟩ : MethodName)) hown (hw _ (List.mem_of_getElem? (i := 116) rfl)) (hw _ (List.mem_of_getElem? (i := 117) rfl)) (notFace_of_selects (args := #[]) (mvT hZ (hw _ (List.mem_of_getElem? (i := 119) rfl)))) (hw _ (List.mem_of_getElem? (i := 119) rfl)) (hw _ (List.mem_of_getElem? (i := 118) rfl)) (hw _ (List.mem_of_getElem? (i := 2) rfl)) (hw _ (List.mem_of_getElem? (i := 120) rfl)) own_lm_208 (rm12 l Z a0 hw [] w0 w1 w2 wm km hS a sv tv mx u x iv h0 n0 O0 E ga G0 G1 G2 G3 G4 G5) e0 E own_pd_236 (argsL := []) (rest := []) rfl rfl (g := (mkF m 52 #[.val (.ref a), .val (.int k), .val (.long mv), .second, .val (.ref g)] [(.ref a)])) rfl (by rw [hml]; rfl) rfl (hb hby own_d_method_2_52) (W := 0) rfl (by decide) (by decide) (by decide) (by decide)
          obtain ⟨i2_260, rfl, M259, K259, F261, F262, F263, F264, F265, F266, F267⟩ := hQ259
          have N259 := Fr.app N0 M259
          refine own_st (fun u_ k_ => st259 u_ k_) ?_
          show own_Go p e below _ (T259.setTop (mkF m 55 #[.val (.ref a), .val (.int k), .val (.long mv), .second, .val (.ref g)] []))
          refine own_st (fun u_ k_ => XS.iconst X259.here hx rfl (hb hby own_d_method_2_55) k_) ?_
          show own_Go p e below _ (T259.setTop (mkF m 56 #[.val (.ref a), .val (.int k), .val (.long mv), .second, .val (.ref g)] [(.int (0 : Int32))]))
          have K268 : Keep h0 T259.heap [a] := (Keep.refl h0 [a]).trans K259 (allS (Or.inl (List.mem_of_getElem? (i := 0) rfl)) all0)
          exact own_retXW X259 hSi0 (Nat.le_trans (Nat.zero_le _) K259.1) rfl hx hlk hret rfl (Or.inl ⟨rfl, by simp, _, rfl⟩) (hb hby own_d_method_2_56) (by decide) (by decide) (show Qrm13 Z w0 w1 w2 wm km a k mv g sv tv mx u x iv h0 n0 (some (.int (0 : Int32))) T259.heap _ from (by exact ⟨(0 : Int32), sv, tv, mx, u, x, i2_260, rfl, N259, K268, F261, F262, F263, F264, F265, F266, F267, (by simp [own_D])⟩))
        · refine own_st (fun u_ k_ => XS.icmpYes X0.here hx rfl (pc0 := 48) (pc' := 57) rfl (hb hby own_d_method_2_48) rfl (XT.ii_ne_t hc258) (by decide) (by decide) k_) ?_
          show own_Go p e below _ (s₁.setTop (mkF m 57 #[.val (.ref a), .val (.int k), .val (.long mv), .second, .val (.ref g)] []))
          refine own_st (fun u_ k_ => XS.iconst X0.here hx rfl (hb hby own_d_method_2_57) k_) ?_
          show own_Go p e below _ (s₁.setTop (mkF m 58 #[.val (.ref a), .val (.int k), .val (.long mv), .second, .val (.ref g)] [(.int (0 : Int32))]))
          exact own_retXW X0 hSi0 (Nat.zero_le _) e0 hx hlk hret rfl (Or.inl ⟨rfl, by simp, _, rfl⟩) (hb hby own_d_method_2_58) (by decide) (by decide) (show Qrm13 Z w0 w1 w2 wm km a k mv g sv tv mx u x iv h0 n0 (some (.int (0 : Int32))) s₁.heap _ from (by rw [e0]; exact ⟨(0 : Int32), sv, tv, mx, u, x, iv, rfl, N0, (Keep.refl h0 [a]), E, G0, G1, G2, G3, G4, G5, (by simp [own_D])⟩))
theorem own_lm_242 : "[" ++ (newarray.typeOf .byte).toString = "[B" := by decide +kernel
theorem own_lm_243 : ("com/example/gridwright/gridwright/Grid" : String) ≠ "java/lang/invoke/MethodHandle" ∧ ("com/example/gridwright/gridwright/Grid" : String) ≠ "java/lang/invoke/VarHandle" := by decide +kernel
theorem own_pd_244 : parseMethodDescriptor "(I[B)V" = some ⟨[.int, (.array .byte)], none⟩ := by decide +kernel
theorem own_pd_245 : parseMethodDescriptor "()Z" = some ⟨[], some .boolean⟩ := by decide +kernel
theorem own_lm_246 : ("com/example/gridwright/gridwright/AnnealSummaryAnyUnsolvedPinLaw" : String) ≠ "java/lang/invoke/MethodHandle" ∧ ("com/example/gridwright/gridwright/AnnealSummaryAnyUnsolvedPinLaw" : String) ≠ "java/lang/invoke/VarHandle" := by decide +kernel
theorem own_pd_247 : parseMethodDescriptor "(Lcom/example/gridwright/gridwright/AnnealSummary;IJLcom/example/gridwright/gridwright/Grid;)Z" = some ⟨[(.object "com/example/gridwright/gridwright/AnnealSummary"), .int, .long, (.object "com/example/gridwright/gridwright/Grid")], some .boolean⟩ := by decide +kernel
-- the law itself
theorem own_ef_rm0 (m : MethodId) (k1 : Int32) (k2 : Int32) (k3 : Int32) (m1 : Int64) (m2 : Int64) (m3 : Int64)  : entryFrame m #[(.int k1), (.int k2), (.int k3), (.long m1), (.long m2), (.long m3)] maxLocals = mkF m 0 #[.val (.int k1), .val (.int k2), .val (.int k3), .val (.long m1), .second, .val (.long m2), .second, .val (.long m3), .second, .unset, .unset, .unset, .unset, .unset, .unset, .unset] [] := by first | (simp [entryFrame, mkF, argsToLocals, Value.category, maxLocals]; done) | rfl
def Qrm0 (Z : State) (w0 : Addr) (w1 : Addr) (w2 : Addr) (wm : Addr) (km : ClassId) (k1 : Int32) (k2 : Int32) (k3 : Int32) (m1 : Int64) (m2 : Int64) (m3 : Int64) (h0 : Heap) (n0 : Nat) (v : Option Value) (h : Heap) (L : List Loc) : Prop := v = some (.int (1 : Int32)) ∧ Fr n0 L ∧ Keep h0 h []
set_option maxRecDepth 65536 in
set_option maxHeartbeats 40000000 in
theorem rm0 (l : Launch) (Z : State) (a0 : Array Value) (hw : ∀ d ∈ tables_1, d.before a0 Z = true) (ws : List Jvm.Cond) (w0 : Addr) (w1 : Addr) (w2 : Addr) (wm : Addr) (km : ClassId) (hS : own_S Z w0 w1 w2 wm km) (k1 : Int32) (k2 : Int32) (k3 : Int32) (m1 : Int64) (m2 : Int64) (m3 : Int64) (h0 : Heap) (n0 : Nat) (O0 : Old Z n0 h0)  :
    own_MetW l x code maxLocals ret ws room_1 Z h0 #[(.int k1), (.int k2), (.int k3), (.long m1), (.long m2), (.long m3)] (Qrm0 Z w0 w1 w2 wm km k1 k2 k3 m1 m2 m3 h0 n0) := by
  refine own_bodyW (plainFor_of_name own_pn_241) ?_
  intro p e s m below meth c s₁ hx hby hml hown hnm hret hlk hZ e0 X0 hSi0
  have N0 := Fr.nil n0
  refine own_st (fun u_ k_ => castTop (own_ef_rm0 m k1 k2 k3 m1 m2 m3) k_) ?_
  show own_Go p e below _ (s₁.setTop (mkF m 0 #[.val (.int k1), .val (.int k2), .val (.int k3), .val (.long m1), .second, .val (.long m2), .second, .val (.long m3), .second, .unset, .unset, .unset, .unset, .unset, .unset, .unset] []))
  obtain ⟨T269, h269, X269, e269, E269, A269, D269, U269, st269⟩ := newO X0 hx hZ hown (hw _ (List.mem_of_getElem? (i := 0) rfl)) (hw _ (List.mem_of_getElem? (i := 1) rfl)) (hw _ (List.mem_of_getElem? (i := 2) rfl)) e0 (g := (mkF m 0 #[.val (.int k1), .val (.int k2), .val (.int k3), .val (.long m1), .second, .val (.long m2), .second, .val (.long m3), .second, .unset, .unset, .unset, .unset, .unset, .unset, .unset] [])) rfl (hb hby at_0) (by decide) (by decide)
  obtain ⟨b269, g269⟩ : ∃ z, z = h0.size := ⟨_, rfl⟩
  rw [← g269] at A269 D269 U269 st269
  have F269_unsolved : Fld Z h269 b269 "com/example/gridwright/gridwright/AnnealSummary" "unsolved" "J" (.long (0 : Int64)) := D269 (Or.inl (hw _ (List.mem_of_getElem? (i := 29) rfl))) (ty := .long) own_lm_53
  have F269_unsolvable : Fld Z h269 b269 "com/example/gridwright/gridwright/AnnealSummary" "unsolvable" "J" (.long (0 : Int64)) := D269 (Or.inl (hw _ (List.mem_of_getElem? (i := 31) rfl))) (ty := .long) own_lm_53
  have F269_solved : Fld Z h269 b269 "com/example/gridwright/gridwright/AnnealSummary" "solved" "J" (.long (0 : Int64)) := D269 (Or.inl (hw _ (List.mem_of_getElem? (i := 102) rfl))) (ty := .long) own_lm_53
  have F269_movesTotal : Fld Z h269 b269 "com/example/gridwright/gridwright/AnnealSummary" "movesTotal" "J" (.long (0 : Int64)) := D269 (Or.inl (hw _ (List.mem_of_getElem? (i := 104) rfl))) (ty := .long) own_lm_53
  have F269_movesMax : Fld Z h269 b269 "com/example/gridwright/gridwright/AnnealSummary" "movesMax" "J" (.long (0 : Int64)) := D269 (Or.inl (hw _ (List.mem_of_getElem? (i := 111) rfl))) (ty := .long) own_lm_53
  have F269_invalid : Fld Z h269 b269 "com/example/gridwright/gridwright/AnnealSummary" "invalid" "J" (.long (0 : Int64)) := D269 (Or.inl (hw _ (List.mem_of_getElem? (i := 122) rfl))) (ty := .long) own_lm_53
  refine own_st (fun u_ k_ => st269 u_ k_) ?_
  show own_Go p e below _ (T269.setTop (mkF m 3 #[.val (.int k1), .val (.int k2), .val (.int k3), .val (.long m1), .second, .val (.long m2), .second, .val (.long m3), .second, .unset, .unset, .unset, .unset, .unset, .unset, .unset] [(.ref b269)]))
  refine own_st (fun u_ k_ => XS.dup X269.here hx rfl (hb hby at_3) rfl rfl k_) ?_
  show own_Go p e below _ (T269.setTop (mkF m 4 #[.val (.int k1), .val (.int k2), .val (.int k3), .val (.long m1), .second, .val (.long m2), .second, .val (.long m3), .second, .unset, .unset, .unset, .unset, .unset, .unset, .unset] [(.ref b269), (.ref b269)]))
  have O271 : Old Z n0 h269 := O0.ext E269
  obtain ⟨T270, v270, L270, X270, hQ270, st270⟩ := own_callN X269 hx hZ (y := (⟨"com/example/gridwright/gridwright/AnnealSummary", "<init>", "()V"⟩ : MethodName)) rfl hown (hw _ (List.mem_of_getElem? (i := 3) rfl)) (hw _ (List.mem_of_getElem? (i := 4) rfl)) (hw _ (List.mem_of_getElem? (i := 2) rfl)) (hw _ (List.mem_of_getElem? (i := 5) rfl)) own_lm_208 (rmS l Z a0 hw [] w0 w1 w2 wm km hS b269 h269 n0 O271 ) e269 own_pd_236 (a := b269) (argsL := []) (rest := [(.ref b269)]) rfl rfl (g := (mkF m 4 #[.val (.int k1), .val (.int k2), .val (.int k3), .val (.long m1), .second, .val (.long m2), .second, .val (.long m3), .second, .unset, .unset, .unset, .unset, .unset, .unset, .unset] [(.ref b269), (.ref b269)])) rfl (by rw [hml]; rfl) rfl (hb hby at_4) (W := 1) rfl (by decide) (by decide) (by decide) (by decide)
  obtain ⟨rfl, M270, e270⟩ := hQ270
  have N270 := Fr.app N0 M270
  refine own_st (fun u_ k_ => st270 u_ k_) ?_
  show own_Go p e below _ (T270.setTop (mkF m 7 #[.val (.int k1), .val (.int k2), .val (.int k3), .val (.long m1), .second, .val (.long m2), .second, .val (.long m3), .second, .unset, .unset, .unset, .unset, .unset, .unset, .unset] [(.ref b269)]))
  refine own_st (fun u_ k_ => XS.astore X270.here hx rfl (hb hby at_7) rfl rfl (l' := #[.val (.int k1), .val (.int k2), .val (.int k3), .val (.long m1), .second, .val (.long m2), .second, .val (.long m3), .second, .val (.ref b269), .unset, .unset, .unset, .unset, .unset, .unset]) rfl k_) ?_
  show own_Go p e below _ (T270.setTop (mkF m 9 #[.val (.int k1), .val (.int k2), .val (.int k3), .val (.long m1), .second, .val (.long m2), .second, .val (.long m3), .second, .val (.ref b269), .unset, .unset, .unset, .unset, .unset, .unset] []))
  obtain ⟨T272, h272, X272, e272, E272, A272, D272, U272, st272⟩ := newO X270 hx hZ hown (hw _ (List.mem_of_getElem? (i := 9) rfl)) (hw _ (List.mem_of_getElem? (i := 10) rfl)) (hw _ (List.mem_of_getElem? (i := 11) rfl)) e270 (g := (mkF m 9 #[.val (.int k1), .val (.int k2), .val (.int k3), .val (.long m1), .second, .val (.long m2), .second, .val (.long m3), .second, .val (.ref b269), .unset, .unset, .unset, .unset, .unset, .unset] [])) rfl (hb hby at_9) (by decide) (by decide)
  obtain ⟨b272, g272⟩ : ∃ z, z = h269.size := ⟨_, rfl⟩
  rw [← g272] at A272 D272 U272 st272
  have F272_boxSize : Fld Z h272 b272 "com/example/gridwright/gridwright/Grid" "boxSize" "I" (.int (0 : Int32)) := D272 (Or.inr (hw _ (List.mem_of_getElem? (i := 18) rfl))) (ty := .int) own_lm_9
  have F272_side : Fld Z h272 b272 "com/example/gridwright/gridwright/Grid" "side" "I" (.int (0 : Int32)) := D272 (Or.inr (hw _ (List.mem_of_getElem? (i := 20) rfl))) (ty := .int) own_lm_9
  have F272_cells : Fld Z h272 b272 "com/example/gridwright/gridwright/Grid" "cells" "[B" .null := D272 (Or.inr (hw _ (List.mem_of_getElem? (i := 22) rfl))) (ty := (.array .byte)) own_lm_20
  refine own_st (fun u_ k_ => st272 u_ k_) ?_
  show own_Go p e below _ (T272.setTop (mkF m 12 #[.val (.int k1), .val (.int k2), .val (.int k3), .val (.long m1), .second, .val (.long m2), .second, .val (.long m3), .second, .val (.ref b269), .unset, .unset, .unset, .unset, .unset, .unset] [(.ref b272)]))
  refine own_st (fun u_ k_ => XS.dup X272.here hx rfl (hb hby at_12) rfl rfl k_) ?_
  show own_Go p e below _ (T272.setTop (mkF m 13 #[.val (.int k1), .val (.int k2), .val (.int k3), .val (.long m1), .second, .val (.long m2), .second, .val (.long m3), .second, .val (.ref b269), .unset, .unset, .unset, .unset, .unset, .unset] [(.ref b272), (.ref b272)]))
  refine own_st (fun u_ k_ => XS.iconst X272.here hx rfl (hb hby at_13) k_) ?_
  show own_Go p e below _ (T272.setTop (mkF m 14 #[.val (.int k1), .val (.int k2), .val (.int k3), .val (.long m1), .second, .val (.long m2), .second, .val (.long m3), .second, .val (.ref b269), .unset, .unset, .unset, .unset, .unset, .unset] [(.int (2 : Int32)), (.ref b272), (.ref b272)]))
  refine own_st (fun u_ k_ => XS.bipush X272.here hx rfl (hb hby at_14) k_) ?_
  show own_Go p e below _ (T272.setTop (mkF m 16 #[.val (.int k1), .val (.int k2), .val (.int k3), .val (.long m1), .second, .val (.long m2), .second, .val (.long m3), .second, .val (.ref b269), .unset, .unset, .unset, .unset, .unset, .unset] [(.int (16 : Int32)), (.int (2 : Int32)), (.ref b272), (.ref b272)]))
  obtain ⟨T273, h273, k273, X273, e273, E273, A273, Y273, st273⟩ := newPE X272 hx hZ (hw _ (List.mem_of_getElem? (i := 12) rfl)) e272 (g := (mkF m 16 #[.val (.int k1), .val (.int k2), .val (.int k3), .val (.long m1), .second, .val (.long m2), .second, .val (.long m3), .second, .val (.ref b269), .unset, .unset, .unset, .unset, .unset, .unset] [(.int (16 : Int32)), (.int (2 : Int32)), (.ref b272), (.ref b272)])) rfl (hb hby at_16) rfl (by decide) (cap := 16) (by decide) (by decide) (by decide) (by decide) (ad := "[B") own_lm_242
  obtain ⟨b273, g273⟩ : ∃ z, z = h272.size := ⟨_, rfl⟩
  rw [← g273] at A273 Y273 st273
  have V273 : Arv Z h273 b273 k273 .byte (16 : Int32) [(.int (0 : Int32)), (.int (0 : Int32)), (.int (0 : Int32)), (.int (0 : Int32)), (.int (0 : Int32)), (.int (0 : Int32)), (.int (0 : Int32)), (.int (0 : Int32)), (.int (0 : Int32)), (.int (0 : Int32)), (.int (0 : Int32)), (.int (0 : Int32)), (.int (0 : Int32)), (.int (0 : Int32)), (.int (0 : Int32)), (.int (0 : Int32))] (.int (0 : Int32)) := (Arv.new A273 (by decide)).pad (pad_rep [] (.int (0 : Int32)) 16)
  refine own_st (fun u_ k_ => st273 u_ k_) ?_
  show own_Go p e below _ (T273.setTop (mkF m 18 #[.val (.int k1), .val (.int k2), .val (.int k3), .val (.long m1), .second, .val (.long m2), .second, .val (.long m3), .second, .val (.ref b269), .unset, .unset, .unset, .unset, .unset, .unset] [(.ref b273), (.int (2 : Int32)), (.ref b272), (.ref b272)]))
  have F274 : Exa Z h273 b272 "com/example/gridwright/gridwright/Grid" := (Exa.ext E273 A272)
  have g275 : n0 ≤ b272 := Nat.le_trans (own_nl O271) (Nat.le_of_eq g272.symm)
  have F276 : Fld Z h273 b272 "com/example/gridwright/gridwright/Grid" "boxSize" "I" (.int (0 : Int32)) := (Fld.ext E273 F272_boxSize)
  have F277 : Fld Z h273 b272 "com/example/gridwright/gridwright/Grid" "side" "I" (.int (0 : Int32)) := (Fld.ext E273 F272_side)
  have F278 : Fld Z h273 b272 "com/example/gridwright/gridwright/Grid" "cells" "[B" .null := (Fld.ext E273 F272_cells)
  have O280 : Old Z n0 h272 := O271.ext E272
  have O281 : Old Z n0 h273 := O280.ext E273
  obtain ⟨T279, v279, L279, X279, hQ279, st279⟩ := own_callN X273 hx hZ (y := (⟨"com/example/gridwright/gridwright/Grid", "<init>", "(I[B)V"⟩ : MethodName)) rfl hown (hw _ (List.mem_of_getElem? (i := 13) rfl)) (hw _ (List.mem_of_getElem? (i := 14) rfl)) (hw _ (List.mem_of_getElem? (i := 11) rfl)) (hw _ (List.mem_of_getElem? (i := 15) rfl)) own_lm_243 (rmG l Z a0 hw [] w0 w1 w2 wm km hS b272 (2 : Int32) b273 h273 n0 O281 F274 g275 F276 F277 F278) e273 own_pd_244 (a := b272) (argsL := [(.int (2 : Int32)), (.ref b273)]) (rest := [(.ref b272)]) rfl rfl (g := (mkF m 18 #[.val (.int k1), .val (.int k2), .val (.int k3), .val (.long m1), .second, .val (.long m2), .second, .val (.long m3), .second, .val (.ref b269), .unset, .unset, .unset, .unset, .unset, .unset] [(.ref b273), (.int (2 : Int32)), (.ref b272), (.ref b272)])) rfl (by rw [hml]; rfl) rfl (hb hby at_18) (W := 1) rfl (by decide) (by decide) (by decide) (by decide)
  obtain ⟨rfl, M279, K279, F282⟩ := hQ279
  have N279 := Fr.app N270 M279
  refine own_st (fun u_ k_ => st279 u_ k_) ?_
  show own_Go p e below _ (T279.setTop (mkF m 21 #[.val (.int k1), .val (.int k2), .val (.int k3), .val (.long m1), .second, .val (.long m2), .second, .val (.long m3), .second, .val (.ref b269), .unset, .unset, .unset, .unset, .unset, .unset] [(.ref b272)]))
  refine own_st (fun u_ k_ => XS.astore X279.here hx rfl (hb hby at_21) rfl rfl (l' := #[.val (.int k1), .val (.int k2), .val (.int k3), .val (.long m1), .second, .val (.long m2), .second, .val (.long m3), .second, .val (.ref b269), .val (.ref b272), .unset, .unset, .unset, .unset, .unset]) rfl k_) ?_
  show own_Go p e below _ (T279.setTop (mkF m 23 #[.val (.int k1), .val (.int k2), .val (.int k3), .val (.long m1), .second, .val (.long m2), .second, .val (.long m3), .second, .val (.ref b269), .val (.ref b272), .unset, .unset, .unset, .unset, .unset] []))
  refine own_st (fun u_ k_ => XS.aload X279.here hx rfl (hb hby at_23) rfl rfl k_) ?_
  show own_Go p e below _ (T279.setTop (mkF m 25 #[.val (.int k1), .val (.int k2), .val (.int k3), .val (.long m1), .second, .val (.long m2), .second, .val (.long m3), .second, .val (.ref b269), .val (.ref b272), .unset, .unset, .unset, .unset, .unset] [(.ref b269)]))
  have ne283 : b269 ≠ b272 := (Nat.ne_of_lt (Nat.lt_of_lt_of_le A269.lt (Nat.le_of_eq g272.symm)))
  have F284 : Fld Z T279.heap b269 "com/example/gridwright/gridwright/AnnealSummary" "unsolved" "J" (.long (0 : Int64)) := ((Fld.ext E273 (Fld.ext E272 F269_unsolved)).keep K279 (ninS ne283 nin0))
  have F285 : Fld Z T279.heap b269 "com/example/gridwright/gridwright/AnnealSummary" "unsolvable" "J" (.long (0 : Int64)) := ((Fld.ext E273 (Fld.ext E272 F269_unsolvable)).keep K279 (ninS ne283 nin0))
  have O287 : Old Z n0 T279.heap := O281.keep K279 (allS g275 all0)
  have F288 : Exa Z T279.heap b269 "com/example/gridwright/gridwright/AnnealSummary" := ((Exa.ext E273 (Exa.ext E272 A269)).keep K279)
  obtain ⟨T286, v286, L286, X286, hQ286, st286⟩ := own_callV X279 hx hZ (y := (⟨"com/example/gridwright/gridwright/AnnealSummary", "anyUnsolved", "()Z"⟩ : MethodName)) (z := (⟨"com/example/gridwright/gridwright/AnnealSummary", "anyUnsolved", "()Z"⟩ : MethodName)) hown (hw _ (List.mem_of_getElem? (i := 23) rfl)) (hw _ (List.mem_of_getElem? (i := 24) rfl)) (notFace_of_selects (args := #[]) (mvT hZ (hw _ (List.mem_of_getElem? (i := 26) rfl)))) (hw _ (List.mem_of_getElem? (i := 26) rfl)) (hw _ (List.mem_of_getElem? (i := 25) rfl)) (hw _ (List.mem_of_getElem? (i := 2) rfl)) (hw _ (List.mem_of_getElem? (i := 27) rfl)) own_lm_208 (rmU l Z a0 hw [] w0 w1 w2 wm km hS b269 (0 : Int64) (0 : Int64) T279.heap n0 O287 F284 F285) rfl F288 own_pd_245 (argsL := []) (rest := []) rfl rfl (g := (mkF m 25 #[.val (.int k1), .val (.int k2), .val (.int k3), .val (.long m1), .second, .val (.long m2), .second, .val (.long m3), .second, .val (.ref b269), .val (.ref b272), .unset, .unset, .unset, .unset, .unset] [(.ref b269)])) rfl (by rw [hml]; rfl) rfl (hb hby at_25) (W := 0) rfl (by decide) (by decide) (by decide) (by decide)
  obtain ⟨rfl, M286, e286⟩ := hQ286
  have N286 := Fr.app N279 M286
  refine own_st (fun u_ k_ => st286 u_ k_) ?_
  show own_Go p e below _ (T286.setTop (mkF m 28 #[.val (.int k1), .val (.int k2), .val (.int k3), .val (.long m1), .second, .val (.long m2), .second, .val (.long m3), .second, .val (.ref b269), .val (.ref b272), .unset, .unset, .unset, .unset, .unset] [(.int (own_any2 (0 : Int64) (0 : Int64)))]))
  refine own_st (fun u_ k_ => XS.ifNo X286.here hx rfl (hb hby at_28) rfl (XT.i0_ne_f (by decide)) k_) ?_
  show own_Go p e below _ (T286.setTop (mkF m 31 #[.val (.int k1), .val (.int k2), .val (.int k3), .val (.long m1), .second, .val (.long m2), .second, .val (.long m3), .second, .val (.ref b269), .val (.ref b272), .unset, .unset, .unset, .unset, .unset] []))
  refine own_st (fun u_ k_ => XS.iconst X286.here hx rfl (hb hby at_31) k_) ?_
  show own_Go p e below _ (T286.setTop (mkF m 32 #[.val (.int k1), .val (.int k2), .val (.int k3), .val (.long m1), .second, .val (.long m2), .second, .val (.long m3), .second, .val (.ref b269), .val (.ref b272), .unset, .unset, .unset, .unset, .unset] [(.int (1 : Int32))]))
  refine own_st (fun u_ k_ => XS.goto X286.here hx rfl (pc0 := 32) (pc' := 36) rfl (hb hby at_32) (by decide) (by decide) k_) ?_
  show own_Go p e below _ (T286.setTop (mkF m 36 #[.val (.int k1), .val (.int k2), .val (.int k3), .val (.long m1), .second, .val (.long m2), .second, .val (.long m3), .second, .val (.ref b269), .val (.ref b272), .unset, .unset, .unset, .unset, .unset] [(.int (1 : Int32))]))
  refine own_st (fun u_ k_ => XS.istore X286.here hx rfl (hb hby at_36) rfl (l' := #[.val (.int k1), .val (.int k2), .val (.int k3), .val (.long m1), .second, .val (.long m2), .second, .val (.long m3), .second, .val (.ref b269), .val (.ref b272), .val (.int (1 : Int32)), .unset, .unset, .unset, .unset]) rfl k_) ?_
  show own_Go p e below _ (T286.setTop (mkF m 38 #[.val (.int k1), .val (.int k2), .val (.int k3), .val (.long m1), .second, .val (.long m2), .second, .val (.long m3), .second, .val (.ref b269), .val (.ref b272), .val (.int (1 : Int32)), .unset, .unset, .unset, .unset] []))
  refine own_st (fun u_ k_ => XS.aload X286.here hx rfl (hb hby at_38) rfl rfl k_) ?_
  show own_Go p e below _ (T286.setTop (mkF m 40 #[.val (.int k1), .val (.int k2), .val (.int k3), .val (.long m1), .second, .val (.long m2), .second, .val (.long m3), .second, .val (.ref b269), .val (.ref b272), .val (.int (1 : Int32)), .unset, .unset, .unset, .unset] [(.ref b269)]))
  refine own_st (fun u_ k_ => XS.iloadN X286.here hx rfl (hb hby at_40) rfl k_) ?_
  show own_Go p e below _ (T286.setTop (mkF m 41 #[.val (.int k1), .val (.int k2), .val (.int k3), .val (.long m1), .second, .val (.long m2), .second, .val (.long m3), .second, .val (.ref b269), .val (.ref b272), .val (.int (1 : Int32)), .unset, .unset, .unset, .unset] [(.int k1), (.ref b269)]))
  refine own_st (X286.ldcInt hx hown (mvT hZ (hw _ (List.mem_of_getElem? (i := 32) rfl))) (g := (mkF m 41 #[.val (.int k1), .val (.int k2), .val (.int k3), .val (.long m1), .second, .val (.long m2), .second, .val (.long m3), .second, .val (.ref b269), .val (.ref b272), .val (.int (1 : Int32)), .unset, .unset, .unset, .unset] [(.int k1), (.ref b269)])) rfl (hb hby at_41)) ?_
  show own_Go p e below _ (T286.setTop (mkF m 43 #[.val (.int k1), .val (.int k2), .val (.int k3), .val (.long m1), .second, .val (.long m2), .second, .val (.long m3), .second, .val (.ref b269), .val (.ref b272), .val (.int (1 : Int32)), .unset, .unset, .unset, .unset] [(.int (2147483647 : Int32)), (.int k1), (.ref b269)]))
  refine own_st (fun u_ k_ => XS.iand X286.here hx rfl (hb hby at_43) rfl k_) ?_
  show own_Go p e below _ (T286.setTop (mkF m 44 #[.val (.int k1), .val (.int k2), .val (.int k3), .val (.long m1), .second, .val (.long m2), .second, .val (.long m3), .second, .val (.ref b269), .val (.ref b272), .val (.int (1 : Int32)), .unset, .unset, .unset, .unset] [(.int (k1 &&& (2147483647 : Int32))), (.ref b269)]))
  refine own_st (fun u_ k_ => XS.iconst X286.here hx rfl (hb hby at_44) k_) ?_
  show own_Go p e below _ (T286.setTop (mkF m 45 #[.val (.int k1), .val (.int k2), .val (.int k3), .val (.long m1), .second, .val (.long m2), .second, .val (.long m3), .second, .val (.ref b269), .val (.ref b272), .val (.int (1 : Int32)), .unset, .unset, .unset, .unset] [(.int (5 : Int32)), (.int (k1 &&& (2147483647 : Int32))), (.ref b269)]))
  refine own_st (fun u_ k_ => iremM X286 hx rfl (hb hby at_45) rfl (by decide) k_) ?_
  show own_Go p e below _ (T286.setTop (mkF m 46 #[.val (.int k1), .val (.int k2), .val (.int k3), .val (.long m1), .second, .val (.long m2), .second, .val (.long m3), .second, .val (.ref b269), .val (.ref b272), .val (.int (1 : Int32)), .unset, .unset, .unset, .unset] [(.int ((k1 &&& (2147483647 : Int32)) % (5 : Int32))), (.ref b269)]))
  refine own_st (fun u_ k_ => XS.lloadN X286.here hx rfl (hb hby at_46) rfl k_) ?_
  show own_Go p e below _ (T286.setTop (mkF m 47 #[.val (.int k1), .val (.int k2), .val (.int k3), .val (.long m1), .second, .val (.long m2), .second, .val (.long m3), .second, .val (.ref b269), .val (.ref b272), .val (.int (1 : Int32)), .unset, .unset, .unset, .unset] [(.long m1), (.int ((k1 &&& (2147483647 : Int32)) % (5 : Int32))), (.ref b269)]))
  refine own_st (fun u_ k_ => XS.aload X286.here hx rfl (hb hby at_47) rfl rfl k_) ?_
  show own_Go p e below _ (T286.setTop (mkF m 49 #[.val (.int k1), .val (.int k2), .val (.int k3), .val (.long m1), .second, .val (.long m2), .second, .val (.long m3), .second, .val (.ref b269), .val (.ref b272), .val (.int (1 : Int32)), .unset, .unset, .unset, .unset] [(.ref b272), (.long m1), (.int ((k1 &&& (2147483647 : Int32)) % (5 : Int32))), (.ref b269)]))
  have g289 : n0 ≤ b269 := Nat.le_trans (own_nl O0) (Nat.le_of_eq g269.symm)
  have F290 : Fld Z T279.heap b269 "com/example/gridwright/gridwright/AnnealSummary" "solved" "J" (.long (0 : Int64)) := ((Fld.ext E273 (Fld.ext E272 F269_solved)).keep K279 (ninS ne283 nin0))
  have F291 : Fld Z T279.heap b269 "com/example/gridwright/gridwright/AnnealSummary" "movesTotal" "J" (.long (0 : Int64)) := ((Fld.ext E273 (Fld.ext E272 F269_movesTotal)).keep K279 (ninS ne283 nin0))
  have F292 : Fld Z T279.heap b269 "com/example/gridwright/gridwright/AnnealSummary" "movesMax" "J" (.long (0 : Int64)) := ((Fld.ext E273 (Fld.ext E272 F269_movesMax)).keep K279 (ninS ne283 nin0))
  have F293 : Fld Z T279.heap b269 "com/example/gridwright/gridwright/AnnealSummary" "invalid" "J" (.long (0 : Int64)) := ((Fld.ext E273 (Fld.ext E272 F269_invalid)).keep K279 (ninS ne283 nin0))
  obtain ⟨T294, v294, L294, X294, Si294, hZ294, hown294, hQ294, st294⟩ := own_callSW X286 hx hZ hSi0 (Nat.le_trans (Nat.zero_le _) (Nat.le_trans (Nat.le_trans (Nat.le_trans E269.1 E272.1) E273.1) K279.1)) (y := (⟨"com/example/gridwright/gridwright/AnnealSummaryAnyUnsolvedPinLaw", "step", "(Lcom/example/gridwright/gridwright/AnnealSummary;IJLcom/example/gridwright/gridwright/Grid;)Z"⟩ : MethodName)) hown (hw _ (List.mem_of_getElem? (i := 33) rfl)) (hw _ (List.mem_of_getElem? (i := 34) rfl)) (hw _ (List.mem_of_getElem? (i := 35) rfl)) (hw _ (List.mem_of_getElem? (i := 36) rfl)) own_lm_246 (rm13 l Z a0 hw [] w0 w1 w2 wm km hS b269 ((k1 &&& (2147483647 : Int32)) % (5 : Int32)) m1 b272 (0 : Int64) (0 : Int64) (0 : Int64) (0 : Int64) (0 : Int64) (0 : Int64) T279.heap n0 O287 F288 F282 g289 F290 F291 F292 F284 F285 F293) e286 own_pd_247 (argsL := [(.ref b269), (.int ((k1 &&& (2147483647 : Int32)) % (5 : Int32))), (.long m1), (.ref b272)]) (rest := []) rfl rfl (g := (mkF m 49 #[.val (.int k1), .val (.int k2), .val (.int k3), .val (.long m1), .second, .val (.long m2), .second, .val (.long m3), .second, .val (.ref b269), .val (.ref b272), .val (.int (1 : Int32)), .unset, .unset, .unset, .unset] [(.ref b272), (.long m1), (.int ((k1 &&& (2147483647 : Int32)) % (5 : Int32))), (.ref b269)])) rfl (by rw [hml]; rfl) rfl (hb hby at_49) (W := 0) rfl (by decide) (by decide) (by decide) (by decide)
  obtain ⟨e1_295, sv2_296, tv2_297, mx2_298, u2_299, x2_300, iv2_301, rfl, M294, K294, F302, F303, F304, F305, F306, F307, F308, D_309⟩ := hQ294
  have N294 := Fr.app N286 M294
  refine own_st (fun u_ k_ => st294 u_ k_) ?_
  show own_Go p e below _ (T294.setTop (mkF m 52 #[.val (.int k1), .val (.int k2), .val (.int k3), .val (.long m1), .second, .val (.long m2), .second, .val (.long m3), .second, .val (.ref b269), .val (.ref b272), .val (.int (1 : Int32)), .unset, .unset, .unset, .unset] [(.int e1_295)]))
  refine own_st (fun u_ k_ => XS.istore X294.here hx rfl (hb hby at_52) rfl (l' := #[.val (.int k1), .val (.int k2), .val (.int k3), .val (.long m1), .second, .val (.long m2), .second, .val (.long m3), .second, .val (.ref b269), .val (.ref b272), .val (.int (1 : Int32)), .val (.int e1_295), .unset, .unset, .unset]) rfl k_) ?_
  show own_Go p e below _ (T294.setTop (mkF m 54 #[.val (.int k1), .val (.int k2), .val (.int k3), .val (.long m1), .second, .val (.long m2), .second, .val (.long m3), .second, .val (.ref b269), .val (.ref b272), .val (.int (1 : Int32)), .val (.int e1_295), .unset, .unset, .unset] []))
  refine own_st (fun u_ k_ => XS.aload X294.here hx rfl (hb hby at_54) rfl rfl k_) ?_
  show own_Go p e below _ (T294.setTop (mkF m 56 #[.val (.int k1), .val (.int k2), .val (.int k3), .val (.long m1), .second, .val (.long m2), .second, .val (.long m3), .second, .val (.ref b269), .val (.ref b272), .val (.int (1 : Int32)), .val (.int e1_295), .unset, .unset, .unset] [(.ref b269)]))
  refine own_st (fun u_ k_ => XS.iloadN X294.here hx rfl (hb hby at_56) rfl k_) ?_
  show own_Go p e below _ (T294.setTop (mkF m 57 #[.val (.int k1), .val (.int k2), .val (.int k3), .val (.long m1), .second, .val (.long m2), .second, .val (.long m3), .second, .val (.ref b269), .val (.ref b272), .val (.int (1 : Int32)), .val (.int e1_295), .unset, .unset, .unset] [(.int k2), (.ref b269)]))
  refine own_st (X294.ldcInt hx hown294 (mvT hZ294 (hw _ (List.mem_of_getElem? (i := 32) rfl))) (g := (mkF m 57 #[.val (.int k1), .val (.int k2), .val (.int k3), .val (.long m1), .second, .val (.long m2), .second, .val (.long m3), .second, .val (.ref b269), .val (.ref b272), .val (.int (1 : Int32)), .val (.int e1_295), .unset, .unset, .unset] [(.int k2), (.ref b269)])) rfl (hb hby at_57)) ?_
  show own_Go p e below _ (T294.setTop (mkF m 59 #[.val (.int k1), .val (.int k2), .val (.int k3), .val (.long m1), .second, .val (.long m2), .second, .val (.long m3), .second, .val (.ref b269), .val (.ref b272), .val (.int (1 : Int32)), .val (.int e1_295), .unset, .unset, .unset] [(.int (2147483647 : Int32)), (.int k2), (.ref b269)]))
  refine own_st (fun u_ k_ => XS.iand X294.here hx rfl (hb hby at_59) rfl k_) ?_
  show own_Go p e below _ (T294.setTop (mkF m 60 #[.val (.int k1), .val (.int k2), .val (.int k3), .val (.long m1), .second, .val (.long m2), .second, .val (.long m3), .second, .val (.ref b269), .val (.ref b272), .val (.int (1 : Int32)), .val (.int e1_295), .unset, .unset, .unset] [(.int (k2 &&& (2147483647 : Int32))), (.ref b269)]))
  refine own_st (fun u_ k_ => XS.iconst X294.here hx rfl (hb hby at_60) k_) ?_
  show own_Go p e below _ (T294.setTop (mkF m 61 #[.val (.int k1), .val (.int k2), .val (.int k3), .val (.long m1), .second, .val (.long m2), .second, .val (.long m3), .second, .val (.ref b269), .val (.ref b272), .val (.int (1 : Int32)), .val (.int e1_295), .unset, .unset, .unset] [(.int (5 : Int32)), (.int (k2 &&& (2147483647 : Int32))), (.ref b269)]))
  refine own_st (fun u_ k_ => iremM X294 hx rfl (hb hby at_61) rfl (by decide) k_) ?_
  show own_Go p e below _ (T294.setTop (mkF m 62 #[.val (.int k1), .val (.int k2), .val (.int k3), .val (.long m1), .second, .val (.long m2), .second, .val (.long m3), .second, .val (.ref b269), .val (.ref b272), .val (.int (1 : Int32)), .val (.int e1_295), .unset, .unset, .unset] [(.int ((k2 &&& (2147483647 : Int32)) % (5 : Int32))), (.ref b269)]))
  refine own_st (fun u_ k_ => XS.lload X294.here hx rfl (hb hby at_62) rfl k_) ?_
  show own_Go p e below _ (T294.setTop (mkF m 64 #[.val (.int k1), .val (.int k2), .val (.int k3), .val (.long m1), .second, .val (.long m2), .second, .val (.long m3), .second, .val (.ref b269), .val (.ref b272), .val (.int (1 : Int32)), .val (.int e1_295), .unset, .unset, .unset] [(.long m2), (.int ((k2 &&& (2147483647 : Int32)) % (5 : Int32))), (.ref b269)]))
  refine own_st (fun u_ k_ => XS.aload X294.here hx rfl (hb hby at_64) rfl rfl k_) ?_
  show own_Go p e below _ (T294.setTop (mkF m 66 #[.val (.int k1), .val (.int k2), .val (.int k3), .val (.long m1), .second, .val (.long m2), .second, .val (.long m3), .second, .val (.ref b269), .val (.ref b272), .val (.int (1 : Int32)), .val (.int e1_295), .unset, .unset, .unset] [(.ref b272), (.long m2), (.int ((k2 &&& (2147483647 : Int32)) % (5 : Int32))), (.ref b269)]))
  have F310 : Exa Z T294.heap b272 "com/example/gridwright/gridwright/Grid" := (F282.keep K294)
  have O312 : Old Z n0 T294.heap := O287.keep K294 (allS g289 all0)
  obtain ⟨T311, v311, L311, X311, Si311, hZ311, hown311, hQ311, st311⟩ := own_callSW X294 hx hZ294 Si294 (Nat.le_refl _) (y := (⟨"com/example/gridwright/gridwright/AnnealSummaryAnyUnsolvedPinLaw", "step", "(Lcom/example/gridwright/gridwright/AnnealSummary;IJLcom/example/gridwright/gridwright/Grid;)Z"⟩ : MethodName)) hown294 (hw _ (List.mem_of_getElem? (i := 33) rfl)) (hw _ (List.mem_of_getElem? (i := 34) rfl)) (hw _ (List.mem_of_getElem? (i := 35) rfl)) (hw _ (List.mem_of_getElem? (i := 36) rfl)) own_lm_246 (rm13 l Z a0 hw [] w0 w1 w2 wm km hS b269 ((k2 &&& (2147483647 : Int32)) % (5 : Int32)) m2 b272 sv2_296 tv2_297 mx2_298 u2_299 x2_300 iv2_301 T294.heap n0 O312 F302 F310 g289 F303 F304 F305 F306 F307 F308) rfl own_pd_247 (argsL := [(.ref b269), (.int ((k2 &&& (2147483647 : Int32)) % (5 : Int32))), (.long m2), (.ref b272)]) (rest := []) rfl rfl (g := (mkF m 66 #[.val (.int k1), .val (.int k2), .val (.int k3), .val (.long m1), .second, .val (.long m2), .second, .val (.long m3), .second, .val (.ref b269), .val (.ref b272), .val (.int (1 : Int32)), .val (.int e1_295), .unset, .unset, .unset] [(.ref b272), (.long m2), (.int ((k2 &&& (2147483647 : Int32)) % (5 : Int32))), (.ref b269)])) rfl (by rw [hml]; rfl) rfl (hb hby at_66) (W := 0) rfl (by decide) (by decide) (by decide) (by decide)
  obtain ⟨e1_313, sv2_314, tv2_315, mx2_316, u2_317, x2_318, iv2_319, rfl, M311, K311, F320, F321, F322, F323, F324, F325, F326, D_327⟩ := hQ311
  have N311 := Fr.app N294 M311
  refine own_st (fun u_ k_ => st311 u_ k_) ?_
  show own_Go p e below _ (T311.setTop (mkF m 69 #[.val (.int k1), .val (.int k2), .val (.int k3), .val (.long m1), .second, .val (.long m2), .second, .val (.long m3), .second, .val (.ref b269), .val (.ref b272), .val (.int (1 : Int32)), .val (.int e1_295), .unset, .unset, .unset] [(.int e1_313)]))
  refine own_st (fun u_ k_ => XS.istore X311.here hx rfl (hb hby at_69) rfl (l' := #[.val (.int k1), .val (.int k2), .val (.int k3), .val (.long m1), .second, .val (.long m2), .second, .val (.long m3), .second, .val (.ref b269), .val (.ref b272), .val (.int (1 : Int32)), .val (.int e1_295), .val (.int e1_313), .unset, .unset]) rfl k_) ?_
  show own_Go p e below _ (T311.setTop (mkF m 71 #[.val (.int k1), .val (.int k2), .val (.int k3), .val (.long m1), .second, .val (.long m2), .second, .val (.long m3), .second, .val (.ref b269), .val (.ref b272), .val (.int (1 : Int32)), .val (.int e1_295), .val (.int e1_313), .unset, .unset] []))
  refine own_st (fun u_ k_ => XS.aload X311.here hx rfl (hb hby at_71) rfl rfl k_) ?_
  show own_Go p e below _ (T311.setTop (mkF m 73 #[.val (.int k1), .val (.int k2), .val (.int k3), .val (.long m1), .second, .val (.long m2), .second, .val (.long m3), .second, .val (.ref b269), .val (.ref b272), .val (.int (1 : Int32)), .val (.int e1_295), .val (.int e1_313), .unset, .unset] [(.ref b269)]))
  refine own_st (fun u_ k_ => XS.iloadN X311.here hx rfl (hb hby at_73) rfl k_) ?_
  show own_Go p e below _ (T311.setTop (mkF m 74 #[.val (.int k1), .val (.int k2), .val (.int k3), .val (.long m1), .second, .val (.long m2), .second, .val (.long m3), .second, .val (.ref b269), .val (.ref b272), .val (.int (1 : Int32)), .val (.int e1_295), .val (.int e1_313), .unset, .unset] [(.int k3), (.ref b269)]))
  refine own_st (X311.ldcInt hx hown311 (mvT hZ311 (hw _ (List.mem_of_getElem? (i := 32) rfl))) (g := (mkF m 74 #[.val (.int k1), .val (.int k2), .val (.int k3), .val (.long m1), .second, .val (.long m2), .second, .val (.long m3), .second, .val (.ref b269), .val (.ref b272), .val (.int (1 : Int32)), .val (.int e1_295), .val (.int e1_313), .unset, .unset] [(.int k3), (.ref b269)])) rfl (hb hby at_74)) ?_
  show own_Go p e below _ (T311.setTop (mkF m 76 #[.val (.int k1), .val (.int k2), .val (.int k3), .val (.long m1), .second, .val (.long m2), .second, .val (.long m3), .second, .val (.ref b269), .val (.ref b272), .val (.int (1 : Int32)), .val (.int e1_295), .val (.int e1_313), .unset, .unset] [(.int (2147483647 : Int32)), (.int k3), (.ref b269)]))
  refine own_st (fun u_ k_ => XS.iand X311.here hx rfl (hb hby at_76) rfl k_) ?_
  show own_Go p e below _ (T311.setTop (mkF m 77 #[.val (.int k1), .val (.int k2), .val (.int k3), .val (.long m1), .second, .val (.long m2), .second, .val (.long m3), .second, .val (.ref b269), .val (.ref b272), .val (.int (1 : Int32)), .val (.int e1_295), .val (.int e1_313), .unset, .unset] [(.int (k3 &&& (2147483647 : Int32))), (.ref b269)]))
  refine own_st (fun u_ k_ => XS.iconst X311.here hx rfl (hb hby at_77) k_) ?_
  show own_Go p e below _ (T311.setTop (mkF m 78 #[.val (.int k1), .val (.int k2), .val (.int k3), .val (.long m1), .second, .val (.long m2), .second, .val (.long m3), .second, .val (.ref b269), .val (.ref b272), .val (.int (1 : Int32)), .val (.int e1_295), .val (.int e1_313), .unset, .unset] [(.int (5 : Int32)), (.int (k3 &&& (2147483647 : Int32))), (.ref b269)]))
  refine own_st (fun u_ k_ => iremM X311 hx rfl (hb hby at_78) rfl (by decide) k_) ?_
  show own_Go p e below _ (T311.setTop (mkF m 79 #[.val (.int k1), .val (.int k2), .val (.int k3), .val (.long m1), .second, .val (.long m2), .second, .val (.long m3), .second, .val (.ref b269), .val (.ref b272), .val (.int (1 : Int32)), .val (.int e1_295), .val (.int e1_313), .unset, .unset] [(.int ((k3 &&& (2147483647 : Int32)) % (5 : Int32))), (.ref b269)]))
  refine own_st (fun u_ k_ => XS.lload X311.here hx rfl (hb hby at_79) rfl k_) ?_
  show own_Go p e below _ (T311.setTop (mkF m 81 #[.val (.int k1), .val (.int k2), .val (.int k3), .val (.long m1), .second, .val (.long m2), .second, .val (.long m3), .second, .val (.ref b269), .val (.ref b272), .val (.int (1 : Int32)), .val (.int e1_295), .val (.int e1_313), .unset, .unset] [(.long m3), (.int ((k3 &&& (2147483647 : Int32)) % (5 : Int32))), (.ref b269)]))
  refine own_st (fun u_ k_ => XS.aload X311.here hx rfl (hb hby at_81) rfl rfl k_) ?_
  show own_Go p e below _ (T311.setTop (mkF m 83 #[.val (.int k1), .val (.int k2), .val (.int k3), .val (.long m1), .second, .val (.long m2), .second, .val (.long m3), .second, .val (.ref b269), .val (.ref b272), .val (.int (1 : Int32)), .val (.int e1_295), .val (.int e1_313), .unset, .unset] [(.ref b272), (.long m3), (.int ((k3 &&& (2147483647 : Int32)) % (5 : Int32))), (.ref b269)]))
  have F328 : Exa Z T311.heap b272 "com/example/gridwright/gridwright/Grid" := (F310.keep K311)
  have O330 : Old Z n0 T311.heap := O312.keep K311 (allS g289 all0)
  obtain ⟨T329, v329, L329, X329, Si329, hZ329, hown329, hQ329, st329⟩ := own_callSW X311 hx hZ311 Si311 (Nat.le_refl _) (y := (⟨"com/example/gridwright/gridwright/AnnealSummaryAnyUnsolvedPinLaw", "step", "(Lcom/example/gridwright/gridwright/AnnealSummary;IJLcom/example/gridwright/gridwright/Grid;)Z"⟩ : MethodName)) hown311 (hw _ (List.mem_of_getElem? (i := 33) rfl)) (hw _ (List.mem_of_getElem? (i := 34) rfl)) (hw _ (List.mem_of_getElem? (i := 35) rfl)) (hw _ (List.mem_of_getElem? (i := 36) rfl)) own_lm_246 (rm13 l Z a0 hw [] w0 w1 w2 wm km hS b269 ((k3 &&& (2147483647 : Int32)) % (5 : Int32)) m3 b272 sv2_314 tv2_315 mx2_316 u2_317 x2_318 iv2_319 T311.heap n0 O330 F320 F328 g289 F321 F322 F323 F324 F325 F326) rfl own_pd_247 (argsL := [(.ref b269), (.int ((k3 &&& (2147483647 : Int32)) % (5 : Int32))), (.long m3), (.ref b272)]) (rest := []) rfl rfl (g := (mkF m 83 #[.val (.int k1), .val (.int k2), .val (.int k3), .val (.long m1), .second, .val (.long m2), .second, .val (.long m3), .second, .val (.ref b269), .val (.ref b272), .val (.int (1 : Int32)), .val (.int e1_295), .val (.int e1_313), .unset, .unset] [(.ref b272), (.long m3), (.int ((k3 &&& (2147483647 : Int32)) % (5 : Int32))), (.ref b269)])) rfl (by rw [hml]; rfl) rfl (hb hby at_83) (W := 0) rfl (by decide) (by decide) (by decide) (by decide)
  obtain ⟨e1_331, sv2_332, tv2_333, mx2_334, u2_335, x2_336, iv2_337, rfl, M329, K329, F338, F339, F340, F341, F342, F343, F344, D_345⟩ := hQ329
  have N329 := Fr.app N311 M329
  refine own_st (fun u_ k_ => st329 u_ k_) ?_
  show own_Go p e below _ (T329.setTop (mkF m 86 #[.val (.int k1), .val (.int k2), .val (.int k3), .val (.long m1), .second, .val (.long m2), .second, .val (.long m3), .second, .val (.ref b269), .val (.ref b272), .val (.int (1 : Int32)), .val (.int e1_295), .val (.int e1_313), .unset, .unset] [(.int e1_331)]))
  refine own_st (fun u_ k_ => XS.istore X329.here hx rfl (hb hby at_86) rfl (l' := #[.val (.int k1), .val (.int k2), .val (.int k3), .val (.long m1), .second, .val (.long m2), .second, .val (.long m3), .second, .val (.ref b269), .val (.ref b272), .val (.int (1 : Int32)), .val (.int e1_295), .val (.int e1_313), .val (.int e1_331), .unset]) rfl k_) ?_
  show own_Go p e below _ (T329.setTop (mkF m 88 #[.val (.int k1), .val (.int k2), .val (.int k3), .val (.long m1), .second, .val (.long m2), .second, .val (.long m3), .second, .val (.ref b269), .val (.ref b272), .val (.int (1 : Int32)), .val (.int e1_295), .val (.int e1_313), .val (.int e1_331), .unset] []))
  refine own_st (fun u_ k_ => XS.iload X329.here hx rfl (hb hby at_88) rfl k_) ?_
  show own_Go p e below _ (T329.setTop (mkF m 90 #[.val (.int k1), .val (.int k2), .val (.int k3), .val (.long m1), .second, .val (.long m2), .second, .val (.long m3), .second, .val (.ref b269), .val (.ref b272), .val (.int (1 : Int32)), .val (.int e1_295), .val (.int e1_313), .val (.int e1_331), .unset] [(.int e1_295)]))
  by_cases hc346 : e1_295 = (0 : Int32)
  · refine own_st (fun u_ k_ => XS.ifNo X329.here hx rfl (hb hby at_90) rfl (XT.i0_ne_f hc346) k_) ?_
    show own_Go p e below _ (T329.setTop (mkF m 93 #[.val (.int k1), .val (.int k2), .val (.int k3), .val (.long m1), .second, .val (.long m2), .second, .val (.long m3), .second, .val (.ref b269), .val (.ref b272), .val (.int (1 : Int32)), .val (.int e1_295), .val (.int e1_313), .val (.int e1_331), .unset] []))
    refine own_st (fun u_ k_ => XS.iload X329.here hx rfl (hb hby at_93) rfl k_) ?_
    show own_Go p e below _ (T329.setTop (mkF m 95 #[.val (.int k1), .val (.int k2), .val (.int k3), .val (.long m1), .second, .val (.long m2), .second, .val (.long m3), .second, .val (.ref b269), .val (.ref b272), .val (.int (1 : Int32)), .val (.int e1_295), .val (.int e1_313), .val (.int e1_331), .unset] [(.int e1_313)]))
    by_cases hc347 : e1_313 = (0 : Int32)
    · refine own_st (fun u_ k_ => XS.ifNo X329.here hx rfl (hb hby at_95) rfl (XT.i0_ne_f hc347) k_) ?_
      show own_Go p e below _ (T329.setTop (mkF m 98 #[.val (.int k1), .val (.int k2), .val (.int k3), .val (.long m1), .second, .val (.long m2), .second, .val (.long m3), .second, .val (.ref b269), .val (.ref b272), .val (.int (1 : Int32)), .val (.int e1_295), .val (.int e1_313), .val (.int e1_331), .unset] []))
      refine own_st (fun u_ k_ => XS.iload X329.here hx rfl (hb hby at_98) rfl k_) ?_
      show own_Go p e below _ (T329.setTop (mkF m 100 #[.val (.int k1), .val (.int k2), .val (.int k3), .val (.long m1), .second, .val (.long m2), .second, .val (.long m3), .second, .val (.ref b269), .val (.ref b272), .val (.int (1 : Int32)), .val (.int e1_295), .val (.int e1_313), .val (.int e1_331), .unset] [(.int e1_331)]))
      by_cases hc348 : e1_331 = (0 : Int32)
      · refine own_st (fun u_ k_ => XS.ifYes X329.here hx rfl (pc0 := 100) (pc' := 107) rfl (hb hby at_100) rfl (XT.i0_eq_t hc348) (by decide) (by decide) k_) ?_
        show own_Go p e below _ (T329.setTop (mkF m 107 #[.val (.int k1), .val (.int k2), .val (.int k3), .val (.long m1), .second, .val (.long m2), .second, .val (.long m3), .second, .val (.ref b269), .val (.ref b272), .val (.int (1 : Int32)), .val (.int e1_295), .val (.int e1_313), .val (.int e1_331), .unset] []))
        refine own_st (fun u_ k_ => XS.iconst X329.here hx rfl (hb hby at_107) k_) ?_
        show own_Go p e below _ (T329.setTop (mkF m 108 #[.val (.int k1), .val (.int k2), .val (.int k3), .val (.long m1), .second, .val (.long m2), .second, .val (.long m3), .second, .val (.ref b269), .val (.ref b272), .val (.int (1 : Int32)), .val (.int e1_295), .val (.int e1_313), .val (.int e1_331), .unset] [(.int (0 : Int32))]))
        refine own_st (fun u_ k_ => XS.istore X329.here hx rfl (hb hby at_108) rfl (l' := #[.val (.int k1), .val (.int k2), .val (.int k3), .val (.long m1), .second, .val (.long m2), .second, .val (.long m3), .second, .val (.ref b269), .val (.ref b272), .val (.int (1 : Int32)), .val (.int e1_295), .val (.int e1_313), .val (.int e1_331), .val (.int (0 : Int32))]) rfl k_) ?_
        show own_Go p e below _ (T329.setTop (mkF m 110 #[.val (.int k1), .val (.int k2), .val (.int k3), .val (.long m1), .second, .val (.long m2), .second, .val (.long m3), .second, .val (.ref b269), .val (.ref b272), .val (.int (1 : Int32)), .val (.int e1_295), .val (.int e1_313), .val (.int e1_331), .val (.int (0 : Int32))] []))
        refine own_st (fun u_ k_ => XS.iload X329.here hx rfl (hb hby at_110) rfl k_) ?_
        show own_Go p e below _ (T329.setTop (mkF m 112 #[.val (.int k1), .val (.int k2), .val (.int k3), .val (.long m1), .second, .val (.long m2), .second, .val (.long m3), .second, .val (.ref b269), .val (.ref b272), .val (.int (1 : Int32)), .val (.int e1_295), .val (.int e1_313), .val (.int e1_331), .val (.int (0 : Int32))] [(.int (1 : Int32))]))
        refine own_st (fun u_ k_ => XS.ifNo X329.here hx rfl (hb hby at_112) rfl (XT.i0_eq_f (by decide)) k_) ?_
        show own_Go p e below _ (T329.setTop (mkF m 115 #[.val (.int k1), .val (.int k2), .val (.int k3), .val (.long m1), .second, .val (.long m2), .second, .val (.long m3), .second, .val (.ref b269), .val (.ref b272), .val (.int (1 : Int32)), .val (.int e1_295), .val (.int e1_313), .val (.int e1_331), .val (.int (0 : Int32))] []))
        refine own_st (fun u_ k_ => XS.aload X329.here hx rfl (hb hby at_115) rfl rfl k_) ?_
        show own_Go p e below _ (T329.setTop (mkF m 117 #[.val (.int k1), .val (.int k2), .val (.int k3), .val (.long m1), .second, .val (.long m2), .second, .val (.long m3), .second, .val (.ref b269), .val (.ref b272), .val (.int (1 : Int32)), .val (.int e1_295), .val (.int e1_313), .val (.int e1_331), .val (.int (0 : Int32))] [(.ref b269)]))
        have O350 : Old Z n0 T329.heap := O330.keep K329 (allS g289 all0)
        obtain ⟨T349, v349, L349, X349, hQ349, st349⟩ := own_callV X329 hx hZ329 (y := (⟨"com/example/gridwright/gridwright/AnnealSummary", "anyUnsolved", "()Z"⟩ : MethodName)) (z := (⟨"com/example/gridwright/gridwright/AnnealSummary", "anyUnsolved", "()Z"⟩ : MethodName)) hown329 (hw _ (List.mem_of_getElem? (i := 23) rfl)) (hw _ (List.mem_of_getElem? (i := 24) rfl)) (notFace_of_selects (args := #[]) (mvT hZ329 (hw _ (List.mem_of_getElem? (i := 26) rfl)))) (hw _ (List.mem_of_getElem? (i := 26) rfl)) (hw _ (List.mem_of_getElem? (i := 25) rfl)) (hw _ (List.mem_of_getElem? (i := 2) rfl)) (hw _ (List.mem_of_getElem? (i := 27) rfl)) own_lm_208 (rmU l Z a0 hw [] w0 w1 w2 wm km hS b269 u2_335 x2_336 T329.heap n0 O350 F342 F343) rfl F338 own_pd_245 (argsL := []) (rest := []) rfl rfl (g := (mkF m 117 #[.val (.int k1), .val (.int k2), .val (.int k3), .val (.long m1), .second, .val (.long m2), .second, .val (.long m3), .second, .val (.ref b269), .val (.ref b272), .val (.int (1 : Int32)), .val (.int e1_295), .val (.int e1_313), .val (.int e1_331), .val (.int (0 : Int32))] [(.ref b269)])) rfl (by rw [hml]; rfl) rfl (hb hby at_117) (W := 0) rfl (by decide) (by decide) (by decide) (by decide)
        obtain ⟨rfl, M349, e349⟩ := hQ349
        have N349 := Fr.app N329 M349
        refine own_st (fun u_ k_ => st349 u_ k_) ?_
        show own_Go p e below _ (T349.setTop (mkF m 120 #[.val (.int k1), .val (.int k2), .val (.int k3), .val (.long m1), .second, .val (.long m2), .second, .val (.long m3), .second, .val (.ref b269), .val (.ref b272), .val (.int (1 : Int32)), .val (.int e1_295), .val (.int e1_313), .val (.int e1_331), .val (.int (0 : Int32))] [(.int (own_any2 u2_335 x2_336))]))
        refine own_st (fun u_ k_ => XS.iload X349.here hx rfl (hb hby at_120) rfl k_) ?_
        show own_Go p e below _ (T349.setTop (mkF m 122 #[.val (.int k1), .val (.int k2), .val (.int k3), .val (.long m1), .second, .val (.long m2), .second, .val (.long m3), .second, .val (.ref b269), .val (.ref b272), .val (.int (1 : Int32)), .val (.int e1_295), .val (.int e1_313), .val (.int e1_331), .val (.int (0 : Int32))] [(.int (0 : Int32)), (.int (own_any2 u2_335 x2_336))]))
        refine own_st (fun u_ k_ => XS.icmpNo X349.here hx rfl (hb hby at_122) rfl (XT.ii_ne_f ((own_any D_309 D_327 D_345).trans (by simp [*]))) k_) ?_
        show own_Go p e below _ (T349.setTop (mkF m 125 #[.val (.int k1), .val (.int k2), .val (.int k3), .val (.long m1), .second, .val (.long m2), .second, .val (.long m3), .second, .val (.ref b269), .val (.ref b272), .val (.int (1 : Int32)), .val (.int e1_295), .val (.int e1_313), .val (.int e1_331), .val (.int (0 : Int32))] []))
        refine own_st (fun u_ k_ => XS.iconst X349.here hx rfl (hb hby at_125) k_) ?_
        show own_Go p e below _ (T349.setTop (mkF m 126 #[.val (.int k1), .val (.int k2), .val (.int k3), .val (.long m1), .second, .val (.long m2), .second, .val (.long m3), .second, .val (.ref b269), .val (.ref b272), .val (.int (1 : Int32)), .val (.int e1_295), .val (.int e1_313), .val (.int e1_331), .val (.int (0 : Int32))] [(.int (1 : Int32))]))
        refine own_st (fun u_ k_ => XS.goto X349.here hx rfl (pc0 := 126) (pc' := 130) rfl (hb hby at_126) (by decide) (by decide) k_) ?_
        show own_Go p e below _ (T349.setTop (mkF m 130 #[.val (.int k1), .val (.int k2), .val (.int k3), .val (.long m1), .second, .val (.long m2), .second, .val (.long m3), .second, .val (.ref b269), .val (.ref b272), .val (.int (1 : Int32)), .val (.int e1_295), .val (.int e1_313), .val (.int e1_331), .val (.int (0 : Int32))] [(.int (1 : Int32))]))
        have K351 : Keep h0 h269 [] := (Keep.refl h0 []).ext E269
        have K352 : Keep h0 h272 [] := K351.ext E272
        have K353 : Keep h0 h273 [] := K352.ext E273
        have z355 : h0.size ≤ b272 := Nat.le_trans E269.1 (Nat.le_of_eq g272.symm)
        have K354 : Keep h0 T279.heap [] := K353.trans K279 (allS (Or.inr z355) all0)
        have z357 : h0.size ≤ b269 := Nat.le_trans (Nat.le_refl _) (Nat.le_of_eq g269.symm)
        have K356 : Keep h0 T294.heap [] := K354.trans K294 (allS (Or.inr z357) all0)
        have K358 : Keep h0 T311.heap [] := K356.trans K311 (allS (Or.inr z357) all0)
        have K359 : Keep h0 T329.heap [] := K358.trans K329 (allS (Or.inr z357) all0)
        exact own_retXW X349 Si329 (Nat.le_refl _) e349 hx hlk hret rfl (Or.inl ⟨rfl, by simp, _, rfl⟩) (hb hby at_130) (by decide) (by decide) (show Qrm0 Z w0 w1 w2 wm km k1 k2 k3 m1 m2 m3 h0 n0 (some (.int (1 : Int32))) T349.heap _ from (by rw [e349]; exact ⟨rfl, N349, K359⟩))
      · refine own_st (fun u_ k_ => XS.ifNo X329.here hx rfl (hb hby at_100) rfl (XT.i0_eq_f hc348) k_) ?_
        show own_Go p e below _ (T329.setTop (mkF m 103 #[.val (.int k1), .val (.int k2), .val (.int k3), .val (.long m1), .second, .val (.long m2), .second, .val (.long m3), .second, .val (.ref b269), .val (.ref b272), .val (.int (1 : Int32)), .val (.int e1_295), .val (.int e1_313), .val (.int e1_331), .unset] []))
        refine own_st (fun u_ k_ => XS.iconst X329.here hx rfl (hb hby at_103) k_) ?_
        show own_Go p e below _ (T329.setTop (mkF m 104 #[.val (.int k1), .val (.int k2), .val (.int k3), .val (.long m1), .second, .val (.long m2), .second, .val (.long m3), .second, .val (.ref b269), .val (.ref b272), .val (.int (1 : Int32)), .val (.int e1_295), .val (.int e1_313), .val (.int e1_331), .unset] [(.int (1 : Int32))]))
        refine own_st (fun u_ k_ => XS.goto X329.here hx rfl (pc0 := 104) (pc' := 108) rfl (hb hby at_104) (by decide) (by decide) k_) ?_
        show own_Go p e below _ (T329.setTop (mkF m 108 #[.val (.int k1), .val (.int k2), .val (.int k3), .val (.long m1), .second, .val (.long m2), .second, .val (.long m3), .second, .val (.ref b269), .val (.ref b272), .val (.int (1 : Int32)), .val (.int e1_295), .val (.int e1_313), .val (.int e1_331), .unset] [(.int (1 : Int32))]))
        refine own_st (fun u_ k_ => XS.istore X329.here hx rfl (hb hby at_108) rfl (l' := #[.val (.int k1), .val (.int k2), .val (.int k3), .val (.long m1), .second, .val (.long m2), .second, .val (.long m3), .second, .val (.ref b269), .val (.ref b272), .val (.int (1 : Int32)), .val (.int e1_295), .val (.int e1_313), .val (.int e1_331), .val (.int (1 : Int32))]) rfl k_) ?_
        show own_Go p e below _ (T329.setTop (mkF m 110 #[.val (.int k1), .val (.int k2), .val (.int k3), .val (.long m1), .second, .val (.long m2), .second, .val (.long m3), .second, .val (.ref b269), .val (.ref b272), .val (.int (1 : Int32)), .val (.int e1_295), .val (.int e1_313), .val (.int e1_331), .val (.int (1 : Int32))] []))
        refine own_st (fun u_ k_ => XS.iload X329.here hx rfl (hb hby at_110) rfl k_) ?_
        show own_Go p e below _ (T329.setTop (mkF m 112 #[.val (.int k1), .val (.int k2), .val (.int k3), .val (.long m1), .second, .val (.long m2), .second, .val (.long m3), .second, .val (.ref b269), .val (.ref b272), .val (.int (1 : Int32)), .val (.int e1_295), .val (.int e1_313), .val (.int e1_331), .val (.int (1 : Int32))] [(.int (1 : Int32))]))
        refine own_st (fun u_ k_ => XS.ifNo X329.here hx rfl (hb hby at_112) rfl (XT.i0_eq_f (by decide)) k_) ?_
        show own_Go p e below _ (T329.setTop (mkF m 115 #[.val (.int k1), .val (.int k2), .val (.int k3), .val (.long m1), .second, .val (.long m2), .second, .val (.long m3), .second, .val (.ref b269), .val (.ref b272), .val (.int (1 : Int32)), .val (.int e1_295), .val (.int e1_313), .val (.int e1_331), .val (.int (1 : Int32))] []))
        refine own_st (fun u_ k_ => XS.aload X329.here hx rfl (hb hby at_115) rfl rfl k_) ?_
        show own_Go p e below _ (T329.setTop (mkF m 117 #[.val (.int k1), .val (.int k2), .val (.int k3), .val (.long m1), .second, .val (.long m2), .second, .val (.long m3), .second, .val (.ref b269), .val (.ref b272), .val (.int (1 : Int32)), .val (.int e1_295), .val (.int e1_313), .val (.int e1_331), .val (.int (1 : Int32))] [(.ref b269)]))
        have O361 : Old Z n0 T329.heap := O330.keep K329 (allS g289 all0)
        obtain ⟨T360, v360, L360, X360, hQ360, st360⟩ := own_callV X329 hx hZ329 (y := (⟨"com/example/gridwright/gridwright/AnnealSummary", "anyUnsolved", "()Z"⟩ : MethodName)) (z := (⟨"com/example/gridwright/gridwright/AnnealSummary", "anyUnsolved", "()Z"⟩ : MethodName)) hown329 (hw _ (List.mem_of_getElem? (i := 23) rfl)) (hw _ (List.mem_of_getElem? (i := 24) rfl)) (notFace_of_selects (args := #[]) (mvT hZ329 (hw _ (List.mem_of_getElem? (i := 26) rfl)))) (hw _ (List.mem_of_getElem? (i := 26) rfl)) (hw _ (List.mem_of_getElem? (i := 25) rfl)) (hw _ (List.mem_of_getElem? (i := 2) rfl)) (hw _ (List.mem_of_getElem? (i := 27) rfl)) own_lm_208 (rmU l Z a0 hw [] w0 w1 w2 wm km hS b269 u2_335 x2_336 T329.heap n0 O361 F342 F343) rfl F338 own_pd_245 (argsL := []) (rest := []) rfl rfl (g := (mkF m 117 #[.val (.int k1), .val (.int k2), .val (.int k3), .val (.long m1), .second, .val (.long m2), .second, .val (.long m3), .second, .val (.ref b269), .val (.ref b272), .val (.int (1 : Int32)), .val (.int e1_295), .val (.int e1_313), .val (.int e1_331), .val (.int (1 : Int32))] [(.ref b269)])) rfl (by rw [hml]; rfl) rfl (hb hby at_117) (W := 0) rfl (by decide) (by decide) (by decide) (by decide)
        obtain ⟨rfl, M360, e360⟩ := hQ360
        have N360 := Fr.app N329 M360
        refine own_st (fun u_ k_ => st360 u_ k_) ?_
        show own_Go p e below _ (T360.setTop (mkF m 120 #[.val (.int k1), .val (.int k2), .val (.int k3), .val (.long m1), .second, .val (.long m2), .second, .val (.long m3), .second, .val (.ref b269), .val (.ref b272), .val (.int (1 : Int32)), .val (.int e1_295), .val (.int e1_313), .val (.int e1_331), .val (.int (1 : Int32))] [(.int (own_any2 u2_335 x2_336))]))
        refine own_st (fun u_ k_ => XS.iload X360.here hx rfl (hb hby at_120) rfl k_) ?_
        show own_Go p e below _ (T360.setTop (mkF m 122 #[.val (.int k1), .val (.int k2), .val (.int k3), .val (.long m1), .second, .val (.long m2), .second, .val (.long m3), .second, .val (.ref b269), .val (.ref b272), .val (.int (1 : Int32)), .val (.int e1_295), .val (.int e1_313), .val (.int e1_331), .val (.int (1 : Int32))] [(.int (1 : Int32)), (.int (own_any2 u2_335 x2_336))]))
        refine own_st (fun u_ k_ => XS.icmpNo X360.here hx rfl (hb hby at_122) rfl (XT.ii_ne_f ((own_any D_309 D_327 D_345).trans (by simp [*]))) k_) ?_
        show own_Go p e below _ (T360.setTop (mkF m 125 #[.val (.int k1), .val (.int k2), .val (.int k3), .val (.long m1), .second, .val (.long m2), .second, .val (.long m3), .second, .val (.ref b269), .val (.ref b272), .val (.int (1 : Int32)), .val (.int e1_295), .val (.int e1_313), .val (.int e1_331), .val (.int (1 : Int32))] []))
        refine own_st (fun u_ k_ => XS.iconst X360.here hx rfl (hb hby at_125) k_) ?_
        show own_Go p e below _ (T360.setTop (mkF m 126 #[.val (.int k1), .val (.int k2), .val (.int k3), .val (.long m1), .second, .val (.long m2), .second, .val (.long m3), .second, .val (.ref b269), .val (.ref b272), .val (.int (1 : Int32)), .val (.int e1_295), .val (.int e1_313), .val (.int e1_331), .val (.int (1 : Int32))] [(.int (1 : Int32))]))
        refine own_st (fun u_ k_ => XS.goto X360.here hx rfl (pc0 := 126) (pc' := 130) rfl (hb hby at_126) (by decide) (by decide) k_) ?_
        show own_Go p e below _ (T360.setTop (mkF m 130 #[.val (.int k1), .val (.int k2), .val (.int k3), .val (.long m1), .second, .val (.long m2), .second, .val (.long m3), .second, .val (.ref b269), .val (.ref b272), .val (.int (1 : Int32)), .val (.int e1_295), .val (.int e1_313), .val (.int e1_331), .val (.int (1 : Int32))] [(.int (1 : Int32))]))
        have K362 : Keep h0 h269 [] := (Keep.refl h0 []).ext E269
        have K363 : Keep h0 h272 [] := K362.ext E272
        have K364 : Keep h0 h273 [] := K363.ext E273
        have z366 : h0.size ≤ b272 := Nat.le_trans E269.1 (Nat.le_of_eq g272.symm)
        have K365 : Keep h0 T279.heap [] := K364.trans K279 (allS (Or.inr z366) all0)
        have z368 : h0.size ≤ b269 := Nat.le_trans (Nat.le_refl _) (Nat.le_of_eq g269.symm)
        have K367 : Keep h0 T294.heap [] := K365.trans K294 (allS (Or.inr z368) all0)
        have K369 : Keep h0 T311.heap [] := K367.trans K311 (allS (Or.inr z368) all0)
        have K370 : Keep h0 T329.heap [] := K369.trans K329 (allS (Or.inr z368) all0)
        exact own_retXW X360 Si329 (Nat.le_refl _) e360 hx hlk hret rfl (Or.inl ⟨rfl, by simp, _, rfl⟩) (hb hby at_130) (by decide) (by decide) (show Qrm0 Z w0 w1 w2 wm km k1 k2 k3 m1 m2 m3 h0 n0 (some (.int (1 : Int32))) T360.heap _ from (by rw [e360]; exact ⟨rfl, N360, K370⟩))
    · refine own_st (fun u_ k_ => XS.ifYes X329.here hx rfl (pc0 := 95) (pc' := 103) rfl (hb hby at_95) rfl (XT.i0_ne_t hc347) (by decide) (by decide) k_) ?_
      show own_Go p e below _ (T329.setTop (mkF m 103 #[.val (.int k1), .val (.int k2), .val (.int k3), .val (.long m1), .second, .val (.long m2), .second, .val (.long m3), .second, .val (.ref b269), .val (.ref b272), .val (.int (1 : Int32)), .val (.int e1_295), .val (.int e1_313), .val (.int e1_331), .unset] []))
      refine own_st (fun u_ k_ => XS.iconst X329.here hx rfl (hb hby at_103) k_) ?_
      show own_Go p e below _ (T329.setTop (mkF m 104 #[.val (.int k1), .val (.int k2), .val (.int k3), .val (.long m1), .second, .val (.long m2), .second, .val (.long m3), .second, .val (.ref b269), .val (.ref b272), .val (.int (1 : Int32)), .val (.int e1_295), .val (.int e1_313), .val (.int e1_331), .unset] [(.int (1 : Int32))]))
      refine own_st (fun u_ k_ => XS.goto X329.here hx rfl (pc0 := 104) (pc' := 108) rfl (hb hby at_104) (by decide) (by decide) k_) ?_
      show own_Go p e below _ (T329.setTop (mkF m 108 #[.val (.int k1), .val (.int k2), .val (.int k3), .val (.long m1), .second, .val (.long m2), .second, .val (.long m3), .second, .val (.ref b269), .val (.ref b272), .val (.int (1 : Int32)), .val (.int e1_295), .val (.int e1_313), .val (.int e1_331), .unset] [(.int (1 : Int32))]))
      refine own_st (fun u_ k_ => XS.istore X329.here hx rfl (hb hby at_108) rfl (l' := #[.val (.int k1), .val (.int k2), .val (.int k3), .val (.long m1), .second, .val (.long m2), .second, .val (.long m3), .second, .val (.ref b269), .val (.ref b272), .val (.int (1 : Int32)), .val (.int e1_295), .val (.int e1_313), .val (.int e1_331), .val (.int (1 : Int32))]) rfl k_) ?_
      show own_Go p e below _ (T329.setTop (mkF m 110 #[.val (.int k1), .val (.int k2), .val (.int k3), .val (.long m1), .second, .val (.long m2), .second, .val (.long m3), .second, .val (.ref b269), .val (.ref b272), .val (.int (1 : Int32)), .val (.int e1_295), .val (.int e1_313), .val (.int e1_331), .val (.int (1 : Int32))] []))
      refine own_st (fun u_ k_ => XS.iload X329.here hx rfl (hb hby at_110) rfl k_) ?_
      show own_Go p e below _ (T329.setTop (mkF m 112 #[.val (.int k1), .val (.int k2), .val (.int k3), .val (.long m1), .second, .val (.long m2), .second, .val (.long m3), .second, .val (.ref b269), .val (.ref b272), .val (.int (1 : Int32)), .val (.int e1_295), .val (.int e1_313), .val (.int e1_331), .val (.int (1 : Int32))] [(.int (1 : Int32))]))
      refine own_st (fun u_ k_ => XS.ifNo X329.here hx rfl (hb hby at_112) rfl (XT.i0_eq_f (by decide)) k_) ?_
      show own_Go p e below _ (T329.setTop (mkF m 115 #[.val (.int k1), .val (.int k2), .val (.int k3), .val (.long m1), .second, .val (.long m2), .second, .val (.long m3), .second, .val (.ref b269), .val (.ref b272), .val (.int (1 : Int32)), .val (.int e1_295), .val (.int e1_313), .val (.int e1_331), .val (.int (1 : Int32))] []))
      refine own_st (fun u_ k_ => XS.aload X329.here hx rfl (hb hby at_115) rfl rfl k_) ?_
      show own_Go p e below _ (T329.setTop (mkF m 117 #[.val (.int k1), .val (.int k2), .val (.int k3), .val (.long m1), .second, .val (.long m2), .second, .val (.long m3), .second, .val (.ref b269), .val (.ref b272), .val (.int (1 : Int32)), .val (.int e1_295), .val (.int e1_313), .val (.int e1_331), .val (.int (1 : Int32))] [(.ref b269)]))
      have O372 : Old Z n0 T329.heap := O330.keep K329 (allS g289 all0)
      obtain ⟨T371, v371, L371, X371, hQ371, st371⟩ := own_callV X329 hx hZ329 (y := (⟨"com/example/gridwright/gridwright/AnnealSummary", "anyUnsolved", "()Z"⟩ : MethodName)) (z := (⟨"com/example/gridwright/gridwright/AnnealSummary", "anyUnsolved", "()Z"⟩ : MethodName)) hown329 (hw _ (List.mem_of_getElem? (i := 23) rfl)) (hw _ (List.mem_of_getElem? (i := 24) rfl)) (notFace_of_selects (args := #[]) (mvT hZ329 (hw _ (List.mem_of_getElem? (i := 26) rfl)))) (hw _ (List.mem_of_getElem? (i := 26) rfl)) (hw _ (List.mem_of_getElem? (i := 25) rfl)) (hw _ (List.mem_of_getElem? (i := 2) rfl)) (hw _ (List.mem_of_getElem? (i := 27) rfl)) own_lm_208 (rmU l Z a0 hw [] w0 w1 w2 wm km hS b269 u2_335 x2_336 T329.heap n0 O372 F342 F343) rfl F338 own_pd_245 (argsL := []) (rest := []) rfl rfl (g := (mkF m 117 #[.val (.int k1), .val (.int k2), .val (.int k3), .val (.long m1), .second, .val (.long m2), .second, .val (.long m3), .second, .val (.ref b269), .val (.ref b272), .val (.int (1 : Int32)), .val (.int e1_295), .val (.int e1_313), .val (.int e1_331), .val (.int (1 : Int32))] [(.ref b269)])) rfl (by rw [hml]; rfl) rfl (hb hby at_117) (W := 0) rfl (by decide) (by decide) (by decide) (by decide)
      obtain ⟨rfl, M371, e371⟩ := hQ371
      have N371 := Fr.app N329 M371
      refine own_st (fun u_ k_ => st371 u_ k_) ?_
      show own_Go p e below _ (T371.setTop (mkF m 120 #[.val (.int k1), .val (.int k2), .val (.int k3), .val (.long m1), .second, .val (.long m2), .second, .val (.long m3), .second, .val (.ref b269), .val (.ref b272), .val (.int (1 : Int32)), .val (.int e1_295), .val (.int e1_313), .val (.int e1_331), .val (.int (1 : Int32))] [(.int (own_any2 u2_335 x2_336))]))
      refine own_st (fun u_ k_ => XS.iload X371.here hx rfl (hb hby at_120) rfl k_) ?_
      show own_Go p e below _ (T371.setTop (mkF m 122 #[.val (.int k1), .val (.int k2), .val (.int k3), .val (.long m1), .second, .val (.long m2), .second, .val (.long m3), .second, .val (.ref b269), .val (.ref b272), .val (.int (1 : Int32)), .val (.int e1_295), .val (.int e1_313), .val (.int e1_331), .val (.int (1 : Int32))] [(.int (1 : Int32)), (.int (own_any2 u2_335 x2_336))]))
      refine own_st (fun u_ k_ => XS.icmpNo X371.here hx rfl (hb hby at_122) rfl (XT.ii_ne_f ((own_any D_309 D_327 D_345).trans (by simp [*]))) k_) ?_
      show own_Go p e below _ (T371.setTop (mkF m 125 #[.val (.int k1), .val (.int k2), .val (.int k3), .val (.long m1), .second, .val (.long m2), .second, .val (.long m3), .second, .val (.ref b269), .val (.ref b272), .val (.int (1 : Int32)), .val (.int e1_295), .val (.int e1_313), .val (.int e1_331), .val (.int (1 : Int32))] []))
      refine own_st (fun u_ k_ => XS.iconst X371.here hx rfl (hb hby at_125) k_) ?_
      show own_Go p e below _ (T371.setTop (mkF m 126 #[.val (.int k1), .val (.int k2), .val (.int k3), .val (.long m1), .second, .val (.long m2), .second, .val (.long m3), .second, .val (.ref b269), .val (.ref b272), .val (.int (1 : Int32)), .val (.int e1_295), .val (.int e1_313), .val (.int e1_331), .val (.int (1 : Int32))] [(.int (1 : Int32))]))
      refine own_st (fun u_ k_ => XS.goto X371.here hx rfl (pc0 := 126) (pc' := 130) rfl (hb hby at_126) (by decide) (by decide) k_) ?_
      show own_Go p e below _ (T371.setTop (mkF m 130 #[.val (.int k1), .val (.int k2), .val (.int k3), .val (.long m1), .second, .val (.long m2), .second, .val (.long m3), .second, .val (.ref b269), .val (.ref b272), .val (.int (1 : Int32)), .val (.int e1_295), .val (.int e1_313), .val (.int e1_331), .val (.int (1 : Int32))] [(.int (1 : Int32))]))
      have K373 : Keep h0 h269 [] := (Keep.refl h0 []).ext E269
      have K374 : Keep h0 h272 [] := K373.ext E272
      have K375 : Keep h0 h273 [] := K374.ext E273
      have z377 : h0.size ≤ b272 := Nat.le_trans E269.1 (Nat.le_of_eq g272.symm)
      have K376 : Keep h0 T279.heap [] := K375.trans K279 (allS (Or.inr z377) all0)
      have z379 : h0.size ≤ b269 := Nat.le_trans (Nat.le_refl _) (Nat.le_of_eq g269.symm)
      have K378 : Keep h0 T294.heap [] := K376.trans K294 (allS (Or.inr z379) all0)
      have K380 : Keep h0 T311.heap [] := K378.trans K311 (allS (Or.inr z379) all0)
      have K381 : Keep h0 T329.heap [] := K380.trans K329 (allS (Or.inr z379) all0)
      exact own_retXW X371 Si329 (Nat.le_refl _) e371 hx hlk hret rfl (Or.inl ⟨rfl, by simp, _, rfl⟩) (hb hby at_130) (by decide) (by decide) (show Qrm0 Z w0 w1 w2 wm km k1 k2 k3 m1 m2 m3 h0 n0 (some (.int (1 : Int32))) T371.heap _ from (by rw [e371]; exact ⟨rfl, N371, K381⟩))
  · refine own_st (fun u_ k_ => XS.ifYes X329.here hx rfl (pc0 := 90) (pc' := 103) rfl (hb hby at_90) rfl (XT.i0_ne_t hc346) (by decide) (by decide) k_) ?_
    show own_Go p e below _ (T329.setTop (mkF m 103 #[.val (.int k1), .val (.int k2), .val (.int k3), .val (.long m1), .second, .val (.long m2), .second, .val (.long m3), .second, .val (.ref b269), .val (.ref b272), .val (.int (1 : Int32)), .val (.int e1_295), .val (.int e1_313), .val (.int e1_331), .unset] []))
    refine own_st (fun u_ k_ => XS.iconst X329.here hx rfl (hb hby at_103) k_) ?_
    show own_Go p e below _ (T329.setTop (mkF m 104 #[.val (.int k1), .val (.int k2), .val (.int k3), .val (.long m1), .second, .val (.long m2), .second, .val (.long m3), .second, .val (.ref b269), .val (.ref b272), .val (.int (1 : Int32)), .val (.int e1_295), .val (.int e1_313), .val (.int e1_331), .unset] [(.int (1 : Int32))]))
    refine own_st (fun u_ k_ => XS.goto X329.here hx rfl (pc0 := 104) (pc' := 108) rfl (hb hby at_104) (by decide) (by decide) k_) ?_
    show own_Go p e below _ (T329.setTop (mkF m 108 #[.val (.int k1), .val (.int k2), .val (.int k3), .val (.long m1), .second, .val (.long m2), .second, .val (.long m3), .second, .val (.ref b269), .val (.ref b272), .val (.int (1 : Int32)), .val (.int e1_295), .val (.int e1_313), .val (.int e1_331), .unset] [(.int (1 : Int32))]))
    refine own_st (fun u_ k_ => XS.istore X329.here hx rfl (hb hby at_108) rfl (l' := #[.val (.int k1), .val (.int k2), .val (.int k3), .val (.long m1), .second, .val (.long m2), .second, .val (.long m3), .second, .val (.ref b269), .val (.ref b272), .val (.int (1 : Int32)), .val (.int e1_295), .val (.int e1_313), .val (.int e1_331), .val (.int (1 : Int32))]) rfl k_) ?_
    show own_Go p e below _ (T329.setTop (mkF m 110 #[.val (.int k1), .val (.int k2), .val (.int k3), .val (.long m1), .second, .val (.long m2), .second, .val (.long m3), .second, .val (.ref b269), .val (.ref b272), .val (.int (1 : Int32)), .val (.int e1_295), .val (.int e1_313), .val (.int e1_331), .val (.int (1 : Int32))] []))
    refine own_st (fun u_ k_ => XS.iload X329.here hx rfl (hb hby at_110) rfl k_) ?_
    show own_Go p e below _ (T329.setTop (mkF m 112 #[.val (.int k1), .val (.int k2), .val (.int k3), .val (.long m1), .second, .val (.long m2), .second, .val (.long m3), .second, .val (.ref b269), .val (.ref b272), .val (.int (1 : Int32)), .val (.int e1_295), .val (.int e1_313), .val (.int e1_331), .val (.int (1 : Int32))] [(.int (1 : Int32))]))
    refine own_st (fun u_ k_ => XS.ifNo X329.here hx rfl (hb hby at_112) rfl (XT.i0_eq_f (by decide)) k_) ?_
    show own_Go p e below _ (T329.setTop (mkF m 115 #[.val (.int k1), .val (.int k2), .val (.int k3), .val (.long m1), .second, .val (.long m2), .second, .val (.long m3), .second, .val (.ref b269), .val (.ref b272), .val (.int (1 : Int32)), .val (.int e1_295), .val (.int e1_313), .val (.int e1_331), .val (.int (1 : Int32))] []))
    refine own_st (fun u_ k_ => XS.aload X329.here hx rfl (hb hby at_115) rfl rfl k_) ?_
    show own_Go p e below _ (T329.setTop (mkF m 117 #[.val (.int k1), .val (.int k2), .val (.int k3), .val (.long m1), .second, .val (.long m2), .second, .val (.long m3), .second, .val (.ref b269), .val (.ref b272), .val (.int (1 : Int32)), .val (.int e1_295), .val (.int e1_313), .val (.int e1_331), .val (.int (1 : Int32))] [(.ref b269)]))
    have O383 : Old Z n0 T329.heap := O330.keep K329 (allS g289 all0)
    obtain ⟨T382, v382, L382, X382, hQ382, st382⟩ := own_callV X329 hx hZ329 (y := (⟨"com/example/gridwright/gridwright/AnnealSummary", "anyUnsolved", "()Z"⟩ : MethodName)) (z := (⟨"com/example/gridwright/gridwright/AnnealSummary", "anyUnsolved", "()Z"⟩ : MethodName)) hown329 (hw _ (List.mem_of_getElem? (i := 23) rfl)) (hw _ (List.mem_of_getElem? (i := 24) rfl)) (notFace_of_selects (args := #[]) (mvT hZ329 (hw _ (List.mem_of_getElem? (i := 26) rfl)))) (hw _ (List.mem_of_getElem? (i := 26) rfl)) (hw _ (List.mem_of_getElem? (i := 25) rfl)) (hw _ (List.mem_of_getElem? (i := 2) rfl)) (hw _ (List.mem_of_getElem? (i := 27) rfl)) own_lm_208 (rmU l Z a0 hw [] w0 w1 w2 wm km hS b269 u2_335 x2_336 T329.heap n0 O383 F342 F343) rfl F338 own_pd_245 (argsL := []) (rest := []) rfl rfl (g := (mkF m 117 #[.val (.int k1), .val (.int k2), .val (.int k3), .val (.long m1), .second, .val (.long m2), .second, .val (.long m3), .second, .val (.ref b269), .val (.ref b272), .val (.int (1 : Int32)), .val (.int e1_295), .val (.int e1_313), .val (.int e1_331), .val (.int (1 : Int32))] [(.ref b269)])) rfl (by rw [hml]; rfl) rfl (hb hby at_117) (W := 0) rfl (by decide) (by decide) (by decide) (by decide)
    obtain ⟨rfl, M382, e382⟩ := hQ382
    have N382 := Fr.app N329 M382
    refine own_st (fun u_ k_ => st382 u_ k_) ?_
    show own_Go p e below _ (T382.setTop (mkF m 120 #[.val (.int k1), .val (.int k2), .val (.int k3), .val (.long m1), .second, .val (.long m2), .second, .val (.long m3), .second, .val (.ref b269), .val (.ref b272), .val (.int (1 : Int32)), .val (.int e1_295), .val (.int e1_313), .val (.int e1_331), .val (.int (1 : Int32))] [(.int (own_any2 u2_335 x2_336))]))
    refine own_st (fun u_ k_ => XS.iload X382.here hx rfl (hb hby at_120) rfl k_) ?_
    show own_Go p e below _ (T382.setTop (mkF m 122 #[.val (.int k1), .val (.int k2), .val (.int k3), .val (.long m1), .second, .val (.long m2), .second, .val (.long m3), .second, .val (.ref b269), .val (.ref b272), .val (.int (1 : Int32)), .val (.int e1_295), .val (.int e1_313), .val (.int e1_331), .val (.int (1 : Int32))] [(.int (1 : Int32)), (.int (own_any2 u2_335 x2_336))]))
    refine own_st (fun u_ k_ => XS.icmpNo X382.here hx rfl (hb hby at_122) rfl (XT.ii_ne_f ((own_any D_309 D_327 D_345).trans (by simp [*]))) k_) ?_
    show own_Go p e below _ (T382.setTop (mkF m 125 #[.val (.int k1), .val (.int k2), .val (.int k3), .val (.long m1), .second, .val (.long m2), .second, .val (.long m3), .second, .val (.ref b269), .val (.ref b272), .val (.int (1 : Int32)), .val (.int e1_295), .val (.int e1_313), .val (.int e1_331), .val (.int (1 : Int32))] []))
    refine own_st (fun u_ k_ => XS.iconst X382.here hx rfl (hb hby at_125) k_) ?_
    show own_Go p e below _ (T382.setTop (mkF m 126 #[.val (.int k1), .val (.int k2), .val (.int k3), .val (.long m1), .second, .val (.long m2), .second, .val (.long m3), .second, .val (.ref b269), .val (.ref b272), .val (.int (1 : Int32)), .val (.int e1_295), .val (.int e1_313), .val (.int e1_331), .val (.int (1 : Int32))] [(.int (1 : Int32))]))
    refine own_st (fun u_ k_ => XS.goto X382.here hx rfl (pc0 := 126) (pc' := 130) rfl (hb hby at_126) (by decide) (by decide) k_) ?_
    show own_Go p e below _ (T382.setTop (mkF m 130 #[.val (.int k1), .val (.int k2), .val (.int k3), .val (.long m1), .second, .val (.long m2), .second, .val (.long m3), .second, .val (.ref b269), .val (.ref b272), .val (.int (1 : Int32)), .val (.int e1_295), .val (.int e1_313), .val (.int e1_331), .val (.int (1 : Int32))] [(.int (1 : Int32))]))
    have K384 : Keep h0 h269 [] := (Keep.refl h0 []).ext E269
    have K385 : Keep h0 h272 [] := K384.ext E272
    have K386 : Keep h0 h273 [] := K385.ext E273
    have z388 : h0.size ≤ b272 := Nat.le_trans E269.1 (Nat.le_of_eq g272.symm)
    have K387 : Keep h0 T279.heap [] := K386.trans K279 (allS (Or.inr z388) all0)
    have z390 : h0.size ≤ b269 := Nat.le_trans (Nat.le_refl _) (Nat.le_of_eq g269.symm)
    have K389 : Keep h0 T294.heap [] := K387.trans K294 (allS (Or.inr z390) all0)
    have K391 : Keep h0 T311.heap [] := K389.trans K311 (allS (Or.inr z390) all0)
    have K392 : Keep h0 T329.heap [] := K391.trans K329 (allS (Or.inr z390) all0)
    exact own_retXW X382 Si329 (Nat.le_refl _) e382 hx hlk hret rfl (Or.inl ⟨rfl, by simp, _, rfl⟩) (hb hby at_130) (by decide) (by decide) (show Qrm0 Z w0 w1 w2 wm km k1 k2 k3 m1 m2 m3 h0 n0 (some (.int (1 : Int32))) T382.heap _ from (by rw [e382]; exact ⟨rfl, N382, K392⟩))
set_option maxRecDepth 65536 in
set_option maxHeartbeats 40000000 in
theorem comes_1 {Post : Tables → Env → Array Value → State → Outcome → State → Prop} (hpost : ∀ tb e args s v u, (limb_1_1.after args s (.returned v) u = true ∧ limb_1_2.after args s (.returned v) u = true ∧ True) → ReturnedEndW s (.returned v) u (Jvm.fieldLocs frame_1_writes args s ++ Jvm.arrayLocs frame_1_arrays args s ++ Jvm.staticLocs frame_1_statics s) 24 1216 → Post tb e args s (.returned v) u) :
    ArmFor flags0 classFile x code maxLocals ret World_1 tables_1 room_1 Calls_1 rest_1 Pre_1 Post := by
  intro l hfl _ _ p e ha hc hk s m args below hf hA hF happ hP
  obtain ⟨hcalls, hrest, hpre⟩ := hP
  obtain ⟨-, -, -, hnamed, -, -, -, hat⟩ := (Spec.applies_iff hf).mp happ
  obtain ⟨hg, hn⟩ := and_e (Cond.before_iff.mp (show (Jvm.Cond.and given_1 narrow_1).before args s = true from hpre))
  obtain ⟨hcount, hr0⟩ := and_e hg
  obtain ⟨ha0, hr1⟩ := and_e hr0
  obtain ⟨ha1, hr2⟩ := and_e hr1
  obtain ⟨ha2, hr3⟩ := and_e hr2
  obtain ⟨ha3, hr4⟩ := and_e hr3
  obtain ⟨ha4, hr5⟩ := and_e hr4
  have ha5 := hr5
  obtain ⟨w_0, w_1, w_2, w_3, w_4, w_5, rfl⟩ : ∃ w_0 w_1 w_2 w_3 w_4 w_5 : Value, args = #[w_0, w_1, w_2, w_3, w_4, w_5] := by
    have hs : args.size = 6 := by simpa [Cond.value, given_1] using hcount
    obtain ⟨L⟩ := args
    match L, hs with
    | [w_0, w_1, w_2, w_3, w_4, w_5], _ => exact ⟨w_0, w_1, w_2, w_3, w_4, w_5, rfl⟩
  have hw := fun d (hd : d ∈ tables_1) => atoms_spec (ws := Jvm.Cond.code x code maxLocals ret :: tables_1) hat d (List.mem_cons_of_mem _ hd)
  have hfit : Fit s := fun {y c} hc i hi => by
    obtain ⟨ha, rfl⟩ := Array.getElem?_eq_some_iff.mp hc
    have q := List.all_eq_true.mp ((Array.all_eq_true_iff_forall_mem.mp hF) _ (Array.getElem_mem ha)) i (List.mem_range.mpr hi)
    simpa [Array.getElem?_eq_getElem hi] using q
  obtain ⟨i_0, ei_0⟩ := is_v ha0
  obtain rfl : w_0 = (.int i_0) := Option.some.inj ei_0
  obtain ⟨i_1, ei_1⟩ := is_v ha1
  obtain rfl : w_1 = (.int i_1) := Option.some.inj ei_1
  obtain ⟨i_2, ei_2⟩ := is_v ha2
  obtain rfl : w_2 = (.int i_2) := Option.some.inj ei_2
  obtain ⟨i_3, ei_3⟩ := isL_v ha3
  obtain rfl : w_3 = (.long i_3) := Option.some.inj ei_3
  obtain ⟨i_4, ei_4⟩ := isL_v ha4
  obtain rfl : w_4 = (.long i_4) := Option.some.inj ei_4
  obtain ⟨i_5, ei_5⟩ := isL_v ha5
  obtain rfl : w_5 = (.long i_5) := Option.some.inj ei_5
  obtain ⟨hl0, hn0⟩ := and_e hn
  obtain ⟨hl1, hn1⟩ := and_e hn0
  obtain ⟨hl2, hn2⟩ := and_e hn1
  obtain ⟨hl3, hn3⟩ := and_e hn2
  obtain ⟨hl4, hn4⟩ := and_e hn3
  obtain ⟨hl5, hn5⟩ := and_e hn4
  obtain ⟨hl6, hn6⟩ := and_e hn5
  obtain ⟨hl7, hn7⟩ := and_e hn6
  obtain ⟨hl8, hn8⟩ := and_e hn7
  obtain ⟨hl9, hn9⟩ := and_e hn8
  have hl10 := hn9
  obtain ⟨w0, e_w0⟩ := exa_v hl0
  obtain ⟨w1, e_w1⟩ := exa_v hl5
  obtain ⟨w2, e_w2⟩ := exa_v hl8
  obtain ⟨wm, ewm⟩ := arr_v hl1
  obtain ⟨cm, hcm⟩ := Arr.start ewm hl1
  have hlen := own_len ewm hcm hl2
  have hel0 := own_elem ewm hcm hl10
  have hel1 := own_elem ewm hcm hl7
  have hel2 := own_elem ewm hcm hl4
  obtain ⟨km, hkm⟩ : ∃ z, z = cm.cls := ⟨_, rfl⟩
  have hS : own_S s w0 w1 w2 wm km := ⟨(Sta.start e_w0 (Or.inr ⟨(hw _ (List.mem_of_getElem? (i := 44) rfl)), (hw _ (List.mem_of_getElem? (i := 45) rfl))⟩)), (Exa.start e_w0 hl0), (own_fldI e_w0 hl3), (Sta.start e_w1 (Or.inr ⟨(hw _ (List.mem_of_getElem? (i := 44) rfl)), (hw _ (List.mem_of_getElem? (i := 82) rfl))⟩)), (Exa.start e_w1 hl5), (own_fldI e_w1 hl6), (Sta.start e_w2 (Or.inr ⟨(hw _ (List.mem_of_getElem? (i := 44) rfl)), (hw _ (List.mem_of_getElem? (i := 87) rfl))⟩)), (Exa.start e_w2 hl8), (own_fldI e_w2 hl9), (Sta.start ewm (Or.inr ⟨(hw _ (List.mem_of_getElem? (i := 67) rfl)), (hw _ (List.mem_of_getElem? (i := 68) rfl))⟩)), (hkm ▸ Arv.start hfit hcm hlen.1 hlen.2 (by decide) rfl ⟨hel0, hel1, hel2, trivial⟩)⟩
  obtain ⟨n, o, h1, h2, h3, _, L, rfl, ⟨rfl, N, _⟩, hq⟩ := rm0 l s _ hw tables_1 w0 w1 w2 wm km hS i_0 i_1 i_2 i_3 i_4 i_5 s.heap s.heap.size (Old.start s) p e ha hc hk s m _ below hf ((Spec.applies_iff_loose hf).mp happ).1 ⟨rfl, State.Warmed39.refl s, rfl⟩ trivial
  refine ⟨n, _, h1, h2, h3, hpost _ _ _ _ _ _ ⟨Cond.after_iff.mpr rfl, Cond.after_iff.mpr (eq_i res_at (Term.int_eval (1)) rfl), trivial⟩ ⟨hq.1, hq.2.1, hq.2.2.1, (hq.2.2.2.sift fun y hy => Or.inr (N y hy)).mono (by decide) (by decide)⟩⟩
theorem main_1_1 : Claimed_1_1 := comes_1 fun _ _ _ _ _ _ h hF => ⟨h.1, hF⟩
theorem main_1_2 : Claimed_1_2 := comes_1 fun _ _ _ _ _ _ h hF => ⟨h.2.1, hF⟩
end Jvm.Pilot.@@N@@
namespace Jvm.Pilot.@@N@@
open Jvm Jvm.ClassFile Sem Op Lib Jvm.Free Jvm.Stand Jvm.Pilot.@@N@@.Jvm.D
/-! MADE BY PROGRAM (witnessworld.py) out of the Statement's table words and the real class files: 22 classes; the members and pool entries that the words name. The judged class is class 1, her method 2. -/
namespace start1
open Jvm.ClassFile
def u (s : String) : CpInfo := .utf8 (stringToUtf16 s)
/-- a pool by its gaps: so many unusable entries, then the entry; so many at the end -/
def gap : Nat → List CpInfo → List CpInfo
  | 0, r => r
  | n + 1, r => .unusable :: gap n r
def poolList (es : List (Nat × CpInfo)) (last : Nat) : List CpInfo := es.foldr (fun e r => gap e.1 (e.2 :: r)) (gap last [])
def pool (es : List (Nat × CpInfo)) (last : Nat) : Array CpInfo := ⟨poolList es last⟩
def fileOf (pool : Array CpInfo) (this : Nat) (attrs : Array Attribute := #[]) (ms : Array MethodInfo := #[]) (fl : Nat := 33) (sup : Nat := 0) (ifs : Array Nat := #[]) (fds : Array FieldInfo := #[]) : ClassFile where
  minorVersion := 0
  majorVersion := 65
  constantPool := pool
  accessFlags := fl
  thisClass := this
  superClass := sup
  interfaces := ifs
  fields := fds
  methods := ms
  attributes := attrs
def plain (name : String) (sup : Option ClassId) : Class where
  name := name
  kind := .ordinary
  loader := none
  accessFlags := 33
  super := sup
  interfaces := #[]
  cf := none
  fields := #[]
  methods := #[]
  instanceTypes := #[]
  staticTypes := #[]
  resolved := #[]
  callSites := []
  init := .initialized
  statics := none
  mirror := none

def pool0 : Array CpInfo := pool [(5, u "<init>"), (0, u "()V"), (1, .class_ 10), (1, u "java/lang/Object")] 113

def k0c0 : Code := { maxStack := 0, maxLocals := 1, code := object_method_1_code, exceptionTable := #[], attributes := #[] }
def k0m0 : Method := { name := "<init>", desc := "()V", sig := { parameters := [], returnType := none }, accessFlags := 1, code := some k0c0 }
/-- java/lang/Object -/
def k0 : Class := { plain "java/lang/Object" none with
  accessFlags := 33
  interfaces := #[]
  cf := some (fileOf pool0 8 #[] #[{ accessFlags := 1, nameIndex := 5, descriptorIndex := 6, attributes := #[] }] 33 0 #[] #[])
  fields := #[]
  methods := #[k0m0]
  instanceTypes := #[]
  staticTypes := #[]
  resolved := Array.replicate 124 none
  statics := none }

def pool1 : Array CpInfo := pool [(2, .class_ 4), (0, .nameAndType 5 6), (0, u "java/lang/Object"), (0, u "<init>"), (0, u "()V"), (0, .methodref 8 9), (0, .class_ 10), (0, .nameAndType 11 12), (0, u "com/example/gridwright/gridwright/AnnealResult"), (0, u "solved"), (0, u "(Lcom/example/gridwright/gridwright/Grid;J)Lcom/example/gridwright/gridwright/AnnealResult;"), (0, .methodref 14 15), (0, .class_ 16), (0, .nameAndType 17 18), (0, u "com/example/gridwright/gridwright/AnnealSummary"), (0, u "add"), (0, u "(Lcom/example/gridwright/gridwright/AnnealResult;)V"), (0, .methodref 8 20), (0, .nameAndType 21 22), (0, u "unsolved"), (0, u "(J)Lcom/example/gridwright/gridwright/AnnealResult;"), (0, .methodref 8 24), (0, .nameAndType 25 26), (0, u "unsolvable"), (0, u "()Lcom/example/gridwright/gridwright/AnnealResult;"), (0, .methodref 14 28), (0, .nameAndType 29 6), (0, u "addInvalid"), (0, .methodref 14 3), (0, .class_ 32), (0, u "com/example/gridwright/gridwright/Grid"), (0, .methodref 31 34), (0, .nameAndType 5 35), (0, u "(I[B)V"), (0, .methodref 14 37), (0, .nameAndType 38 39), (0, u "anyUnsolved"), (0, u "()Z"), (0, .integer 2147483647), (0, .methodref 42 43), (0, .class_ 44), (0, .nameAndType 45 46), (0, u "com/example/gridwright/gridwright/AnnealSummaryAnyUnsolvedPinLaw"), (0, u "step"), (0, u "(Lcom/example/gridwright/gridwright/AnnealSummary;IJLcom/example/gridwright/gridwright/Grid;)Z"), (3, u "law"), (0, u "(IIIJJJ)Z")] 2

def k1m0 : Method := { name := "<init>", desc := "()V", sig := { parameters := [], returnType := none }, accessFlags := 1, code := none }
def k1c1 : Code := { maxStack := 4, maxLocals := 5, code := method_2_code, exceptionTable := #[], attributes := #[] }
def k1m1 : Method := { name := "step", desc := "(Lcom/example/gridwright/gridwright/AnnealSummary;IJLcom/example/gridwright/gridwright/Grid;)Z", sig := { parameters := [(.object "com/example/gridwright/gridwright/AnnealSummary"), .int, .long, (.object "com/example/gridwright/gridwright/Grid")], returnType := some .boolean }, accessFlags := 10, code := some k1c1 }
def k1c2 : Code := { maxStack := 5, maxLocals := 16, code := code, exceptionTable := #[], attributes := #[] }
def k1m2 : Method := { name := "law", desc := "(IIIJJJ)Z", sig := { parameters := [.int, .int, .int, .long, .long, .long], returnType := some .boolean }, accessFlags := 9, code := some k1c2 }
/-- com/example/gridwright/gridwright/AnnealSummaryAnyUnsolvedPinLaw -/
def k1 : Class := { plain "com/example/gridwright/gridwright/AnnealSummaryAnyUnsolvedPinLaw" (some 0) with
  accessFlags := 49
  interfaces := #[]
  cf := some (fileOf pool1 42 #[] #[{ accessFlags := 1, nameIndex := 5, descriptorIndex := 6, attributes := #[] }, { accessFlags := 10, nameIndex := 45, descriptorIndex := 46, attributes := #[] }, { accessFlags := 9, nameIndex := 50, descriptorIndex := 51, attributes := #[] }] 49 2 #[] #[])
  fields := #[]
  methods := #[k1m0, k1m1, k1m2]
  instanceTypes := #[]
  staticTypes := #[]
  resolved := Array.replicate 54 none
  statics := none }

def pool2 : Array CpInfo := pool [(1, .class_ 2), (0, u "com/example/gridwright/gridwright/RunSummary"), (0, .class_ 4), (0, u "java/lang/Object")] 8

/-- com/example/gridwright/gridwright/RunSummary -/
def k2 : Class := { plain "com/example/gridwright/gridwright/RunSummary" (some 0) with
  accessFlags := 1536
  interfaces := #[]
  cf := some (fileOf pool2 1 #[] #[] 1536 3 #[] #[])
  fields := #[]
  methods := #[]
  instanceTypes := #[]
  staticTypes := #[]
  resolved := Array.replicate 13 none
  statics := none }

def pool3 : Array CpInfo := pool [(1, .methodref 2 3), (0, .class_ 4), (0, .nameAndType 5 6), (0, u "java/lang/Object"), (0, u "<init>"), (0, u "()V"), (0, .methodref 8 9), (0, .class_ 10), (0, .nameAndType 11 12), (0, u "com/example/gridwright/gridwright/AnnealResult"), (0, u "outcome"), (0, u "()Lcom/example/gridwright/gridwright/AnnealOutcome;"), (0, .fieldref 14 15), (0, .class_ 16), (0, .nameAndType 17 18), (0, u "com/example/gridwright/gridwright/AnnealSummary$1"), (0, u "$SwitchMap$com$example$gridwright$gridwright$AnnealOutcome"), (0, u "[I"), (0, .methodref 20 21), (0, .class_ 22), (0, .nameAndType 23 24), (0, u "com/example/gridwright/gridwright/AnnealOutcome"), (0, u "ordinal"), (0, u "()I"), (0, .fieldref 26 27), (0, .class_ 28), (0, .nameAndType 29 30), (0, u "com/example/gridwright/gridwright/AnnealSummary"), (0, u "solved"), (0, u "J"), (0, .fieldref 26 32), (0, .nameAndType 33 30), (0, u "movesTotal"), (0, .methodref 8 35), (0, .nameAndType 36 37), (0, u "moves"), (0, u "()J"), (0, .fieldref 26 39), (0, .nameAndType 40 30), (0, u "movesMax"), (0, .methodref 42 43), (0, .class_ 44), (0, .nameAndType 45 46), (0, u "java/lang/Math"), (0, u "max"), (0, u "(JJ)J"), (0, .fieldref 26 48), (0, .nameAndType 49 30), (0, u "unsolved"), (0, .fieldref 26 51), (0, .nameAndType 52 30), (0, u "unsolvable"), (15, .fieldref 26 69), (0, .nameAndType 70 30), (0, u "invalid"), (9, .class_ 81), (0, u "com/example/gridwright/gridwright/RunSummary"), (2, u "add"), (0, u "(Lcom/example/gridwright/gridwright/AnnealResult;)V"), (1, u "addInvalid"), (0, u "anyUnsolved"), (0, u "()Z")] 22

def k3c0 : Code := { maxStack := 1, maxLocals := 1, code := prog_4_method_1_code, exceptionTable := #[], attributes := #[] }
def k3m0 : Method := { name := "<init>", desc := "()V", sig := { parameters := [], returnType := none }, accessFlags := 0, code := some k3c0 }
def k3c1 : Code := { maxStack := 5, maxLocals := 3, code := prog_4_method_2_code, exceptionTable := #[], attributes := #[] }
def k3m1 : Method := { name := "add", desc := "(Lcom/example/gridwright/gridwright/AnnealResult;)V", sig := { parameters := [(.object "com/example/gridwright/gridwright/AnnealResult")], returnType := none }, accessFlags := 0, code := some k3c1 }
def k3c2 : Code := { maxStack := 5, maxLocals := 1, code := prog_4_method_3_code, exceptionTable := #[], attributes := #[] }
def k3m2 : Method := { name := "addInvalid", desc := "()V", sig := { parameters := [], returnType := none }, accessFlags := 1, code := some k3c2 }
def k3c3 : Code := { maxStack := 4, maxLocals := 1, code := prog_4_method_4_code, exceptionTable := #[], attributes := #[] }
def k3m3 : Method := { name := "anyUnsolved", desc := "()Z", sig := { parameters := [], returnType := some .boolean }, accessFlags := 1, code := some k3c3 }
/-- com/example/gridwright/gridwright/AnnealSummary -/
def k3 : Class := { plain "com/example/gridwright/gridwright/AnnealSummary" (some 0) with
  accessFlags := 32
  interfaces := #[2]
  cf := some (fileOf pool3 26 #[.nestMembers #[14]] #[{ accessFlags := 0, nameIndex := 5, descriptorIndex := 6, attributes := #[] }, { accessFlags := 0, nameIndex := 84, descriptorIndex := 85, attributes := #[] }, { accessFlags := 1, nameIndex := 87, descriptorIndex := 6, attributes := #[] }, { accessFlags := 1, nameIndex := 88, descriptorIndex := 89, attributes := #[] }] 32 2 #[80] #[{ accessFlags := 2, nameIndex := 29, descriptorIndex := 30, attributes := #[] }, { accessFlags := 2, nameIndex := 49, descriptorIndex := 30, attributes := #[] }, { accessFlags := 2, nameIndex := 52, descriptorIndex := 30, attributes := #[] }, { accessFlags := 2, nameIndex := 70, descriptorIndex := 30, attributes := #[] }, { accessFlags := 2, nameIndex := 33, descriptorIndex := 30, attributes := #[] }, { accessFlags := 2, nameIndex := 40, descriptorIndex := 30, attributes := #[] }])
  fields := #[{ name := "solved", type := .long, accessFlags := 2, slot := 0, constantValue := 0 }, { name := "unsolved", type := .long, accessFlags := 2, slot := 1, constantValue := 0 }, { name := "unsolvable", type := .long, accessFlags := 2, slot := 2, constantValue := 0 }, { name := "invalid", type := .long, accessFlags := 2, slot := 3, constantValue := 0 }, { name := "movesTotal", type := .long, accessFlags := 2, slot := 4, constantValue := 0 }, { name := "movesMax", type := .long, accessFlags := 2, slot := 5, constantValue := 0 }]
  methods := #[k3m0, k3m1, k3m2, k3m3]
  instanceTypes := #[.long, .long, .long, .long, .long, .long]
  staticTypes := #[]
  resolved := Array.replicate 112 none
  statics := none }

def pool4 : Array CpInfo := pool [(1, .class_ 2), (0, u "com/example/gridwright/gridwright/Grid"), (0, .methodref 4 5), (0, .class_ 6), (0, .nameAndType 7 8), (0, u "java/lang/Object"), (0, u "<init>"), (0, u "()V"), (0, .fieldref 1 10), (0, .nameAndType 11 12), (0, u "boxSize"), (0, u "I"), (0, .fieldref 1 14), (0, .nameAndType 15 12), (0, u "side"), (0, .fieldref 1 17), (0, .nameAndType 18 19), (0, u "cells"), (0, u "[B"), (28, u "(I[B)V"), (64, u "SYMBOLS"), (0, u "Ljava/lang/String;"), (1, u "BLANK"), (1, u "MIN_BOX_SIZE"), (1, u "MAX_BOX_SIZE"), (1, u "MAX_LINE_LENGTH")] 40

def k4c0 : Code := { maxStack := 3, maxLocals := 3, code := prog_15_method_1_code, exceptionTable := #[], attributes := #[] }
def k4m0 : Method := { name := "<init>", desc := "(I[B)V", sig := { parameters := [.int, (.array .byte)], returnType := none }, accessFlags := 0, code := some k4c0 }
/-- com/example/gridwright/gridwright/Grid -/
def k4 : Class := { plain "com/example/gridwright/gridwright/Grid" (some 0) with
  accessFlags := 33
  interfaces := #[]
  cf := some (fileOf pool4 1 #[] #[{ accessFlags := 0, nameIndex := 7, descriptorIndex := 48, attributes := #[] }] 33 4 #[] #[{ accessFlags := 25, nameIndex := 113, descriptorIndex := 114, attributes := #[] }, { accessFlags := 25, nameIndex := 116, descriptorIndex := 12, attributes := #[] }, { accessFlags := 25, nameIndex := 118, descriptorIndex := 12, attributes := #[] }, { accessFlags := 25, nameIndex := 120, descriptorIndex := 12, attributes := #[] }, { accessFlags := 24, nameIndex := 122, descriptorIndex := 12, attributes := #[] }, { accessFlags := 18, nameIndex := 11, descriptorIndex := 12, attributes := #[] }, { accessFlags := 18, nameIndex := 15, descriptorIndex := 12, attributes := #[] }, { accessFlags := 18, nameIndex := 18, descriptorIndex := 19, attributes := #[] }])
  fields := #[{ name := "SYMBOLS", type := (.object "java/lang/String"), accessFlags := 25, slot := 0, constantValue := 0 }, { name := "BLANK", type := .int, accessFlags := 25, slot := 1, constantValue := 0 }, { name := "MIN_BOX_SIZE", type := .int, accessFlags := 25, slot := 2, constantValue := 0 }, { name := "MAX_BOX_SIZE", type := .int, accessFlags := 25, slot := 3, constantValue := 0 }, { name := "MAX_LINE_LENGTH", type := .int, accessFlags := 24, slot := 4, constantValue := 0 }, { name := "boxSize", type := .int, accessFlags := 18, slot := 0, constantValue := 0 }, { name := "side", type := .int, accessFlags := 18, slot := 1, constantValue := 0 }, { name := "cells", type := (.array .byte), accessFlags := 18, slot := 2, constantValue := 0 }]
  methods := #[k4m0]
  instanceTypes := #[.int, .int, (.array .byte)]
  staticTypes := #[(.object "java/lang/String"), .int, .int, .int, .int]
  resolved := Array.replicate 163 none
  statics := none }

def pool5 : Array CpInfo := pool [(1, .methodref 2 3), (0, .class_ 4), (0, .nameAndType 5 6), (0, u "java/lang/Object"), (0, u "<init>"), (0, u "()V"), (0, .fieldref 8 9), (0, .class_ 10), (0, .nameAndType 11 12), (0, u "com/example/gridwright/gridwright/AnnealResult"), (0, u "outcome"), (0, u "Lcom/example/gridwright/gridwright/AnnealOutcome;"), (0, .fieldref 8 14), (0, .nameAndType 15 16), (0, u "solution"), (0, u "Lcom/example/gridwright/gridwright/Grid;"), (0, .fieldref 8 18), (0, .nameAndType 19 20), (0, u "moves"), (0, u "J"), (0, .fieldref 22 23), (0, .class_ 24), (0, .nameAndType 25 12), (0, u "com/example/gridwright/gridwright/AnnealOutcome"), (0, u "SOLVED"), (0, .string 15), (0, .methodref 28 29), (0, .class_ 30), (0, .nameAndType 31 32), (0, u "java/util/Objects"), (0, u "requireNonNull"), (0, u "(Ljava/lang/Object;Ljava/lang/String;)Ljava/lang/Object;"), (0, .class_ 34), (0, u "com/example/gridwright/gridwright/Grid"), (0, .methodref 8 36), (0, .nameAndType 5 37), (0, u "(Lcom/example/gridwright/gridwright/AnnealOutcome;Lcom/example/gridwright/gridwright/Grid;J)V"), (0, .fieldref 22 39), (0, .nameAndType 40 12), (0, u "UNSOLVED"), (0, .fieldref 22 42), (0, .nameAndType 43 12), (0, u "UNSOLVABLE"), (7, .class_ 53), (1, u "com/example/gridwright/gridwright/AnnealResult$1"), (16, u "unsolved"), (1, u "unsolvable"), (3, u "solved"), (0, u "(Lcom/example/gridwright/gridwright/Grid;J)Lcom/example/gridwright/gridwright/AnnealResult;"), (0, u "(J)Lcom/example/gridwright/gridwright/AnnealResult;"), (0, u "()Lcom/example/gridwright/gridwright/AnnealResult;"), (0, u "()Lcom/example/gridwright/gridwright/AnnealOutcome;"), (3, u "()J")] 8

def k5c0 : Code := { maxStack := 3, maxLocals := 5, code := prog_2_method_1_code, exceptionTable := #[], attributes := #[] }
def k5m0 : Method := { name := "<init>", desc := "(Lcom/example/gridwright/gridwright/AnnealOutcome;Lcom/example/gridwright/gridwright/Grid;J)V", sig := { parameters := [(.object "com/example/gridwright/gridwright/AnnealOutcome"), (.object "com/example/gridwright/gridwright/Grid"), .long], returnType := none }, accessFlags := 2, code := some k5c0 }
def k5c1 : Code := { maxStack := 6, maxLocals := 3, code := prog_2_method_2_code, exceptionTable := #[], attributes := #[] }
def k5m1 : Method := { name := "solved", desc := "(Lcom/example/gridwright/gridwright/Grid;J)Lcom/example/gridwright/gridwright/AnnealResult;", sig := { parameters := [(.object "com/example/gridwright/gridwright/Grid"), .long], returnType := some (.object "com/example/gridwright/gridwright/AnnealResult") }, accessFlags := 8, code := some k5c1 }
def k5c2 : Code := { maxStack := 6, maxLocals := 2, code := prog_2_method_3_code, exceptionTable := #[], attributes := #[] }
def k5m2 : Method := { name := "unsolved", desc := "(J)Lcom/example/gridwright/gridwright/AnnealResult;", sig := { parameters := [.long], returnType := some (.object "com/example/gridwright/gridwright/AnnealResult") }, accessFlags := 8, code := some k5c2 }
def k5c3 : Code := { maxStack := 6, maxLocals := 0, code := prog_2_method_4_code, exceptionTable := #[], attributes := #[] }
def k5m3 : Method := { name := "unsolvable", desc := "()Lcom/example/gridwright/gridwright/AnnealResult;", sig := { parameters := [], returnType := some (.object "com/example/gridwright/gridwright/AnnealResult") }, accessFlags := 8, code := some k5c3 }
def k5c4 : Code := { maxStack := 1, maxLocals := 1, code := prog_2_method_5_code, exceptionTable := #[], attributes := #[] }
def k5m4 : Method := { name := "outcome", desc := "()Lcom/example/gridwright/gridwright/AnnealOutcome;", sig := { parameters := [], returnType := some (.object "com/example/gridwright/gridwright/AnnealOutcome") }, accessFlags := 1, code := some k5c4 }
def k5c5 : Code := { maxStack := 2, maxLocals := 1, code := prog_2_method_7_code, exceptionTable := #[], attributes := #[] }
def k5m5 : Method := { name := "moves", desc := "()J", sig := { parameters := [], returnType := some .long }, accessFlags := 1, code := some k5c5 }
/-- com/example/gridwright/gridwright/AnnealResult -/
def k5 : Class := { plain "com/example/gridwright/gridwright/AnnealResult" (some 0) with
  accessFlags := 33
  interfaces := #[]
  cf := some (fileOf pool5 8 #[.nestMembers #[51]] #[{ accessFlags := 2, nameIndex := 5, descriptorIndex := 37, attributes := #[] }, { accessFlags := 8, nameIndex := 76, descriptorIndex := 77, attributes := #[] }, { accessFlags := 8, nameIndex := 70, descriptorIndex := 78, attributes := #[] }, { accessFlags := 8, nameIndex := 72, descriptorIndex := 79, attributes := #[] }, { accessFlags := 1, nameIndex := 11, descriptorIndex := 80, attributes := #[] }, { accessFlags := 1, nameIndex := 19, descriptorIndex := 84, attributes := #[] }] 33 2 #[] #[{ accessFlags := 18, nameIndex := 11, descriptorIndex := 12, attributes := #[] }, { accessFlags := 18, nameIndex := 15, descriptorIndex := 16, attributes := #[] }, { accessFlags := 18, nameIndex := 19, descriptorIndex := 20, attributes := #[] }])
  fields := #[{ name := "outcome", type := (.object "com/example/gridwright/gridwright/AnnealOutcome"), accessFlags := 18, slot := 0, constantValue := 0 }, { name := "solution", type := (.object "com/example/gridwright/gridwright/Grid"), accessFlags := 18, slot := 1, constantValue := 0 }, { name := "moves", type := .long, accessFlags := 18, slot := 2, constantValue := 0 }]
  methods := #[k5m0, k5m1, k5m2, k5m3, k5m4, k5m5]
  instanceTypes := #[(.object "com/example/gridwright/gridwright/AnnealOutcome"), (.object "com/example/gridwright/gridwright/Grid"), .long]
  staticTypes := #[]
  resolved := Array.replicate 93 none
  statics := none }

def pool6 : Array CpInfo := pool [(1, .class_ 2), (0, u "java/lang/constant/Constable"), (0, .class_ 4), (0, u "java/lang/Object")] 6

/-- java/lang/constant/Constable -/
def k6 : Class := { plain "java/lang/constant/Constable" (some 0) with
  accessFlags := 1537
  interfaces := #[]
  cf := some (fileOf pool6 1 #[] #[] 1537 3 #[] #[])
  fields := #[]
  methods := #[]
  instanceTypes := #[]
  staticTypes := #[]
  resolved := Array.replicate 11 none
  statics := none }

def pool7 : Array CpInfo := pool [(1, .class_ 2), (0, u "java/lang/Comparable"), (0, .class_ 4), (0, u "java/lang/Object")] 7

/-- java/lang/Comparable -/
def k7 : Class := { plain "java/lang/Comparable" (some 0) with
  accessFlags := 1537
  interfaces := #[]
  cf := some (fileOf pool7 1 #[] #[] 1537 3 #[] #[])
  fields := #[]
  methods := #[]
  instanceTypes := #[]
  staticTypes := #[]
  resolved := Array.replicate 12 none
  statics := none }

def pool8 : Array CpInfo := pool [(1, .class_ 2), (0, u "java/io/Serializable"), (0, .class_ 4), (0, u "java/lang/Object")] 2

/-- java/io/Serializable -/
def k8 : Class := { plain "java/io/Serializable" (some 0) with
  accessFlags := 1537
  interfaces := #[]
  cf := some (fileOf pool8 1 #[] #[] 1537 3 #[] #[])
  fields := #[]
  methods := #[]
  instanceTypes := #[]
  staticTypes := #[]
  resolved := Array.replicate 7 none
  statics := none }

def pool9 : Array CpInfo := pool [(2, .class_ 4), (1, u "java/lang/Enum"), (0, u "name"), (0, u "Ljava/lang/String;"), (0, .fieldref 2 8), (0, .nameAndType 9 10), (0, u "ordinal"), (0, u "I"), (1, .class_ 14), (1, u "java/lang/Object"), (4, u "hash"), (86, .class_ 108), (1, u "java/lang/Enum$EnumDesc"), (2, .class_ 112), (0, u "java/lang/constant/Constable"), (0, .class_ 114), (0, u "java/lang/Comparable"), (0, .class_ 116), (0, u "java/io/Serializable"), (9, u "()I")] 77

def k9c0 : Code := { maxStack := 1, maxLocals := 1, code := jdk_37_method_2_code, exceptionTable := #[], attributes := #[] }
def k9m0 : Method := { name := "ordinal", desc := "()I", sig := { parameters := [], returnType := some .int }, accessFlags := 17, code := some k9c0 }
/-- java/lang/Enum -/
def k9 : Class := { plain "java/lang/Enum" (some 0) with
  accessFlags := 1057
  interfaces := #[6, 7, 8]
  cf := some (fileOf pool9 2 #[.nestMembers #[106]] #[{ accessFlags := 17, nameIndex := 9, descriptorIndex := 126, attributes := #[] }] 1057 12 #[111, 113, 115] #[{ accessFlags := 18, nameIndex := 5, descriptorIndex := 6, attributes := #[] }, { accessFlags := 18, nameIndex := 9, descriptorIndex := 10, attributes := #[] }, { accessFlags := 2, nameIndex := 19, descriptorIndex := 10, attributes := #[] }])
  fields := #[{ name := "name", type := (.object "java/lang/String"), accessFlags := 18, slot := 0, constantValue := 0 }, { name := "ordinal", type := .int, accessFlags := 18, slot := 1, constantValue := 0 }, { name := "hash", type := .int, accessFlags := 2, slot := 2, constantValue := 0 }]
  methods := #[k9m0]
  instanceTypes := #[(.object "java/lang/String"), .int, .int]
  staticTypes := #[]
  resolved := Array.replicate 204 none
  statics := none }

def pool10 : Array CpInfo := pool [(1, .class_ 2), (0, u "com/example/gridwright/gridwright/AnnealOutcome"), (2, u "SOLVED"), (0, u "Lcom/example/gridwright/gridwright/AnnealOutcome;"), (2, u "UNSOLVED"), (2, u "UNSOLVABLE"), (2, u "$VALUES"), (0, u "[Lcom/example/gridwright/gridwright/AnnealOutcome;"), (6, .class_ 25), (1, u "java/lang/Enum")] 25

/-- com/example/gridwright/gridwright/AnnealOutcome -/
def k10 : Class := { plain "com/example/gridwright/gridwright/AnnealOutcome" (some 9) with
  accessFlags := 16433
  interfaces := #[]
  cf := some (fileOf pool10 1 #[] #[] 16433 23 #[] #[{ accessFlags := 16409, nameIndex := 5, descriptorIndex := 6, attributes := #[] }, { accessFlags := 16409, nameIndex := 9, descriptorIndex := 6, attributes := #[] }, { accessFlags := 16409, nameIndex := 12, descriptorIndex := 6, attributes := #[] }, { accessFlags := 4122, nameIndex := 15, descriptorIndex := 16, attributes := #[] }])
  fields := #[{ name := "SOLVED", type := (.object "com/example/gridwright/gridwright/AnnealOutcome"), accessFlags := 16409, slot := 0, constantValue := 0 }, { name := "UNSOLVED", type := (.object "com/example/gridwright/gridwright/AnnealOutcome"), accessFlags := 16409, slot := 1, constantValue := 0 }, { name := "UNSOLVABLE", type := (.object "com/example/gridwright/gridwright/AnnealOutcome"), accessFlags := 16409, slot := 2, constantValue := 0 }, { name := "$VALUES", type := (.array (.object "com/example/gridwright/gridwright/AnnealOutcome")), accessFlags := 4122, slot := 3, constantValue := 0 }]
  methods := #[]
  instanceTypes := #[(.object "java/lang/String"), .int, .int]
  staticTypes := #[(.object "com/example/gridwright/gridwright/AnnealOutcome"), (.object "com/example/gridwright/gridwright/AnnealOutcome"), (.object "com/example/gridwright/gridwright/AnnealOutcome"), (.array (.object "com/example/gridwright/gridwright/AnnealOutcome"))]
  resolved := Array.replicate 51 none
  statics := some 0 }

def pool11 : Array CpInfo := pool [(8, .class_ 10), (1, u "com/example/gridwright/gridwright/AnnealSummary$1"), (0, u "$SwitchMap$com$example$gridwright$gridwright$AnnealOutcome"), (0, u "[I"), (16, .class_ 30), (0, u "java/lang/Object"), (8, .class_ 40), (0, u "com/example/gridwright/gridwright/AnnealSummary")] 2

/-- com/example/gridwright/gridwright/AnnealSummary$1 -/
def k11 : Class := { plain "com/example/gridwright/gridwright/AnnealSummary$1" (some 0) with
  accessFlags := 4128
  interfaces := #[]
  cf := some (fileOf pool11 8 #[.nestHost 39] #[] 4128 29 #[] #[{ accessFlags := 4120, nameIndex := 11, descriptorIndex := 12, attributes := #[] }])
  fields := #[{ name := "$SwitchMap$com$example$gridwright$gridwright$AnnealOutcome", type := (.array .int), accessFlags := 4120, slot := 0, constantValue := 0 }]
  methods := #[]
  instanceTypes := #[]
  staticTypes := #[(.array .int)]
  resolved := Array.replicate 43 none
  statics := some 1 }

def pool12 : Array CpInfo := pool [(2, .class_ 4), (1, u "java/lang/CharSequence"), (42, .class_ 48), (0, u "java/lang/CharSequence$1CodePointIterator"), (10, .class_ 60), (0, u "java/lang/CharSequence$1CharIterator"), (5, .class_ 67), (0, u "java/lang/Object")] 63

/-- java/lang/CharSequence -/
def k12 : Class := { plain "java/lang/CharSequence" (some 0) with
  accessFlags := 1537
  interfaces := #[]
  cf := some (fileOf pool12 2 #[.nestMembers #[47, 59]] #[] 1537 66 #[] #[])
  fields := #[]
  methods := #[]
  instanceTypes := #[]
  staticTypes := #[]
  resolved := Array.replicate 131 none
  statics := none }

def pool13 : Array CpInfo := pool [(1, .class_ 2), (0, u "java/lang/constant/ConstantDesc"), (0, .class_ 4), (0, u "java/lang/Object")] 32

/-- java/lang/constant/ConstantDesc -/
def k13 : Class := { plain "java/lang/constant/ConstantDesc" (some 0) with
  accessFlags := 1537
  interfaces := #[]
  cf := some (fileOf pool13 1 #[] #[] 1537 3 #[] #[])
  fields := #[]
  methods := #[]
  instanceTypes := #[]
  staticTypes := #[]
  resolved := Array.replicate 37 none
  statics := none }

def pool14 : Array CpInfo := pool [(2, .class_ 4), (1, u "java/lang/Object"), (0, u "<init>"), (0, u "()V"), (3, .class_ 12), (1, u "java/lang/String"), (0, u "value"), (0, u "[B"), (2, u "coder"), (0, u "B"), (2, u "hash"), (0, u "I"), (2, u "hashIsZero"), (0, u "Z"), (13, u "COMPACT_STRINGS"), (534, .class_ 576), (0, u "java/lang/CharSequence"), (22, u "CASE_INSENSITIVE_ORDER"), (0, u "Ljava/util/Comparator;"), (500, u "serialPersistentFields"), (0, u "[Ljava/io/ObjectStreamField;"), (0, .class_ 1104), (0, u "java/lang/String$CaseInsensitiveComparator"), (1, .class_ 1107), (0, u "java/io/Serializable"), (0, .class_ 1109), (0, u "java/lang/Comparable"), (0, .class_ 1111), (0, u "java/lang/constant/Constable"), (0, .class_ 1113), (0, u "java/lang/constant/ConstantDesc"), (2, u "serialVersionUID"), (0, u "J"), (3, u "REPL"), (0, u "C"), (2, u "LATIN1"), (1, u "UTF16")] 323

def k14m0 : Method := { name := "<init>", desc := "()V", sig := { parameters := [], returnType := none }, accessFlags := 1, code := none }
/-- java/lang/String -/
def k14 : Class := { plain "java/lang/String" (some 0) with
  accessFlags := 49
  interfaces := #[8, 7, 12, 6, 13]
  cf := some (fileOf pool14 10 #[.nestMembers #[1103]] #[{ accessFlags := 1, nameIndex := 5, descriptorIndex := 6, attributes := #[] }] 49 2 #[1106, 1108, 575, 1110, 1112] #[{ accessFlags := 18, nameIndex := 13, descriptorIndex := 14, attributes := #[] }, { accessFlags := 18, nameIndex := 17, descriptorIndex := 18, attributes := #[] }, { accessFlags := 2, nameIndex := 21, descriptorIndex := 22, attributes := #[] }, { accessFlags := 2, nameIndex := 25, descriptorIndex := 26, attributes := #[] }, { accessFlags := 26, nameIndex := 1116, descriptorIndex := 1117, attributes := #[] }, { accessFlags := 24, nameIndex := 40, descriptorIndex := 26, attributes := #[] }, { accessFlags := 26, nameIndex := 1101, descriptorIndex := 1102, attributes := #[] }, { accessFlags := 26, nameIndex := 1121, descriptorIndex := 1122, attributes := #[] }, { accessFlags := 25, nameIndex := 599, descriptorIndex := 600, attributes := #[] }, { accessFlags := 24, nameIndex := 1125, descriptorIndex := 18, attributes := #[] }, { accessFlags := 24, nameIndex := 1127, descriptorIndex := 18, attributes := #[] }])
  fields := #[{ name := "value", type := (.array .byte), accessFlags := 18, slot := 0, constantValue := 0 }, { name := "coder", type := .byte, accessFlags := 18, slot := 1, constantValue := 0 }, { name := "hash", type := .int, accessFlags := 2, slot := 2, constantValue := 0 }, { name := "hashIsZero", type := .boolean, accessFlags := 2, slot := 3, constantValue := 0 }, { name := "serialVersionUID", type := .long, accessFlags := 26, slot := 0, constantValue := 0 }, { name := "COMPACT_STRINGS", type := .boolean, accessFlags := 24, slot := 1, constantValue := 0 }, { name := "serialPersistentFields", type := (.array (.object "java/io/ObjectStreamField")), accessFlags := 26, slot := 2, constantValue := 0 }, { name := "REPL", type := .char, accessFlags := 26, slot := 3, constantValue := 0 }, { name := "CASE_INSENSITIVE_ORDER", type := (.object "java/util/Comparator"), accessFlags := 25, slot := 4, constantValue := 0 }, { name := "LATIN1", type := .byte, accessFlags := 24, slot := 5, constantValue := 0 }, { name := "UTF16", type := .byte, accessFlags := 24, slot := 6, constantValue := 0 }]
  methods := #[k14m0]
  instanceTypes := #[(.array .byte), .byte, .int, .boolean]
  staticTypes := #[.long, .boolean, (.array (.object "java/io/ObjectStreamField")), .char, (.object "java/util/Comparator"), .byte, .byte]
  resolved := Array.replicate 1451 none
  statics := none }

def pool15 : Array CpInfo := pool [(2, .class_ 4), (1, u "java/lang/Object"), (0, u "<init>"), (0, u "()V"), (35, .class_ 44), (1, u "java/util/Objects"), (0, u "requireNonNull"), (48, u "(Ljava/lang/Object;Ljava/lang/String;)Ljava/lang/Object;")] 89

def k15m0 : Method := { name := "<init>", desc := "()V", sig := { parameters := [], returnType := none }, accessFlags := 2, code := none }
def k15c1 : Code := { maxStack := 3, maxLocals := 2, code := jdk_31_method_11_code, exceptionTable := #[], attributes := #[] }
def k15m1 : Method := { name := "requireNonNull", desc := "(Ljava/lang/Object;Ljava/lang/String;)Ljava/lang/Object;", sig := { parameters := [(.object "java/lang/Object"), (.object "java/lang/String")], returnType := some (.object "java/lang/Object") }, accessFlags := 9, code := some k15c1 }
/-- java/util/Objects -/
def k15 : Class := { plain "java/util/Objects" (some 0) with
  accessFlags := 49
  interfaces := #[]
  cf := some (fileOf pool15 42 #[] #[{ accessFlags := 2, nameIndex := 5, descriptorIndex := 6, attributes := #[] }, { accessFlags := 9, nameIndex := 45, descriptorIndex := 94, attributes := #[] }] 49 2 #[] #[])
  fields := #[]
  methods := #[k15m0, k15m1]
  instanceTypes := #[]
  staticTypes := #[]
  resolved := Array.replicate 184 none
  statics := none }

def pool16 : Array CpInfo := pool [(1, .class_ 2), (0, u "java/lang/Math"), (1, .class_ 6), (1, u "java/lang/Object"), (0, u "<init>"), (0, u "()V"), (89, .class_ 100), (1, u "java/lang/Math$RandomNumberGeneratorHolder"), (20, u "(JJ)J"), (50, u "negativeZeroFloatBits"), (0, u "J"), (2, u "negativeZeroDoubleBits"), (21, u "max"), (46, u "$assertionsDisabled"), (0, u "Z"), (91, u "twoToTheDoubleScaleDown"), (0, u "D"), (4, u "twoToTheDoubleScaleUp"), (9, u "E"), (3, u "PI"), (2, u "TAU"), (2, u "DEGREES_TO_RADIANS"), (0, u "RADIANS_TO_DEGREES")] 94

def k16m0 : Method := { name := "<init>", desc := "()V", sig := { parameters := [], returnType := none }, accessFlags := 2, code := none }
def k16c1 : Code := { maxStack := 4, maxLocals := 4, code := jdk_29_method_66_code, exceptionTable := #[], attributes := #[] }
def k16m1 : Method := { name := "max", desc := "(JJ)J", sig := { parameters := [.long, .long], returnType := some .long }, accessFlags := 9, code := some k16c1 }
/-- java/lang/Math -/
def k16 : Class := { plain "java/lang/Math" (some 0) with
  accessFlags := 49
  interfaces := #[]
  cf := some (fileOf pool16 1 #[.nestMembers #[98]] #[{ accessFlags := 2, nameIndex := 7, descriptorIndex := 8, attributes := #[] }, { accessFlags := 9, nameIndex := 198, descriptorIndex := 121, attributes := #[] }] 49 4 #[] #[{ accessFlags := 25, nameIndex := 354, descriptorIndex := 339, attributes := #[] }, { accessFlags := 25, nameIndex := 358, descriptorIndex := 339, attributes := #[] }, { accessFlags := 25, nameIndex := 361, descriptorIndex := 339, attributes := #[] }, { accessFlags := 26, nameIndex := 364, descriptorIndex := 339, attributes := #[] }, { accessFlags := 26, nameIndex := 365, descriptorIndex := 339, attributes := #[] }, { accessFlags := 26, nameIndex := 172, descriptorIndex := 173, attributes := #[] }, { accessFlags := 26, nameIndex := 176, descriptorIndex := 173, attributes := #[] }, { accessFlags := 8, nameIndex := 344, descriptorIndex := 339, attributes := #[] }, { accessFlags := 8, nameIndex := 338, descriptorIndex := 339, attributes := #[] }, { accessFlags := 4120, nameIndex := 245, descriptorIndex := 246, attributes := #[] }])
  fields := #[{ name := "E", type := .double, accessFlags := 25, slot := 0, constantValue := 0 }, { name := "PI", type := .double, accessFlags := 25, slot := 1, constantValue := 0 }, { name := "TAU", type := .double, accessFlags := 25, slot := 2, constantValue := 0 }, { name := "DEGREES_TO_RADIANS", type := .double, accessFlags := 26, slot := 3, constantValue := 0 }, { name := "RADIANS_TO_DEGREES", type := .double, accessFlags := 26, slot := 4, constantValue := 0 }, { name := "negativeZeroFloatBits", type := .long, accessFlags := 26, slot := 5, constantValue := 0 }, { name := "negativeZeroDoubleBits", type := .long, accessFlags := 26, slot := 6, constantValue := 0 }, { name := "twoToTheDoubleScaleUp", type := .double, accessFlags := 8, slot := 7, constantValue := 0 }, { name := "twoToTheDoubleScaleDown", type := .double, accessFlags := 8, slot := 8, constantValue := 0 }, { name := "$assertionsDisabled", type := .boolean, accessFlags := 4120, slot := 9, constantValue := 0 }]
  methods := #[k16m0, k16m1]
  instanceTypes := #[]
  staticTypes := #[.double, .double, .double, .double, .double, .long, .long, .double, .double, .boolean]
  resolved := Array.replicate 460 none
  statics := none }

def pool17 : Array CpInfo := pool [(1, u "java/lang/Cloneable"), (0, .class_ 1), (0, u "java/lang/Object"), (0, .class_ 3)] 3

/-- java/lang/Cloneable -/
def k17 : Class := { plain "java/lang/Cloneable" (some 0) with
  accessFlags := 1537
  interfaces := #[]
  cf := some (fileOf pool17 2 #[] #[] 1537 4 #[] #[])
  fields := #[]
  methods := #[]
  instanceTypes := #[]
  staticTypes := #[]
  resolved := Array.replicate 8 none
  statics := none }

/-- the primitive byte -/
def k18 : Class := { plain "byte" none with kind := .primitive 'B', accessFlags := 0x411 }
/-- [B -/
def k19 : Class := { plain "[B" (some 0) with kind := .array 18 .byte, interfaces := #[17, 8], accessFlags := 1041 }

/-- the primitive int -/
def k20 : Class := { plain "int" none with kind := .primitive 'I', accessFlags := 0x411 }
/-- [I -/
def k21 : Class := { plain "[I" (some 0) with kind := .array 20 .int, interfaces := #[17, 8], accessFlags := 1041 }

def heap : Heap := #[{ cls := 10, slots := #[.ref 2, .ref 3, .ref 4, .null], vm := .statics 10 },
  { cls := 11, slots := #[.ref 5], vm := .statics 11 },
  { cls := 10, slots := #[.null, .int 0, .int 0], vm := .none },
  { cls := 10, slots := #[.null, .int 1, .int 0], vm := .none },
  { cls := 10, slots := #[.null, .int 2, .int 0], vm := .none },
  { cls := 21, slots := #[.int 1, .int 2, .int 3], vm := .none }]
def classes : Array Class := #[k0, k1, k2, k3, k4, k5, k6, k7, k8, k9, k10, k11, k12, k13, k14, k15, k16, k17, k18, k19, k20, k21]
def interned : List (Array UInt16 × Addr) := []
def slotsUsed : Nat := 17
def theMethod : MethodId := ⟨1, 2⟩
def args0 : Array Value := #[.int 1, .int 2, .int 3, .long 4, .long 5, .long 6]
def aboutOver (below : List Frame) : State where
  vm := { classes := classes, interned := interned.toArray }
  heap := heap
  slotsUsed := slotsUsed
  threads := #[{ frames := .invoking theMethod args0 :: below }]
def below0 : List Frame := [.native { method := ⟨0, 0⟩, args := #[] }]
def about1 : State := aboutOver below0
def p0 : Program := .bare "" "" ""
def e0 : Env := launch0.env 0 0 0
theorem w_frames : about1.frames = Frame.invoking theMethod args0 :: below0 := rfl
set_option maxRecDepth 65536 in
theorem w_args : argsFit about1.vm theMethod args0 = true := by decide +kernel
set_option maxRecDepth 65536 in
theorem w_heap : heapFits about1 = true := by decide +kernel
set_option maxRecDepth 65536 in
theorem w_runnable : about1.curStatus? = some .runnable := by decide +kernel
set_option maxRecDepth 65536 in
theorem w_alone : about1.alone = true := by decide +kernel
set_option maxRecDepth 65536 in
theorem w_named : about1.methodNamed? x = some theMethod := by decide +kernel
set_option maxRecDepth 65536 in
theorem w_hears : about1.hears theMethod below0 = true := by decide +kernel
set_option maxRecDepth 65536 in
theorem w_ripe : about1.ripe theMethod args0 below0 = true := by decide +kernel
theorem w_running : about1.status = .running := rfl
set_option maxRecDepth 65536 in
theorem w_room : about1.hasRoom e0.platform room_1 = true :=
  launch0.hasRoom_least _ room_1 (by decide +kernel) (by decide +kernel) (by decide +kernel) (by decide +kernel) (by decide +kernel) (by decide +kernel)
theorem allAtoms_all (ts : List Jvm.Cond) (a : Array Jvm.Value) (st : Jvm.State) : (allAtoms ts).before a st = ts.all (fun c => c.before a st) := by
  induction ts with
  | nil => rfl
  | cons c t ih =>
    show (Jvm.Cond.and c (allAtoms t)).before a st = _
    rw [Jvm.Cond.before_and, ih, List.all_cons]
def words1 : List Jvm.Cond := Jvm.Cond.code x code maxLocals ret :: tables_1
/-- a 'code' word, met by the world's own term for the bytes: nothing is compared byte by byte -/
theorem code_word {y : MethodName} {bytes : ByteArray} {mx : Nat} {rt : Option FieldType} {a : Array Value} {s : State} {m : MethodId} {meth : Method} {c : Code} (h1 : s.methodNamed? y = some m) (h2 : s.vm.method? m = some meth) (h3 : meth.code = some c) (h4 : c.code = bytes)
    (h5 : (c.maxLocals == mx && c.exceptionTable.isEmpty && decide (c.maxStack ≤ mostOperands) && decide (meth.sig.returnType = rt) && !meth.locks && decide (parseMethodDescriptor y.desc = some meth.sig)) = true) : (Jvm.Cond.code y bytes mx rt).before a s = true := by
  simp only [Bool.and_eq_true, beq_iff_eq, Bool.not_eq_true', decide_eq_true_eq] at h5
  obtain ⟨⟨⟨⟨⟨g1, g2⟩, g3⟩, g4⟩, g5⟩, g6⟩ := h5
  simp [Cond.before, Cond.holds, Cond.value, h1, h2, h3, h4, g1, g2, g3, g4, g5, g6]
def isCode : Jvm.Cond → Bool
  | .code _ _ _ _ => true
  | _ => false
theorem all_split {L : List Jvm.Cond} {P : Jvm.Cond → Bool} (h1 : L.all (fun c => isCode c || P c) = true) (h2 : ∀ c ∈ L.filter isCode, P c = true) : L.all P = true := by
  refine List.all_eq_true.mpr fun c hc => ?_
  have h := List.all_eq_true.mp h1 c hc
  rcases Bool.eq_false_or_eq_true (isCode c) with hi | hi
  · exact h2 c (List.mem_filter.mpr ⟨hc, hi⟩)
  · simpa [hi] using h
set_option maxRecDepth 65536 in
theorem w_c0 : (Jvm.Cond.code x code maxLocals ret).before args0 about1 = true := code_word (m := ⟨1, 2⟩) (meth := k1m2) (c := k1c2) (by decide +kernel) rfl rfl rfl (by decide +kernel)
set_option maxRecDepth 65536 in
theorem w_c1 : (Jvm.Cond.code ({ cls := "com/example/gridwright/gridwright/AnnealSummary", name := "<init>", desc := "()V" } : Jvm.MethodName) prog_4_method_1_code (1 : Nat) (Option.none : Option Jvm.ClassFile.FieldType)).before args0 about1 = true := code_word (m := ⟨3, 0⟩) (meth := k3m0) (c := k3c0) (by decide +kernel) rfl rfl rfl (by decide +kernel)
set_option maxRecDepth 65536 in
theorem w_c2 : (Jvm.Cond.code ({ cls := "java/lang/Object", name := "<init>", desc := "()V" } : Jvm.MethodName) object_method_1_code (1 : Nat) (Option.none : Option Jvm.ClassFile.FieldType)).before args0 about1 = true := code_word (m := ⟨0, 0⟩) (meth := k0m0) (c := k0c0) (by decide +kernel) rfl rfl rfl (by decide +kernel)
set_option maxRecDepth 65536 in
theorem w_c3 : (Jvm.Cond.code ({ cls := "com/example/gridwright/gridwright/Grid", name := "<init>", desc := "(I[B)V" } : Jvm.MethodName) prog_15_method_1_code (3 : Nat) (Option.none : Option Jvm.ClassFile.FieldType)).before args0 about1 = true := code_word (m := ⟨4, 0⟩) (meth := k4m0) (c := k4c0) (by decide +kernel) rfl rfl rfl (by decide +kernel)
set_option maxRecDepth 65536 in
theorem w_c4 : (Jvm.Cond.code ({ cls := "com/example/gridwright/gridwright/AnnealSummary", name := "anyUnsolved", desc := "()Z" } : Jvm.MethodName) prog_4_method_4_code (1 : Nat) (Option.some Jvm.ClassFile.FieldType.boolean)).before args0 about1 = true := code_word (m := ⟨3, 3⟩) (meth := k3m3) (c := k3c3) (by decide +kernel) rfl rfl rfl (by decide +kernel)
set_option maxRecDepth 65536 in
theorem w_c5 : (Jvm.Cond.code ({ cls := "com/example/gridwright/gridwright/AnnealSummaryAnyUnsolvedPinLaw", name := "step", desc := "(Lcom/example/gridwright/gridwright/AnnealSummary;IJLcom/example/gridwright/gridwright/Grid;)Z" } : Jvm.MethodName) method_2_code (5 : Nat) (Option.some Jvm.ClassFile.FieldType.boolean)).before args0 about1 = true := code_word (m := ⟨1, 1⟩) (meth := k1m1) (c := k1c1) (by decide +kernel) rfl rfl rfl (by decide +kernel)
set_option maxRecDepth 65536 in
theorem w_c6 : (Jvm.Cond.code ({ cls := "com/example/gridwright/gridwright/AnnealResult", name := "unsolvable", desc := "()Lcom/example/gridwright/gridwright/AnnealResult;" } : Jvm.MethodName) prog_2_method_4_code (0 : Nat) (Option.some (Jvm.ClassFile.FieldType.object "com/example/gridwright/gridwright/AnnealResult"))).before args0 about1 = true := code_word (m := ⟨5, 3⟩) (meth := k5m3) (c := k5c3) (by decide +kernel) rfl rfl rfl (by decide +kernel)
set_option maxRecDepth 65536 in
theorem w_c7 : (Jvm.Cond.code ({ cls := "com/example/gridwright/gridwright/AnnealResult", name := "<init>", desc := "(Lcom/example/gridwright/gridwright/AnnealOutcome;Lcom/example/gridwright/gridwright/Grid;J)V" } : Jvm.MethodName) prog_2_method_1_code (5 : Nat) (Option.none : Option Jvm.ClassFile.FieldType)).before args0 about1 = true := code_word (m := ⟨5, 0⟩) (meth := k5m0) (c := k5c0) (by decide +kernel) rfl rfl rfl (by decide +kernel)
set_option maxRecDepth 65536 in
theorem w_c8 : (Jvm.Cond.code ({ cls := "com/example/gridwright/gridwright/AnnealSummary", name := "add", desc := "(Lcom/example/gridwright/gridwright/AnnealResult;)V" } : Jvm.MethodName) prog_4_method_2_code (3 : Nat) (Option.none : Option Jvm.ClassFile.FieldType)).before args0 about1 = true := code_word (m := ⟨3, 1⟩) (meth := k3m1) (c := k3c1) (by decide +kernel) rfl rfl rfl (by decide +kernel)
set_option maxRecDepth 65536 in
theorem w_c9 : (Jvm.Cond.code ({ cls := "com/example/gridwright/gridwright/AnnealResult", name := "outcome", desc := "()Lcom/example/gridwright/gridwright/AnnealOutcome;" } : Jvm.MethodName) prog_2_method_5_code (1 : Nat) (Option.some (Jvm.ClassFile.FieldType.object "com/example/gridwright/gridwright/AnnealOutcome"))).before args0 about1 = true := code_word (m := ⟨5, 4⟩) (meth := k5m4) (c := k5c4) (by decide +kernel) rfl rfl rfl (by decide +kernel)
set_option maxRecDepth 65536 in
theorem w_c10 : (Jvm.Cond.code ({ cls := "java/lang/Enum", name := "ordinal", desc := "()I" } : Jvm.MethodName) jdk_37_method_2_code (1 : Nat) (Option.some Jvm.ClassFile.FieldType.int)).before args0 about1 = true := code_word (m := ⟨9, 0⟩) (meth := k9m0) (c := k9c0) (by decide +kernel) rfl rfl rfl (by decide +kernel)
set_option maxRecDepth 65536 in
theorem w_c11 : (Jvm.Cond.code ({ cls := "com/example/gridwright/gridwright/AnnealResult", name := "unsolved", desc := "(J)Lcom/example/gridwright/gridwright/AnnealResult;" } : Jvm.MethodName) prog_2_method_3_code (2 : Nat) (Option.some (Jvm.ClassFile.FieldType.object "com/example/gridwright/gridwright/AnnealResult"))).before args0 about1 = true := code_word (m := ⟨5, 2⟩) (meth := k5m2) (c := k5c2) (by decide +kernel) rfl rfl rfl (by decide +kernel)
set_option maxRecDepth 65536 in
theorem w_c12 : (Jvm.Cond.code ({ cls := "com/example/gridwright/gridwright/AnnealResult", name := "solved", desc := "(Lcom/example/gridwright/gridwright/Grid;J)Lcom/example/gridwright/gridwright/AnnealResult;" } : Jvm.MethodName) prog_2_method_2_code (3 : Nat) (Option.some (Jvm.ClassFile.FieldType.object "com/example/gridwright/gridwright/AnnealResult"))).before args0 about1 = true := code_word (m := ⟨5, 1⟩) (meth := k5m1) (c := k5c1) (by decide +kernel) rfl rfl rfl (by decide +kernel)
set_option maxRecDepth 65536 in
theorem w_c13 : (Jvm.Cond.code ({ cls := "java/util/Objects", name := "requireNonNull", desc := "(Ljava/lang/Object;Ljava/lang/String;)Ljava/lang/Object;" } : Jvm.MethodName) jdk_31_method_11_code (2 : Nat) (Option.some (Jvm.ClassFile.FieldType.object "java/lang/Object"))).before args0 about1 = true := code_word (m := ⟨15, 1⟩) (meth := k15m1) (c := k15c1) (by decide +kernel) rfl rfl rfl (by decide +kernel)
set_option maxRecDepth 65536 in
theorem w_c14 : (Jvm.Cond.code ({ cls := "com/example/gridwright/gridwright/AnnealResult", name := "moves", desc := "()J" } : Jvm.MethodName) prog_2_method_7_code (1 : Nat) (Option.some Jvm.ClassFile.FieldType.long)).before args0 about1 = true := code_word (m := ⟨5, 5⟩) (meth := k5m5) (c := k5c5) (by decide +kernel) rfl rfl rfl (by decide +kernel)
set_option maxRecDepth 65536 in
theorem w_c15 : (Jvm.Cond.code ({ cls := "java/lang/Math", name := "max", desc := "(JJ)J" } : Jvm.MethodName) jdk_29_method_66_code (4 : Nat) (Option.some Jvm.ClassFile.FieldType.long)).before args0 about1 = true := code_word (m := ⟨16, 1⟩) (meth := k16m1) (c := k16c1) (by decide +kernel) rfl rfl rfl (by decide +kernel)
set_option maxRecDepth 65536 in
theorem w_c16 : (Jvm.Cond.code ({ cls := "com/example/gridwright/gridwright/AnnealSummary", name := "addInvalid", desc := "()V" } : Jvm.MethodName) prog_4_method_3_code (1 : Nat) (Option.none : Option Jvm.ClassFile.FieldType)).before args0 about1 = true := code_word (m := ⟨3, 2⟩) (meth := k3m2) (c := k3c2) (by decide +kernel) rfl rfl rfl (by decide +kernel)
def codes1 : List Jvm.Cond := [Jvm.Cond.code x code maxLocals ret, Jvm.Cond.code ({ cls := "com/example/gridwright/gridwright/AnnealSummary", name := "<init>", desc := "()V" } : Jvm.MethodName) prog_4_method_1_code (1 : Nat) (Option.none : Option Jvm.ClassFile.FieldType), Jvm.Cond.code ({ cls := "java/lang/Object", name := "<init>", desc := "()V" } : Jvm.MethodName) object_method_1_code (1 : Nat) (Option.none : Option Jvm.ClassFile.FieldType), Jvm.Cond.code ({ cls := "com/example/gridwright/gridwright/Grid", name := "<init>", desc := "(I[B)V" } : Jvm.MethodName) prog_15_method_1_code (3 : Nat) (Option.none : Option Jvm.ClassFile.FieldType), Jvm.Cond.code ({ cls := "com/example/gridwright/gridwright/AnnealSummary", name := "anyUnsolved", desc := "()Z" } : Jvm.MethodName) prog_4_method_4_code (1 : Nat) (Option.some Jvm.ClassFile.FieldType.boolean), Jvm.Cond.code ({ cls := "com/example/gridwright/gridwright/AnnealSummaryAnyUnsolvedPinLaw", name := "step", desc := "(Lcom/example/gridwright/gridwright/AnnealSummary;IJLcom/example/gridwright/gridwright/Grid;)Z" } : Jvm.MethodName) method_2_code (5 : Nat) (Option.some Jvm.ClassFile.FieldType.boolean), Jvm.Cond.code ({ cls := "com/example/gridwright/gridwright/AnnealResult", name := "unsolvable", desc := "()Lcom/example/gridwright/gridwright/AnnealResult;" } : Jvm.MethodName) prog_2_method_4_code (0 : Nat) (Option.some (Jvm.ClassFile.FieldType.object "com/example/gridwright/gridwright/AnnealResult")), Jvm.Cond.code ({ cls := "com/example/gridwright/gridwright/AnnealResult", name := "<init>", desc := "(Lcom/example/gridwright/gridwright/AnnealOutcome;Lcom/example/gridwright/gridwright/Grid;J)V" } : Jvm.MethodName) prog_2_method_1_code (5 : Nat) (Option.none : Option Jvm.ClassFile.FieldType), Jvm.Cond.code ({ cls := "com/example/gridwright/gridwright/AnnealSummary", name := "add", desc := "(Lcom/example/gridwright/gridwright/AnnealResult;)V" } : Jvm.MethodName) prog_4_method_2_code (3 : Nat) (Option.none : Option Jvm.ClassFile.FieldType), Jvm.Cond.code ({ cls := "com/example/gridwright/gridwright/AnnealResult", name := "outcome", desc := "()Lcom/example/gridwright/gridwright/AnnealOutcome;" } : Jvm.MethodName) prog_2_method_5_code (1 : Nat) (Option.some (Jvm.ClassFile.FieldType.object "com/example/gridwright/gridwright/AnnealOutcome")), Jvm.Cond.code ({ cls := "java/lang/Enum", name := "ordinal", desc := "()I" } : Jvm.MethodName) jdk_37_method_2_code (1 : Nat) (Option.some Jvm.ClassFile.FieldType.int), Jvm.Cond.code ({ cls := "com/example/gridwright/gridwright/AnnealResult", name := "unsolved", desc := "(J)Lcom/example/gridwright/gridwright/AnnealResult;" } : Jvm.MethodName) prog_2_method_3_code (2 : Nat) (Option.some (Jvm.ClassFile.FieldType.object "com/example/gridwright/gridwright/AnnealResult")), Jvm.Cond.code ({ cls := "com/example/gridwright/gridwright/AnnealResult", name := "solved", desc := "(Lcom/example/gridwright/gridwright/Grid;J)Lcom/example/gridwright/gridwright/AnnealResult;" } : Jvm.MethodName) prog_2_method_2_code (3 : Nat) (Option.some (Jvm.ClassFile.FieldType.object "com/example/gridwright/gridwright/AnnealResult")), Jvm.Cond.code ({ cls := "java/util/Objects", name := "requireNonNull", desc := "(Ljava/lang/Object;Ljava/lang/String;)Ljava/lang/Object;" } : Jvm.MethodName) jdk_31_method_11_code (2 : Nat) (Option.some (Jvm.ClassFile.FieldType.object "java/lang/Object")), Jvm.Cond.code ({ cls := "com/example/gridwright/gridwright/AnnealResult", name := "moves", desc := "()J" } : Jvm.MethodName) prog_2_method_7_code (1 : Nat) (Option.some Jvm.ClassFile.FieldType.long), Jvm.Cond.code ({ cls := "java/lang/Math", name := "max", desc := "(JJ)J" } : Jvm.MethodName) jdk_29_method_66_code (4 : Nat) (Option.some Jvm.ClassFile.FieldType.long), Jvm.Cond.code ({ cls := "com/example/gridwright/gridwright/AnnealSummary", name := "addInvalid", desc := "()V" } : Jvm.MethodName) prog_4_method_3_code (1 : Nat) (Option.none : Option Jvm.ClassFile.FieldType)]
set_option maxRecDepth 65536 in
theorem codes_eq : words1.filter isCode = codes1 := rfl
theorem w_codes : ∀ c ∈ words1.filter isCode, c.before args0 about1 = true := by
  rw [codes_eq]
  intro c hc
  simp only [codes1, List.mem_cons, List.not_mem_nil, or_false] at hc
  rcases hc with rfl | rfl | rfl | rfl | rfl | rfl | rfl | rfl | rfl | rfl | rfl | rfl | rfl | rfl | rfl | rfl | rfl
  · exact w_c0
  · exact w_c1
  · exact w_c2
  · exact w_c3
  · exact w_c4
  · exact w_c5
  · exact w_c6
  · exact w_c7
  · exact w_c8
  · exact w_c9
  · exact w_c10
  · exact w_c11
  · exact w_c12
  · exact w_c13
  · exact w_c14
  · exact w_c15
  · exact w_c16
set_option maxRecDepth 65536 in
theorem w_t1 : (words1.take 24).all (fun c => isCode c || c.before args0 about1) = true := by decide +kernel
set_option maxRecDepth 65536 in
theorem w_t2 : ((words1.drop 24).take 24).all (fun c => isCode c || c.before args0 about1) = true := by decide +kernel
set_option maxRecDepth 65536 in
theorem w_t3 : (((words1.drop 24).drop 24).take 24).all (fun c => isCode c || c.before args0 about1) = true := by decide +kernel
set_option maxRecDepth 65536 in
theorem w_t4 : ((((words1.drop 24).drop 24).drop 24).take 24).all (fun c => isCode c || c.before args0 about1) = true := by decide +kernel
set_option maxRecDepth 65536 in
theorem w_t5 : (((((words1.drop 24).drop 24).drop 24).drop 24).take 24).all (fun c => isCode c || c.before args0 about1) = true := by decide +kernel
set_option maxRecDepth 65536 in
theorem w_t6 : (((((words1.drop 24).drop 24).drop 24).drop 24).drop 24).all (fun c => isCode c || c.before args0 about1) = true := by decide +kernel
theorem w_tables : (allAtoms (Jvm.Cond.code x code maxLocals ret :: tables_1)).before args0 about1 = true := by
  rw [allAtoms_all]
  show words1.all (fun c => c.before args0 about1) = true
  refine all_split ?_ w_codes
  rw [← List.take_append_drop 24 words1, List.all_append, w_t1, ← List.take_append_drop 24 (words1.drop 24), List.all_append, w_t2, ← List.take_append_drop 24 ((words1.drop 24).drop 24), List.all_append, w_t3, ← List.take_append_drop 24 (((words1.drop 24).drop 24).drop 24), List.all_append, w_t4, ← List.take_append_drop 24 ((((words1.drop 24).drop 24).drop 24).drop 24), List.all_append, w_t5, w_t6]
  rfl
set_option maxRecDepth 65536 in
theorem w_case : (Jvm.Cond.and given_1 narrow_1).before args0 about1 = true := by decide +kernel
theorem w_applies : (headSpec (Jvm.Cond.code x code maxLocals ret :: tables_1) room_1).applies x e0.platform about1 = true :=
  (Spec.applies_iff w_frames).mpr ⟨w_running, w_runnable, w_alone, w_named, w_hears, w_ripe, w_room, w_tables⟩
theorem atStart : AtStart classFile x code maxLocals ret World_1 tables_1 room_1 Calls_1 rest_1 Pre_1 launch0 p0 e0 about1 theMethod args0 below0 :=
  ⟨lists_1, trivial, launch0.admits_env _ _ _, launch0.least_env, fairChoices_fair.cas, fairChoices_fair.clock, w_frames, w_args, w_heap, w_applies, trivial, trivial, w_case⟩
end start1
theorem witness_1 : WitnessClaimed_1 := ⟨start1.p0, start1.e0, start1.about1, start1.theMethod, start1.args0, start1.below0, start1.atStart⟩
end Jvm.Pilot.@@N@@
