import JvmDerived
import JvmDerived.Pilot.@@N@@Statement
import JvmDerived.Pilot.@@N@@Code
set_option linter.unusedVariables false
set_option linter.unusedSimpArgs false
namespace Jvm.Pilot.@@N@@
open Jvm Jvm.ClassFile Sem Op Lib Jvm.Free Jvm.Stand Jvm.LawKit Jvm.RoadKit Bundle Jvm.Pilot.@@N@@.Jvm.D
section Own
variable {p : Program} {l : Launch} {e : Env} {R : Room} {s : State} {m : MethodId} {args : Array Value} {below : List Frame} {meth : Method} {c : Code} {T : State} {locs : List Loc} {cells slots : Nat} {Z : State} {a0 : Array Value} {h : Heap}
def own_Go (p : Program) (e : Env) (below : List Frame) (P : Outcome → State → Prop) (U : State) : Prop := ∃ s₂ o, Steps p.tables e below U s₂ ∧ s₂.status = .running ∧ Ended s₂ below o ∧ P o s₂
theorem own_st {P : Outcome → State → Prop} {U V : State} (k : ∀ t, Steps p.tables e below U t → Steps p.tables e below V t) (h : own_Go p e below P U) : own_Go p e below P V := by
  obtain ⟨a, b, c, d⟩ := h; exact ⟨a, b, k _ c, d⟩
def own_P (s : State) (Q : Option Value → Heap → List Loc → Prop) (rc rs : Nat) (o : Outcome) (U : State) : Prop := ∃ v L, o = .returned v ∧ Q v U.heap L ∧ FrameEnd s o U L rc rs
theorem own_ret (X : Stand p l e R s m args below meth c T locs cells slots) {Q : Option Value → Heap → List Loc → Prop} {rc rs : Nat} {g : JFrame} {v : Option Value} (hlk : meth.locks = false) (hv : meth.sig.returnType = none → v = none) (hq : Q v T.heap locs) (hc : cells ≤ rc) (hl : slots ≤ rs)
    (k : ∀ fs, (∀ (f : JFrame) (acts : List Action), f.method = m → f.locked = none → f.entered = [] → (doReturn e (T.setTop f) acts v).1 = T.setFrames fs) → Steps p.tables e below (T.setTop g) (T.setFrames fs)) : own_Go p e below (own_P s Q rc rs) (T.setTop g) := by
  obtain ⟨fs, hr, hrun, hended, hW, hsame⟩ := X.leave (v := v) hv hlk
  exact ⟨_, _, k fs hr, hrun, hended, _, _, rfl, hq, ⟨_, rfl⟩, hW, hsame.mono hc hl⟩
theorem own_retV (X : Stand p l e R s m args below meth c T locs cells slots) (hx : p.tables.exec = Jvm.exec) {Q : Option Value → Heap → List Loc → Prop} {rc rs pc : Nat} {Ls : Array Slot} (hlk : meth.locks = false) (hret : meth.sig.returnType = none) (hd : decode c.code pc = .ok (.return_, 1)) (hc : cells ≤ rc) (hl : slots ≤ rs) (hq : Q none T.heap locs) : own_Go p e below (own_P s Q rc rs) (T.setTop (mkF m pc Ls [])) :=
  own_ret X hlk (fun _ => rfl) hq hc hl fun _ hr => X.returnOut hx hret hd hr
theorem own_retX (X : Stand p l e R s m args below meth c T locs cells slots) (hx : p.tables.exec = Jvm.exec) {Q : Option Value → Heap → List Loc → Prop} {rc rs pc : Nat} {Ls : Array Slot} {w : Value} {t : FieldType} {i : Instr} {rest : List Value} (hlk : meth.locks = false) (hret : meth.sig.returnType = some t) (hn : narrow t w = w)
    (hi : (i = .ireturn ∧ (t = .int ∨ t = .boolean ∨ t = .byte ∨ t = .char ∨ t = .short) ∧ ∃ z, w = .int z) ∨ (i = .lreturn ∧ t = .long ∧ ∃ z, w = .long z) ∨ (i = .dreturn ∧ t = .double ∧ ∃ z, w = .double z) ∨ (i = .freturn ∧ t = .float ∧ ∃ z, w = .float z) ∨ (i = .areturn ∧ t.isReference = true ∧ w.isRef = true))
    (hd : decode c.code pc = .ok (i, 1)) (hc : cells ≤ rc) (hl : slots ≤ rs) (hq : Q (some w) T.heap locs) : own_Go p e below (own_P s Q rc rs) (T.setTop (mkF m pc Ls (w :: rest))) :=
  own_ret X hlk (fun q => by rw [hret] at q; cases q) hq hc hl fun _ hr => retOut X hx hret hn hi hd hr
theorem own_body {y : MethodName} {bytes : ByteArray} {maxL : Nat} {ret : Option FieldType} {rm : Room} {ws : List Cond} {as' : Array Value} {Q : Option Value → Heap → List Loc → Prop} (hn : plainFor y = true)
    (b : ∀ (p : Program) (e : Env) (s : State) (m : MethodId) (below : List Frame) (meth : Method) (c : Code) (s₁ : State), p.tables.exec = Jvm.exec → c.code = bytes → c.maxLocals = maxL → s.vm.findClass y.cls = some m.cls → meth.name = y.name → meth.sig.returnType = ret → meth.locks = false → Z.Warmed39 s.vm → s₁.heap = h → Stand p l e rm s m as' below meth c s₁ [] 0 0 →
      own_Go p e below (own_P s Q rm.cells rm.slots) (s₁.setTop (entryFrame m as' maxL))) :
    MetFree l y (head1 (Cond.code y bytes maxL ret :: ws) rm) (fun a U => a = as' ∧ Z.Warmed39 U.vm ∧ U.heap = h) (fun _ _ _ _ _ => True) (fun _ U o U' => ∃ v L, o = .returned v ∧ Q v U'.heap L ∧ FrameEnd U o U' L rm.cells rm.slots) := by
  refine MetFree.of_bodySF hn hisR ?_
  intro p e s m args below meth c s₁ Bd hml0 hP hK
  obtain ⟨rfl, hZ, hh⟩ := hP
  exact b p e s m below meth c s₁ Bd.exec Bd.bytes hml0 (findClass_of_methodNamed Bd.named) (name_of_methodNamed Bd.named Bd.method).1 Bd.returns Bd.notSynchronized hZ (by rw [← hh, Bd.state]; rfl) (Stand.of_body Bd)
abbrev own_Met (l : Launch) (y : MethodName) (bytes : ByteArray) (maxL : Nat) (ret : Option FieldType) (ws : List Cond) (rm : Room) (Z : State) (h : Heap) (as' : Array Value) (Q : Option Value → Heap → List Loc → Prop) : Prop :=
  MetFree l y (head1 (Cond.code y bytes maxL ret :: ws) rm) (fun a U => a = as' ∧ Z.Warmed39 U.vm ∧ U.heap = h) (fun _ _ _ _ _ => True) (fun _ U o U' => ∃ v L, o = .returned v ∧ Q v U'.heap L ∧ FrameEnd U o U' L rm.cells rm.slots)
abbrev own_Came (p : Program) (l : Launch) (e : Env) (R : Room) (s : State) (m : MethodId) (args : Array Value) (below : List Frame) (meth : Method) (c : Code) (T : State) (locs : List Loc) (cells slots : Nat) (g : JFrame) (len : Nat) (rest : List Value) (Q : Option Value → Heap → List Loc → Prop) : Prop :=
  ∃ (T' : State) (v : Option Value) (L : List Loc), Stand p l e R s m args below meth c T' (locs ++ L) cells slots ∧ Q v T'.heap L ∧ ∀ t, Steps p.tables e below (T'.setTop { g with pc := g.pc + len, stack := v.toList ++ rest }) t → Steps p.tables e below (T.setTop g) t
theorem own_callS (X : Stand p l e R s m args below meth c T locs cells slots) (hx : p.tables.exec = Jvm.exec) (hZ : Z.Warmed39 s.vm) {own : String} {index : Nat} {y : MethodName} {bytes : ByteArray} {maxL : Nat} {ret : Option FieldType} {rm : Room} {as' : Array Value} {Q : Option Value → Heap → List Loc → Prop}
    (hown : s.vm.findClass own = some m.cls) (w1 : (Cond.methodLink own index y).before a0 Z = true) (w2 : (Cond.static y).before a0 Z = true) (w3 : (Cond.initialized y.cls).before a0 Z = true) (w4 : (Cond.code y bytes maxL ret).before a0 Z = true)
    (hy : y.cls ≠ "java/lang/invoke/MethodHandle" ∧ y.cls ≠ "java/lang/invoke/VarHandle") (hM : own_Met l y bytes maxL ret [] rm Z h as' Q) (eT : T.heap = h) {ps : List FieldType} {r : Option FieldType} (hd : parseMethodDescriptor y.desc = some ⟨ps, r⟩) {argsL rest : List Value} (hl : argsL.length = ps.length) (ha : argsL.toArray = as')
    {g : JFrame} (hg : g.method = m) (hsize : g.locals.size = c.maxLocals) (hstack : g.stack = argsL.reverse ++ rest) (hdg : decode c.code g.pc = .ok (.invokestatic index, 3)) {W : Nat} (hW : 2 * g.monitorRoom + (rest.map fun v => v.category).sum = W) (h1 : rm.frames + 1 ≤ R.frames) (h2 : W + (maxL + 11) + rm.locals ≤ R.locals) (h3 : cells + rm.cells ≤ R.cells) (h4 : slots + rm.slots ≤ R.slots) :
    own_Came p l e R s m args below meth c T locs (cells + rm.cells) (slots + rm.slots) g 3 rest Q := by
  obtain ⟨v, _, ⟨T', L', k', n'⟩, -, X', ⟨Lc, hQ, l1, y1, z1⟩, st⟩ := Jvm.LawKit.callS X hx (y := y) hown (mvT hZ w1) (mvT hZ w2) (mvT hZ w3) (mvT hZ w4) hy (backOf (W := W) hM hZ w4 w3 h1 h2) (g := g) hg hsize (argsL := argsL) (rest := rest) (lenOf hd hl) hstack (Nat.le_of_eq hW) hdg (fun _ _ => ⟨ha, eT, h3, h4⟩)
  dsimp only [Pt.U, Pt.locs, Pt.cells, Pt.slots] at X' l1 y1 z1 st hQ
  subst l1 y1 z1
  exact ⟨T', v, Lc, X', hQ, st⟩
theorem own_callN (X : Stand p l e R s m args below meth c T locs cells slots) (hx : p.tables.exec = Jvm.exec) (hZ : Z.Warmed39 s.vm) {own : String} {index : Nat} {y : MethodName} {bytes : ByteArray} {maxL : Nat} {rm : Room} {as' : Array Value} {Q : Option Value → Heap → List Loc → Prop} (hy1 : y.name = "<init>")
    (hown : s.vm.findClass own = some m.cls) (w1 : (Cond.methodLink own index y).before a0 Z = true) (w2 : (Cond.instanceMethod y).before a0 Z = true) (w3 : (Cond.initialized y.cls).before a0 Z = true) (w4 : (Cond.code y bytes maxL none).before a0 Z = true)
    (hy : y.cls ≠ "java/lang/invoke/MethodHandle" ∧ y.cls ≠ "java/lang/invoke/VarHandle") (hM : own_Met l y bytes maxL none [] rm Z h as' Q) (eT : T.heap = h) {ps : List FieldType} {r : Option FieldType} (hd : parseMethodDescriptor y.desc = some ⟨ps, r⟩) {a : Addr} {argsL rest : List Value} (hl : argsL.length = ps.length) (ha : (.ref a :: argsL).toArray = as')
    {g : JFrame} (hg : g.method = m) (hsize : g.locals.size = c.maxLocals) (hstack : g.stack = argsL.reverse ++ .ref a :: rest) (hdg : decode c.code g.pc = .ok (.invokespecial index, 3)) {W : Nat} (hW : 2 * g.monitorRoom + (rest.map fun v => v.category).sum = W) (h1 : rm.frames + 1 ≤ R.frames) (h2 : W + (maxL + 11) + rm.locals ≤ R.locals) (h3 : cells + rm.cells ≤ R.cells) (h4 : slots + rm.slots ≤ R.slots) :
    own_Came p l e R s m args below meth c T locs (cells + rm.cells) (slots + rm.slots) g 3 rest Q := by
  obtain ⟨v, _, ⟨T', L', k', n'⟩, -, X', ⟨Lc, hQ, l1, y1, z1⟩, st⟩ := X.specialBack hx (y := y) hy1 hown (mvT hZ w1) (mvT hZ w2) (mvT hZ w4) hy (backOf (W := W) hM hZ w4 w3 h1 h2) (g := g) hg hsize (Steps.refl _) (a := a) (argsL := argsL) (rest := rest) (lenOf hd hl) hstack (Nat.le_of_eq hW) hdg (fun _ _ => ⟨ha, eT, h3, h4⟩)
  dsimp only [Pt.U, Pt.locs, Pt.cells, Pt.slots] at X' l1 y1 z1 st hQ
  subst l1 y1 z1
  exact ⟨T', v, Lc, X', hQ, fun _ k => st.trans k⟩
theorem own_callV (X : Stand p l e R s m args below meth c T locs cells slots) (hx : p.tables.exec = Jvm.exec) (hZ : Z.Warmed39 s.vm) {own C : String} {index : Nat} {y z : MethodName} {bytes : ByteArray} {maxL : Nat} {ret : Option FieldType} {rm : Room} {as' : Array Value} {Q : Option Value → Heap → List Loc → Prop}
    (hown : s.vm.findClass own = some m.cls) (w1 : (Cond.methodLink own index y).before a0 Z = true) (w2 : (Cond.declares y).before a0 Z = true) (hnf : NotFace s y) (w5 : (Cond.selects C y z).before a0 Z = true) (w6 : (Cond.instanceMethod z).before a0 Z = true) (w3 : (Cond.initialized z.cls).before a0 Z = true) (w4 : (Cond.code z bytes maxL ret).before a0 Z = true)
    (hy : y.cls ≠ "java/lang/invoke/MethodHandle" ∧ y.cls ≠ "java/lang/invoke/VarHandle") (hM : own_Met l z bytes maxL ret [] rm Z h as' Q) (eT : T.heap = h) {a : Addr} (E : Exa Z h a C) {ps : List FieldType} {r : Option FieldType} (hd : parseMethodDescriptor y.desc = some ⟨ps, r⟩) {argsL rest : List Value} (hl : argsL.length = ps.length) (ha : (.ref a :: argsL).toArray = as')
    {g : JFrame} (hg : g.method = m) (hsize : g.locals.size = c.maxLocals) (hstack : g.stack = argsL.reverse ++ .ref a :: rest) (hdg : decode c.code g.pc = .ok (.invokevirtual index, 3)) {W : Nat} (hW : 2 * g.monitorRoom + (rest.map fun v => v.category).sum = W) (h1 : rm.frames + 1 ≤ R.frames) (h2 : W + (maxL + 11) + rm.locals ≤ R.locals) (h3 : cells + rm.cells ≤ R.cells) (h4 : slots + rm.slots ≤ R.slots) :
    own_Came p l e R s m args below meth c T locs (cells + rm.cells) (slots + rm.slots) g 3 rest Q := by
  obtain ⟨cq, kq, qa, qb, qc⟩ := isOf hZ eT E
  obtain ⟨v, _, ⟨T', L', k', n'⟩, -, X', ⟨Lc, hQ, l1, y1, z1⟩, st⟩ := X.virtualBack hx (y := y) (z := z) hown (mvT hZ w1) (mvT hZ w2) hnf (mvT hZ w5) (mvT hZ w6) hy (backOf (W := W) hM hZ w4 w3 h1 h2) qa qc (g := g) hg hsize (Steps.refl _) (argsL := argsL) (rest := rest) (lenOf hd hl) hstack (Nat.le_of_eq hW) hdg (fun _ _ => ⟨ha, eT, h3, h4⟩)
  dsimp only [Pt.U, Pt.locs, Pt.cells, Pt.slots] at X' l1 y1 z1 st hQ
  subst l1 y1 z1
  exact ⟨T', v, Lc, X', hQ, fun _ k => st.trans k⟩
theorem own_callU (X : Stand p l e R s m args below meth c T locs cells slots) (hx : p.tables.exec = Jvm.exec) (hZ : Z.Warmed39 s.vm) {own C owner : String} {index : Nat} {y z : MethodName} {bytes : ByteArray} {maxL : Nat} {ret : Option FieldType} {rm : Room} {as' : Array Value} {Q : Option Value → Heap → List Loc → Prop}
    (hown : s.vm.findClass own = some m.cls) (w1 : (Cond.methodLink own index y).before a0 Z = true) (w7 : (Cond.sameMethod y.cls owner y.name y.desc).before a0 Z = true) (w2 : (Cond.declares ⟨owner, y.name, y.desc⟩).before a0 Z = true) (w5 : (Cond.selects C y z).before a0 Z = true) (w6 : (Cond.instanceMethod z).before a0 Z = true) (w3 : (Cond.initialized z.cls).before a0 Z = true) (w4 : (Cond.code z bytes maxL ret).before a0 Z = true)
    (hy : owner ≠ "java/lang/invoke/MethodHandle" ∧ owner ≠ "java/lang/invoke/VarHandle") (hM : own_Met l z bytes maxL ret [] rm Z h as' Q) (eT : T.heap = h) {a : Addr} (E : Exa Z h a C) {ps : List FieldType} {r : Option FieldType} (hd : parseMethodDescriptor y.desc = some ⟨ps, r⟩) {argsL rest : List Value} (hl : argsL.length = ps.length) (ha : (.ref a :: argsL).toArray = as')
    {g : JFrame} (hg : g.method = m) (hsize : g.locals.size = c.maxLocals) (hstack : g.stack = argsL.reverse ++ .ref a :: rest) (hdg : decode c.code g.pc = .ok (.invokevirtual index, 3)) {W : Nat} (hW : 2 * g.monitorRoom + (rest.map fun v => v.category).sum = W) (h1 : rm.frames + 1 ≤ R.frames) (h2 : W + (maxL + 11) + rm.locals ≤ R.locals) (h3 : cells + rm.cells ≤ R.cells) (h4 : slots + rm.slots ≤ R.slots) :
    own_Came p l e R s m args below meth c T locs (cells + rm.cells) (slots + rm.slots) g 3 rest Q := by
  obtain ⟨cq, kq, qa, qb, qc⟩ := isOf hZ eT E
  obtain ⟨v, _, ⟨T', L', k', n'⟩, -, X', ⟨Lc, hQ, l1, y1, z1⟩, st⟩ := X.virtualBackUp hx (x := y) (y := z) hown (mvT hZ w1) (mvT hZ w7) (mvT hZ w2) hy (mvT hZ w5) (mvT hZ w6) (backOf (W := W) hM hZ w4 w3 h1 h2) qa qc (g := g) hg hsize (Steps.refl _) (argsL := argsL) (rest := rest) (lenOf hd hl) hstack (Nat.le_of_eq hW) hdg (fun _ _ => ⟨ha, eT, h3, h4⟩)
  dsimp only [Pt.U, Pt.locs, Pt.cells, Pt.slots] at X' l1 y1 z1 st hQ
  subst l1 y1 z1
  exact ⟨T', v, Lc, X', hQ, fun _ k => st.trans k⟩
theorem own_callI (X : Stand p l e R s m args below meth c T locs cells slots) (hx : p.tables.exec = Jvm.exec) (hZ : Z.Warmed39 s.vm) {own C : String} {index count : Nat} {y z : MethodName} {bytes : ByteArray} {maxL : Nat} {ret : Option FieldType} {rm : Room} {as' : Array Value} {Q : Option Value → Heap → List Loc → Prop}
    (hown : s.vm.findClass own = some m.cls) (w1 : (Cond.methodLink own index y).before a0 Z = true) (w2 : (Cond.declares y).before a0 Z = true) (w7 : (Cond.interfaceMethod y.cls y.cls y.name y.desc).before args s = true) (w5 : (Cond.selects C y z).before a0 Z = true) (w6 : (Cond.instanceMethod z).before a0 Z = true) (w8 : (Cond.publicMethod z).before a0 Z = true) (w9 : (Cond.unhidden C y.name y.desc).before a0 Z = true) (w10 : (Cond.castable C y.cls).before a0 Z = true) (w3 : (Cond.initialized z.cls).before a0 Z = true) (w4 : (Cond.code z bytes maxL ret).before a0 Z = true)
    (hy : y.cls ≠ "java/lang/invoke/MethodHandle" ∧ y.cls ≠ "java/lang/invoke/VarHandle") (hM : own_Met l z bytes maxL ret [] rm Z h as' Q) (eT : T.heap = h) {a : Addr} (E : Exa Z h a C) {ps : List FieldType} {r : Option FieldType} (hd : parseMethodDescriptor y.desc = some ⟨ps, r⟩) {argsL rest : List Value} (hl : argsL.length = ps.length) (ha : (.ref a :: argsL).toArray = as')
    {g : JFrame} (hg : g.method = m) (hsize : g.locals.size = c.maxLocals) (hstack : g.stack = argsL.reverse ++ .ref a :: rest) (hdg : decode c.code g.pc = .ok (.invokeinterface index count, 5)) {W : Nat} (hW : 2 * g.monitorRoom + (rest.map fun v => v.category).sum = W) (h1 : rm.frames + 1 ≤ R.frames) (h2 : W + (maxL + 11) + rm.locals ≤ R.locals) (h3 : cells + rm.cells ≤ R.cells) (h4 : slots + rm.slots ≤ R.slots) :
    own_Came p l e R s m args below meth c T locs (cells + rm.cells) (slots + rm.slots) g 5 rest Q := by
  obtain ⟨cq, kq, qa, qb, qc⟩ := isOf hZ eT E
  obtain ⟨v, _, ⟨T', L', k', n'⟩, -, X', ⟨Lc, hQ, l1, y1, z1⟩, st⟩ := X.interfaceBack hx (xi := y) (y := z) hown (mvT hZ w1) (mvT hZ w2) w7 (mvT hZ w5) (mvT hZ w6) (mvT hZ w8) (mvT hZ w9) (mvT hZ w10) hy (backOf (W := W) hM hZ w4 w3 h1 h2) qa qb qc (g := g) hg hsize (Steps.refl _) (argsL := argsL) (rest := rest) (lenOf hd hl) hstack (Nat.le_of_eq hW) hdg (fun _ _ => ⟨ha, eT, h3, h4⟩)
  dsimp only [Pt.U, Pt.locs, Pt.cells, Pt.slots] at X' l1 y1 z1 st hQ
  subst l1 y1 z1
  exact ⟨T', v, Lc, X', hQ, fun _ k => st.trans k⟩
theorem own_selP (hZ : Z.Warmed39 s.vm) {y : MethodName} {n : Nat} (w1 : (Cond.instantiable y.cls n).before a0 Z = true) (w2 : (Cond.privateMethod y).before a0 Z = true) (w3 : (Cond.instanceMethod y).before a0 Z = true) (hy : y.cls ≠ "java/lang/invoke/MethodHandle" ∧ y.cls ≠ "java/lang/invoke/VarHandle") : (Cond.selects y.cls y y).before args s = true := by
  obtain ⟨c, k, h1, h2, -, h3, -⟩ := Cond.instantiable_spec (mvT hZ w1 (args := args))
  exact Jvm.Stand.selects_self_of_private h1 h2 (by simp at h3; exact h3.1) (Cond.privateMethod_at (mvP hZ w2 (args := args))) (mvT hZ w3) hy
theorem own_callP (X : Stand p l e R s m args below meth c T locs cells slots) (hx : p.tables.exec = Jvm.exec) (hZ : Z.Warmed39 s.vm) {own : String} {index : Nat} {y : MethodName} {bytes : ByteArray} {maxL : Nat} {ret : Option FieldType} {rm : Room} {as' : Array Value} {Q : Option Value → Heap → List Loc → Prop}
    (hown : s.vm.findClass own = some m.cls) (w1 : (Cond.methodLink own index y).before a0 Z = true) (w6 : (Cond.instanceMethod y).before a0 Z = true) (w5 : (Cond.selects y.cls y y).before args s = true) (w7 : (Cond.privateMethod y).before a0 Z = true) (w3 : (Cond.initialized y.cls).before a0 Z = true) (w4 : (Cond.code y bytes maxL ret).before a0 Z = true)
    (hy : y.cls ≠ "java/lang/invoke/MethodHandle" ∧ y.cls ≠ "java/lang/invoke/VarHandle") (hM : own_Met l y bytes maxL ret [] rm Z h as' Q) (eT : T.heap = h) {a : Addr} {C : String} (E : Exa Z h a C) {ps : List FieldType} {r : Option FieldType} (hd : parseMethodDescriptor y.desc = some ⟨ps, r⟩) {argsL rest : List Value} (hl : argsL.length = ps.length) (ha : (.ref a :: argsL).toArray = as')
    {g : JFrame} (hg : g.method = m) (hsize : g.locals.size = c.maxLocals) (hstack : g.stack = argsL.reverse ++ .ref a :: rest) (hdg : decode c.code g.pc = .ok (.invokevirtual index, 3)) {W : Nat} (hW : 2 * g.monitorRoom + (rest.map fun v => v.category).sum = W) (h1 : rm.frames + 1 ≤ R.frames) (h2 : W + (maxL + 11) + rm.locals ≤ R.locals) (h3 : cells + rm.cells ≤ R.cells) (h4 : slots + rm.slots ≤ R.slots) :
    own_Came p l e R s m args below meth c T locs (cells + rm.cells) (slots + rm.slots) g 3 rest Q := by
  obtain ⟨cq, q, q'⟩ := E.cell
  obtain ⟨v, _, ⟨T', L', k', n'⟩, -, X', ⟨Lc, hQ, l1, y1, z1⟩, st⟩ := X.privateBack hx (y := y) hown (mvT hZ w1) (mvT hZ w6) w5 (Cond.privateMethod_at (mvP hZ w7 (args := #[]))) (mvT hZ w4) hy (backOf (W := W) hM hZ w4 w3 h1 h2) (g := g) hg hsize (Steps.refl _) (a := a) (by rw [eT]; exact q) q' (argsL := argsL) (rest := rest) (lenOf hd hl) hstack (Nat.le_of_eq hW) hdg (fun _ _ => ⟨ha, eT, h3, h4⟩)
  dsimp only [Pt.U, Pt.locs, Pt.cells, Pt.slots] at X' l1 y1 z1 st hQ
  subst l1 y1 z1
  exact ⟨T', v, Lc, X', hQ, fun _ k => st.trans k⟩
theorem own_nl {n0 : Nat} {Z : State} (O : Old Z n0 h) : n0 ≤ h.size := O.1 ▸ O.2.1
theorem own_tt {x : Bool} (h : x = true) : x = true := h
end Own
section Own2
variable {args : Array Value} {Z : State} {a : Addr} {O f d : String} {k : Int32} {t : Term} {v : Value} {ty : FieldType}
theorem own_fldI (ht : t.eval args Z none [] Z = some (.ref a)) (h : (Cond.eq (.field t O f d) (.int k)).value args Z none Z [] = some true) : Fld Z Z.heap a O f d (.int k) := by
  obtain ⟨x, y, ea, eb, -, k2⟩ := cmp_v (Or.inl h)
  obtain rfl : y = .int k := (Option.some.inj (eb.symm.trans (Term.int_eval k)))
  obtain ⟨z, rfl⟩ := k2
  obtain rfl : z = k := by simpa [Cond.value, ea, eb] using h
  rw [fld_at ht] at ea
  exact Fld.start ea
theorem own_bb (x : Int32) : x.toInt8.toInt32.toInt8.toInt32 = x.toInt8.toInt32 := by simp
theorem own_narG (h : v.isRef = true) : narrow ty v = v := by cases v <;> first | rfl | (cases ty <;> rfl) | simp [Value.isRef] at h
theorem own_fitG (h : v.isRef = true) (ht : ty.isReference = true := by rfl) : fits ty v = true := by cases v <;> cases ty <;> simp_all [Value.isRef, fits, FieldType.isReference]
end Own2
theorem own_mod7 (k : Int32) : (k &&& (2147483647 : Int32)) % (7 : Int32) = 0 ∨ (k &&& (2147483647 : Int32)) % (7 : Int32) = 1 ∨ (k &&& (2147483647 : Int32)) % (7 : Int32) = 2 ∨ (k &&& (2147483647 : Int32)) % (7 : Int32) = 3 ∨ (k &&& (2147483647 : Int32)) % (7 : Int32) = 4 ∨ (k &&& (2147483647 : Int32)) % (7 : Int32) = 5 ∨ (k &&& (2147483647 : Int32)) % (7 : Int32) = 6 := by
  have h1 := c_and k 2147483647 (by decide)
  have h2 := (c_irem (k &&& 2147483647) 7 7 (by decide)).1 h1.1
  simp only [← Int32.toInt_inj]
  rw [h2]
  have e0 : (0 : Int32).toInt = 0 := by decide
  have e1 : (1 : Int32).toInt = 1 := by decide
  have e2 : (2 : Int32).toInt = 2 := by decide
  have e3 : (3 : Int32).toInt = 3 := by decide
  have e4 : (4 : Int32).toInt = 4 := by decide
  have e5 : (5 : Int32).toInt = 5 := by decide
  have e6 : (6 : Int32).toInt = 6 := by decide
  rw [e0, e1, e2, e3, e4, e5, e6]
  omega
theorem own_rne {a b : Addr} (h : a ≠ b) : ¬ (Value.ref a = Value.ref b) := fun q => h (by cases q; rfl)
def own_S (Z : State) (w0 : Addr) (w1 : Addr) (w2 : Addr) (w3 : Addr) (w4 : Addr) (w5 : Addr) (w6 : Addr) : Prop := Sta Z Z.heap "com/example/spulenwerk/spulenwerk/registry/Event$Kind" "CREATED" "Lcom/example/spulenwerk/spulenwerk/registry/Event$Kind;" (.ref w0) ∧ Exa Z Z.heap w0 "com/example/spulenwerk/spulenwerk/registry/Event$Kind" ∧ Sta Z Z.heap "com/example/spulenwerk/spulenwerk/registry/Event$Kind" "MATCHED" "Lcom/example/spulenwerk/spulenwerk/registry/Event$Kind;" (.ref w1) ∧ Exa Z Z.heap w1 "com/example/spulenwerk/spulenwerk/registry/Event$Kind" ∧ Sta Z Z.heap "com/example/spulenwerk/spulenwerk/registry/Event$Kind" "UNCHANGED" "Lcom/example/spulenwerk/spulenwerk/registry/Event$Kind;" (.ref w2) ∧ Exa Z Z.heap w2 "com/example/spulenwerk/spulenwerk/registry/Event$Kind" ∧ Sta Z Z.heap "com/example/spulenwerk/spulenwerk/registry/Event$Kind" "UPDATED" "Lcom/example/spulenwerk/spulenwerk/registry/Event$Kind;" (.ref w3) ∧ Exa Z Z.heap w3 "com/example/spulenwerk/spulenwerk/registry/Event$Kind" ∧ Sta Z Z.heap "com/example/spulenwerk/spulenwerk/registry/Event$Kind" "REFUSED" "Lcom/example/spulenwerk/spulenwerk/registry/Event$Kind;" (.ref w4) ∧ Exa Z Z.heap w4 "com/example/spulenwerk/spulenwerk/registry/Event$Kind" ∧ Sta Z Z.heap "com/example/spulenwerk/spulenwerk/registry/Event$Kind" "MERGED" "Lcom/example/spulenwerk/spulenwerk/registry/Event$Kind;" (.ref w5) ∧ Exa Z Z.heap w5 "com/example/spulenwerk/spulenwerk/registry/Event$Kind" ∧ Sta Z Z.heap "com/example/spulenwerk/spulenwerk/registry/Event$Kind" "SPLIT" "Lcom/example/spulenwerk/spulenwerk/registry/Event$Kind;" (.ref w6) ∧ Exa Z Z.heap w6 "com/example/spulenwerk/spulenwerk/registry/Event$Kind" ∧ Fld Z Z.heap w0 "java/lang/Enum" "ordinal" "I" (.int (0 : Int32)) ∧ Fld Z Z.heap w5 "java/lang/Enum" "ordinal" "I" (.int (5 : Int32)) ∧ Fld Z Z.heap w6 "java/lang/Enum" "ordinal" "I" (.int (6 : Int32)) ∧ Fld Z Z.heap w0 "com/example/spulenwerk/spulenwerk/registry/Event$Kind" "successors" "I" (.int (0 : Int32)) ∧ Fld Z Z.heap w3 "java/lang/Enum" "ordinal" "I" (.int (3 : Int32)) ∧ Fld Z Z.heap w3 "com/example/spulenwerk/spulenwerk/registry/Event$Kind" "successors" "I" (.int (0 : Int32)) ∧ Fld Z Z.heap w5 "com/example/spulenwerk/spulenwerk/registry/Event$Kind" "successors" "I" (.int (1 : Int32)) ∧ Fld Z Z.heap w6 "com/example/spulenwerk/spulenwerk/registry/Event$Kind" "successors" "I" (.int (2 : Int32)) ∧ Fld Z Z.heap w4 "java/lang/Enum" "ordinal" "I" (.int (4 : Int32)) ∧ Fld Z Z.heap w4 "com/example/spulenwerk/spulenwerk/registry/Event$Kind" "successors" "I" (.int (0 : Int32)) ∧ Fld Z Z.heap w2 "java/lang/Enum" "ordinal" "I" (.int (2 : Int32)) ∧ Fld Z Z.heap w2 "com/example/spulenwerk/spulenwerk/registry/Event$Kind" "successors" "I" (.int (0 : Int32)) ∧ Fld Z Z.heap w1 "java/lang/Enum" "ordinal" "I" (.int (1 : Int32)) ∧ Fld Z Z.heap w1 "com/example/spulenwerk/spulenwerk/registry/Event$Kind" "successors" "I" (.int (0 : Int32))
theorem own_d_prog_25_6_0 : decode prog_25_method_6_code 0 = .ok (.aload_n 0, 1) := by decide +kernel
theorem own_d_prog_25_6_1 : decode prog_25_method_6_code 1 = .ok (.getfield 48, 3) := by decide +kernel
theorem own_d_prog_25_6_4 : decode prog_25_method_6_code 4 = .ok (.ifCond .le 7, 3) := by decide +kernel
theorem own_d_prog_25_6_7 : decode prog_25_method_6_code 7 = .ok (.iconst 1, 1) := by decide +kernel
theorem own_d_prog_25_6_8 : decode prog_25_method_6_code 8 = .ok (.goto 4, 3) := by decide +kernel
theorem own_d_prog_25_6_12 : decode prog_25_method_6_code 12 = .ok (.ireturn, 1) := by decide +kernel
theorem own_d_prog_25_6_11 : decode prog_25_method_6_code 11 = .ok (.iconst 0, 1) := by decide +kernel
theorem own_pn_7 : plainName "com/example/spulenwerk/spulenwerk/registry/Event$Kind" = true := by first | (simp [plainName, overriddenIn]; done) | decide +kernel
theorem own_ef_rm1 (m : MethodId) (a1 : Addr)  : entryFrame m #[(.ref a1)] 1 = mkF m 0 #[.val (.ref a1)] [] := by first | (simp [entryFrame, mkF, argsToLocals, Value.category, maxLocals]; done) | rfl
def Qrm1 (Z : State) (w0 : Addr) (w1 : Addr) (w2 : Addr) (w3 : Addr) (w4 : Addr) (w5 : Addr) (w6 : Addr) (a1 : Addr) (w : Int32) (h0 : Heap) (n0 : Nat) (v : Option Value) (h : Heap) (L : List Loc) : Prop := v = some (.int (if 0 < w then 1 else 0)) ∧ Fr n0 L ∧ h = h0
set_option maxRecDepth 65536 in
set_option maxHeartbeats 40000000 in
theorem rm1 (l : Launch) (Z : State) (a0 : Array Value) (hw : ∀ d ∈ tables_1, d.before a0 Z = true) (ws : List Jvm.Cond) (w0 : Addr) (w1 : Addr) (w2 : Addr) (w3 : Addr) (w4 : Addr) (w5 : Addr) (w6 : Addr) (hS : own_S Z w0 w1 w2 w3 w4 w5 w6) (a1 : Addr) (w : Int32) (h0 : Heap) (n0 : Nat) (O0 : Old Z n0 h0) (F1 : Fld Z h0 a1 "com/example/spulenwerk/spulenwerk/registry/Event$Kind" "successors" "I" (.int w)) :
    own_Met l (⟨"com/example/spulenwerk/spulenwerk/registry/Event$Kind", "replacesWork", "()Z"⟩ : MethodName) prog_25_method_6_code 1 (some .boolean) ws ({ frames := 0, cells := 0, slots := 0, locals := 0 } : Room) Z h0 #[(.ref a1)] (Qrm1 Z w0 w1 w2 w3 w4 w5 w6 a1 w h0 n0) := by
  refine own_body (plainFor_of_name own_pn_7) ?_
  intro p e s m below meth c s₁ hx hby hml hown hnm hret hlk hZ e0 X0
  have N0 := Fr.nil n0
  refine own_st (fun u_ k_ => castTop (own_ef_rm1 m a1) k_) ?_
  show own_Go p e below _ (s₁.setTop (mkF m 0 #[.val (.ref a1)] []))
  refine own_st (fun u_ k_ => XS.aloadN X0.here hx rfl (hb hby own_d_prog_25_6_0) rfl rfl k_) ?_
  show own_Go p e below _ (s₁.setTop (mkF m 1 #[.val (.ref a1)] [(.ref a1)]))
  obtain ⟨T1, X1, e1, st1⟩ := getF X0 hx hZ hown (host := "") (Or.inl (hw _ (List.mem_of_getElem? (i := 24) rfl))) Via.refl e0 F1 (g := (mkF m 1 #[.val (.ref a1)] [(.ref a1)])) rfl rfl (hb hby own_d_prog_25_6_1)
  refine own_st (fun u_ k_ => st1 u_ k_) ?_
  show own_Go p e below _ (T1.setTop (mkF m 4 #[.val (.ref a1)] [(.int w)]))
  by_cases hc2 : (0 : Int32) < w
  · refine own_st (fun u_ k_ => XS.ifNo X1.here hx rfl (hb hby own_d_prog_25_6_4) rfl (XT.i0_le_f hc2) k_) ?_
    show own_Go p e below _ (T1.setTop (mkF m 7 #[.val (.ref a1)] []))
    refine own_st (fun u_ k_ => XS.iconst X1.here hx rfl (hb hby own_d_prog_25_6_7) k_) ?_
    show own_Go p e below _ (T1.setTop (mkF m 8 #[.val (.ref a1)] [(.int (1 : Int32))]))
    refine own_st (fun u_ k_ => XS.goto X1.here hx rfl (pc0 := 8) (pc' := 12) rfl (hb hby own_d_prog_25_6_8) (by decide) (by decide) k_) ?_
    show own_Go p e below _ (T1.setTop (mkF m 12 #[.val (.ref a1)] [(.int (1 : Int32))]))
    exact own_retX X1 hx hlk hret rfl (Or.inl ⟨rfl, by simp, _, rfl⟩) (hb hby own_d_prog_25_6_12) (by decide) (by decide) (show Qrm1 Z w0 w1 w2 w3 w4 w5 w6 a1 w h0 n0 (some (.int (1 : Int32))) T1.heap _ from (by rw [e1]; exact ⟨(by simp [*]), N0, rfl⟩))
  · refine own_st (fun u_ k_ => XS.ifYes X1.here hx rfl (pc0 := 4) (pc' := 11) rfl (hb hby own_d_prog_25_6_4) rfl (XT.i0_le_t hc2) (by decide) (by decide) k_) ?_
    show own_Go p e below _ (T1.setTop (mkF m 11 #[.val (.ref a1)] []))
    refine own_st (fun u_ k_ => XS.iconst X1.here hx rfl (hb hby own_d_prog_25_6_11) k_) ?_
    show own_Go p e below _ (T1.setTop (mkF m 12 #[.val (.ref a1)] [(.int (0 : Int32))]))
    exact own_retX X1 hx hlk hret rfl (Or.inl ⟨rfl, by simp, _, rfl⟩) (hb hby own_d_prog_25_6_12) (by decide) (by decide) (show Qrm1 Z w0 w1 w2 w3 w4 w5 w6 a1 w h0 n0 (some (.int (0 : Int32))) T1.heap _ from (by rw [e1]; exact ⟨(by simp [*]), N0, rfl⟩))
theorem own_pd_8 : parseMethodDescriptor "()Z" = some ⟨[], some .boolean⟩ := by decide +kernel
-- the law itself
theorem own_pn_9 : plainName "com/example/spulenwerk/spulenwerk/registry/KindReplacesWorkPinLaw" = true := by first | (simp [plainName, overriddenIn]; done) | decide +kernel
theorem own_ef_rm0 (m : MethodId) (k : Int32)  : entryFrame m #[(.int k)] maxLocals = mkF m 0 #[.val (.int k), .unset, .unset, .unset] [] := by first | (simp [entryFrame, mkF, argsToLocals, Value.category, maxLocals]; done) | rfl
def Qrm0 (Z : State) (w0 : Addr) (w1 : Addr) (w2 : Addr) (w3 : Addr) (w4 : Addr) (w5 : Addr) (w6 : Addr) (k : Int32) (h0 : Heap) (n0 : Nat) (v : Option Value) (h : Heap) (L : List Loc) : Prop := v = some (.int (1 : Int32)) ∧ Fr n0 L ∧ Keep h0 h []
set_option maxRecDepth 65536 in
set_option maxHeartbeats 40000000 in
theorem rm0 (l : Launch) (Z : State) (a0 : Array Value) (hw : ∀ d ∈ tables_1, d.before a0 Z = true) (ws : List Jvm.Cond) (w0 : Addr) (w1 : Addr) (w2 : Addr) (w3 : Addr) (w4 : Addr) (w5 : Addr) (w6 : Addr) (hS : own_S Z w0 w1 w2 w3 w4 w5 w6) (k : Int32) (h0 : Heap) (n0 : Nat) (O0 : Old Z n0 h0)  :
    own_Met l x code maxLocals ret ws room_1 Z h0 #[(.int k)] (Qrm0 Z w0 w1 w2 w3 w4 w5 w6 k h0 n0) := by
  refine own_body (plainFor_of_name own_pn_9) ?_
  intro p e s m below meth c s₁ hx hby hml hown hnm hret hlk hZ e0 X0
  have N0 := Fr.nil n0
  refine own_st (fun u_ k_ => castTop (own_ef_rm0 m k) k_) ?_
  show own_Go p e below _ (s₁.setTop (mkF m 0 #[.val (.int k), .unset, .unset, .unset] []))
  refine own_st (fun u_ k_ => XS.bipush X0.here hx rfl (hb hby at_0) k_) ?_
  show own_Go p e below _ (s₁.setTop (mkF m 2 #[.val (.int k), .unset, .unset, .unset] [(.int (7 : Int32))]))
  obtain ⟨T3, h3, k3, X3, e3, E3, A3, Y3, O3, st3⟩ := newRE X0 hx hZ hown (hw _ (List.mem_of_getElem? (i := 0) rfl)) (hw _ (List.mem_of_getElem? (i := 1) rfl)) e0 (g := (mkF m 2 #[.val (.int k), .unset, .unset, .unset] [(.int (7 : Int32))])) rfl (hb hby at_2) rfl (by decide) (cap := 7) (by decide) (by decide) (by decide) (by decide) (ad := "[Lcom/example/spulenwerk/spulenwerk/registry/Event$Kind;") (by decide)
  obtain ⟨b3, g3⟩ : ∃ z, z = h0.size := ⟨_, rfl⟩
  rw [← g3] at A3 Y3 st3
  have V3 : Arv Z h3 b3 k3 (.object "com/example/spulenwerk/spulenwerk/registry/Event$Kind") (7 : Int32) [.null, .null, .null, .null, .null, .null, .null] .null := (Arv.new A3 (by decide)).pad (pad_rep [] .null 7)
  refine own_st (fun u_ k_ => st3 u_ k_) ?_
  show own_Go p e below _ (T3.setTop (mkF m 5 #[.val (.int k), .unset, .unset, .unset] [(.ref b3)]))
  refine own_st (fun u_ k_ => XS.dup X3.here hx rfl (hb hby at_5) rfl rfl k_) ?_
  show own_Go p e below _ (T3.setTop (mkF m 6 #[.val (.int k), .unset, .unset, .unset] [(.ref b3), (.ref b3)]))
  refine own_st (fun u_ k_ => XS.iconst X3.here hx rfl (hb hby at_6) k_) ?_
  show own_Go p e below _ (T3.setTop (mkF m 7 #[.val (.int k), .unset, .unset, .unset] [(.int (0 : Int32)), (.ref b3), (.ref b3)]))
  have O4 : Old Z n0 h3 := O0.ext E3
  have F5 : Sta Z h3 "com/example/spulenwerk/spulenwerk/registry/Event$Kind" "CREATED" "Lcom/example/spulenwerk/spulenwerk/registry/Event$Kind;" (.ref w0) := Sta.ext O4.2 hS.1
  obtain ⟨T6, X6, e6, st6⟩ := getS2 X3 hx hZ hown (host := "") (Or.inl (hw _ (List.mem_of_getElem? (i := 2) rfl))) Via.refl e3 F5 (g := (mkF m 7 #[.val (.int k), .unset, .unset, .unset] [(.int (0 : Int32)), (.ref b3), (.ref b3)])) rfl (hb hby at_7)
  refine own_st (fun u_ k_ => st6 u_ k_) ?_
  show own_Go p e below _ (T6.setTop (mkF m 10 #[.val (.int k), .unset, .unset, .unset] [(.ref w0), (.int (0 : Int32)), (.ref b3), (.ref b3)]))
  obtain ⟨cl7, Ar7, q7, S7, N7, H7, G7⟩ := id V3
  have hi7 : ¬ ((0 : Int32) < 0 ∨ cl7.slots.size ≤ ((0 : Int32)).toNatClampNeg) := inb_of S7 ⟨by decide, by decide⟩
  have F8 : Exa Z h3 w0 "com/example/spulenwerk/spulenwerk/registry/Event$Kind" := Exa.ext O4.2 hS.2.1
  obtain ⟨T9, h9, X9, e9, W9, st9⟩ := stR X6 hx hZ e6 Ar7 (j := (0 : Int32)) hi7 rfl (Sto.ofV Ar7 q7 O3 (Ins.self F8)) (g := (mkF m 10 #[.val (.int k), .unset, .unset, .unset] [(.ref w0), (.int (0 : Int32)), (.ref b3), (.ref b3)])) rfl rfl (hb hby at_10)
  have g10 : n0 ≤ b3 := Nat.le_trans (own_nl O0) (Nat.le_of_eq g3.symm)
  have N9 := Fr.snoc X9 N0 g10
  have V9 : Arv Z h9 b3 k3 (.object "com/example/spulenwerk/spulenwerk/registry/Event$Kind") (7 : Int32) [(.ref w0), .null, .null, .null, .null, .null, .null] .null := Arv.set Ar7 q7 S7 N7 H7 G7 rfl W9 0 rfl (Nat.le_of_ble_eq_true rfl)
  refine own_st (fun u_ k_ => st9 u_ k_) ?_
  show own_Go p e below _ (T9.setTop (mkF m 11 #[.val (.int k), .unset, .unset, .unset] [(.ref b3)]))
  refine own_st (fun u_ k_ => XS.dup X9.here hx rfl (hb hby at_11) rfl rfl k_) ?_
  show own_Go p e below _ (T9.setTop (mkF m 12 #[.val (.int k), .unset, .unset, .unset] [(.ref b3), (.ref b3)]))
  refine own_st (fun u_ k_ => XS.iconst X9.here hx rfl (hb hby at_12) k_) ?_
  show own_Go p e below _ (T9.setTop (mkF m 13 #[.val (.int k), .unset, .unset, .unset] [(.int (1 : Int32)), (.ref b3), (.ref b3)]))
  have O11 : Old Z n0 h9 := O4.wr W9 g10
  have F12 : Sta Z h9 "com/example/spulenwerk/spulenwerk/registry/Event$Kind" "MATCHED" "Lcom/example/spulenwerk/spulenwerk/registry/Event$Kind;" (.ref w1) := Sta.ext O11.2 hS.2.2.1
  obtain ⟨T13, X13, e13, st13⟩ := getS2 X9 hx hZ hown (host := "") (Or.inl (hw _ (List.mem_of_getElem? (i := 6) rfl))) Via.refl e9 F12 (g := (mkF m 13 #[.val (.int k), .unset, .unset, .unset] [(.int (1 : Int32)), (.ref b3), (.ref b3)])) rfl (hb hby at_13)
  refine own_st (fun u_ k_ => st13 u_ k_) ?_
  show own_Go p e below _ (T13.setTop (mkF m 16 #[.val (.int k), .unset, .unset, .unset] [(.ref w1), (.int (1 : Int32)), (.ref b3), (.ref b3)]))
  obtain ⟨cl14, Ar14, q14, S14, N14, H14, G14⟩ := id V9
  have hi14 : ¬ ((1 : Int32) < 0 ∨ cl14.slots.size ≤ ((1 : Int32)).toNatClampNeg) := inb_of S14 ⟨by decide, by decide⟩
  have F15 : Exa Z h9 w1 "com/example/spulenwerk/spulenwerk/registry/Event$Kind" := Exa.ext O11.2 hS.2.2.2.1
  obtain ⟨T16, h16, X16, e16, W16, st16⟩ := stR X13 hx hZ e13 Ar14 (j := (1 : Int32)) hi14 rfl (Sto.ofV Ar14 q14 O3 (Ins.self F15)) (g := (mkF m 16 #[.val (.int k), .unset, .unset, .unset] [(.ref w1), (.int (1 : Int32)), (.ref b3), (.ref b3)])) rfl rfl (hb hby at_16)
  have N16 := Fr.snoc X16 N9 g10
  have V16 : Arv Z h16 b3 k3 (.object "com/example/spulenwerk/spulenwerk/registry/Event$Kind") (7 : Int32) [(.ref w0), (.ref w1), .null, .null, .null, .null, .null] .null := Arv.set Ar14 q14 S14 N14 H14 G14 rfl W16 1 rfl (Nat.le_of_ble_eq_true rfl)
  refine own_st (fun u_ k_ => st16 u_ k_) ?_
  show own_Go p e below _ (T16.setTop (mkF m 17 #[.val (.int k), .unset, .unset, .unset] [(.ref b3)]))
  refine own_st (fun u_ k_ => XS.dup X16.here hx rfl (hb hby at_17) rfl rfl k_) ?_
  show own_Go p e below _ (T16.setTop (mkF m 18 #[.val (.int k), .unset, .unset, .unset] [(.ref b3), (.ref b3)]))
  refine own_st (fun u_ k_ => XS.iconst X16.here hx rfl (hb hby at_18) k_) ?_
  show own_Go p e below _ (T16.setTop (mkF m 19 #[.val (.int k), .unset, .unset, .unset] [(.int (2 : Int32)), (.ref b3), (.ref b3)]))
  have O17 : Old Z n0 h16 := O11.wr W16 g10
  have F18 : Sta Z h16 "com/example/spulenwerk/spulenwerk/registry/Event$Kind" "UNCHANGED" "Lcom/example/spulenwerk/spulenwerk/registry/Event$Kind;" (.ref w2) := Sta.ext O17.2 hS.2.2.2.2.1
  obtain ⟨T19, X19, e19, st19⟩ := getS2 X16 hx hZ hown (host := "") (Or.inl (hw _ (List.mem_of_getElem? (i := 8) rfl))) Via.refl e16 F18 (g := (mkF m 19 #[.val (.int k), .unset, .unset, .unset] [(.int (2 : Int32)), (.ref b3), (.ref b3)])) rfl (hb hby at_19)
  refine own_st (fun u_ k_ => st19 u_ k_) ?_
  show own_Go p e below _ (T19.setTop (mkF m 22 #[.val (.int k), .unset, .unset, .unset] [(.ref w2), (.int (2 : Int32)), (.ref b3), (.ref b3)]))
  obtain ⟨cl20, Ar20, q20, S20, N20, H20, G20⟩ := id V16
  have hi20 : ¬ ((2 : Int32) < 0 ∨ cl20.slots.size ≤ ((2 : Int32)).toNatClampNeg) := inb_of S20 ⟨by decide, by decide⟩
  have F21 : Exa Z h16 w2 "com/example/spulenwerk/spulenwerk/registry/Event$Kind" := Exa.ext O17.2 hS.2.2.2.2.2.1
  obtain ⟨T22, h22, X22, e22, W22, st22⟩ := stR X19 hx hZ e19 Ar20 (j := (2 : Int32)) hi20 rfl (Sto.ofV Ar20 q20 O3 (Ins.self F21)) (g := (mkF m 22 #[.val (.int k), .unset, .unset, .unset] [(.ref w2), (.int (2 : Int32)), (.ref b3), (.ref b3)])) rfl rfl (hb hby at_22)
  have N22 := Fr.snoc X22 N16 g10
  have V22 : Arv Z h22 b3 k3 (.object "com/example/spulenwerk/spulenwerk/registry/Event$Kind") (7 : Int32) [(.ref w0), (.ref w1), (.ref w2), .null, .null, .null, .null] .null := Arv.set Ar20 q20 S20 N20 H20 G20 rfl W22 2 rfl (Nat.le_of_ble_eq_true rfl)
  refine own_st (fun u_ k_ => st22 u_ k_) ?_
  show own_Go p e below _ (T22.setTop (mkF m 23 #[.val (.int k), .unset, .unset, .unset] [(.ref b3)]))
  refine own_st (fun u_ k_ => XS.dup X22.here hx rfl (hb hby at_23) rfl rfl k_) ?_
  show own_Go p e below _ (T22.setTop (mkF m 24 #[.val (.int k), .unset, .unset, .unset] [(.ref b3), (.ref b3)]))
  refine own_st (fun u_ k_ => XS.iconst X22.here hx rfl (hb hby at_24) k_) ?_
  show own_Go p e below _ (T22.setTop (mkF m 25 #[.val (.int k), .unset, .unset, .unset] [(.int (3 : Int32)), (.ref b3), (.ref b3)]))
  have O23 : Old Z n0 h22 := O17.wr W22 g10
  have F24 : Sta Z h22 "com/example/spulenwerk/spulenwerk/registry/Event$Kind" "UPDATED" "Lcom/example/spulenwerk/spulenwerk/registry/Event$Kind;" (.ref w3) := Sta.ext O23.2 hS.2.2.2.2.2.2.1
  obtain ⟨T25, X25, e25, st25⟩ := getS2 X22 hx hZ hown (host := "") (Or.inl (hw _ (List.mem_of_getElem? (i := 10) rfl))) Via.refl e22 F24 (g := (mkF m 25 #[.val (.int k), .unset, .unset, .unset] [(.int (3 : Int32)), (.ref b3), (.ref b3)])) rfl (hb hby at_25)
  refine own_st (fun u_ k_ => st25 u_ k_) ?_
  show own_Go p e below _ (T25.setTop (mkF m 28 #[.val (.int k), .unset, .unset, .unset] [(.ref w3), (.int (3 : Int32)), (.ref b3), (.ref b3)]))
  obtain ⟨cl26, Ar26, q26, S26, N26, H26, G26⟩ := id V22
  have hi26 : ¬ ((3 : Int32) < 0 ∨ cl26.slots.size ≤ ((3 : Int32)).toNatClampNeg) := inb_of S26 ⟨by decide, by decide⟩
  have F27 : Exa Z h22 w3 "com/example/spulenwerk/spulenwerk/registry/Event$Kind" := Exa.ext O23.2 hS.2.2.2.2.2.2.2.1
  obtain ⟨T28, h28, X28, e28, W28, st28⟩ := stR X25 hx hZ e25 Ar26 (j := (3 : Int32)) hi26 rfl (Sto.ofV Ar26 q26 O3 (Ins.self F27)) (g := (mkF m 28 #[.val (.int k), .unset, .unset, .unset] [(.ref w3), (.int (3 : Int32)), (.ref b3), (.ref b3)])) rfl rfl (hb hby at_28)
  have N28 := Fr.snoc X28 N22 g10
  have V28 : Arv Z h28 b3 k3 (.object "com/example/spulenwerk/spulenwerk/registry/Event$Kind") (7 : Int32) [(.ref w0), (.ref w1), (.ref w2), (.ref w3), .null, .null, .null] .null := Arv.set Ar26 q26 S26 N26 H26 G26 rfl W28 3 rfl (Nat.le_of_ble_eq_true rfl)
  refine own_st (fun u_ k_ => st28 u_ k_) ?_
  show own_Go p e below _ (T28.setTop (mkF m 29 #[.val (.int k), .unset, .unset, .unset] [(.ref b3)]))
  refine own_st (fun u_ k_ => XS.dup X28.here hx rfl (hb hby at_29) rfl rfl k_) ?_
  show own_Go p e below _ (T28.setTop (mkF m 30 #[.val (.int k), .unset, .unset, .unset] [(.ref b3), (.ref b3)]))
  refine own_st (fun u_ k_ => XS.iconst X28.here hx rfl (hb hby at_30) k_) ?_
  show own_Go p e below _ (T28.setTop (mkF m 31 #[.val (.int k), .unset, .unset, .unset] [(.int (4 : Int32)), (.ref b3), (.ref b3)]))
  have O29 : Old Z n0 h28 := O23.wr W28 g10
  have F30 : Sta Z h28 "com/example/spulenwerk/spulenwerk/registry/Event$Kind" "REFUSED" "Lcom/example/spulenwerk/spulenwerk/registry/Event$Kind;" (.ref w4) := Sta.ext O29.2 hS.2.2.2.2.2.2.2.2.1
  obtain ⟨T31, X31, e31, st31⟩ := getS2 X28 hx hZ hown (host := "") (Or.inl (hw _ (List.mem_of_getElem? (i := 12) rfl))) Via.refl e28 F30 (g := (mkF m 31 #[.val (.int k), .unset, .unset, .unset] [(.int (4 : Int32)), (.ref b3), (.ref b3)])) rfl (hb hby at_31)
  refine own_st (fun u_ k_ => st31 u_ k_) ?_
  show own_Go p e below _ (T31.setTop (mkF m 34 #[.val (.int k), .unset, .unset, .unset] [(.ref w4), (.int (4 : Int32)), (.ref b3), (.ref b3)]))
  obtain ⟨cl32, Ar32, q32, S32, N32, H32, G32⟩ := id V28
  have hi32 : ¬ ((4 : Int32) < 0 ∨ cl32.slots.size ≤ ((4 : Int32)).toNatClampNeg) := inb_of S32 ⟨by decide, by decide⟩
  have F33 : Exa Z h28 w4 "com/example/spulenwerk/spulenwerk/registry/Event$Kind" := Exa.ext O29.2 hS.2.2.2.2.2.2.2.2.2.1
  obtain ⟨T34, h34, X34, e34, W34, st34⟩ := stR X31 hx hZ e31 Ar32 (j := (4 : Int32)) hi32 rfl (Sto.ofV Ar32 q32 O3 (Ins.self F33)) (g := (mkF m 34 #[.val (.int k), .unset, .unset, .unset] [(.ref w4), (.int (4 : Int32)), (.ref b3), (.ref b3)])) rfl rfl (hb hby at_34)
  have N34 := Fr.snoc X34 N28 g10
  have V34 : Arv Z h34 b3 k3 (.object "com/example/spulenwerk/spulenwerk/registry/Event$Kind") (7 : Int32) [(.ref w0), (.ref w1), (.ref w2), (.ref w3), (.ref w4), .null, .null] .null := Arv.set Ar32 q32 S32 N32 H32 G32 rfl W34 4 rfl (Nat.le_of_ble_eq_true rfl)
  refine own_st (fun u_ k_ => st34 u_ k_) ?_
  show own_Go p e below _ (T34.setTop (mkF m 35 #[.val (.int k), .unset, .unset, .unset] [(.ref b3)]))
  refine own_st (fun u_ k_ => XS.dup X34.here hx rfl (hb hby at_35) rfl rfl k_) ?_
  show own_Go p e below _ (T34.setTop (mkF m 36 #[.val (.int k), .unset, .unset, .unset] [(.ref b3), (.ref b3)]))
  refine own_st (fun u_ k_ => XS.iconst X34.here hx rfl (hb hby at_36) k_) ?_
  show own_Go p e below _ (T34.setTop (mkF m 37 #[.val (.int k), .unset, .unset, .unset] [(.int (5 : Int32)), (.ref b3), (.ref b3)]))
  have O35 : Old Z n0 h34 := O29.wr W34 g10
  have F36 : Sta Z h34 "com/example/spulenwerk/spulenwerk/registry/Event$Kind" "MERGED" "Lcom/example/spulenwerk/spulenwerk/registry/Event$Kind;" (.ref w5) := Sta.ext O35.2 hS.2.2.2.2.2.2.2.2.2.2.1
  obtain ⟨T37, X37, e37, st37⟩ := getS2 X34 hx hZ hown (host := "") (Or.inl (hw _ (List.mem_of_getElem? (i := 14) rfl))) Via.refl e34 F36 (g := (mkF m 37 #[.val (.int k), .unset, .unset, .unset] [(.int (5 : Int32)), (.ref b3), (.ref b3)])) rfl (hb hby at_37)
  refine own_st (fun u_ k_ => st37 u_ k_) ?_
  show own_Go p e below _ (T37.setTop (mkF m 40 #[.val (.int k), .unset, .unset, .unset] [(.ref w5), (.int (5 : Int32)), (.ref b3), (.ref b3)]))
  obtain ⟨cl38, Ar38, q38, S38, N38, H38, G38⟩ := id V34
  have hi38 : ¬ ((5 : Int32) < 0 ∨ cl38.slots.size ≤ ((5 : Int32)).toNatClampNeg) := inb_of S38 ⟨by decide, by decide⟩
  have F39 : Exa Z h34 w5 "com/example/spulenwerk/spulenwerk/registry/Event$Kind" := Exa.ext O35.2 hS.2.2.2.2.2.2.2.2.2.2.2.1
  obtain ⟨T40, h40, X40, e40, W40, st40⟩ := stR X37 hx hZ e37 Ar38 (j := (5 : Int32)) hi38 rfl (Sto.ofV Ar38 q38 O3 (Ins.self F39)) (g := (mkF m 40 #[.val (.int k), .unset, .unset, .unset] [(.ref w5), (.int (5 : Int32)), (.ref b3), (.ref b3)])) rfl rfl (hb hby at_40)
  have N40 := Fr.snoc X40 N34 g10
  have V40 : Arv Z h40 b3 k3 (.object "com/example/spulenwerk/spulenwerk/registry/Event$Kind") (7 : Int32) [(.ref w0), (.ref w1), (.ref w2), (.ref w3), (.ref w4), (.ref w5), .null] .null := Arv.set Ar38 q38 S38 N38 H38 G38 rfl W40 5 rfl (Nat.le_of_ble_eq_true rfl)
  refine own_st (fun u_ k_ => st40 u_ k_) ?_
  show own_Go p e below _ (T40.setTop (mkF m 41 #[.val (.int k), .unset, .unset, .unset] [(.ref b3)]))
  refine own_st (fun u_ k_ => XS.dup X40.here hx rfl (hb hby at_41) rfl rfl k_) ?_
  show own_Go p e below _ (T40.setTop (mkF m 42 #[.val (.int k), .unset, .unset, .unset] [(.ref b3), (.ref b3)]))
  refine own_st (fun u_ k_ => XS.bipush X40.here hx rfl (hb hby at_42) k_) ?_
  show own_Go p e below _ (T40.setTop (mkF m 44 #[.val (.int k), .unset, .unset, .unset] [(.int (6 : Int32)), (.ref b3), (.ref b3)]))
  have O41 : Old Z n0 h40 := O35.wr W40 g10
  have F42 : Sta Z h40 "com/example/spulenwerk/spulenwerk/registry/Event$Kind" "SPLIT" "Lcom/example/spulenwerk/spulenwerk/registry/Event$Kind;" (.ref w6) := Sta.ext O41.2 hS.2.2.2.2.2.2.2.2.2.2.2.2.1
  obtain ⟨T43, X43, e43, st43⟩ := getS2 X40 hx hZ hown (host := "") (Or.inl (hw _ (List.mem_of_getElem? (i := 16) rfl))) Via.refl e40 F42 (g := (mkF m 44 #[.val (.int k), .unset, .unset, .unset] [(.int (6 : Int32)), (.ref b3), (.ref b3)])) rfl (hb hby at_44)
  refine own_st (fun u_ k_ => st43 u_ k_) ?_
  show own_Go p e below _ (T43.setTop (mkF m 47 #[.val (.int k), .unset, .unset, .unset] [(.ref w6), (.int (6 : Int32)), (.ref b3), (.ref b3)]))
  obtain ⟨cl44, Ar44, q44, S44, N44, H44, G44⟩ := id V40
  have hi44 : ¬ ((6 : Int32) < 0 ∨ cl44.slots.size ≤ ((6 : Int32)).toNatClampNeg) := inb_of S44 ⟨by decide, by decide⟩
  have F45 : Exa Z h40 w6 "com/example/spulenwerk/spulenwerk/registry/Event$Kind" := Exa.ext O41.2 hS.2.2.2.2.2.2.2.2.2.2.2.2.2.1
  obtain ⟨T46, h46, X46, e46, W46, st46⟩ := stR X43 hx hZ e43 Ar44 (j := (6 : Int32)) hi44 rfl (Sto.ofV Ar44 q44 O3 (Ins.self F45)) (g := (mkF m 47 #[.val (.int k), .unset, .unset, .unset] [(.ref w6), (.int (6 : Int32)), (.ref b3), (.ref b3)])) rfl rfl (hb hby at_47)
  have N46 := Fr.snoc X46 N40 g10
  have V46 : Arv Z h46 b3 k3 (.object "com/example/spulenwerk/spulenwerk/registry/Event$Kind") (7 : Int32) [(.ref w0), (.ref w1), (.ref w2), (.ref w3), (.ref w4), (.ref w5), (.ref w6)] .null := Arv.set Ar44 q44 S44 N44 H44 G44 rfl W46 6 rfl (Nat.le_of_ble_eq_true rfl)
  refine own_st (fun u_ k_ => st46 u_ k_) ?_
  show own_Go p e below _ (T46.setTop (mkF m 48 #[.val (.int k), .unset, .unset, .unset] [(.ref b3)]))
  refine own_st (fun u_ k_ => XS.astoreN X46.here hx rfl (hb hby at_48) rfl rfl (l' := #[.val (.int k), .val (.ref b3), .unset, .unset]) rfl k_) ?_
  show own_Go p e below _ (T46.setTop (mkF m 49 #[.val (.int k), .val (.ref b3), .unset, .unset] []))
  refine own_st (fun u_ k_ => XS.aloadN X46.here hx rfl (hb hby at_49) rfl rfl k_) ?_
  show own_Go p e below _ (T46.setTop (mkF m 50 #[.val (.int k), .val (.ref b3), .unset, .unset] [(.ref b3)]))
  refine own_st (fun u_ k_ => XS.iloadN X46.here hx rfl (hb hby at_50) rfl k_) ?_
  show own_Go p e below _ (T46.setTop (mkF m 51 #[.val (.int k), .val (.ref b3), .unset, .unset] [(.int k), (.ref b3)]))
  refine own_st (X46.ldcInt hx hown (mvT hZ (hw _ (List.mem_of_getElem? (i := 18) rfl))) (g := (mkF m 51 #[.val (.int k), .val (.ref b3), .unset, .unset] [(.int k), (.ref b3)])) rfl (hb hby at_51)) ?_
  show own_Go p e below _ (T46.setTop (mkF m 53 #[.val (.int k), .val (.ref b3), .unset, .unset] [(.int (2147483647 : Int32)), (.int k), (.ref b3)]))
  refine own_st (fun u_ k_ => XS.iand X46.here hx rfl (hb hby at_53) rfl k_) ?_
  show own_Go p e below _ (T46.setTop (mkF m 54 #[.val (.int k), .val (.ref b3), .unset, .unset] [(.int (k &&& (2147483647 : Int32))), (.ref b3)]))
  refine own_st (fun u_ k_ => XS.bipush X46.here hx rfl (hb hby at_54) k_) ?_
  show own_Go p e below _ (T46.setTop (mkF m 56 #[.val (.int k), .val (.ref b3), .unset, .unset] [(.int (7 : Int32)), (.int (k &&& (2147483647 : Int32))), (.ref b3)]))
  refine own_st (fun u_ k_ => iremM X46 hx rfl (hb hby at_56) rfl (by decide) k_) ?_
  show own_Go p e below _ (T46.setTop (mkF m 57 #[.val (.int k), .val (.ref b3), .unset, .unset] [(.int ((k &&& (2147483647 : Int32)) % (7 : Int32))), (.ref b3)]))
  rcases own_mod7 k with hj | hj | hj | hj | hj | hj | hj
  · rw [hj]
    show own_Go p e below _ (T46.setTop (mkF m 57 #[.val (.int k), .val (.ref b3), .unset, .unset] [(.int (0 : Int32)), (.ref b3)]))
    obtain ⟨cl47, Ar47, q47, S47, N47, H47, G47⟩ := id V46
    have hi47 : ¬ ((0 : Int32) < 0 ∨ cl47.slots.size ≤ ((0 : Int32)).toNatClampNeg) := inb_of S47 ⟨by decide, by decide⟩
    have ha47 : cl47.slots[((0 : Int32)).toNatClampNeg]? = some (.ref w0) := H47.at hi47 rfl
    refine own_st (X46.aaload hx (j := (0 : Int32)) (v := (.ref w0)) (by rw [e46]; exact Ar47.1) (State.isArrayOf_alike hZ.alike Ar47.2.1) rfl Ar47.2.2 hi47 ha47 (g := (mkF m 57 #[.val (.int k), .val (.ref b3), .unset, .unset] [(.int (0 : Int32)), (.ref b3)])) rfl rfl (hb hby at_57)) ?_
    show own_Go p e below _ (T46.setTop (mkF m 58 #[.val (.int k), .val (.ref b3), .unset, .unset] [(.ref w0)]))
    refine own_st (fun u_ k_ => XS.astoreN X46.here hx rfl (hb hby at_58) rfl rfl (l' := #[.val (.int k), .val (.ref b3), .val (.ref w0), .unset]) rfl k_) ?_
    show own_Go p e below _ (T46.setTop (mkF m 59 #[.val (.int k), .val (.ref b3), .val (.ref w0), .unset] []))
    refine own_st (fun u_ k_ => XS.aloadN X46.here hx rfl (hb hby at_59) rfl rfl k_) ?_
    show own_Go p e below _ (T46.setTop (mkF m 60 #[.val (.int k), .val (.ref b3), .val (.ref w0), .unset] [(.ref w0)]))
    have O48 : Old Z n0 h46 := O41.wr W46 g10
    have F49 : Sta Z h46 "com/example/spulenwerk/spulenwerk/registry/Event$Kind" "MERGED" "Lcom/example/spulenwerk/spulenwerk/registry/Event$Kind;" (.ref w5) := Sta.ext O48.2 hS.2.2.2.2.2.2.2.2.2.2.1
    obtain ⟨T50, X50, e50, st50⟩ := getS2 X46 hx hZ hown (host := "") (Or.inl (hw _ (List.mem_of_getElem? (i := 14) rfl))) Via.refl e46 F49 (g := (mkF m 60 #[.val (.int k), .val (.ref b3), .val (.ref w0), .unset] [(.ref w0)])) rfl (hb hby at_60)
    refine own_st (fun u_ k_ => st50 u_ k_) ?_
    show own_Go p e below _ (T50.setTop (mkF m 63 #[.val (.int k), .val (.ref b3), .val (.ref w0), .unset] [(.ref w5), (.ref w0)]))
    have F51 : Fld Z h46 w0 "java/lang/Enum" "ordinal" "I" (.int (0 : Int32)) := Fld.ext O48.2 hS.2.2.2.2.2.2.2.2.2.2.2.2.2.2.1
    have F52 : Fld Z h46 w5 "java/lang/Enum" "ordinal" "I" (.int (5 : Int32)) := Fld.ext O48.2 hS.2.2.2.2.2.2.2.2.2.2.2.2.2.2.2.1
    refine own_st (fun u_ k_ => XT.acmpNo X50.here hx rfl (hb hby at_63) rfl rfl rfl (XT.aa_eq_f (own_rne (Fld.ne F51 F52 (by decide)))) k_) ?_
    show own_Go p e below _ (T50.setTop (mkF m 66 #[.val (.int k), .val (.ref b3), .val (.ref w0), .unset] []))
    refine own_st (fun u_ k_ => XS.aloadN X50.here hx rfl (hb hby at_66) rfl rfl k_) ?_
    show own_Go p e below _ (T50.setTop (mkF m 67 #[.val (.int k), .val (.ref b3), .val (.ref w0), .unset] [(.ref w0)]))
    have F53 : Sta Z h46 "com/example/spulenwerk/spulenwerk/registry/Event$Kind" "SPLIT" "Lcom/example/spulenwerk/spulenwerk/registry/Event$Kind;" (.ref w6) := Sta.ext O48.2 hS.2.2.2.2.2.2.2.2.2.2.2.2.1
    obtain ⟨T54, X54, e54, st54⟩ := getS2 X50 hx hZ hown (host := "") (Or.inl (hw _ (List.mem_of_getElem? (i := 16) rfl))) Via.refl e50 F53 (g := (mkF m 67 #[.val (.int k), .val (.ref b3), .val (.ref w0), .unset] [(.ref w0)])) rfl (hb hby at_67)
    refine own_st (fun u_ k_ => st54 u_ k_) ?_
    show own_Go p e below _ (T54.setTop (mkF m 70 #[.val (.int k), .val (.ref b3), .val (.ref w0), .unset] [(.ref w6), (.ref w0)]))
    have F55 : Fld Z h46 w6 "java/lang/Enum" "ordinal" "I" (.int (6 : Int32)) := Fld.ext O48.2 hS.2.2.2.2.2.2.2.2.2.2.2.2.2.2.2.2.1
    refine own_st (fun u_ k_ => XT.acmpYes X54.here hx rfl (pc0 := 70) (pc' := 77) rfl (hb hby at_70) rfl rfl rfl (XT.aa_ne_t (own_rne (Fld.ne F51 F55 (by decide)))) (by decide) (by decide) k_) ?_
    show own_Go p e below _ (T54.setTop (mkF m 77 #[.val (.int k), .val (.ref b3), .val (.ref w0), .unset] []))
    refine own_st (fun u_ k_ => XS.iconst X54.here hx rfl (hb hby at_77) k_) ?_
    show own_Go p e below _ (T54.setTop (mkF m 78 #[.val (.int k), .val (.ref b3), .val (.ref w0), .unset] [(.int (0 : Int32))]))
    refine own_st (fun u_ k_ => XS.istoreN X54.here hx rfl (hb hby at_78) rfl (l' := #[.val (.int k), .val (.ref b3), .val (.ref w0), .val (.int (0 : Int32))]) rfl k_) ?_
    show own_Go p e below _ (T54.setTop (mkF m 79 #[.val (.int k), .val (.ref b3), .val (.ref w0), .val (.int (0 : Int32))] []))
    refine own_st (fun u_ k_ => XS.aloadN X54.here hx rfl (hb hby at_79) rfl rfl k_) ?_
    show own_Go p e below _ (T54.setTop (mkF m 80 #[.val (.int k), .val (.ref b3), .val (.ref w0), .val (.int (0 : Int32))] [(.ref w0)]))
    have F56 : Fld Z h46 w0 "com/example/spulenwerk/spulenwerk/registry/Event$Kind" "successors" "I" (.int (0 : Int32)) := Fld.ext O48.2 hS.2.2.2.2.2.2.2.2.2.2.2.2.2.2.2.2.2.1
    have F58 : Exa Z h46 w0 "com/example/spulenwerk/spulenwerk/registry/Event$Kind" := Exa.ext O48.2 hS.2.1
    obtain ⟨T57, v57, L57, X57, hQ57, st57⟩ := own_callV X54 hx hZ (y := (⟨"com/example/spulenwerk/spulenwerk/registry/Event$Kind", "replacesWork", "()Z"⟩ : MethodName)) (z := (⟨"com/example/spulenwerk/spulenwerk/registry/Event$Kind", "replacesWork", "()Z"⟩ : MethodName)) hown (hw _ (List.mem_of_getElem? (i := 19) rfl)) (hw _ (List.mem_of_getElem? (i := 20) rfl)) (notFace_of_selects (args := #[]) (mvT hZ (hw _ (List.mem_of_getElem? (i := 22) rfl)))) (hw _ (List.mem_of_getElem? (i := 22) rfl)) (hw _ (List.mem_of_getElem? (i := 21) rfl)) (hw _ (List.mem_of_getElem? (i := 3) rfl)) (hw _ (List.mem_of_getElem? (i := 23) rfl)) (by decide) (rm1 l Z a0 hw [] w0 w1 w2 w3 w4 w5 w6 hS w0 (0 : Int32) h46 n0 O48 F56) e54 F58 own_pd_8 (argsL := []) (rest := []) rfl rfl (g := (mkF m 80 #[.val (.int k), .val (.ref b3), .val (.ref w0), .val (.int (0 : Int32))] [(.ref w0)])) rfl (by rw [hml]; rfl) rfl (hb hby at_80) (W := 0) rfl (by decide) (by decide) (by decide) (by decide)
    obtain ⟨rfl, M57, e57⟩ := hQ57
    have N57 := Fr.app N46 M57
    refine own_st (fun u_ k_ => st57 u_ k_) ?_
    show own_Go p e below _ (T57.setTop (mkF m 83 #[.val (.int k), .val (.ref b3), .val (.ref w0), .val (.int (0 : Int32))] [(.int (if 0 < (0 : Int32) then 1 else 0))]))
    refine own_st (fun u_ k_ => XS.iloadN X57.here hx rfl (hb hby at_83) rfl k_) ?_
    show own_Go p e below _ (T57.setTop (mkF m 84 #[.val (.int k), .val (.ref b3), .val (.ref w0), .val (.int (0 : Int32))] [(.int (0 : Int32)), (.int (if 0 < (0 : Int32) then 1 else 0))]))
    refine own_st (fun u_ k_ => XS.icmpNo X57.here hx rfl (hb hby at_84) rfl (XT.ii_ne_f (by decide)) k_) ?_
    show own_Go p e below _ (T57.setTop (mkF m 87 #[.val (.int k), .val (.ref b3), .val (.ref w0), .val (.int (0 : Int32))] []))
    refine own_st (fun u_ k_ => XS.iconst X57.here hx rfl (hb hby at_87) k_) ?_
    show own_Go p e below _ (T57.setTop (mkF m 88 #[.val (.int k), .val (.ref b3), .val (.ref w0), .val (.int (0 : Int32))] [(.int (1 : Int32))]))
    refine own_st (fun u_ k_ => XS.goto X57.here hx rfl (pc0 := 88) (pc' := 92) rfl (hb hby at_88) (by decide) (by decide) k_) ?_
    show own_Go p e below _ (T57.setTop (mkF m 92 #[.val (.int k), .val (.ref b3), .val (.ref w0), .val (.int (0 : Int32))] [(.int (1 : Int32))]))
    have K59 : Keep h0 h3 [] := (Keep.refl h0 []).ext E3
    have z61 : h0.size ≤ b3 := Nat.le_trans (Nat.le_refl _) (Nat.le_of_eq g3.symm)
    have K60 : Keep h0 h9 [] := K59.wr W9 (Or.inr z61)
    have K62 : Keep h0 h16 [] := K60.wr W16 (Or.inr z61)
    have K63 : Keep h0 h22 [] := K62.wr W22 (Or.inr z61)
    have K64 : Keep h0 h28 [] := K63.wr W28 (Or.inr z61)
    have K65 : Keep h0 h34 [] := K64.wr W34 (Or.inr z61)
    have K66 : Keep h0 h40 [] := K65.wr W40 (Or.inr z61)
    have K67 : Keep h0 h46 [] := K66.wr W46 (Or.inr z61)
    exact own_retX X57 hx hlk hret rfl (Or.inl ⟨rfl, by simp, _, rfl⟩) (hb hby at_92) (by decide) (by decide) (show Qrm0 Z w0 w1 w2 w3 w4 w5 w6 k h0 n0 (some (.int (1 : Int32))) T57.heap _ from (by rw [e57]; exact ⟨rfl, N57, K67⟩))
  · rw [hj]
    show own_Go p e below _ (T46.setTop (mkF m 57 #[.val (.int k), .val (.ref b3), .unset, .unset] [(.int (1 : Int32)), (.ref b3)]))
    obtain ⟨cl68, Ar68, q68, S68, N68, H68, G68⟩ := id V46
    have hi68 : ¬ ((1 : Int32) < 0 ∨ cl68.slots.size ≤ ((1 : Int32)).toNatClampNeg) := inb_of S68 ⟨by decide, by decide⟩
    have ha68 : cl68.slots[((1 : Int32)).toNatClampNeg]? = some (.ref w1) := H68.at hi68 rfl
    refine own_st (X46.aaload hx (j := (1 : Int32)) (v := (.ref w1)) (by rw [e46]; exact Ar68.1) (State.isArrayOf_alike hZ.alike Ar68.2.1) rfl Ar68.2.2 hi68 ha68 (g := (mkF m 57 #[.val (.int k), .val (.ref b3), .unset, .unset] [(.int (1 : Int32)), (.ref b3)])) rfl rfl (hb hby at_57)) ?_
    show own_Go p e below _ (T46.setTop (mkF m 58 #[.val (.int k), .val (.ref b3), .unset, .unset] [(.ref w1)]))
    refine own_st (fun u_ k_ => XS.astoreN X46.here hx rfl (hb hby at_58) rfl rfl (l' := #[.val (.int k), .val (.ref b3), .val (.ref w1), .unset]) rfl k_) ?_
    show own_Go p e below _ (T46.setTop (mkF m 59 #[.val (.int k), .val (.ref b3), .val (.ref w1), .unset] []))
    refine own_st (fun u_ k_ => XS.aloadN X46.here hx rfl (hb hby at_59) rfl rfl k_) ?_
    show own_Go p e below _ (T46.setTop (mkF m 60 #[.val (.int k), .val (.ref b3), .val (.ref w1), .unset] [(.ref w1)]))
    have O69 : Old Z n0 h46 := O41.wr W46 g10
    have F70 : Sta Z h46 "com/example/spulenwerk/spulenwerk/registry/Event$Kind" "MERGED" "Lcom/example/spulenwerk/spulenwerk/registry/Event$Kind;" (.ref w5) := Sta.ext O69.2 hS.2.2.2.2.2.2.2.2.2.2.1
    obtain ⟨T71, X71, e71, st71⟩ := getS2 X46 hx hZ hown (host := "") (Or.inl (hw _ (List.mem_of_getElem? (i := 14) rfl))) Via.refl e46 F70 (g := (mkF m 60 #[.val (.int k), .val (.ref b3), .val (.ref w1), .unset] [(.ref w1)])) rfl (hb hby at_60)
    refine own_st (fun u_ k_ => st71 u_ k_) ?_
    show own_Go p e below _ (T71.setTop (mkF m 63 #[.val (.int k), .val (.ref b3), .val (.ref w1), .unset] [(.ref w5), (.ref w1)]))
    have F72 : Fld Z h46 w1 "java/lang/Enum" "ordinal" "I" (.int (1 : Int32)) := Fld.ext O69.2 hS.2.2.2.2.2.2.2.2.2.2.2.2.2.2.2.2.2.2.2.2.2.2.2.2.2.2.1
    have F73 : Fld Z h46 w5 "java/lang/Enum" "ordinal" "I" (.int (5 : Int32)) := Fld.ext O69.2 hS.2.2.2.2.2.2.2.2.2.2.2.2.2.2.2.1
    refine own_st (fun u_ k_ => XT.acmpNo X71.here hx rfl (hb hby at_63) rfl rfl rfl (XT.aa_eq_f (own_rne (Fld.ne F72 F73 (by decide)))) k_) ?_
    show own_Go p e below _ (T71.setTop (mkF m 66 #[.val (.int k), .val (.ref b3), .val (.ref w1), .unset] []))
    refine own_st (fun u_ k_ => XS.aloadN X71.here hx rfl (hb hby at_66) rfl rfl k_) ?_
    show own_Go p e below _ (T71.setTop (mkF m 67 #[.val (.int k), .val (.ref b3), .val (.ref w1), .unset] [(.ref w1)]))
    have F74 : Sta Z h46 "com/example/spulenwerk/spulenwerk/registry/Event$Kind" "SPLIT" "Lcom/example/spulenwerk/spulenwerk/registry/Event$Kind;" (.ref w6) := Sta.ext O69.2 hS.2.2.2.2.2.2.2.2.2.2.2.2.1
    obtain ⟨T75, X75, e75, st75⟩ := getS2 X71 hx hZ hown (host := "") (Or.inl (hw _ (List.mem_of_getElem? (i := 16) rfl))) Via.refl e71 F74 (g := (mkF m 67 #[.val (.int k), .val (.ref b3), .val (.ref w1), .unset] [(.ref w1)])) rfl (hb hby at_67)
    refine own_st (fun u_ k_ => st75 u_ k_) ?_
    show own_Go p e below _ (T75.setTop (mkF m 70 #[.val (.int k), .val (.ref b3), .val (.ref w1), .unset] [(.ref w6), (.ref w1)]))
    have F76 : Fld Z h46 w6 "java/lang/Enum" "ordinal" "I" (.int (6 : Int32)) := Fld.ext O69.2 hS.2.2.2.2.2.2.2.2.2.2.2.2.2.2.2.2.1
    refine own_st (fun u_ k_ => XT.acmpYes X75.here hx rfl (pc0 := 70) (pc' := 77) rfl (hb hby at_70) rfl rfl rfl (XT.aa_ne_t (own_rne (Fld.ne F72 F76 (by decide)))) (by decide) (by decide) k_) ?_
    show own_Go p e below _ (T75.setTop (mkF m 77 #[.val (.int k), .val (.ref b3), .val (.ref w1), .unset] []))
    refine own_st (fun u_ k_ => XS.iconst X75.here hx rfl (hb hby at_77) k_) ?_
    show own_Go p e below _ (T75.setTop (mkF m 78 #[.val (.int k), .val (.ref b3), .val (.ref w1), .unset] [(.int (0 : Int32))]))
    refine own_st (fun u_ k_ => XS.istoreN X75.here hx rfl (hb hby at_78) rfl (l' := #[.val (.int k), .val (.ref b3), .val (.ref w1), .val (.int (0 : Int32))]) rfl k_) ?_
    show own_Go p e below _ (T75.setTop (mkF m 79 #[.val (.int k), .val (.ref b3), .val (.ref w1), .val (.int (0 : Int32))] []))
    refine own_st (fun u_ k_ => XS.aloadN X75.here hx rfl (hb hby at_79) rfl rfl k_) ?_
    show own_Go p e below _ (T75.setTop (mkF m 80 #[.val (.int k), .val (.ref b3), .val (.ref w1), .val (.int (0 : Int32))] [(.ref w1)]))
    have F77 : Fld Z h46 w1 "com/example/spulenwerk/spulenwerk/registry/Event$Kind" "successors" "I" (.int (0 : Int32)) := Fld.ext O69.2 hS.2.2.2.2.2.2.2.2.2.2.2.2.2.2.2.2.2.2.2.2.2.2.2.2.2.2.2
    have F79 : Exa Z h46 w1 "com/example/spulenwerk/spulenwerk/registry/Event$Kind" := Exa.ext O69.2 hS.2.2.2.1
    obtain ⟨T78, v78, L78, X78, hQ78, st78⟩ := own_callV X75 hx hZ (y := (⟨"com/example/spulenwerk/spulenwerk/registry/Event$Kind", "replacesWork", "()Z"⟩ : MethodName)) (z := (⟨"com/example/spulenwerk/spulenwerk/registry/Event$Kind", "replacesWork", "()Z"⟩ : MethodName)) hown (hw _ (List.mem_of_getElem? (i := 19) rfl)) (hw _ (List.mem_of_getElem? (i := 20) rfl)) (notFace_of_selects (args := #[]) (mvT hZ (hw _ (List.mem_of_getElem? (i := 22) rfl)))) (hw _ (List.mem_of_getElem? (i := 22) rfl)) (hw _ (List.mem_of_getElem? (i := 21) rfl)) (hw _ (List.mem_of_getElem? (i := 3) rfl)) (hw _ (List.mem_of_getElem? (i := 23) rfl)) (by decide) (rm1 l Z a0 hw [] w0 w1 w2 w3 w4 w5 w6 hS w1 (0 : Int32) h46 n0 O69 F77) e75 F79 own_pd_8 (argsL := []) (rest := []) rfl rfl (g := (mkF m 80 #[.val (.int k), .val (.ref b3), .val (.ref w1), .val (.int (0 : Int32))] [(.ref w1)])) rfl (by rw [hml]; rfl) rfl (hb hby at_80) (W := 0) rfl (by decide) (by decide) (by decide) (by decide)
    obtain ⟨rfl, M78, e78⟩ := hQ78
    have N78 := Fr.app N46 M78
    refine own_st (fun u_ k_ => st78 u_ k_) ?_
    show own_Go p e below _ (T78.setTop (mkF m 83 #[.val (.int k), .val (.ref b3), .val (.ref w1), .val (.int (0 : Int32))] [(.int (if 0 < (0 : Int32) then 1 else 0))]))
    refine own_st (fun u_ k_ => XS.iloadN X78.here hx rfl (hb hby at_83) rfl k_) ?_
    show own_Go p e below _ (T78.setTop (mkF m 84 #[.val (.int k), .val (.ref b3), .val (.ref w1), .val (.int (0 : Int32))] [(.int (0 : Int32)), (.int (if 0 < (0 : Int32) then 1 else 0))]))
    refine own_st (fun u_ k_ => XS.icmpNo X78.here hx rfl (hb hby at_84) rfl (XT.ii_ne_f (by decide)) k_) ?_
    show own_Go p e below _ (T78.setTop (mkF m 87 #[.val (.int k), .val (.ref b3), .val (.ref w1), .val (.int (0 : Int32))] []))
    refine own_st (fun u_ k_ => XS.iconst X78.here hx rfl (hb hby at_87) k_) ?_
    show own_Go p e below _ (T78.setTop (mkF m 88 #[.val (.int k), .val (.ref b3), .val (.ref w1), .val (.int (0 : Int32))] [(.int (1 : Int32))]))
    refine own_st (fun u_ k_ => XS.goto X78.here hx rfl (pc0 := 88) (pc' := 92) rfl (hb hby at_88) (by decide) (by decide) k_) ?_
    show own_Go p e below _ (T78.setTop (mkF m 92 #[.val (.int k), .val (.ref b3), .val (.ref w1), .val (.int (0 : Int32))] [(.int (1 : Int32))]))
    have K80 : Keep h0 h3 [] := (Keep.refl h0 []).ext E3
    have z82 : h0.size ≤ b3 := Nat.le_trans (Nat.le_refl _) (Nat.le_of_eq g3.symm)
    have K81 : Keep h0 h9 [] := K80.wr W9 (Or.inr z82)
    have K83 : Keep h0 h16 [] := K81.wr W16 (Or.inr z82)
    have K84 : Keep h0 h22 [] := K83.wr W22 (Or.inr z82)
    have K85 : Keep h0 h28 [] := K84.wr W28 (Or.inr z82)
    have K86 : Keep h0 h34 [] := K85.wr W34 (Or.inr z82)
    have K87 : Keep h0 h40 [] := K86.wr W40 (Or.inr z82)
    have K88 : Keep h0 h46 [] := K87.wr W46 (Or.inr z82)
    exact own_retX X78 hx hlk hret rfl (Or.inl ⟨rfl, by simp, _, rfl⟩) (hb hby at_92) (by decide) (by decide) (show Qrm0 Z w0 w1 w2 w3 w4 w5 w6 k h0 n0 (some (.int (1 : Int32))) T78.heap _ from (by rw [e78]; exact ⟨rfl, N78, K88⟩))
  · rw [hj]
    show own_Go p e below _ (T46.setTop (mkF m 57 #[.val (.int k), .val (.ref b3), .unset, .unset] [(.int (2 : Int32)), (.ref b3)]))
    obtain ⟨cl89, Ar89, q89, S89, N89, H89, G89⟩ := id V46
    have hi89 : ¬ ((2 : Int32) < 0 ∨ cl89.slots.size ≤ ((2 : Int32)).toNatClampNeg) := inb_of S89 ⟨by decide, by decide⟩
    have ha89 : cl89.slots[((2 : Int32)).toNatClampNeg]? = some (.ref w2) := H89.at hi89 rfl
    refine own_st (X46.aaload hx (j := (2 : Int32)) (v := (.ref w2)) (by rw [e46]; exact Ar89.1) (State.isArrayOf_alike hZ.alike Ar89.2.1) rfl Ar89.2.2 hi89 ha89 (g := (mkF m 57 #[.val (.int k), .val (.ref b3), .unset, .unset] [(.int (2 : Int32)), (.ref b3)])) rfl rfl (hb hby at_57)) ?_
    show own_Go p e below _ (T46.setTop (mkF m 58 #[.val (.int k), .val (.ref b3), .unset, .unset] [(.ref w2)]))
    refine own_st (fun u_ k_ => XS.astoreN X46.here hx rfl (hb hby at_58) rfl rfl (l' := #[.val (.int k), .val (.ref b3), .val (.ref w2), .unset]) rfl k_) ?_
    show own_Go p e below _ (T46.setTop (mkF m 59 #[.val (.int k), .val (.ref b3), .val (.ref w2), .unset] []))
    refine own_st (fun u_ k_ => XS.aloadN X46.here hx rfl (hb hby at_59) rfl rfl k_) ?_
    show own_Go p e below _ (T46.setTop (mkF m 60 #[.val (.int k), .val (.ref b3), .val (.ref w2), .unset] [(.ref w2)]))
    have O90 : Old Z n0 h46 := O41.wr W46 g10
    have F91 : Sta Z h46 "com/example/spulenwerk/spulenwerk/registry/Event$Kind" "MERGED" "Lcom/example/spulenwerk/spulenwerk/registry/Event$Kind;" (.ref w5) := Sta.ext O90.2 hS.2.2.2.2.2.2.2.2.2.2.1
    obtain ⟨T92, X92, e92, st92⟩ := getS2 X46 hx hZ hown (host := "") (Or.inl (hw _ (List.mem_of_getElem? (i := 14) rfl))) Via.refl e46 F91 (g := (mkF m 60 #[.val (.int k), .val (.ref b3), .val (.ref w2), .unset] [(.ref w2)])) rfl (hb hby at_60)
    refine own_st (fun u_ k_ => st92 u_ k_) ?_
    show own_Go p e below _ (T92.setTop (mkF m 63 #[.val (.int k), .val (.ref b3), .val (.ref w2), .unset] [(.ref w5), (.ref w2)]))
    have F93 : Fld Z h46 w2 "java/lang/Enum" "ordinal" "I" (.int (2 : Int32)) := Fld.ext O90.2 hS.2.2.2.2.2.2.2.2.2.2.2.2.2.2.2.2.2.2.2.2.2.2.2.2.1
    have F94 : Fld Z h46 w5 "java/lang/Enum" "ordinal" "I" (.int (5 : Int32)) := Fld.ext O90.2 hS.2.2.2.2.2.2.2.2.2.2.2.2.2.2.2.1
    refine own_st (fun u_ k_ => XT.acmpNo X92.here hx rfl (hb hby at_63) rfl rfl rfl (XT.aa_eq_f (own_rne (Fld.ne F93 F94 (by decide)))) k_) ?_
    show own_Go p e below _ (T92.setTop (mkF m 66 #[.val (.int k), .val (.ref b3), .val (.ref w2), .unset] []))
    refine own_st (fun u_ k_ => XS.aloadN X92.here hx rfl (hb hby at_66) rfl rfl k_) ?_
    show own_Go p e below _ (T92.setTop (mkF m 67 #[.val (.int k), .val (.ref b3), .val (.ref w2), .unset] [(.ref w2)]))
    have F95 : Sta Z h46 "com/example/spulenwerk/spulenwerk/registry/Event$Kind" "SPLIT" "Lcom/example/spulenwerk/spulenwerk/registry/Event$Kind;" (.ref w6) := Sta.ext O90.2 hS.2.2.2.2.2.2.2.2.2.2.2.2.1
    obtain ⟨T96, X96, e96, st96⟩ := getS2 X92 hx hZ hown (host := "") (Or.inl (hw _ (List.mem_of_getElem? (i := 16) rfl))) Via.refl e92 F95 (g := (mkF m 67 #[.val (.int k), .val (.ref b3), .val (.ref w2), .unset] [(.ref w2)])) rfl (hb hby at_67)
    refine own_st (fun u_ k_ => st96 u_ k_) ?_
    show own_Go p e below _ (T96.setTop (mkF m 70 #[.val (.int k), .val (.ref b3), .val (.ref w2), .unset] [(.ref w6), (.ref w2)]))
    have F97 : Fld Z h46 w6 "java/lang/Enum" "ordinal" "I" (.int (6 : Int32)) := Fld.ext O90.2 hS.2.2.2.2.2.2.2.2.2.2.2.2.2.2.2.2.1
    refine own_st (fun u_ k_ => XT.acmpYes X96.here hx rfl (pc0 := 70) (pc' := 77) rfl (hb hby at_70) rfl rfl rfl (XT.aa_ne_t (own_rne (Fld.ne F93 F97 (by decide)))) (by decide) (by decide) k_) ?_
    show own_Go p e below _ (T96.setTop (mkF m 77 #[.val (.int k), .val (.ref b3), .val (.ref w2), .unset] []))
    refine own_st (fun u_ k_ => XS.iconst X96.here hx rfl (hb hby at_77) k_) ?_
    show own_Go p e below _ (T96.setTop (mkF m 78 #[.val (.int k), .val (.ref b3), .val (.ref w2), .unset] [(.int (0 : Int32))]))
    refine own_st (fun u_ k_ => XS.istoreN X96.here hx rfl (hb hby at_78) rfl (l' := #[.val (.int k), .val (.ref b3), .val (.ref w2), .val (.int (0 : Int32))]) rfl k_) ?_
    show own_Go p e below _ (T96.setTop (mkF m 79 #[.val (.int k), .val (.ref b3), .val (.ref w2), .val (.int (0 : Int32))] []))
    refine own_st (fun u_ k_ => XS.aloadN X96.here hx rfl (hb hby at_79) rfl rfl k_) ?_
    show own_Go p e below _ (T96.setTop (mkF m 80 #[.val (.int k), .val (.ref b3), .val (.ref w2), .val (.int (0 : Int32))] [(.ref w2)]))
    have F98 : Fld Z h46 w2 "com/example/spulenwerk/spulenwerk/registry/Event$Kind" "successors" "I" (.int (0 : Int32)) := Fld.ext O90.2 hS.2.2.2.2.2.2.2.2.2.2.2.2.2.2.2.2.2.2.2.2.2.2.2.2.2.1
    have F100 : Exa Z h46 w2 "com/example/spulenwerk/spulenwerk/registry/Event$Kind" := Exa.ext O90.2 hS.2.2.2.2.2.1
    obtain ⟨T99, v99, L99, X99, hQ99, st99⟩ := own_callV X96 hx hZ (y := (⟨"com/example/spulenwerk/spulenwerk/registry/Event$Kind", "replacesWork", "()Z"⟩ : MethodName)) (z := (⟨"com/example/spulenwerk/spulenwerk/registry/Event$Kind", "replacesWork", "()Z"⟩ : MethodName)) hown (hw _ (List.mem_of_getElem? (i := 19) rfl)) (hw _ (List.mem_of_getElem? (i := 20) rfl)) (notFace_of_selects (args := #[]) (mvT hZ (hw _ (List.mem_of_getElem? (i := 22) rfl)))) (hw _ (List.mem_of_getElem? (i := 22) rfl)) (hw _ (List.mem_of_getElem? (i := 21) rfl)) (hw _ (List.mem_of_getElem? (i := 3) rfl)) (hw _ (List.mem_of_getElem? (i := 23) rfl)) (by decide) (rm1 l Z a0 hw [] w0 w1 w2 w3 w4 w5 w6 hS w2 (0 : Int32) h46 n0 O90 F98) e96 F100 own_pd_8 (argsL := []) (rest := []) rfl rfl (g := (mkF m 80 #[.val (.int k), .val (.ref b3), .val (.ref w2), .val (.int (0 : Int32))] [(.ref w2)])) rfl (by rw [hml]; rfl) rfl (hb hby at_80) (W := 0) rfl (by decide) (by decide) (by decide) (by decide)
    obtain ⟨rfl, M99, e99⟩ := hQ99
    have N99 := Fr.app N46 M99
    refine own_st (fun u_ k_ => st99 u_ k_) ?_
    show own_Go p e below _ (T99.setTop (mkF m 83 #[.val (.int k), .val (.ref b3), .val (.ref w2), .val (.int (0 : Int32))] [(.int (if 0 < (0 : Int32) then 1 else 0))]))
    refine own_st (fun u_ k_ => XS.iloadN X99.here hx rfl (hb hby at_83) rfl k_) ?_
    show own_Go p e below _ (T99.setTop (mkF m 84 #[.val (.int k), .val (.ref b3), .val (.ref w2), .val (.int (0 : Int32))] [(.int (0 : Int32)), (.int (if 0 < (0 : Int32) then 1 else 0))]))
    refine own_st (fun u_ k_ => XS.icmpNo X99.here hx rfl (hb hby at_84) rfl (XT.ii_ne_f (by decide)) k_) ?_
    show own_Go p e below _ (T99.setTop (mkF m 87 #[.val (.int k), .val (.ref b3), .val (.ref w2), .val (.int (0 : Int32))] []))
    refine own_st (fun u_ k_ => XS.iconst X99.here hx rfl (hb hby at_87) k_) ?_
    show own_Go p e below _ (T99.setTop (mkF m 88 #[.val (.int k), .val (.ref b3), .val (.ref w2), .val (.int (0 : Int32))] [(.int (1 : Int32))]))
    refine own_st (fun u_ k_ => XS.goto X99.here hx rfl (pc0 := 88) (pc' := 92) rfl (hb hby at_88) (by decide) (by decide) k_) ?_
    show own_Go p e below _ (T99.setTop (mkF m 92 #[.val (.int k), .val (.ref b3), .val (.ref w2), .val (.int (0 : Int32))] [(.int (1 : Int32))]))
    have K101 : Keep h0 h3 [] := (Keep.refl h0 []).ext E3
    have z103 : h0.size ≤ b3 := Nat.le_trans (Nat.le_refl _) (Nat.le_of_eq g3.symm)
    have K102 : Keep h0 h9 [] := K101.wr W9 (Or.inr z103)
    have K104 : Keep h0 h16 [] := K102.wr W16 (Or.inr z103)
    have K105 : Keep h0 h22 [] := K104.wr W22 (Or.inr z103)
    have K106 : Keep h0 h28 [] := K105.wr W28 (Or.inr z103)
    have K107 : Keep h0 h34 [] := K106.wr W34 (Or.inr z103)
    have K108 : Keep h0 h40 [] := K107.wr W40 (Or.inr z103)
    have K109 : Keep h0 h46 [] := K108.wr W46 (Or.inr z103)
    exact own_retX X99 hx hlk hret rfl (Or.inl ⟨rfl, by simp, _, rfl⟩) (hb hby at_92) (by decide) (by decide) (show Qrm0 Z w0 w1 w2 w3 w4 w5 w6 k h0 n0 (some (.int (1 : Int32))) T99.heap _ from (by rw [e99]; exact ⟨rfl, N99, K109⟩))
  · rw [hj]
    show own_Go p e below _ (T46.setTop (mkF m 57 #[.val (.int k), .val (.ref b3), .unset, .unset] [(.int (3 : Int32)), (.ref b3)]))
    obtain ⟨cl110, Ar110, q110, S110, N110, H110, G110⟩ := id V46
    have hi110 : ¬ ((3 : Int32) < 0 ∨ cl110.slots.size ≤ ((3 : Int32)).toNatClampNeg) := inb_of S110 ⟨by decide, by decide⟩
    have ha110 : cl110.slots[((3 : Int32)).toNatClampNeg]? = some (.ref w3) := H110.at hi110 rfl
    refine own_st (X46.aaload hx (j := (3 : Int32)) (v := (.ref w3)) (by rw [e46]; exact Ar110.1) (State.isArrayOf_alike hZ.alike Ar110.2.1) rfl Ar110.2.2 hi110 ha110 (g := (mkF m 57 #[.val (.int k), .val (.ref b3), .unset, .unset] [(.int (3 : Int32)), (.ref b3)])) rfl rfl (hb hby at_57)) ?_
    show own_Go p e below _ (T46.setTop (mkF m 58 #[.val (.int k), .val (.ref b3), .unset, .unset] [(.ref w3)]))
    refine own_st (fun u_ k_ => XS.astoreN X46.here hx rfl (hb hby at_58) rfl rfl (l' := #[.val (.int k), .val (.ref b3), .val (.ref w3), .unset]) rfl k_) ?_
    show own_Go p e below _ (T46.setTop (mkF m 59 #[.val (.int k), .val (.ref b3), .val (.ref w3), .unset] []))
    refine own_st (fun u_ k_ => XS.aloadN X46.here hx rfl (hb hby at_59) rfl rfl k_) ?_
    show own_Go p e below _ (T46.setTop (mkF m 60 #[.val (.int k), .val (.ref b3), .val (.ref w3), .unset] [(.ref w3)]))
    have O111 : Old Z n0 h46 := O41.wr W46 g10
    have F112 : Sta Z h46 "com/example/spulenwerk/spulenwerk/registry/Event$Kind" "MERGED" "Lcom/example/spulenwerk/spulenwerk/registry/Event$Kind;" (.ref w5) := Sta.ext O111.2 hS.2.2.2.2.2.2.2.2.2.2.1
    obtain ⟨T113, X113, e113, st113⟩ := getS2 X46 hx hZ hown (host := "") (Or.inl (hw _ (List.mem_of_getElem? (i := 14) rfl))) Via.refl e46 F112 (g := (mkF m 60 #[.val (.int k), .val (.ref b3), .val (.ref w3), .unset] [(.ref w3)])) rfl (hb hby at_60)
    refine own_st (fun u_ k_ => st113 u_ k_) ?_
    show own_Go p e below _ (T113.setTop (mkF m 63 #[.val (.int k), .val (.ref b3), .val (.ref w3), .unset] [(.ref w5), (.ref w3)]))
    have F114 : Fld Z h46 w3 "java/lang/Enum" "ordinal" "I" (.int (3 : Int32)) := Fld.ext O111.2 hS.2.2.2.2.2.2.2.2.2.2.2.2.2.2.2.2.2.2.1
    have F115 : Fld Z h46 w5 "java/lang/Enum" "ordinal" "I" (.int (5 : Int32)) := Fld.ext O111.2 hS.2.2.2.2.2.2.2.2.2.2.2.2.2.2.2.1
    refine own_st (fun u_ k_ => XT.acmpNo X113.here hx rfl (hb hby at_63) rfl rfl rfl (XT.aa_eq_f (own_rne (Fld.ne F114 F115 (by decide)))) k_) ?_
    show own_Go p e below _ (T113.setTop (mkF m 66 #[.val (.int k), .val (.ref b3), .val (.ref w3), .unset] []))
    refine own_st (fun u_ k_ => XS.aloadN X113.here hx rfl (hb hby at_66) rfl rfl k_) ?_
    show own_Go p e below _ (T113.setTop (mkF m 67 #[.val (.int k), .val (.ref b3), .val (.ref w3), .unset] [(.ref w3)]))
    have F116 : Sta Z h46 "com/example/spulenwerk/spulenwerk/registry/Event$Kind" "SPLIT" "Lcom/example/spulenwerk/spulenwerk/registry/Event$Kind;" (.ref w6) := Sta.ext O111.2 hS.2.2.2.2.2.2.2.2.2.2.2.2.1
    obtain ⟨T117, X117, e117, st117⟩ := getS2 X113 hx hZ hown (host := "") (Or.inl (hw _ (List.mem_of_getElem? (i := 16) rfl))) Via.refl e113 F116 (g := (mkF m 67 #[.val (.int k), .val (.ref b3), .val (.ref w3), .unset] [(.ref w3)])) rfl (hb hby at_67)
    refine own_st (fun u_ k_ => st117 u_ k_) ?_
    show own_Go p e below _ (T117.setTop (mkF m 70 #[.val (.int k), .val (.ref b3), .val (.ref w3), .unset] [(.ref w6), (.ref w3)]))
    have F118 : Fld Z h46 w6 "java/lang/Enum" "ordinal" "I" (.int (6 : Int32)) := Fld.ext O111.2 hS.2.2.2.2.2.2.2.2.2.2.2.2.2.2.2.2.1
    refine own_st (fun u_ k_ => XT.acmpYes X117.here hx rfl (pc0 := 70) (pc' := 77) rfl (hb hby at_70) rfl rfl rfl (XT.aa_ne_t (own_rne (Fld.ne F114 F118 (by decide)))) (by decide) (by decide) k_) ?_
    show own_Go p e below _ (T117.setTop (mkF m 77 #[.val (.int k), .val (.ref b3), .val (.ref w3), .unset] []))
    refine own_st (fun u_ k_ => XS.iconst X117.here hx rfl (hb hby at_77) k_) ?_
    show own_Go p e below _ (T117.setTop (mkF m 78 #[.val (.int k), .val (.ref b3), .val (.ref w3), .unset] [(.int (0 : Int32))]))
    refine own_st (fun u_ k_ => XS.istoreN X117.here hx rfl (hb hby at_78) rfl (l' := #[.val (.int k), .val (.ref b3), .val (.ref w3), .val (.int (0 : Int32))]) rfl k_) ?_
    show own_Go p e below _ (T117.setTop (mkF m 79 #[.val (.int k), .val (.ref b3), .val (.ref w3), .val (.int (0 : Int32))] []))
    refine own_st (fun u_ k_ => XS.aloadN X117.here hx rfl (hb hby at_79) rfl rfl k_) ?_
    show own_Go p e below _ (T117.setTop (mkF m 80 #[.val (.int k), .val (.ref b3), .val (.ref w3), .val (.int (0 : Int32))] [(.ref w3)]))
    have F119 : Fld Z h46 w3 "com/example/spulenwerk/spulenwerk/registry/Event$Kind" "successors" "I" (.int (0 : Int32)) := Fld.ext O111.2 hS.2.2.2.2.2.2.2.2.2.2.2.2.2.2.2.2.2.2.2.1
    have F121 : Exa Z h46 w3 "com/example/spulenwerk/spulenwerk/registry/Event$Kind" := Exa.ext O111.2 hS.2.2.2.2.2.2.2.1
    obtain ⟨T120, v120, L120, X120, hQ120, st120⟩ := own_callV X117 hx hZ (y := (⟨"com/example/spulenwerk/spulenwerk/registry/Event$Kind", "replacesWork", "()Z"⟩ : MethodName)) (z := (⟨"com/example/spulenwerk/spulenwerk/registry/Event$Kind", "replacesWork", "()Z"⟩ : MethodName)) hown (hw _ (List.mem_of_getElem? (i := 19) rfl)) (hw _ (List.mem_of_getElem? (i := 20) rfl)) (notFace_of_selects (args := #[]) (mvT hZ (hw _ (List.mem_of_getElem? (i := 22) rfl)))) (hw _ (List.mem_of_getElem? (i := 22) rfl)) (hw _ (List.mem_of_getElem? (i := 21) rfl)) (hw _ (List.mem_of_getElem? (i := 3) rfl)) (hw _ (List.mem_of_getElem? (i := 23) rfl)) (by decide) (rm1 l Z a0 hw [] w0 w1 w2 w3 w4 w5 w6 hS w3 (0 : Int32) h46 n0 O111 F119) e117 F121 own_pd_8 (argsL := []) (rest := []) rfl rfl (g := (mkF m 80 #[.val (.int k), .val (.ref b3), .val (.ref w3), .val (.int (0 : Int32))] [(.ref w3)])) rfl (by rw [hml]; rfl) rfl (hb hby at_80) (W := 0) rfl (by decide) (by decide) (by decide) (by decide)
    obtain ⟨rfl, M120, e120⟩ := hQ120
    have N120 := Fr.app N46 M120
    refine own_st (fun u_ k_ => st120 u_ k_) ?_
    show own_Go p e below _ (T120.setTop (mkF m 83 #[.val (.int k), .val (.ref b3), .val (.ref w3), .val (.int (0 : Int32))] [(.int (if 0 < (0 : Int32) then 1 else 0))]))
    refine own_st (fun u_ k_ => XS.iloadN X120.here hx rfl (hb hby at_83) rfl k_) ?_
    show own_Go p e below _ (T120.setTop (mkF m 84 #[.val (.int k), .val (.ref b3), .val (.ref w3), .val (.int (0 : Int32))] [(.int (0 : Int32)), (.int (if 0 < (0 : Int32) then 1 else 0))]))
    refine own_st (fun u_ k_ => XS.icmpNo X120.here hx rfl (hb hby at_84) rfl (XT.ii_ne_f (by decide)) k_) ?_
    show own_Go p e below _ (T120.setTop (mkF m 87 #[.val (.int k), .val (.ref b3), .val (.ref w3), .val (.int (0 : Int32))] []))
    refine own_st (fun u_ k_ => XS.iconst X120.here hx rfl (hb hby at_87) k_) ?_
    show own_Go p e below _ (T120.setTop (mkF m 88 #[.val (.int k), .val (.ref b3), .val (.ref w3), .val (.int (0 : Int32))] [(.int (1 : Int32))]))
    refine own_st (fun u_ k_ => XS.goto X120.here hx rfl (pc0 := 88) (pc' := 92) rfl (hb hby at_88) (by decide) (by decide) k_) ?_
    show own_Go p e below _ (T120.setTop (mkF m 92 #[.val (.int k), .val (.ref b3), .val (.ref w3), .val (.int (0 : Int32))] [(.int (1 : Int32))]))
    have K122 : Keep h0 h3 [] := (Keep.refl h0 []).ext E3
    have z124 : h0.size ≤ b3 := Nat.le_trans (Nat.le_refl _) (Nat.le_of_eq g3.symm)
    have K123 : Keep h0 h9 [] := K122.wr W9 (Or.inr z124)
    have K125 : Keep h0 h16 [] := K123.wr W16 (Or.inr z124)
    have K126 : Keep h0 h22 [] := K125.wr W22 (Or.inr z124)
    have K127 : Keep h0 h28 [] := K126.wr W28 (Or.inr z124)
    have K128 : Keep h0 h34 [] := K127.wr W34 (Or.inr z124)
    have K129 : Keep h0 h40 [] := K128.wr W40 (Or.inr z124)
    have K130 : Keep h0 h46 [] := K129.wr W46 (Or.inr z124)
    exact own_retX X120 hx hlk hret rfl (Or.inl ⟨rfl, by simp, _, rfl⟩) (hb hby at_92) (by decide) (by decide) (show Qrm0 Z w0 w1 w2 w3 w4 w5 w6 k h0 n0 (some (.int (1 : Int32))) T120.heap _ from (by rw [e120]; exact ⟨rfl, N120, K130⟩))
  · rw [hj]
    show own_Go p e below _ (T46.setTop (mkF m 57 #[.val (.int k), .val (.ref b3), .unset, .unset] [(.int (4 : Int32)), (.ref b3)]))
    obtain ⟨cl131, Ar131, q131, S131, N131, H131, G131⟩ := id V46
    have hi131 : ¬ ((4 : Int32) < 0 ∨ cl131.slots.size ≤ ((4 : Int32)).toNatClampNeg) := inb_of S131 ⟨by decide, by decide⟩
    have ha131 : cl131.slots[((4 : Int32)).toNatClampNeg]? = some (.ref w4) := H131.at hi131 rfl
    refine own_st (X46.aaload hx (j := (4 : Int32)) (v := (.ref w4)) (by rw [e46]; exact Ar131.1) (State.isArrayOf_alike hZ.alike Ar131.2.1) rfl Ar131.2.2 hi131 ha131 (g := (mkF m 57 #[.val (.int k), .val (.ref b3), .unset, .unset] [(.int (4 : Int32)), (.ref b3)])) rfl rfl (hb hby at_57)) ?_
    show own_Go p e below _ (T46.setTop (mkF m 58 #[.val (.int k), .val (.ref b3), .unset, .unset] [(.ref w4)]))
    refine own_st (fun u_ k_ => XS.astoreN X46.here hx rfl (hb hby at_58) rfl rfl (l' := #[.val (.int k), .val (.ref b3), .val (.ref w4), .unset]) rfl k_) ?_
    show own_Go p e below _ (T46.setTop (mkF m 59 #[.val (.int k), .val (.ref b3), .val (.ref w4), .unset] []))
    refine own_st (fun u_ k_ => XS.aloadN X46.here hx rfl (hb hby at_59) rfl rfl k_) ?_
    show own_Go p e below _ (T46.setTop (mkF m 60 #[.val (.int k), .val (.ref b3), .val (.ref w4), .unset] [(.ref w4)]))
    have O132 : Old Z n0 h46 := O41.wr W46 g10
    have F133 : Sta Z h46 "com/example/spulenwerk/spulenwerk/registry/Event$Kind" "MERGED" "Lcom/example/spulenwerk/spulenwerk/registry/Event$Kind;" (.ref w5) := Sta.ext O132.2 hS.2.2.2.2.2.2.2.2.2.2.1
    obtain ⟨T134, X134, e134, st134⟩ := getS2 X46 hx hZ hown (host := "") (Or.inl (hw _ (List.mem_of_getElem? (i := 14) rfl))) Via.refl e46 F133 (g := (mkF m 60 #[.val (.int k), .val (.ref b3), .val (.ref w4), .unset] [(.ref w4)])) rfl (hb hby at_60)
    refine own_st (fun u_ k_ => st134 u_ k_) ?_
    show own_Go p e below _ (T134.setTop (mkF m 63 #[.val (.int k), .val (.ref b3), .val (.ref w4), .unset] [(.ref w5), (.ref w4)]))
    have F135 : Fld Z h46 w4 "java/lang/Enum" "ordinal" "I" (.int (4 : Int32)) := Fld.ext O132.2 hS.2.2.2.2.2.2.2.2.2.2.2.2.2.2.2.2.2.2.2.2.2.2.1
    have F136 : Fld Z h46 w5 "java/lang/Enum" "ordinal" "I" (.int (5 : Int32)) := Fld.ext O132.2 hS.2.2.2.2.2.2.2.2.2.2.2.2.2.2.2.1
    refine own_st (fun u_ k_ => XT.acmpNo X134.here hx rfl (hb hby at_63) rfl rfl rfl (XT.aa_eq_f (own_rne (Fld.ne F135 F136 (by decide)))) k_) ?_
    show own_Go p e below _ (T134.setTop (mkF m 66 #[.val (.int k), .val (.ref b3), .val (.ref w4), .unset] []))
    refine own_st (fun u_ k_ => XS.aloadN X134.here hx rfl (hb hby at_66) rfl rfl k_) ?_
    show own_Go p e below _ (T134.setTop (mkF m 67 #[.val (.int k), .val (.ref b3), .val (.ref w4), .unset] [(.ref w4)]))
    have F137 : Sta Z h46 "com/example/spulenwerk/spulenwerk/registry/Event$Kind" "SPLIT" "Lcom/example/spulenwerk/spulenwerk/registry/Event$Kind;" (.ref w6) := Sta.ext O132.2 hS.2.2.2.2.2.2.2.2.2.2.2.2.1
    obtain ⟨T138, X138, e138, st138⟩ := getS2 X134 hx hZ hown (host := "") (Or.inl (hw _ (List.mem_of_getElem? (i := 16) rfl))) Via.refl e134 F137 (g := (mkF m 67 #[.val (.int k), .val (.ref b3), .val (.ref w4), .unset] [(.ref w4)])) rfl (hb hby at_67)
    refine own_st (fun u_ k_ => st138 u_ k_) ?_
    show own_Go p e below _ (T138.setTop (mkF m 70 #[.val (.int k), .val (.ref b3), .val (.ref w4), .unset] [(.ref w6), (.ref w4)]))
    have F139 : Fld Z h46 w6 "java/lang/Enum" "ordinal" "I" (.int (6 : Int32)) := Fld.ext O132.2 hS.2.2.2.2.2.2.2.2.2.2.2.2.2.2.2.2.1
    refine own_st (fun u_ k_ => XT.acmpYes X138.here hx rfl (pc0 := 70) (pc' := 77) rfl (hb hby at_70) rfl rfl rfl (XT.aa_ne_t (own_rne (Fld.ne F135 F139 (by decide)))) (by decide) (by decide) k_) ?_
    show own_Go p e below _ (T138.setTop (mkF m 77 #[.val (.int k), .val (.ref b3), .val (.ref w4), .unset] []))
    refine own_st (fun u_ k_ => XS.iconst X138.here hx rfl (hb hby at_77) k_) ?_
    show own_Go p e below _ (T138.setTop (mkF m 78 #[.val (.int k), .val (.ref b3), .val (.ref w4), .unset] [(.int (0 : Int32))]))
    refine own_st (fun u_ k_ => XS.istoreN X138.here hx rfl (hb hby at_78) rfl (l' := #[.val (.int k), .val (.ref b3), .val (.ref w4), .val (.int (0 : Int32))]) rfl k_) ?_
    show own_Go p e below _ (T138.setTop (mkF m 79 #[.val (.int k), .val (.ref b3), .val (.ref w4), .val (.int (0 : Int32))] []))
    refine own_st (fun u_ k_ => XS.aloadN X138.here hx rfl (hb hby at_79) rfl rfl k_) ?_
    show own_Go p e below _ (T138.setTop (mkF m 80 #[.val (.int k), .val (.ref b3), .val (.ref w4), .val (.int (0 : Int32))] [(.ref w4)]))
    have F140 : Fld Z h46 w4 "com/example/spulenwerk/spulenwerk/registry/Event$Kind" "successors" "I" (.int (0 : Int32)) := Fld.ext O132.2 hS.2.2.2.2.2.2.2.2.2.2.2.2.2.2.2.2.2.2.2.2.2.2.2.1
    have F142 : Exa Z h46 w4 "com/example/spulenwerk/spulenwerk/registry/Event$Kind" := Exa.ext O132.2 hS.2.2.2.2.2.2.2.2.2.1
    obtain ⟨T141, v141, L141, X141, hQ141, st141⟩ := own_callV X138 hx hZ (y := (⟨"com/example/spulenwerk/spulenwerk/registry/Event$Kind", "replacesWork", "()Z"⟩ : MethodName)) (z := (⟨"com/example/spulenwerk/spulenwerk/registry/Event$Kind", "replacesWork", "()Z"⟩ : MethodName)) hown (hw _ (List.mem_of_getElem? (i := 19) rfl)) (hw _ (List.mem_of_getElem? (i := 20) rfl)) (notFace_of_selects (args := #[]) (mvT hZ (hw _ (List.mem_of_getElem? (i := 22) rfl)))) (hw _ (List.mem_of_getElem? (i := 22) rfl)) (hw _ (List.mem_of_getElem? (i := 21) rfl)) (hw _ (List.mem_of_getElem? (i := 3) rfl)) (hw _ (List.mem_of_getElem? (i := 23) rfl)) (by decide) (rm1 l Z a0 hw [] w0 w1 w2 w3 w4 w5 w6 hS w4 (0 : Int32) h46 n0 O132 F140) e138 F142 own_pd_8 (argsL := []) (rest := []) rfl rfl (g := (mkF m 80 #[.val (.int k), .val (.ref b3), .val (.ref w4), .val (.int (0 : Int32))] [(.ref w4)])) rfl (by rw [hml]; rfl) rfl (hb hby at_80) (W := 0) rfl (by decide) (by decide) (by decide) (by decide)
    obtain ⟨rfl, M141, e141⟩ := hQ141
    have N141 := Fr.app N46 M141
    refine own_st (fun u_ k_ => st141 u_ k_) ?_
    show own_Go p e below _ (T141.setTop (mkF m 83 #[.val (.int k), .val (.ref b3), .val (.ref w4), .val (.int (0 : Int32))] [(.int (if 0 < (0 : Int32) then 1 else 0))]))
    refine own_st (fun u_ k_ => XS.iloadN X141.here hx rfl (hb hby at_83) rfl k_) ?_
    show own_Go p e below _ (T141.setTop (mkF m 84 #[.val (.int k), .val (.ref b3), .val (.ref w4), .val (.int (0 : Int32))] [(.int (0 : Int32)), (.int (if 0 < (0 : Int32) then 1 else 0))]))
    refine own_st (fun u_ k_ => XS.icmpNo X141.here hx rfl (hb hby at_84) rfl (XT.ii_ne_f (by decide)) k_) ?_
    show own_Go p e below _ (T141.setTop (mkF m 87 #[.val (.int k), .val (.ref b3), .val (.ref w4), .val (.int (0 : Int32))] []))
    refine own_st (fun u_ k_ => XS.iconst X141.here hx rfl (hb hby at_87) k_) ?_
    show own_Go p e below _ (T141.setTop (mkF m 88 #[.val (.int k), .val (.ref b3), .val (.ref w4), .val (.int (0 : Int32))] [(.int (1 : Int32))]))
    refine own_st (fun u_ k_ => XS.goto X141.here hx rfl (pc0 := 88) (pc' := 92) rfl (hb hby at_88) (by decide) (by decide) k_) ?_
    show own_Go p e below _ (T141.setTop (mkF m 92 #[.val (.int k), .val (.ref b3), .val (.ref w4), .val (.int (0 : Int32))] [(.int (1 : Int32))]))
    have K143 : Keep h0 h3 [] := (Keep.refl h0 []).ext E3
    have z145 : h0.size ≤ b3 := Nat.le_trans (Nat.le_refl _) (Nat.le_of_eq g3.symm)
    have K144 : Keep h0 h9 [] := K143.wr W9 (Or.inr z145)
    have K146 : Keep h0 h16 [] := K144.wr W16 (Or.inr z145)
    have K147 : Keep h0 h22 [] := K146.wr W22 (Or.inr z145)
    have K148 : Keep h0 h28 [] := K147.wr W28 (Or.inr z145)
    have K149 : Keep h0 h34 [] := K148.wr W34 (Or.inr z145)
    have K150 : Keep h0 h40 [] := K149.wr W40 (Or.inr z145)
    have K151 : Keep h0 h46 [] := K150.wr W46 (Or.inr z145)
    exact own_retX X141 hx hlk hret rfl (Or.inl ⟨rfl, by simp, _, rfl⟩) (hb hby at_92) (by decide) (by decide) (show Qrm0 Z w0 w1 w2 w3 w4 w5 w6 k h0 n0 (some (.int (1 : Int32))) T141.heap _ from (by rw [e141]; exact ⟨rfl, N141, K151⟩))
  · rw [hj]
    show own_Go p e below _ (T46.setTop (mkF m 57 #[.val (.int k), .val (.ref b3), .unset, .unset] [(.int (5 : Int32)), (.ref b3)]))
    obtain ⟨cl152, Ar152, q152, S152, N152, H152, G152⟩ := id V46
    have hi152 : ¬ ((5 : Int32) < 0 ∨ cl152.slots.size ≤ ((5 : Int32)).toNatClampNeg) := inb_of S152 ⟨by decide, by decide⟩
    have ha152 : cl152.slots[((5 : Int32)).toNatClampNeg]? = some (.ref w5) := H152.at hi152 rfl
    refine own_st (X46.aaload hx (j := (5 : Int32)) (v := (.ref w5)) (by rw [e46]; exact Ar152.1) (State.isArrayOf_alike hZ.alike Ar152.2.1) rfl Ar152.2.2 hi152 ha152 (g := (mkF m 57 #[.val (.int k), .val (.ref b3), .unset, .unset] [(.int (5 : Int32)), (.ref b3)])) rfl rfl (hb hby at_57)) ?_
    show own_Go p e below _ (T46.setTop (mkF m 58 #[.val (.int k), .val (.ref b3), .unset, .unset] [(.ref w5)]))
    refine own_st (fun u_ k_ => XS.astoreN X46.here hx rfl (hb hby at_58) rfl rfl (l' := #[.val (.int k), .val (.ref b3), .val (.ref w5), .unset]) rfl k_) ?_
    show own_Go p e below _ (T46.setTop (mkF m 59 #[.val (.int k), .val (.ref b3), .val (.ref w5), .unset] []))
    refine own_st (fun u_ k_ => XS.aloadN X46.here hx rfl (hb hby at_59) rfl rfl k_) ?_
    show own_Go p e below _ (T46.setTop (mkF m 60 #[.val (.int k), .val (.ref b3), .val (.ref w5), .unset] [(.ref w5)]))
    have O153 : Old Z n0 h46 := O41.wr W46 g10
    have F154 : Sta Z h46 "com/example/spulenwerk/spulenwerk/registry/Event$Kind" "MERGED" "Lcom/example/spulenwerk/spulenwerk/registry/Event$Kind;" (.ref w5) := Sta.ext O153.2 hS.2.2.2.2.2.2.2.2.2.2.1
    obtain ⟨T155, X155, e155, st155⟩ := getS2 X46 hx hZ hown (host := "") (Or.inl (hw _ (List.mem_of_getElem? (i := 14) rfl))) Via.refl e46 F154 (g := (mkF m 60 #[.val (.int k), .val (.ref b3), .val (.ref w5), .unset] [(.ref w5)])) rfl (hb hby at_60)
    refine own_st (fun u_ k_ => st155 u_ k_) ?_
    show own_Go p e below _ (T155.setTop (mkF m 63 #[.val (.int k), .val (.ref b3), .val (.ref w5), .unset] [(.ref w5), (.ref w5)]))
    have F156 : Fld Z h46 w5 "java/lang/Enum" "ordinal" "I" (.int (5 : Int32)) := Fld.ext O153.2 hS.2.2.2.2.2.2.2.2.2.2.2.2.2.2.2.1
    refine own_st (fun u_ k_ => XT.acmpYes X155.here hx rfl (pc0 := 63) (pc' := 73) rfl (hb hby at_63) rfl rfl rfl (XT.aa_eq_t rfl) (by decide) (by decide) k_) ?_
    show own_Go p e below _ (T155.setTop (mkF m 73 #[.val (.int k), .val (.ref b3), .val (.ref w5), .unset] []))
    refine own_st (fun u_ k_ => XS.iconst X155.here hx rfl (hb hby at_73) k_) ?_
    show own_Go p e below _ (T155.setTop (mkF m 74 #[.val (.int k), .val (.ref b3), .val (.ref w5), .unset] [(.int (1 : Int32))]))
    refine own_st (fun u_ k_ => XS.goto X155.here hx rfl (pc0 := 74) (pc' := 78) rfl (hb hby at_74) (by decide) (by decide) k_) ?_
    show own_Go p e below _ (T155.setTop (mkF m 78 #[.val (.int k), .val (.ref b3), .val (.ref w5), .unset] [(.int (1 : Int32))]))
    refine own_st (fun u_ k_ => XS.istoreN X155.here hx rfl (hb hby at_78) rfl (l' := #[.val (.int k), .val (.ref b3), .val (.ref w5), .val (.int (1 : Int32))]) rfl k_) ?_
    show own_Go p e below _ (T155.setTop (mkF m 79 #[.val (.int k), .val (.ref b3), .val (.ref w5), .val (.int (1 : Int32))] []))
    refine own_st (fun u_ k_ => XS.aloadN X155.here hx rfl (hb hby at_79) rfl rfl k_) ?_
    show own_Go p e below _ (T155.setTop (mkF m 80 #[.val (.int k), .val (.ref b3), .val (.ref w5), .val (.int (1 : Int32))] [(.ref w5)]))
    have F157 : Fld Z h46 w5 "com/example/spulenwerk/spulenwerk/registry/Event$Kind" "successors" "I" (.int (1 : Int32)) := Fld.ext O153.2 hS.2.2.2.2.2.2.2.2.2.2.2.2.2.2.2.2.2.2.2.2.1
    have F159 : Exa Z h46 w5 "com/example/spulenwerk/spulenwerk/registry/Event$Kind" := Exa.ext O153.2 hS.2.2.2.2.2.2.2.2.2.2.2.1
    obtain ⟨T158, v158, L158, X158, hQ158, st158⟩ := own_callV X155 hx hZ (y := (⟨"com/example/spulenwerk/spulenwerk/registry/Event$Kind", "replacesWork", "()Z"⟩ : MethodName)) (z := (⟨"com/example/spulenwerk/spulenwerk/registry/Event$Kind", "replacesWork", "()Z"⟩ : MethodName)) hown (hw _ (List.mem_of_getElem? (i := 19) rfl)) (hw _ (List.mem_of_getElem? (i := 20) rfl)) (notFace_of_selects (args := #[]) (mvT hZ (hw _ (List.mem_of_getElem? (i := 22) rfl)))) (hw _ (List.mem_of_getElem? (i := 22) rfl)) (hw _ (List.mem_of_getElem? (i := 21) rfl)) (hw _ (List.mem_of_getElem? (i := 3) rfl)) (hw _ (List.mem_of_getElem? (i := 23) rfl)) (by decide) (rm1 l Z a0 hw [] w0 w1 w2 w3 w4 w5 w6 hS w5 (1 : Int32) h46 n0 O153 F157) e155 F159 own_pd_8 (argsL := []) (rest := []) rfl rfl (g := (mkF m 80 #[.val (.int k), .val (.ref b3), .val (.ref w5), .val (.int (1 : Int32))] [(.ref w5)])) rfl (by rw [hml]; rfl) rfl (hb hby at_80) (W := 0) rfl (by decide) (by decide) (by decide) (by decide)
    obtain ⟨rfl, M158, e158⟩ := hQ158
    have N158 := Fr.app N46 M158
    refine own_st (fun u_ k_ => st158 u_ k_) ?_
    show own_Go p e below _ (T158.setTop (mkF m 83 #[.val (.int k), .val (.ref b3), .val (.ref w5), .val (.int (1 : Int32))] [(.int (if 0 < (1 : Int32) then 1 else 0))]))
    refine own_st (fun u_ k_ => XS.iloadN X158.here hx rfl (hb hby at_83) rfl k_) ?_
    show own_Go p e below _ (T158.setTop (mkF m 84 #[.val (.int k), .val (.ref b3), .val (.ref w5), .val (.int (1 : Int32))] [(.int (1 : Int32)), (.int (if 0 < (1 : Int32) then 1 else 0))]))
    refine own_st (fun u_ k_ => XS.icmpNo X158.here hx rfl (hb hby at_84) rfl (XT.ii_ne_f (by decide)) k_) ?_
    show own_Go p e below _ (T158.setTop (mkF m 87 #[.val (.int k), .val (.ref b3), .val (.ref w5), .val (.int (1 : Int32))] []))
    refine own_st (fun u_ k_ => XS.iconst X158.here hx rfl (hb hby at_87) k_) ?_
    show own_Go p e below _ (T158.setTop (mkF m 88 #[.val (.int k), .val (.ref b3), .val (.ref w5), .val (.int (1 : Int32))] [(.int (1 : Int32))]))
    refine own_st (fun u_ k_ => XS.goto X158.here hx rfl (pc0 := 88) (pc' := 92) rfl (hb hby at_88) (by decide) (by decide) k_) ?_
    show own_Go p e below _ (T158.setTop (mkF m 92 #[.val (.int k), .val (.ref b3), .val (.ref w5), .val (.int (1 : Int32))] [(.int (1 : Int32))]))
    have K160 : Keep h0 h3 [] := (Keep.refl h0 []).ext E3
    have z162 : h0.size ≤ b3 := Nat.le_trans (Nat.le_refl _) (Nat.le_of_eq g3.symm)
    have K161 : Keep h0 h9 [] := K160.wr W9 (Or.inr z162)
    have K163 : Keep h0 h16 [] := K161.wr W16 (Or.inr z162)
    have K164 : Keep h0 h22 [] := K163.wr W22 (Or.inr z162)
    have K165 : Keep h0 h28 [] := K164.wr W28 (Or.inr z162)
    have K166 : Keep h0 h34 [] := K165.wr W34 (Or.inr z162)
    have K167 : Keep h0 h40 [] := K166.wr W40 (Or.inr z162)
    have K168 : Keep h0 h46 [] := K167.wr W46 (Or.inr z162)
    exact own_retX X158 hx hlk hret rfl (Or.inl ⟨rfl, by simp, _, rfl⟩) (hb hby at_92) (by decide) (by decide) (show Qrm0 Z w0 w1 w2 w3 w4 w5 w6 k h0 n0 (some (.int (1 : Int32))) T158.heap _ from (by rw [e158]; exact ⟨rfl, N158, K168⟩))
  · rw [hj]
    show own_Go p e below _ (T46.setTop (mkF m 57 #[.val (.int k), .val (.ref b3), .unset, .unset] [(.int (6 : Int32)), (.ref b3)]))
    obtain ⟨cl169, Ar169, q169, S169, N169, H169, G169⟩ := id V46
    have hi169 : ¬ ((6 : Int32) < 0 ∨ cl169.slots.size ≤ ((6 : Int32)).toNatClampNeg) := inb_of S169 ⟨by decide, by decide⟩
    have ha169 : cl169.slots[((6 : Int32)).toNatClampNeg]? = some (.ref w6) := H169.at hi169 rfl
    refine own_st (X46.aaload hx (j := (6 : Int32)) (v := (.ref w6)) (by rw [e46]; exact Ar169.1) (State.isArrayOf_alike hZ.alike Ar169.2.1) rfl Ar169.2.2 hi169 ha169 (g := (mkF m 57 #[.val (.int k), .val (.ref b3), .unset, .unset] [(.int (6 : Int32)), (.ref b3)])) rfl rfl (hb hby at_57)) ?_
    show own_Go p e below _ (T46.setTop (mkF m 58 #[.val (.int k), .val (.ref b3), .unset, .unset] [(.ref w6)]))
    refine own_st (fun u_ k_ => XS.astoreN X46.here hx rfl (hb hby at_58) rfl rfl (l' := #[.val (.int k), .val (.ref b3), .val (.ref w6), .unset]) rfl k_) ?_
    show own_Go p e below _ (T46.setTop (mkF m 59 #[.val (.int k), .val (.ref b3), .val (.ref w6), .unset] []))
    refine own_st (fun u_ k_ => XS.aloadN X46.here hx rfl (hb hby at_59) rfl rfl k_) ?_
    show own_Go p e below _ (T46.setTop (mkF m 60 #[.val (.int k), .val (.ref b3), .val (.ref w6), .unset] [(.ref w6)]))
    have O170 : Old Z n0 h46 := O41.wr W46 g10
    have F171 : Sta Z h46 "com/example/spulenwerk/spulenwerk/registry/Event$Kind" "MERGED" "Lcom/example/spulenwerk/spulenwerk/registry/Event$Kind;" (.ref w5) := Sta.ext O170.2 hS.2.2.2.2.2.2.2.2.2.2.1
    obtain ⟨T172, X172, e172, st172⟩ := getS2 X46 hx hZ hown (host := "") (Or.inl (hw _ (List.mem_of_getElem? (i := 14) rfl))) Via.refl e46 F171 (g := (mkF m 60 #[.val (.int k), .val (.ref b3), .val (.ref w6), .unset] [(.ref w6)])) rfl (hb hby at_60)
    refine own_st (fun u_ k_ => st172 u_ k_) ?_
    show own_Go p e below _ (T172.setTop (mkF m 63 #[.val (.int k), .val (.ref b3), .val (.ref w6), .unset] [(.ref w5), (.ref w6)]))
    have F173 : Fld Z h46 w6 "java/lang/Enum" "ordinal" "I" (.int (6 : Int32)) := Fld.ext O170.2 hS.2.2.2.2.2.2.2.2.2.2.2.2.2.2.2.2.1
    have F174 : Fld Z h46 w5 "java/lang/Enum" "ordinal" "I" (.int (5 : Int32)) := Fld.ext O170.2 hS.2.2.2.2.2.2.2.2.2.2.2.2.2.2.2.1
    refine own_st (fun u_ k_ => XT.acmpNo X172.here hx rfl (hb hby at_63) rfl rfl rfl (XT.aa_eq_f (own_rne (Fld.ne F173 F174 (by decide)))) k_) ?_
    show own_Go p e below _ (T172.setTop (mkF m 66 #[.val (.int k), .val (.ref b3), .val (.ref w6), .unset] []))
    refine own_st (fun u_ k_ => XS.aloadN X172.here hx rfl (hb hby at_66) rfl rfl k_) ?_
    show own_Go p e below _ (T172.setTop (mkF m 67 #[.val (.int k), .val (.ref b3), .val (.ref w6), .unset] [(.ref w6)]))
    have F175 : Sta Z h46 "com/example/spulenwerk/spulenwerk/registry/Event$Kind" "SPLIT" "Lcom/example/spulenwerk/spulenwerk/registry/Event$Kind;" (.ref w6) := Sta.ext O170.2 hS.2.2.2.2.2.2.2.2.2.2.2.2.1
    obtain ⟨T176, X176, e176, st176⟩ := getS2 X172 hx hZ hown (host := "") (Or.inl (hw _ (List.mem_of_getElem? (i := 16) rfl))) Via.refl e172 F175 (g := (mkF m 67 #[.val (.int k), .val (.ref b3), .val (.ref w6), .unset] [(.ref w6)])) rfl (hb hby at_67)
    refine own_st (fun u_ k_ => st176 u_ k_) ?_
    show own_Go p e below _ (T176.setTop (mkF m 70 #[.val (.int k), .val (.ref b3), .val (.ref w6), .unset] [(.ref w6), (.ref w6)]))
    refine own_st (fun u_ k_ => XT.acmpNo X176.here hx rfl (hb hby at_70) rfl rfl rfl (XT.aa_ne_f rfl) k_) ?_
    show own_Go p e below _ (T176.setTop (mkF m 73 #[.val (.int k), .val (.ref b3), .val (.ref w6), .unset] []))
    refine own_st (fun u_ k_ => XS.iconst X176.here hx rfl (hb hby at_73) k_) ?_
    show own_Go p e below _ (T176.setTop (mkF m 74 #[.val (.int k), .val (.ref b3), .val (.ref w6), .unset] [(.int (1 : Int32))]))
    refine own_st (fun u_ k_ => XS.goto X176.here hx rfl (pc0 := 74) (pc' := 78) rfl (hb hby at_74) (by decide) (by decide) k_) ?_
    show own_Go p e below _ (T176.setTop (mkF m 78 #[.val (.int k), .val (.ref b3), .val (.ref w6), .unset] [(.int (1 : Int32))]))
    refine own_st (fun u_ k_ => XS.istoreN X176.here hx rfl (hb hby at_78) rfl (l' := #[.val (.int k), .val (.ref b3), .val (.ref w6), .val (.int (1 : Int32))]) rfl k_) ?_
    show own_Go p e below _ (T176.setTop (mkF m 79 #[.val (.int k), .val (.ref b3), .val (.ref w6), .val (.int (1 : Int32))] []))
    refine own_st (fun u_ k_ => XS.aloadN X176.here hx rfl (hb hby at_79) rfl rfl k_) ?_
    show own_Go p e below _ (T176.setTop (mkF m 80 #[.val (.int k), .val (.ref b3), .val (.ref w6), .val (.int (1 : Int32))] [(.ref w6)]))
    have F177 : Fld Z h46 w6 "com/example/spulenwerk/spulenwerk/registry/Event$Kind" "successors" "I" (.int (2 : Int32)) := Fld.ext O170.2 hS.2.2.2.2.2.2.2.2.2.2.2.2.2.2.2.2.2.2.2.2.2.1
    have F179 : Exa Z h46 w6 "com/example/spulenwerk/spulenwerk/registry/Event$Kind" := Exa.ext O170.2 hS.2.2.2.2.2.2.2.2.2.2.2.2.2.1
    obtain ⟨T178, v178, L178, X178, hQ178, st178⟩ := own_callV X176 hx hZ (y := (⟨"com/example/spulenwerk/spulenwerk/registry/Event$Kind", "replacesWork", "()Z"⟩ : MethodName)) (z := (⟨"com/example/spulenwerk/spulenwerk/registry/Event$Kind", "replacesWork", "()Z"⟩ : MethodName)) hown (hw _ (List.mem_of_getElem? (i := 19) rfl)) (hw _ (List.mem_of_getElem? (i := 20) rfl)) (notFace_of_selects (args := #[]) (mvT hZ (hw _ (List.mem_of_getElem? (i := 22) rfl)))) (hw _ (List.mem_of_getElem? (i := 22) rfl)) (hw _ (List.mem_of_getElem? (i := 21) rfl)) (hw _ (List.mem_of_getElem? (i := 3) rfl)) (hw _ (List.mem_of_getElem? (i := 23) rfl)) (by decide) (rm1 l Z a0 hw [] w0 w1 w2 w3 w4 w5 w6 hS w6 (2 : Int32) h46 n0 O170 F177) e176 F179 own_pd_8 (argsL := []) (rest := []) rfl rfl (g := (mkF m 80 #[.val (.int k), .val (.ref b3), .val (.ref w6), .val (.int (1 : Int32))] [(.ref w6)])) rfl (by rw [hml]; rfl) rfl (hb hby at_80) (W := 0) rfl (by decide) (by decide) (by decide) (by decide)
    obtain ⟨rfl, M178, e178⟩ := hQ178
    have N178 := Fr.app N46 M178
    refine own_st (fun u_ k_ => st178 u_ k_) ?_
    show own_Go p e below _ (T178.setTop (mkF m 83 #[.val (.int k), .val (.ref b3), .val (.ref w6), .val (.int (1 : Int32))] [(.int (if 0 < (2 : Int32) then 1 else 0))]))
    refine own_st (fun u_ k_ => XS.iloadN X178.here hx rfl (hb hby at_83) rfl k_) ?_
    show own_Go p e below _ (T178.setTop (mkF m 84 #[.val (.int k), .val (.ref b3), .val (.ref w6), .val (.int (1 : Int32))] [(.int (1 : Int32)), (.int (if 0 < (2 : Int32) then 1 else 0))]))
    refine own_st (fun u_ k_ => XS.icmpNo X178.here hx rfl (hb hby at_84) rfl (XT.ii_ne_f (by decide)) k_) ?_
    show own_Go p e below _ (T178.setTop (mkF m 87 #[.val (.int k), .val (.ref b3), .val (.ref w6), .val (.int (1 : Int32))] []))
    refine own_st (fun u_ k_ => XS.iconst X178.here hx rfl (hb hby at_87) k_) ?_
    show own_Go p e below _ (T178.setTop (mkF m 88 #[.val (.int k), .val (.ref b3), .val (.ref w6), .val (.int (1 : Int32))] [(.int (1 : Int32))]))
    refine own_st (fun u_ k_ => XS.goto X178.here hx rfl (pc0 := 88) (pc' := 92) rfl (hb hby at_88) (by decide) (by decide) k_) ?_
    show own_Go p e below _ (T178.setTop (mkF m 92 #[.val (.int k), .val (.ref b3), .val (.ref w6), .val (.int (1 : Int32))] [(.int (1 : Int32))]))
    have K180 : Keep h0 h3 [] := (Keep.refl h0 []).ext E3
    have z182 : h0.size ≤ b3 := Nat.le_trans (Nat.le_refl _) (Nat.le_of_eq g3.symm)
    have K181 : Keep h0 h9 [] := K180.wr W9 (Or.inr z182)
    have K183 : Keep h0 h16 [] := K181.wr W16 (Or.inr z182)
    have K184 : Keep h0 h22 [] := K183.wr W22 (Or.inr z182)
    have K185 : Keep h0 h28 [] := K184.wr W28 (Or.inr z182)
    have K186 : Keep h0 h34 [] := K185.wr W34 (Or.inr z182)
    have K187 : Keep h0 h40 [] := K186.wr W40 (Or.inr z182)
    have K188 : Keep h0 h46 [] := K187.wr W46 (Or.inr z182)
    exact own_retX X178 hx hlk hret rfl (Or.inl ⟨rfl, by simp, _, rfl⟩) (hb hby at_92) (by decide) (by decide) (show Qrm0 Z w0 w1 w2 w3 w4 w5 w6 k h0 n0 (some (.int (1 : Int32))) T178.heap _ from (by rw [e178]; exact ⟨rfl, N178, K188⟩))
set_option maxRecDepth 65536 in
set_option maxHeartbeats 40000000 in
theorem comes_1 {Post : Tables → Env → Array Value → State → Outcome → State → Prop} (hpost : ∀ tb e args s v u, (limb_1_1.after args s (.returned v) u = true ∧ limb_1_2.after args s (.returned v) u = true ∧ True) → FrameEnd s (.returned v) u (Jvm.fieldLocs frame_1_writes args s ++ Jvm.arrayLocs frame_1_arrays args s ++ Jvm.staticLocs frame_1_statics s) 16 128 → Post tb e args s (.returned v) u) :
    ArmFor flags0 classFile x code maxLocals ret World_1 tables_1 room_1 Calls_1 rest_1 Pre_1 Post := by
  intro l hfl _ _ p e ha hc hk s m args below hf hA hF happ hP
  obtain ⟨hcalls, hrest, hpre⟩ := hP
  obtain ⟨-, -, -, hnamed, -, -, -, hat⟩ := (Spec.applies_iff hf).mp happ
  obtain ⟨hg, hn⟩ := and_e (Cond.before_iff.mp (show (Jvm.Cond.and given_1 narrow_1).before args s = true from hpre))
  obtain ⟨hcount, hr0⟩ := and_e hg
  have ha0 := hr0
  obtain ⟨w_0, rfl⟩ : ∃ w_0 : Value, args = #[w_0] := by
    have hs : args.size = 1 := by simpa [Cond.value, given_1] using hcount
    obtain ⟨L⟩ := args
    match L, hs with
    | [w_0], _ => exact ⟨w_0, rfl⟩
  have hw := fun d (hd : d ∈ tables_1) => atoms_spec (ws := Jvm.Cond.code x code maxLocals ret :: tables_1) hat d (List.mem_cons_of_mem _ hd)
  have hfit : Fit s := fun {y c} hc i hi => by
    obtain ⟨ha, rfl⟩ := Array.getElem?_eq_some_iff.mp hc
    have q := List.all_eq_true.mp ((Array.all_eq_true_iff_forall_mem.mp hF) _ (Array.getElem_mem ha)) i (List.mem_range.mpr hi)
    simpa [Array.getElem?_eq_getElem hi] using q
  obtain ⟨i_0, ei_0⟩ := is_v ha0
  obtain rfl : w_0 = (.int i_0) := Option.some.inj ei_0
  obtain ⟨hl0, hn0⟩ := and_e hn
  obtain ⟨hl1, hn1⟩ := and_e hn0
  obtain ⟨hl2, hn2⟩ := and_e hn1
  obtain ⟨hl3, hn3⟩ := and_e hn2
  obtain ⟨hl4, hn4⟩ := and_e hn3
  obtain ⟨hl5, hn5⟩ := and_e hn4
  obtain ⟨hl6, hn6⟩ := and_e hn5
  obtain ⟨hl7, hn7⟩ := and_e hn6
  obtain ⟨hl8, hn8⟩ := and_e hn7
  obtain ⟨hl9, hn9⟩ := and_e hn8
  obtain ⟨hl10, hn10⟩ := and_e hn9
  obtain ⟨hl11, hn11⟩ := and_e hn10
  obtain ⟨hl12, hn12⟩ := and_e hn11
  obtain ⟨hl13, hn13⟩ := and_e hn12
  obtain ⟨hl14, hn14⟩ := and_e hn13
  obtain ⟨hl15, hn15⟩ := and_e hn14
  obtain ⟨hl16, hn16⟩ := and_e hn15
  obtain ⟨hl17, hn17⟩ := and_e hn16
  obtain ⟨hl18, hn18⟩ := and_e hn17
  obtain ⟨hl19, hn19⟩ := and_e hn18
  have hl20 := hn19
  obtain ⟨w0, e_w0⟩ := exa_v hl0
  obtain ⟨w1, e_w1⟩ := exa_v hl1
  obtain ⟨w2, e_w2⟩ := exa_v hl2
  obtain ⟨w3, e_w3⟩ := exa_v hl3
  obtain ⟨w4, e_w4⟩ := exa_v hl4
  obtain ⟨w5, e_w5⟩ := exa_v hl5
  obtain ⟨w6, e_w6⟩ := exa_v hl6
  have hS : own_S s w0 w1 w2 w3 w4 w5 w6 := ⟨(Sta.start e_w0 (Or.inr ⟨(hw _ (List.mem_of_getElem? (i := 3) rfl)), (hw _ (List.mem_of_getElem? (i := 4) rfl))⟩)), (Exa.start e_w0 hl0), (Sta.start e_w1 (Or.inr ⟨(hw _ (List.mem_of_getElem? (i := 3) rfl)), (hw _ (List.mem_of_getElem? (i := 7) rfl))⟩)), (Exa.start e_w1 hl1), (Sta.start e_w2 (Or.inr ⟨(hw _ (List.mem_of_getElem? (i := 3) rfl)), (hw _ (List.mem_of_getElem? (i := 9) rfl))⟩)), (Exa.start e_w2 hl2), (Sta.start e_w3 (Or.inr ⟨(hw _ (List.mem_of_getElem? (i := 3) rfl)), (hw _ (List.mem_of_getElem? (i := 11) rfl))⟩)), (Exa.start e_w3 hl3), (Sta.start e_w4 (Or.inr ⟨(hw _ (List.mem_of_getElem? (i := 3) rfl)), (hw _ (List.mem_of_getElem? (i := 13) rfl))⟩)), (Exa.start e_w4 hl4), (Sta.start e_w5 (Or.inr ⟨(hw _ (List.mem_of_getElem? (i := 3) rfl)), (hw _ (List.mem_of_getElem? (i := 15) rfl))⟩)), (Exa.start e_w5 hl5), (Sta.start e_w6 (Or.inr ⟨(hw _ (List.mem_of_getElem? (i := 3) rfl)), (hw _ (List.mem_of_getElem? (i := 17) rfl))⟩)), (Exa.start e_w6 hl6), (own_fldI e_w0 hl7), (own_fldI e_w5 hl8), (own_fldI e_w6 hl9), (own_fldI e_w0 hl10), (own_fldI e_w3 hl11), (own_fldI e_w3 hl12), (own_fldI e_w5 hl13), (own_fldI e_w6 hl14), (own_fldI e_w4 hl15), (own_fldI e_w4 hl16), (own_fldI e_w2 hl17), (own_fldI e_w2 hl18), (own_fldI e_w1 hl19), (own_fldI e_w1 hl20)⟩
  obtain ⟨n, o, h1, h2, h3, _, L, rfl, ⟨rfl, N, _⟩, hq⟩ := rm0 l s _ hw tables_1 w0 w1 w2 w3 w4 w5 w6 hS i_0 s.heap s.heap.size (Old.start s) p e ha hc hk s m _ below hf ((Spec.applies_iff_loose hf).mp happ).1 ⟨rfl, State.Warmed39.refl s, rfl⟩ trivial
  refine ⟨n, _, h1, h2, h3, hpost _ _ _ _ _ _ ⟨Cond.after_iff.mpr rfl, Cond.after_iff.mpr (eq_i res_at (Term.int_eval (1)) rfl), trivial⟩ ⟨hq.1, hq.2.1, (hq.2.2.sift fun y hy => Or.inr (N y hy)).mono (by decide) (by decide)⟩⟩
theorem main_1_1 : Claimed_1_1 := comes_1 fun _ _ _ _ _ _ h hF => ⟨h.1, hF⟩
theorem main_1_2 : Claimed_1_2 := comes_1 fun _ _ _ _ _ _ h hF => ⟨h.2.1, hF⟩
end Jvm.Pilot.@@N@@
namespace Jvm.Pilot.@@N@@
open Jvm Jvm.ClassFile Sem Op Lib Jvm.Free Jvm.Stand Jvm.Pilot.@@N@@.Jvm.D
/-! MADE BY PROGRAM (witnessworld.py) out of the Statement's table words and the real class files: 13 classes; the members and pool entries that the words name. The judged class is class 1, her method 1. -/
namespace start1
open Jvm.ClassFile
def u (s : String) : CpInfo := .utf8 (stringToUtf16 s)
/-- a pool by its gaps: so many unusable entries, then the entry; so many at the end -/
def gap : Nat → List CpInfo → List CpInfo
  | 0, r => r
  | n + 1, r => .unusable :: gap n r
def poolList (es : List (Nat × CpInfo)) (last : Nat) : List CpInfo := es.foldr (fun e r => gap e.1 (e.2 :: r)) (gap last [])
def pool (es : List (Nat × CpInfo)) (last : Nat) : Array CpInfo := ⟨poolList es last⟩
def fileOf (pool : Array CpInfo) (this : Nat) (attrs : Array Attribute := #[]) (ms : Array MethodInfo := #[]) (fl : Nat := 33) (sup : Nat := 0) (ifs : Array Nat := #[]) (fds : Array FieldInfo := #[]) : ClassFile where
  minorVersion := 0
  majorVersion := 65
  constantPool := pool
  accessFlags := fl
  thisClass := this
  superClass := sup
  interfaces := ifs
  fields := fds
  methods := ms
  attributes := attrs
def plain (name : String) (sup : Option ClassId) : Class where
  name := name
  kind := .ordinary
  loader := none
  accessFlags := 33
  super := sup
  interfaces := #[]
  cf := none
  fields := #[]
  methods := #[]
  instanceTypes := #[]
  staticTypes := #[]
  resolved := #[]
  callSites := []
  init := .initialized
  statics := none
  mirror := none

def pool0 : Array CpInfo := pool [(5, u "<init>"), (0, u "()V"), (1, .class_ 10), (1, u "java/lang/Object")] 113

def k0m0 : Method := { name := "<init>", desc := "()V", sig := { parameters := [], returnType := none }, accessFlags := 1, code := none }
/-- java/lang/Object -/
def k0 : Class := { plain "java/lang/Object" none with
  accessFlags := 33
  interfaces := #[]
  cf := some (fileOf pool0 8 #[] #[{ accessFlags := 1, nameIndex := 5, descriptorIndex := 6, attributes := #[] }] 33 0 #[] #[])
  fields := #[]
  methods := #[k0m0]
  instanceTypes := #[]
  staticTypes := #[]
  resolved := Array.replicate 124 none
  statics := none }

def pool1 : Array CpInfo := pool [(2, .class_ 4), (1, u "java/lang/Object"), (0, u "<init>"), (0, u "()V"), (0, .class_ 8), (0, u "com/example/spulenwerk/spulenwerk/registry/Event$Kind"), (0, .fieldref 7 10), (0, .nameAndType 11 12), (0, u "CREATED"), (0, u "Lcom/example/spulenwerk/spulenwerk/registry/Event$Kind;"), (0, .fieldref 7 14), (0, .nameAndType 15 12), (0, u "MATCHED"), (0, .fieldref 7 17), (0, .nameAndType 18 12), (0, u "UNCHANGED"), (0, .fieldref 7 20), (0, .nameAndType 21 12), (0, u "UPDATED"), (0, .fieldref 7 23), (0, .nameAndType 24 12), (0, u "REFUSED"), (0, .fieldref 7 26), (0, .nameAndType 27 12), (0, u "MERGED"), (0, .fieldref 7 29), (0, .nameAndType 30 12), (0, u "SPLIT"), (0, .integer 2147483647), (0, .methodref 7 33), (0, .nameAndType 34 35), (0, u "replacesWork"), (0, u "()Z"), (0, .class_ 37), (0, u "com/example/spulenwerk/spulenwerk/registry/KindReplacesWorkPinLaw"), (2, u "law"), (0, u "(I)Z")] 9

def k1m0 : Method := { name := "<init>", desc := "()V", sig := { parameters := [], returnType := none }, accessFlags := 1, code := none }
def k1c1 : Code := { maxStack := 4, maxLocals := 4, code := code, exceptionTable := #[], attributes := #[] }
def k1m1 : Method := { name := "law", desc := "(I)Z", sig := { parameters := [.int], returnType := some .boolean }, accessFlags := 9, code := some k1c1 }
/-- com/example/spulenwerk/spulenwerk/registry/KindReplacesWorkPinLaw -/
def k1 : Class := { plain "com/example/spulenwerk/spulenwerk/registry/KindReplacesWorkPinLaw" (some 0) with
  accessFlags := 49
  interfaces := #[]
  cf := some (fileOf pool1 36 #[] #[{ accessFlags := 1, nameIndex := 5, descriptorIndex := 6, attributes := #[] }, { accessFlags := 9, nameIndex := 40, descriptorIndex := 41, attributes := #[] }] 49 2 #[] #[])
  fields := #[]
  methods := #[k1m0, k1m1]
  instanceTypes := #[]
  staticTypes := #[]
  resolved := Array.replicate 51 none
  statics := none }

def pool2 : Array CpInfo := pool [(1, .class_ 2), (0, u "java/lang/constant/Constable"), (0, .class_ 4), (0, u "java/lang/Object")] 6

/-- java/lang/constant/Constable -/
def k2 : Class := { plain "java/lang/constant/Constable" (some 0) with
  accessFlags := 1537
  interfaces := #[]
  cf := some (fileOf pool2 1 #[] #[] 1537 3 #[] #[])
  fields := #[]
  methods := #[]
  instanceTypes := #[]
  staticTypes := #[]
  resolved := Array.replicate 11 none
  statics := none }

def pool3 : Array CpInfo := pool [(1, .class_ 2), (0, u "java/lang/Comparable"), (0, .class_ 4), (0, u "java/lang/Object")] 7

/-- java/lang/Comparable -/
def k3 : Class := { plain "java/lang/Comparable" (some 0) with
  accessFlags := 1537
  interfaces := #[]
  cf := some (fileOf pool3 1 #[] #[] 1537 3 #[] #[])
  fields := #[]
  methods := #[]
  instanceTypes := #[]
  staticTypes := #[]
  resolved := Array.replicate 12 none
  statics := none }

def pool4 : Array CpInfo := pool [(1, .class_ 2), (0, u "java/io/Serializable"), (0, .class_ 4), (0, u "java/lang/Object")] 2

/-- java/io/Serializable -/
def k4 : Class := { plain "java/io/Serializable" (some 0) with
  accessFlags := 1537
  interfaces := #[]
  cf := some (fileOf pool4 1 #[] #[] 1537 3 #[] #[])
  fields := #[]
  methods := #[]
  instanceTypes := #[]
  staticTypes := #[]
  resolved := Array.replicate 7 none
  statics := none }

def pool5 : Array CpInfo := pool [(2, .class_ 4), (1, u "java/lang/Enum"), (0, u "name"), (0, u "Ljava/lang/String;"), (2, u "ordinal"), (0, u "I"), (1, .class_ 14), (1, u "java/lang/Object"), (4, u "hash"), (86, .class_ 108), (1, u "java/lang/Enum$EnumDesc"), (2, .class_ 112), (0, u "java/lang/constant/Constable"), (0, .class_ 114), (0, u "java/lang/Comparable"), (0, .class_ 116), (0, u "java/io/Serializable")] 87

/-- java/lang/Enum -/
def k5 : Class := { plain "java/lang/Enum" (some 0) with
  accessFlags := 1057
  interfaces := #[2, 3, 4]
  cf := some (fileOf pool5 2 #[.nestMembers #[106]] #[] 1057 12 #[111, 113, 115] #[{ accessFlags := 18, nameIndex := 5, descriptorIndex := 6, attributes := #[] }, { accessFlags := 18, nameIndex := 9, descriptorIndex := 10, attributes := #[] }, { accessFlags := 2, nameIndex := 19, descriptorIndex := 10, attributes := #[] }])
  fields := #[{ name := "name", type := (.object "java/lang/String"), accessFlags := 18, slot := 0, constantValue := 0 }, { name := "ordinal", type := .int, accessFlags := 18, slot := 1, constantValue := 0 }, { name := "hash", type := .int, accessFlags := 2, slot := 2, constantValue := 0 }]
  methods := #[]
  instanceTypes := #[(.object "java/lang/String"), .int, .int]
  staticTypes := #[]
  resolved := Array.replicate 204 none
  statics := none }

def pool6 : Array CpInfo := pool [(1, .class_ 2), (0, u "com/example/spulenwerk/spulenwerk/registry/Event$Kind"), (2, u "CREATED"), (0, u "Lcom/example/spulenwerk/spulenwerk/registry/Event$Kind;"), (2, u "MATCHED"), (2, u "UNCHANGED"), (2, u "UPDATED"), (2, u "REFUSED"), (2, u "MERGED"), (2, u "SPLIT"), (2, u "$VALUES"), (0, u "[Lcom/example/spulenwerk/spulenwerk/registry/Event$Kind;"), (6, .class_ 37), (1, u "java/lang/Enum"), (8, u "stores"), (0, u "Z"), (0, .fieldref 1 49), (0, .nameAndType 50 51), (0, u "successors"), (0, u "I"), (56, u "()Z"), (1, u "replacesWork"), (9, .class_ 121), (0, u "com/example/spulenwerk/spulenwerk/registry/Event")] 2

def k6c0 : Code := { maxStack := 1, maxLocals := 1, code := prog_25_method_6_code, exceptionTable := #[], attributes := #[] }
def k6m0 : Method := { name := "replacesWork", desc := "()Z", sig := { parameters := [], returnType := some .boolean }, accessFlags := 1, code := some k6c0 }
/-- com/example/spulenwerk/spulenwerk/registry/Event$Kind -/
def k6 : Class := { plain "com/example/spulenwerk/spulenwerk/registry/Event$Kind" (some 5) with
  accessFlags := 16433
  interfaces := #[]
  cf := some (fileOf pool6 1 #[.nestHost 120] #[{ accessFlags := 1, nameIndex := 110, descriptorIndex := 108, attributes := #[] }] 16433 35 #[] #[{ accessFlags := 16409, nameIndex := 5, descriptorIndex := 6, attributes := #[] }, { accessFlags := 16409, nameIndex := 9, descriptorIndex := 6, attributes := #[] }, { accessFlags := 16409, nameIndex := 12, descriptorIndex := 6, attributes := #[] }, { accessFlags := 16409, nameIndex := 15, descriptorIndex := 6, attributes := #[] }, { accessFlags := 16409, nameIndex := 18, descriptorIndex := 6, attributes := #[] }, { accessFlags := 16409, nameIndex := 21, descriptorIndex := 6, attributes := #[] }, { accessFlags := 16409, nameIndex := 24, descriptorIndex := 6, attributes := #[] }, { accessFlags := 18, nameIndex := 46, descriptorIndex := 47, attributes := #[] }, { accessFlags := 18, nameIndex := 50, descriptorIndex := 51, attributes := #[] }, { accessFlags := 4122, nameIndex := 27, descriptorIndex := 28, attributes := #[] }])
  fields := #[{ name := "CREATED", type := (.object "com/example/spulenwerk/spulenwerk/registry/Event$Kind"), accessFlags := 16409, slot := 0, constantValue := 0 }, { name := "MATCHED", type := (.object "com/example/spulenwerk/spulenwerk/registry/Event$Kind"), accessFlags := 16409, slot := 1, constantValue := 0 }, { name := "UNCHANGED", type := (.object "com/example/spulenwerk/spulenwerk/registry/Event$Kind"), accessFlags := 16409, slot := 2, constantValue := 0 }, { name := "UPDATED", type := (.object "com/example/spulenwerk/spulenwerk/registry/Event$Kind"), accessFlags := 16409, slot := 3, constantValue := 0 }, { name := "REFUSED", type := (.object "com/example/spulenwerk/spulenwerk/registry/Event$Kind"), accessFlags := 16409, slot := 4, constantValue := 0 }, { name := "MERGED", type := (.object "com/example/spulenwerk/spulenwerk/registry/Event$Kind"), accessFlags := 16409, slot := 5, constantValue := 0 }, { name := "SPLIT", type := (.object "com/example/spulenwerk/spulenwerk/registry/Event$Kind"), accessFlags := 16409, slot := 6, constantValue := 0 }, { name := "stores", type := .boolean, accessFlags := 18, slot := 3, constantValue := 0 }, { name := "successors", type := .int, accessFlags := 18, slot := 4, constantValue := 0 }, { name := "$VALUES", type := (.array (.object "com/example/spulenwerk/spulenwerk/registry/Event$Kind")), accessFlags := 4122, slot := 7, constantValue := 0 }]
  methods := #[k6m0]
  instanceTypes := #[(.object "java/lang/String"), .int, .int, .boolean, .int]
  staticTypes := #[(.object "com/example/spulenwerk/spulenwerk/registry/Event$Kind"), (.object "com/example/spulenwerk/spulenwerk/registry/Event$Kind"), (.object "com/example/spulenwerk/spulenwerk/registry/Event$Kind"), (.object "com/example/spulenwerk/spulenwerk/registry/Event$Kind"), (.object "com/example/spulenwerk/spulenwerk/registry/Event$Kind"), (.object "com/example/spulenwerk/spulenwerk/registry/Event$Kind"), (.object "com/example/spulenwerk/spulenwerk/registry/Event$Kind"), (.array (.object "com/example/spulenwerk/spulenwerk/registry/Event$Kind"))]
  resolved := Array.replicate 124 none
  statics := some 0 }

def pool7 : Array CpInfo := pool [(1, u "java/lang/Cloneable"), (0, .class_ 1), (0, u "java/lang/Object"), (0, .class_ 3)] 3

/-- java/lang/Cloneable -/
def k7 : Class := { plain "java/lang/Cloneable" (some 0) with
  accessFlags := 1537
  interfaces := #[]
  cf := some (fileOf pool7 2 #[] #[] 1537 4 #[] #[])
  fields := #[]
  methods := #[]
  instanceTypes := #[]
  staticTypes := #[]
  resolved := Array.replicate 8 none
  statics := none }

/-- the primitive byte -/
def k8 : Class := { plain "byte" none with kind := .primitive 'B', accessFlags := 0x411 }
/-- [B -/
def k9 : Class := { plain "[B" (some 0) with kind := .array 8 .byte, interfaces := #[7, 4], accessFlags := 1041 }

/-- the primitive int -/
def k10 : Class := { plain "int" none with kind := .primitive 'I', accessFlags := 0x411 }
/-- [I -/
def k11 : Class := { plain "[I" (some 0) with kind := .array 10 .int, interfaces := #[7, 4], accessFlags := 1041 }

/-- [Lcom/example/spulenwerk/spulenwerk/registry/Event$Kind; -/
def k12 : Class := { plain "[Lcom/example/spulenwerk/spulenwerk/registry/Event$Kind;" (some 0) with kind := .array 6 (.object "com/example/spulenwerk/spulenwerk/registry/Event$Kind"), interfaces := #[7, 4], accessFlags := 1041 }

def heap : Heap := #[{ cls := 6, slots := #[.ref 1, .ref 2, .ref 3, .ref 4, .ref 5, .ref 6, .ref 7, .null], vm := .statics 6 },
  { cls := 6, slots := #[.null, .int 0, .int 0, .int 0, .int 0], vm := .none },
  { cls := 6, slots := #[.null, .int 1, .int 0, .int 0, .int 0], vm := .none },
  { cls := 6, slots := #[.null, .int 2, .int 0, .int 0, .int 0], vm := .none },
  { cls := 6, slots := #[.null, .int 3, .int 0, .int 0, .int 0], vm := .none },
  { cls := 6, slots := #[.null, .int 4, .int 0, .int 0, .int 0], vm := .none },
  { cls := 6, slots := #[.null, .int 5, .int 0, .int 0, .int 1], vm := .none },
  { cls := 6, slots := #[.null, .int 6, .int 0, .int 0, .int 2], vm := .none }]
def classes : Array Class := #[k0, k1, k2, k3, k4, k5, k6, k7, k8, k9, k10, k11, k12]
def interned : List (Array UInt16 × Addr) := []
def slotsUsed : Nat := 43
def theMethod : MethodId := ⟨1, 1⟩
def args0 : Array Value := #[.int 5]
def aboutOver (below : List Frame) : State where
  vm := { classes := classes, interned := interned.toArray }
  heap := heap
  slotsUsed := slotsUsed
  threads := #[{ frames := .invoking theMethod args0 :: below }]
def below0 : List Frame := [.native { method := ⟨0, 0⟩, args := #[] }]
def about1 : State := aboutOver below0
def p0 : Program := .bare "" "" ""
def e0 : Env := launch0.env 0 0 0
theorem w_frames : about1.frames = Frame.invoking theMethod args0 :: below0 := rfl
set_option maxRecDepth 65536 in
theorem w_args : argsFit about1.vm theMethod args0 = true := by decide +kernel
set_option maxRecDepth 65536 in
theorem w_heap : heapFits about1 = true := by decide +kernel
set_option maxRecDepth 65536 in
theorem w_runnable : about1.curStatus? = some .runnable := by decide +kernel
set_option maxRecDepth 65536 in
theorem w_alone : about1.alone = true := by decide +kernel
set_option maxRecDepth 65536 in
theorem w_named : about1.methodNamed? x = some theMethod := by decide +kernel
set_option maxRecDepth 65536 in
theorem w_hears : about1.hears theMethod below0 = true := by decide +kernel
set_option maxRecDepth 65536 in
theorem w_ripe : about1.ripe theMethod args0 below0 = true := by decide +kernel
theorem w_running : about1.status = .running := rfl
set_option maxRecDepth 65536 in
theorem w_room : about1.hasRoom e0.platform room_1 = true :=
  launch0.hasRoom_least _ room_1 (by decide +kernel) (by decide +kernel) (by decide +kernel) (by decide +kernel) (by decide +kernel) (by decide +kernel)
theorem allAtoms_all (ts : List Jvm.Cond) (a : Array Jvm.Value) (st : Jvm.State) : (allAtoms ts).before a st = ts.all (fun c => c.before a st) := by
  induction ts with
  | nil => rfl
  | cons c t ih =>
    show (Jvm.Cond.and c (allAtoms t)).before a st = _
    rw [Jvm.Cond.before_and, ih, List.all_cons]
def words1 : List Jvm.Cond := Jvm.Cond.code x code maxLocals ret :: tables_1
/-- a 'code' word, met by the world's own term for the bytes: nothing is compared byte by byte -/
theorem code_word {y : MethodName} {bytes : ByteArray} {mx : Nat} {rt : Option FieldType} {a : Array Value} {s : State} {m : MethodId} {meth : Method} {c : Code} (h1 : s.methodNamed? y = some m) (h2 : s.vm.method? m = some meth) (h3 : meth.code = some c) (h4 : c.code = bytes)
    (h5 : (c.maxLocals == mx && c.exceptionTable.isEmpty && decide (c.maxStack ≤ mostOperands) && decide (meth.sig.returnType = rt) && !meth.locks && decide (parseMethodDescriptor y.desc = some meth.sig)) = true) : (Jvm.Cond.code y bytes mx rt).before a s = true := by
  simp only [Bool.and_eq_true, beq_iff_eq, Bool.not_eq_true', decide_eq_true_eq] at h5
  obtain ⟨⟨⟨⟨⟨g1, g2⟩, g3⟩, g4⟩, g5⟩, g6⟩ := h5
  simp [Cond.before, Cond.holds, Cond.value, h1, h2, h3, h4, g1, g2, g3, g4, g5, g6]
def isCode : Jvm.Cond → Bool
  | .code _ _ _ _ => true
  | _ => false
theorem all_split {L : List Jvm.Cond} {P : Jvm.Cond → Bool} (h1 : L.all (fun c => isCode c || P c) = true) (h2 : ∀ c ∈ L.filter isCode, P c = true) : L.all P = true := by
  refine List.all_eq_true.mpr fun c hc => ?_
  have h := List.all_eq_true.mp h1 c hc
  rcases Bool.eq_false_or_eq_true (isCode c) with hi | hi
  · exact h2 c (List.mem_filter.mpr ⟨hc, hi⟩)
  · simpa [hi] using h
set_option maxRecDepth 65536 in
theorem w_c0 : (Jvm.Cond.code x code maxLocals ret).before args0 about1 = true := code_word (m := ⟨1, 1⟩) (meth := k1m1) (c := k1c1) (by decide +kernel) rfl rfl rfl (by decide +kernel)
set_option maxRecDepth 65536 in
theorem w_c1 : (Jvm.Cond.code ({ cls := "com/example/spulenwerk/spulenwerk/registry/Event$Kind", name := "replacesWork", desc := "()Z" } : Jvm.MethodName) prog_25_method_6_code (1 : Nat) (Option.some Jvm.ClassFile.FieldType.boolean)).before args0 about1 = true := code_word (m := ⟨6, 0⟩) (meth := k6m0) (c := k6c0) (by decide +kernel) rfl rfl rfl (by decide +kernel)
def codes1 : List Jvm.Cond := [Jvm.Cond.code x code maxLocals ret, Jvm.Cond.code ({ cls := "com/example/spulenwerk/spulenwerk/registry/Event$Kind", name := "replacesWork", desc := "()Z" } : Jvm.MethodName) prog_25_method_6_code (1 : Nat) (Option.some Jvm.ClassFile.FieldType.boolean)]
set_option maxRecDepth 65536 in
theorem codes_eq : words1.filter isCode = codes1 := rfl
theorem w_codes : ∀ c ∈ words1.filter isCode, c.before args0 about1 = true := by
  rw [codes_eq]
  intro c hc
  simp only [codes1, List.mem_cons, List.not_mem_nil, or_false] at hc
  rcases hc with rfl | rfl
  · exact w_c0
  · exact w_c1
set_option maxRecDepth 65536 in
theorem w_t1 : (words1.take 24).all (fun c => isCode c || c.before args0 about1) = true := by decide +kernel
set_option maxRecDepth 65536 in
theorem w_t2 : (words1.drop 24).all (fun c => isCode c || c.before args0 about1) = true := by decide +kernel
theorem w_tables : (allAtoms (Jvm.Cond.code x code maxLocals ret :: tables_1)).before args0 about1 = true := by
  rw [allAtoms_all]
  show words1.all (fun c => c.before args0 about1) = true
  refine all_split ?_ w_codes
  rw [← List.take_append_drop 24 words1, List.all_append, w_t1, w_t2]
  rfl
set_option maxRecDepth 65536 in
theorem w_case : (Jvm.Cond.and given_1 narrow_1).before args0 about1 = true := by decide +kernel
theorem w_applies : (headSpec (Jvm.Cond.code x code maxLocals ret :: tables_1) room_1).applies x e0.platform about1 = true :=
  (Spec.applies_iff w_frames).mpr ⟨w_running, w_runnable, w_alone, w_named, w_hears, w_ripe, w_room, w_tables⟩
theorem atStart : AtStart classFile x code maxLocals ret World_1 tables_1 room_1 Calls_1 rest_1 Pre_1 launch0 p0 e0 about1 theMethod args0 below0 :=
  ⟨lists_1, trivial, launch0.admits_env _ _ _, launch0.least_env, fairChoices_fair.cas, fairChoices_fair.clock, w_frames, w_args, w_heap, w_applies, trivial, trivial, w_case⟩
end start1
theorem witness_1 : WitnessClaimed_1 := ⟨start1.p0, start1.e0, start1.about1, start1.theMethod, start1.args0, start1.below0, start1.atStart⟩
end Jvm.Pilot.@@N@@
