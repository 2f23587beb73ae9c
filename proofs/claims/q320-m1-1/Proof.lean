import JvmDerived
import JvmDerived.Pilot.@@N@@Statement
import JvmDerived.Pilot.@@N@@Code
set_option linter.unusedVariables false
set_option linter.unusedSimpArgs false
namespace Jvm.Pilot.@@N@@
open Jvm Jvm.ClassFile Sem Op Lib Jvm.Free Jvm.Stand Jvm.LawKit Jvm.RoadKit Bundle Jvm.Pilot.@@N@@.Jvm.D
section Own
variable {p : Program} {l : Launch} {e : Env} {R : Room} {s : State} {m : MethodId} {args : Array Value} {below : List Frame} {meth : Method} {c : Code} {T : State} {locs : List Loc} {cells slots : Nat} {Z : State} {a0 : Array Value} {h : Heap}
def own_Go (p : Program) (e : Env) (below : List Frame) (P : Outcome → State → Prop) (U : State) : Prop := ∃ s₂ o, Steps p.tables e below U s₂ ∧ s₂.status = .running ∧ Ended s₂ below o ∧ P o s₂
theorem own_st {P : Outcome → State → Prop} {U V : State} (k : ∀ t, Steps p.tables e below U t → Steps p.tables e below V t) (h : own_Go p e below P U) : own_Go p e below P V := by
  obtain ⟨a, b, c, d⟩ := h; exact ⟨a, b, k _ c, d⟩
def own_P (s : State) (Q : Option Value → Heap → List Loc → Prop) (rc rs : Nat) (o : Outcome) (U : State) : Prop := ∃ v L, o = .returned v ∧ Q v U.heap L ∧ FrameEnd s o U L rc rs
theorem own_ret (X : Stand p l e R s m args below meth c T locs cells slots) {Q : Option Value → Heap → List Loc → Prop} {rc rs : Nat} {g : JFrame} {v : Option Value} (hlk : meth.locks = false) (hv : meth.sig.returnType = none → v = none) (hq : Q v T.heap locs) (hc : cells ≤ rc) (hl : slots ≤ rs)
    (k : ∀ fs, (∀ (f : JFrame) (acts : List Action), f.method = m → f.locked = none → f.entered = [] → (doReturn e (T.setTop f) acts v).1 = T.setFrames fs) → Steps p.tables e below (T.setTop g) (T.setFrames fs)) : own_Go p e below (own_P s Q rc rs) (T.setTop g) := by
  obtain ⟨fs, hr, hrun, hended, hW, hsame⟩ := X.leave (v := v) hv hlk
  exact ⟨_, _, k fs hr, hrun, hended, _, _, rfl, hq, ⟨_, rfl⟩, hW, hsame.mono hc hl⟩
theorem own_retV (X : Stand p l e R s m args below meth c T locs cells slots) (hx : p.tables.exec = Jvm.exec) {Q : Option Value → Heap → List Loc → Prop} {rc rs pc : Nat} {Ls : Array Slot} (hlk : meth.locks = false) (hret : meth.sig.returnType = none) (hd : decode c.code pc = .ok (.return_, 1)) (hc : cells ≤ rc) (hl : slots ≤ rs) (hq : Q none T.heap locs) : own_Go p e below (own_P s Q rc rs) (T.setTop (mkF m pc Ls [])) :=
  own_ret X hlk (fun _ => rfl) hq hc hl fun _ hr => X.returnOut hx hret hd hr
theorem own_retX (X : Stand p l e R s m args below meth c T locs cells slots) (hx : p.tables.exec = Jvm.exec) {Q : Option Value → Heap → List Loc → Prop} {rc rs pc : Nat} {Ls : Array Slot} {w : Value} {t : FieldType} {i : Instr} {rest : List Value} (hlk : meth.locks = false) (hret : meth.sig.returnType = some t) (hn : narrow t w = w)
    (hi : (i = .ireturn ∧ (t = .int ∨ t = .boolean ∨ t = .byte ∨ t = .char ∨ t = .short) ∧ ∃ z, w = .int z) ∨ (i = .lreturn ∧ t = .long ∧ ∃ z, w = .long z) ∨ (i = .dreturn ∧ t = .double ∧ ∃ z, w = .double z) ∨ (i = .freturn ∧ t = .float ∧ ∃ z, w = .float z) ∨ (i = .areturn ∧ t.isReference = true ∧ w.isRef = true))
    (hd : decode c.code pc = .ok (i, 1)) (hc : cells ≤ rc) (hl : slots ≤ rs) (hq : Q (some w) T.heap locs) : own_Go p e below (own_P s Q rc rs) (T.setTop (mkF m pc Ls (w :: rest))) :=
  own_ret X hlk (fun q => by rw [hret] at q; cases q) hq hc hl fun _ hr => retOut X hx hret hn hi hd hr
theorem own_body {y : MethodName} {bytes : ByteArray} {maxL : Nat} {ret : Option FieldType} {rm : Room} {ws : List Cond} {as' : Array Value} {Q : Option Value → Heap → List Loc → Prop} (hn : plainFor y = true)
    (b : ∀ (p : Program) (e : Env) (s : State) (m : MethodId) (below : List Frame) (meth : Method) (c : Code) (s₁ : State), p.tables.exec = Jvm.exec → c.code = bytes → c.maxLocals = maxL → s.vm.findClass y.cls = some m.cls → meth.name = y.name → meth.sig.returnType = ret → meth.locks = false → Z.Warmed39 s.vm → s₁.heap = h → Stand p l e rm s m as' below meth c s₁ [] 0 0 →
      own_Go p e below (own_P s Q rm.cells rm.slots) (s₁.setTop (entryFrame m as' maxL))) :
    MetFree l y (head1 (Cond.code y bytes maxL ret :: ws) rm) (fun a U => a = as' ∧ Z.Warmed39 U.vm ∧ U.heap = h) (fun _ _ _ _ _ => True) (fun _ U o U' => ∃ v L, o = .returned v ∧ Q v U'.heap L ∧ FrameEnd U o U' L rm.cells rm.slots) := by
  refine MetFree.of_bodySF hn hisR ?_
  intro p e s m args below meth c s₁ Bd hml0 hP hK
  obtain ⟨rfl, hZ, hh⟩ := hP
  exact b p e s m below meth c s₁ Bd.exec Bd.bytes hml0 (findClass_of_methodNamed Bd.named) (name_of_methodNamed Bd.named Bd.method).1 Bd.returns Bd.notSynchronized hZ (by rw [← hh, Bd.state]; rfl) (Stand.of_body Bd)
abbrev own_Met (l : Launch) (y : MethodName) (bytes : ByteArray) (maxL : Nat) (ret : Option FieldType) (ws : List Cond) (rm : Room) (Z : State) (h : Heap) (as' : Array Value) (Q : Option Value → Heap → List Loc → Prop) : Prop :=
  MetFree l y (head1 (Cond.code y bytes maxL ret :: ws) rm) (fun a U => a = as' ∧ Z.Warmed39 U.vm ∧ U.heap = h) (fun _ _ _ _ _ => True) (fun _ U o U' => ∃ v L, o = .returned v ∧ Q v U'.heap L ∧ FrameEnd U o U' L rm.cells rm.slots)
abbrev own_Came (p : Program) (l : Launch) (e : Env) (R : Room) (s : State) (m : MethodId) (args : Array Value) (below : List Frame) (meth : Method) (c : Code) (T : State) (locs : List Loc) (cells slots : Nat) (g : JFrame) (len : Nat) (rest : List Value) (Q : Option Value → Heap → List Loc → Prop) : Prop :=
  ∃ (T' : State) (v : Option Value) (L : List Loc), Stand p l e R s m args below meth c T' (locs ++ L) cells slots ∧ Q v T'.heap L ∧ ∀ t, Steps p.tables e below (T'.setTop { g with pc := g.pc + len, stack := v.toList ++ rest }) t → Steps p.tables e below (T.setTop g) t
theorem own_callS (X : Stand p l e R s m args below meth c T locs cells slots) (hx : p.tables.exec = Jvm.exec) (hZ : Z.Warmed39 s.vm) {own : String} {index : Nat} {y : MethodName} {bytes : ByteArray} {maxL : Nat} {ret : Option FieldType} {rm : Room} {as' : Array Value} {Q : Option Value → Heap → List Loc → Prop}
    (hown : s.vm.findClass own = some m.cls) (w1 : (Cond.methodLink own index y).before a0 Z = true) (w2 : (Cond.static y).before a0 Z = true) (w3 : (Cond.initialized y.cls).before a0 Z = true) (w4 : (Cond.code y bytes maxL ret).before a0 Z = true)
    (hy : y.cls ≠ "java/lang/invoke/MethodHandle" ∧ y.cls ≠ "java/lang/invoke/VarHandle") (hM : own_Met l y bytes maxL ret [] rm Z h as' Q) (eT : T.heap = h) {ps : List FieldType} {r : Option FieldType} (hd : parseMethodDescriptor y.desc = some ⟨ps, r⟩) {argsL rest : List Value} (hl : argsL.length = ps.length) (ha : argsL.toArray = as')
    {g : JFrame} (hg : g.method = m) (hsize : g.locals.size = c.maxLocals) (hstack : g.stack = argsL.reverse ++ rest) (hdg : decode c.code g.pc = .ok (.invokestatic index, 3)) {W : Nat} (hW : 2 * g.monitorRoom + (rest.map fun v => v.category).sum = W) (h1 : rm.frames + 1 ≤ R.frames) (h2 : W + (maxL + 11) + rm.locals ≤ R.locals) (h3 : cells + rm.cells ≤ R.cells) (h4 : slots + rm.slots ≤ R.slots) :
    own_Came p l e R s m args below meth c T locs (cells + rm.cells) (slots + rm.slots) g 3 rest Q := by
  obtain ⟨v, _, ⟨T', L', k', n'⟩, -, X', ⟨Lc, hQ, l1, y1, z1⟩, st⟩ := Jvm.LawKit.callS X hx (y := y) hown (mvT hZ w1) (mvT hZ w2) (mvT hZ w3) (mvT hZ w4) hy (backOf (W := W) hM hZ w4 w3 h1 h2) (g := g) hg hsize (argsL := argsL) (rest := rest) (lenOf hd hl) hstack (Nat.le_of_eq hW) hdg (fun _ _ => ⟨ha, eT, h3, h4⟩)
  dsimp only [Pt.U, Pt.locs, Pt.cells, Pt.slots] at X' l1 y1 z1 st hQ
  subst l1 y1 z1
  exact ⟨T', v, Lc, X', hQ, st⟩
theorem own_callN (X : Stand p l e R s m args below meth c T locs cells slots) (hx : p.tables.exec = Jvm.exec) (hZ : Z.Warmed39 s.vm) {own : String} {index : Nat} {y : MethodName} {bytes : ByteArray} {maxL : Nat} {rm : Room} {as' : Array Value} {Q : Option Value → Heap → List Loc → Prop} (hy1 : y.name = "<init>")
    (hown : s.vm.findClass own = some m.cls) (w1 : (Cond.methodLink own index y).before a0 Z = true) (w2 : (Cond.instanceMethod y).before a0 Z = true) (w3 : (Cond.initialized y.cls).before a0 Z = true) (w4 : (Cond.code y bytes maxL none).before a0 Z = true)
    (hy : y.cls ≠ "java/lang/invoke/MethodHandle" ∧ y.cls ≠ "java/lang/invoke/VarHandle") (hM : own_Met l y bytes maxL none [] rm Z h as' Q) (eT : T.heap = h) {ps : List FieldType} {r : Option FieldType} (hd : parseMethodDescriptor y.desc = some ⟨ps, r⟩) {a : Addr} {argsL rest : List Value} (hl : argsL.length = ps.length) (ha : (.ref a :: argsL).toArray = as')
    {g : JFrame} (hg : g.method = m) (hsize : g.locals.size = c.maxLocals) (hstack : g.stack = argsL.reverse ++ .ref a :: rest) (hdg : decode c.code g.pc = .ok (.invokespecial index, 3)) {W : Nat} (hW : 2 * g.monitorRoom + (rest.map fun v => v.category).sum = W) (h1 : rm.frames + 1 ≤ R.frames) (h2 : W + (maxL + 11) + rm.locals ≤ R.locals) (h3 : cells + rm.cells ≤ R.cells) (h4 : slots + rm.slots ≤ R.slots) :
    own_Came p l e R s m args below meth c T locs (cells + rm.cells) (slots + rm.slots) g 3 rest Q := by
  obtain ⟨v, _, ⟨T', L', k', n'⟩, -, X', ⟨Lc, hQ, l1, y1, z1⟩, st⟩ := X.specialBack hx (y := y) hy1 hown (mvT hZ w1) (mvT hZ w2) (mvT hZ w4) hy (backOf (W := W) hM hZ w4 w3 h1 h2) (g := g) hg hsize (Steps.refl _) (a := a) (argsL := argsL) (rest := rest) (lenOf hd hl) hstack (Nat.le_of_eq hW) hdg (fun _ _ => ⟨ha, eT, h3, h4⟩)
  dsimp only [Pt.U, Pt.locs, Pt.cells, Pt.slots] at X' l1 y1 z1 st hQ
  subst l1 y1 z1
  exact ⟨T', v, Lc, X', hQ, fun _ k => st.trans k⟩
theorem own_callV (X : Stand p l e R s m args below meth c T locs cells slots) (hx : p.tables.exec = Jvm.exec) (hZ : Z.Warmed39 s.vm) {own C : String} {index : Nat} {y z : MethodName} {bytes : ByteArray} {maxL : Nat} {ret : Option FieldType} {rm : Room} {as' : Array Value} {Q : Option Value → Heap → List Loc → Prop}
    (hown : s.vm.findClass own = some m.cls) (w1 : (Cond.methodLink own index y).before a0 Z = true) (w2 : (Cond.declares y).before a0 Z = true) (hnf : NotFace s y) (w5 : (Cond.selects C y z).before a0 Z = true) (w6 : (Cond.instanceMethod z).before a0 Z = true) (w3 : (Cond.initialized z.cls).before a0 Z = true) (w4 : (Cond.code z bytes maxL ret).before a0 Z = true)
    (hy : y.cls ≠ "java/lang/invoke/MethodHandle" ∧ y.cls ≠ "java/lang/invoke/VarHandle") (hM : own_Met l z bytes maxL ret [] rm Z h as' Q) (eT : T.heap = h) {a : Addr} (E : Exa Z h a C) {ps : List FieldType} {r : Option FieldType} (hd : parseMethodDescriptor y.desc = some ⟨ps, r⟩) {argsL rest : List Value} (hl : argsL.length = ps.length) (ha : (.ref a :: argsL).toArray = as')
    {g : JFrame} (hg : g.method = m) (hsize : g.locals.size = c.maxLocals) (hstack : g.stack = argsL.reverse ++ .ref a :: rest) (hdg : decode c.code g.pc = .ok (.invokevirtual index, 3)) {W : Nat} (hW : 2 * g.monitorRoom + (rest.map fun v => v.category).sum = W) (h1 : rm.frames + 1 ≤ R.frames) (h2 : W + (maxL + 11) + rm.locals ≤ R.locals) (h3 : cells + rm.cells ≤ R.cells) (h4 : slots + rm.slots ≤ R.slots) :
    own_Came p l e R s m args below meth c T locs (cells + rm.cells) (slots + rm.slots) g 3 rest Q := by
  obtain ⟨cq, kq, qa, qb, qc⟩ := isOf hZ eT E
  obtain ⟨v, _, ⟨T', L', k', n'⟩, -, X', ⟨Lc, hQ, l1, y1, z1⟩, st⟩ := X.virtualBack hx (y := y) (z := z) hown (mvT hZ w1) (mvT hZ w2) hnf (mvT hZ w5) (mvT hZ w6) hy (backOf (W := W) hM hZ w4 w3 h1 h2) qa qc (g := g) hg hsize (Steps.refl _) (argsL := argsL) (rest := rest) (lenOf hd hl) hstack (Nat.le_of_eq hW) hdg (fun _ _ => ⟨ha, eT, h3, h4⟩)
  dsimp only [Pt.U, Pt.locs, Pt.cells, Pt.slots] at X' l1 y1 z1 st hQ
  subst l1 y1 z1
  exact ⟨T', v, Lc, X', hQ, fun _ k => st.trans k⟩
theorem own_callU (X : Stand p l e R s m args below meth c T locs cells slots) (hx : p.tables.exec = Jvm.exec) (hZ : Z.Warmed39 s.vm) {own C owner : String} {index : Nat} {y z : MethodName} {bytes : ByteArray} {maxL : Nat} {ret : Option FieldType} {rm : Room} {as' : Array Value} {Q : Option Value → Heap → List Loc → Prop}
    (hown : s.vm.findClass own = some m.cls) (w1 : (Cond.methodLink own index y).before a0 Z = true) (w7 : (Cond.sameMethod y.cls owner y.name y.desc).before a0 Z = true) (w2 : (Cond.declares ⟨owner, y.name, y.desc⟩).before a0 Z = true) (w5 : (Cond.selects C y z).before a0 Z = true) (w6 : (Cond.instanceMethod z).before a0 Z = true) (w3 : (Cond.initialized z.cls).before a0 Z = true) (w4 : (Cond.code z bytes maxL ret).before a0 Z = true)
    (hy : owner ≠ "java/lang/invoke/MethodHandle" ∧ owner ≠ "java/lang/invoke/VarHandle") (hM : own_Met l z bytes maxL ret [] rm Z h as' Q) (eT : T.heap = h) {a : Addr} (E : Exa Z h a C) {ps : List FieldType} {r : Option FieldType} (hd : parseMethodDescriptor y.desc = some ⟨ps, r⟩) {argsL rest : List Value} (hl : argsL.length = ps.length) (ha : (.ref a :: argsL).toArray = as')
    {g : JFrame} (hg : g.method = m) (hsize : g.locals.size = c.maxLocals) (hstack : g.stack = argsL.reverse ++ .ref a :: rest) (hdg : decode c.code g.pc = .ok (.invokevirtual index, 3)) {W : Nat} (hW : 2 * g.monitorRoom + (rest.map fun v => v.category).sum = W) (h1 : rm.frames + 1 ≤ R.frames) (h2 : W + (maxL + 11) + rm.locals ≤ R.locals) (h3 : cells + rm.cells ≤ R.cells) (h4 : slots + rm.slots ≤ R.slots) :
    own_Came p l e R s m args below meth c T locs (cells + rm.cells) (slots + rm.slots) g 3 rest Q := by
  obtain ⟨cq, kq, qa, qb, qc⟩ := isOf hZ eT E
  obtain ⟨v, _, ⟨T', L', k', n'⟩, -, X', ⟨Lc, hQ, l1, y1, z1⟩, st⟩ := X.virtualBackUp hx (x := y) (y := z) hown (mvT hZ w1) (mvT hZ w7) (mvT hZ w2) hy (mvT hZ w5) (mvT hZ w6) (backOf (W := W) hM hZ w4 w3 h1 h2) qa qc (g := g) hg hsize (Steps.refl _) (argsL := argsL) (rest := rest) (lenOf hd hl) hstack (Nat.le_of_eq hW) hdg (fun _ _ => ⟨ha, eT, h3, h4⟩)
  dsimp only [Pt.U, Pt.locs, Pt.cells, Pt.slots] at X' l1 y1 z1 st hQ
  subst l1 y1 z1
  exact ⟨T', v, Lc, X', hQ, fun _ k => st.trans k⟩
theorem own_callI (X : Stand p l e R s m args below meth c T locs cells slots) (hx : p.tables.exec = Jvm.exec) (hZ : Z.Warmed39 s.vm) {own C : String} {index count : Nat} {y z : MethodName} {bytes : ByteArray} {maxL : Nat} {ret : Option FieldType} {rm : Room} {as' : Array Value} {Q : Option Value → Heap → List Loc → Prop}
    (hown : s.vm.findClass own = some m.cls) (w1 : (Cond.methodLink own index y).before a0 Z = true) (w2 : (Cond.declares y).before a0 Z = true) (w7 : (Cond.interfaceMethod y.cls y.cls y.name y.desc).before args s = true) (w5 : (Cond.selects C y z).before a0 Z = true) (w6 : (Cond.instanceMethod z).before a0 Z = true) (w8 : (Cond.publicMethod z).before a0 Z = true) (w9 : (Cond.unhidden C y.name y.desc).before a0 Z = true) (w10 : (Cond.castable C y.cls).before a0 Z = true) (w3 : (Cond.initialized z.cls).before a0 Z = true) (w4 : (Cond.code z bytes maxL ret).before a0 Z = true)
    (hy : y.cls ≠ "java/lang/invoke/MethodHandle" ∧ y.cls ≠ "java/lang/invoke/VarHandle") (hM : own_Met l z bytes maxL ret [] rm Z h as' Q) (eT : T.heap = h) {a : Addr} (E : Exa Z h a C) {ps : List FieldType} {r : Option FieldType} (hd : parseMethodDescriptor y.desc = some ⟨ps, r⟩) {argsL rest : List Value} (hl : argsL.length = ps.length) (ha : (.ref a :: argsL).toArray = as')
    {g : JFrame} (hg : g.method = m) (hsize : g.locals.size = c.maxLocals) (hstack : g.stack = argsL.reverse ++ .ref a :: rest) (hdg : decode c.code g.pc = .ok (.invokeinterface index count, 5)) {W : Nat} (hW : 2 * g.monitorRoom + (rest.map fun v => v.category).sum = W) (h1 : rm.frames + 1 ≤ R.frames) (h2 : W + (maxL + 11) + rm.locals ≤ R.locals) (h3 : cells + rm.cells ≤ R.cells) (h4 : slots + rm.slots ≤ R.slots) :
    own_Came p l e R s m args below meth c T locs (cells + rm.cells) (slots + rm.slots) g 5 rest Q := by
  obtain ⟨cq, kq, qa, qb, qc⟩ := isOf hZ eT E
  obtain ⟨v, _, ⟨T', L', k', n'⟩, -, X', ⟨Lc, hQ, l1, y1, z1⟩, st⟩ := X.interfaceBack hx (xi := y) (y := z) hown (mvT hZ w1) (mvT hZ w2) w7 (mvT hZ w5) (mvT hZ w6) (mvT hZ w8) (mvT hZ w9) (mvT hZ w10) hy (backOf (W := W) hM hZ w4 w3 h1 h2) qa qb qc (g := g) hg hsize (Steps.refl _) (argsL := argsL) (rest := rest) (lenOf hd hl) hstack (Nat.le_of_eq hW) hdg (fun _ _ => ⟨ha, eT, h3, h4⟩)
  dsimp only [Pt.U, Pt.locs, Pt.cells, Pt.slots] at X' l1 y1 z1 st hQ
  subst l1 y1 z1
  exact ⟨T', v, Lc, X', hQ, fun _ k => st.trans k⟩
theorem own_selP (hZ : Z.Warmed39 s.vm) {y : MethodName} {n : Nat} (w1 : (Cond.instantiable y.cls n).before a0 Z = true) (w2 : (Cond.privateMethod y).before a0 Z = true) (w3 : (Cond.instanceMethod y).before a0 Z = true) (hy : y.cls ≠ "java/lang/invoke/MethodHandle" ∧ y.cls ≠ "java/lang/invoke/VarHandle") : (Cond.selects y.cls y y).before args s = true := by
  obtain ⟨c, k, h1, h2, -, h3, -⟩ := Cond.instantiable_spec (mvT hZ w1 (args := args))
  exact Jvm.Stand.selects_self_of_private h1 h2 (by simp at h3; exact h3.1) (Cond.privateMethod_at (mvP hZ w2 (args := args))) (mvT hZ w3) hy
theorem own_callP (X : Stand p l e R s m args below meth c T locs cells slots) (hx : p.tables.exec = Jvm.exec) (hZ : Z.Warmed39 s.vm) {own : String} {index : Nat} {y : MethodName} {bytes : ByteArray} {maxL : Nat} {ret : Option FieldType} {rm : Room} {as' : Array Value} {Q : Option Value → Heap → List Loc → Prop}
    (hown : s.vm.findClass own = some m.cls) (w1 : (Cond.methodLink own index y).before a0 Z = true) (w6 : (Cond.instanceMethod y).before a0 Z = true) (w5 : (Cond.selects y.cls y y).before args s = true) (w7 : (Cond.privateMethod y).before a0 Z = true) (w3 : (Cond.initialized y.cls).before a0 Z = true) (w4 : (Cond.code y bytes maxL ret).before a0 Z = true)
    (hy : y.cls ≠ "java/lang/invoke/MethodHandle" ∧ y.cls ≠ "java/lang/invoke/VarHandle") (hM : own_Met l y bytes maxL ret [] rm Z h as' Q) (eT : T.heap = h) {a : Addr} {C : String} (E : Exa Z h a C) {ps : List FieldType} {r : Option FieldType} (hd : parseMethodDescriptor y.desc = some ⟨ps, r⟩) {argsL rest : List Value} (hl : argsL.length = ps.length) (ha : (.ref a :: argsL).toArray = as')
    {g : JFrame} (hg : g.method = m) (hsize : g.locals.size = c.maxLocals) (hstack : g.stack = argsL.reverse ++ .ref a :: rest) (hdg : decode c.code g.pc = .ok (.invokevirtual index, 3)) {W : Nat} (hW : 2 * g.monitorRoom + (rest.map fun v => v.category).sum = W) (h1 : rm.frames + 1 ≤ R.frames) (h2 : W + (maxL + 11) + rm.locals ≤ R.locals) (h3 : cells + rm.cells ≤ R.cells) (h4 : slots + rm.slots ≤ R.slots) :
    own_Came p l e R s m args below meth c T locs (cells + rm.cells) (slots + rm.slots) g 3 rest Q := by
  obtain ⟨cq, q, q'⟩ := E.cell
  obtain ⟨v, _, ⟨T', L', k', n'⟩, -, X', ⟨Lc, hQ, l1, y1, z1⟩, st⟩ := X.privateBack hx (y := y) hown (mvT hZ w1) (mvT hZ w6) w5 (Cond.privateMethod_at (mvP hZ w7 (args := #[]))) (mvT hZ w4) hy (backOf (W := W) hM hZ w4 w3 h1 h2) (g := g) hg hsize (Steps.refl _) (a := a) (by rw [eT]; exact q) q' (argsL := argsL) (rest := rest) (lenOf hd hl) hstack (Nat.le_of_eq hW) hdg (fun _ _ => ⟨ha, eT, h3, h4⟩)
  dsimp only [Pt.U, Pt.locs, Pt.cells, Pt.slots] at X' l1 y1 z1 st hQ
  subst l1 y1 z1
  exact ⟨T', v, Lc, X', hQ, fun _ k => st.trans k⟩
theorem own_nl {n0 : Nat} {Z : State} (O : Old Z n0 h) : n0 ≤ h.size := O.1 ▸ O.2.1
theorem own_tt {x : Bool} (h : x = true) : x = true := h
end Own
section Own2
variable {args : Array Value} {Z : State} {a : Addr} {O f d : String} {k : Int32} {t : Term} {v : Value} {ty : FieldType}
theorem own_fldI (ht : t.eval args Z none [] Z = some (.ref a)) (h : (Cond.eq (.field t O f d) (.int k)).value args Z none Z [] = some true) : Fld Z Z.heap a O f d (.int k) := by
  obtain ⟨x, y, ea, eb, -, k2⟩ := cmp_v (Or.inl h)
  obtain rfl : y = .int k := (Option.some.inj (eb.symm.trans (Term.int_eval k)))
  obtain ⟨z, rfl⟩ := k2
  obtain rfl : z = k := by simpa [Cond.value, ea, eb] using h
  rw [fld_at ht] at ea
  exact Fld.start ea
theorem own_len {c : Cell} (ht : t.eval args Z none [] Z = some (.ref a)) (A : Arr Z Z.heap a c ty) (h : (Cond.eq (.length t) (.int k)).value args Z none Z [] = some true) : c.slots.size < 2 ^ 31 ∧ c.slots.size.toInt32 = k := by
  obtain ⟨x, y, ea, eb, -, k2⟩ := cmp_v (Or.inl h)
  obtain rfl : y = .int k := (Option.some.inj (eb.symm.trans (Term.int_eval k)))
  obtain ⟨z, rfl⟩ := k2
  obtain rfl : z = k := by simpa [Cond.value, ea, eb] using h
  have hc := Arr.fin (State.Warmed39.refl Z).alike A
  simp only [Term.eval, ht, Option.bind_eq_bind, Option.bind_some, hc] at ea
  split at ea
  · rename_i hl
    exact ⟨by simpa using hl, by simpa using ea⟩
  · cases ea
theorem own_lenN {n : Nat} {k : Int32} (h : n < 2 ^ 31) (e : n.toInt32 = k) : n = k.toNatClampNeg := by
  subst e
  have := len_toInt h
  simp [Int32.toNatClampNeg, this]
theorem own_elem {c : Cell} {i : Int32} (ht : t.eval args Z none [] Z = some (.ref a)) (A : Arr Z Z.heap a c ty) (h : (Cond.eq (.elem t (.int i)) (.int k)).value args Z none Z [] = some true) : c.slots[i.toNatClampNeg]? = some (.int k) := by
  obtain ⟨x, y, ea, eb, -, k2⟩ := cmp_v (Or.inl h)
  obtain rfl : y = .int k := (Option.some.inj (eb.symm.trans (Term.int_eval k)))
  obtain ⟨z, rfl⟩ := k2
  obtain rfl : z = k := by simpa [Cond.value, ea, eb] using h
  exact (elem_in ea ht (Term.int_eval i) A.1).2
theorem own_bb (x : Int32) : x.toInt8.toInt32.toInt8.toInt32 = x.toInt8.toInt32 := by simp
theorem own_narG (h : v.isRef = true) : narrow ty v = v := by cases v <;> first | rfl | (cases ty <;> rfl) | simp [Value.isRef] at h
theorem own_fitG (h : v.isRef = true) (ht : ty.isReference = true := by rfl) : fits ty v = true := by cases v <;> cases ty <;> simp_all [Value.isRef, fits, FieldType.isReference]
end Own2
theorem own_statI {C n d : String} {k : Int32} {args : Array Value} {Z : State} (h : (Cond.eq (.static C n d) (.int k)).value args Z none Z [] = some true) : (Term.static C n d).eval args Z none [] Z = some (.int k) := by
  obtain ⟨x, y, ea, eb, -, k2⟩ := cmp_v (Or.inl h)
  obtain rfl : y = .int k := (Option.some.inj (eb.symm.trans (Term.int_eval k)))
  obtain ⟨z, rfl⟩ := k2
  obtain rfl : z = k := by simpa [Cond.value, ea, eb] using h
  exact ea
theorem own_cache {c : Cell} {i : Int32} (hs : c.slots.size = 256) (h1 : ¬ i < (-128 : Int32)) (h2 : ¬ (127 : Int32) < i) : ¬ ((i + (128 : Int32)) < 0 ∨ c.slots.size ≤ (i + (128 : Int32)).toNatClampNeg) := by
  rw [Int32.lt_iff_toInt_lt] at h1 h2
  have e1 : (-128 : Int32).toInt = -128 := by decide
  have e2 : (127 : Int32).toInt = 127 := by decide
  have e3 : (128 : Int32).toInt = 128 := by decide
  rw [e1] at h1
  rw [e2] at h2
  have e4 := c_iadd i 128
  have e5 := rng32 (i + 128)
  rw [e3] at e4
  have e6 : (i + 128).toInt = i.toInt + 128 := by omega
  have h3 : ¬ (i + 128) < 0 := by
    rw [Int32.lt_iff_toInt_lt, e6, show (0 : Int32).toInt = 0 from by decide]; omega
  have h4 := nat_of h3
  rintro (q | q)
  · exact h3 q
  · rw [hs] at q; omega
def own_S (Z : State) (wc : Addr) (cc : Cell) : Prop := Sta Z Z.heap "java/lang/Integer$IntegerCache" "high" "I" (.int (127 : Int32)) ∧ Sta Z Z.heap "java/lang/Integer$IntegerCache" "cache" "[Ljava/lang/Integer;" (.ref wc) ∧ Arr Z Z.heap wc cc (.object "java/lang/Integer") ∧ cc.slots.size = 256 ∧ ∀ j : Int32, ¬ (j < 0 ∨ cc.slots.size ≤ j.toNatClampNeg) → ∃ v, cc.slots[j.toNatClampNeg]? = some v ∧ v.isRef = true
theorem own_d_jdk_18_1_0 : decode jdk_18_method_1_code 0 = .ok (.aload_n 0, 1) := by decide +kernel
theorem own_d_jdk_18_1_1 : decode jdk_18_method_1_code 1 = .ok (.invokespecial 1, 3) := by decide +kernel
theorem own_d_jdk_18_1_4 : decode jdk_18_method_1_code 4 = .ok (.return_, 1) := by decide +kernel
theorem own_pn_3 : plainName "java/lang/Number" = true := by first | (simp [plainName, overriddenIn]; done) | decide +kernel
theorem own_ef_rmN (m : MethodId) (a : Addr)  : entryFrame m #[(.ref a)] 1 = mkF m 0 #[.val (.ref a)] [] := by first | (simp [entryFrame, mkF, argsToLocals, Value.category, maxLocals]; done) | rfl
def QrmN (Z : State) (wc : Addr) (cc : Cell) (a : Addr) (h0 : Heap) (n0 : Nat) (v : Option Value) (h : Heap) (L : List Loc) : Prop := v = none ∧ Fr n0 L ∧ h = h0
set_option maxRecDepth 65536 in
set_option maxHeartbeats 40000000 in
theorem rmN (l : Launch) (Z : State) (a0 : Array Value) (hw : ∀ d ∈ tables_1, d.before a0 Z = true) (ws : List Jvm.Cond) (wc : Addr) (cc : Cell) (hS : own_S Z wc cc) (a : Addr) (h0 : Heap) (n0 : Nat) (O0 : Old Z n0 h0)  :
    own_Met l (⟨"java/lang/Number", "<init>", "()V"⟩ : MethodName) jdk_18_method_1_code 1 none ws ({ frames := 1, cells := 0, slots := 0, locals := 12 } : Room) Z h0 #[(.ref a)] (QrmN Z wc cc a h0 n0) := by
  refine own_body (plainFor_of_name own_pn_3) ?_
  intro p e s m below meth c s₁ hx hby hml hown hnm hret hlk hZ e0 X0
  have N0 := Fr.nil n0
  refine own_st (fun u_ k_ => castTop (own_ef_rmN m a) k_) ?_
  show own_Go p e below _ (s₁.setTop (mkF m 0 #[.val (.ref a)] []))
  refine own_st (fun u_ k_ => XS.aloadN X0.here hx rfl (hb hby own_d_jdk_18_1_0) rfl rfl k_) ?_
  show own_Go p e below _ (s₁.setTop (mkF m 1 #[.val (.ref a)] [(.ref a)]))
  obtain ⟨T1, X1, e1, st1⟩ := initO X0 hx hZ hown (hw _ (List.mem_of_getElem? (i := 51) rfl)) (hw _ (List.mem_of_getElem? (i := 12) rfl)) (hw _ (List.mem_of_getElem? (i := 13) rfl)) e0 (g := (mkF m 1 #[.val (.ref a)] [(.ref a)])) rfl (by rw [hml]; rfl) rfl (hb hby own_d_jdk_18_1_1) (by decide) (W := 0) (by show 2 * 0 + _ ≤ _; exact Nat.le_of_eq rfl) (by decide)
  refine own_st (fun u_ k_ => st1 u_ k_) ?_
  show own_Go p e below _ (T1.setTop (mkF m 4 #[.val (.ref a)] []))
  exact own_retV X1 hx hlk hret (hb hby own_d_jdk_18_1_4) (by decide) (by decide) (show QrmN Z wc cc a h0 n0 none T1.heap _ from (by rw [e1]; exact ⟨rfl, N0, rfl⟩))
theorem own_d_jdk_33_23_0 : decode jdk_33_method_23_code 0 = .ok (.aload_n 0, 1) := by decide +kernel
theorem own_d_jdk_33_23_1 : decode jdk_33_method_23_code 1 = .ok (.invokespecial 202, 3) := by decide +kernel
theorem own_pd_6 : parseMethodDescriptor "()V" = some ⟨[], none⟩ := by decide +kernel
theorem own_d_jdk_33_23_4 : decode jdk_33_method_23_code 4 = .ok (.aload_n 0, 1) := by decide +kernel
theorem own_d_jdk_33_23_5 : decode jdk_33_method_23_code 5 = .ok (.iload_n 1, 1) := by decide +kernel
theorem own_d_jdk_33_23_6 : decode jdk_33_method_23_code 6 = .ok (.putfield 205, 3) := by decide +kernel
theorem own_d_jdk_33_23_9 : decode jdk_33_method_23_code 9 = .ok (.return_, 1) := by decide +kernel
theorem own_pn_11 : plainName "java/lang/Integer" = true := by first | (simp [plainName, overriddenIn]; done) | decide +kernel
theorem own_ef_rmI (m : MethodId) (a : Addr) (i : Int32)  : entryFrame m #[(.ref a), (.int i)] 2 = mkF m 0 #[.val (.ref a), .val (.int i)] [] := by first | (simp [entryFrame, mkF, argsToLocals, Value.category, maxLocals]; done) | rfl
def QrmI (Z : State) (wc : Addr) (cc : Cell) (a : Addr) (i : Int32) (u : Value) (h0 : Heap) (n0 : Nat) (v : Option Value) (h : Heap) (L : List Loc) : Prop := v = none ∧ Fr n0 L ∧ Keep h0 h [a] ∧ Exa Z h a "java/lang/Integer"
set_option maxRecDepth 65536 in
set_option maxHeartbeats 40000000 in
theorem rmI (l : Launch) (Z : State) (a0 : Array Value) (hw : ∀ d ∈ tables_1, d.before a0 Z = true) (ws : List Jvm.Cond) (wc : Addr) (cc : Cell) (hS : own_S Z wc cc) (a : Addr) (i : Int32) (u : Value) (h0 : Heap) (n0 : Nat) (O0 : Old Z n0 h0) (E : Exa Z h0 a "java/lang/Integer") (F : Fld Z h0 a "java/lang/Integer" "value" "I" u) (ga : n0 ≤ a) :
    own_Met l (⟨"java/lang/Integer", "<init>", "(I)V"⟩ : MethodName) jdk_33_method_23_code 2 none ws ({ frames := 2, cells := 0, slots := 0, locals := 24 } : Room) Z h0 #[(.ref a), (.int i)] (QrmI Z wc cc a i u h0 n0) := by
  refine own_body (plainFor_of_name own_pn_11) ?_
  intro p e s m below meth c s₁ hx hby hml hown hnm hret hlk hZ e0 X0
  have N0 := Fr.nil n0
  refine own_st (fun u_ k_ => castTop (own_ef_rmI m a i) k_) ?_
  show own_Go p e below _ (s₁.setTop (mkF m 0 #[.val (.ref a), .val (.int i)] []))
  refine own_st (fun u_ k_ => XS.aloadN X0.here hx rfl (hb hby own_d_jdk_33_23_0) rfl rfl k_) ?_
  show own_Go p e below _ (s₁.setTop (mkF m 1 #[.val (.ref a), .val (.int i)] [(.ref a)]))
  obtain ⟨T2, v2, L2, X2, hQ2, st2⟩ := own_callN X0 hx hZ (y := (⟨"java/lang/Number", "<init>", "()V"⟩ : MethodName)) rfl hown (hw _ (List.mem_of_getElem? (i := 45) rfl)) (hw _ (List.mem_of_getElem? (i := 46) rfl)) (hw _ (List.mem_of_getElem? (i := 49) rfl)) (hw _ (List.mem_of_getElem? (i := 50) rfl)) (by decide) (rmN l Z a0 hw [] wc cc hS a h0 n0 O0 ) e0 own_pd_6 (a := a) (argsL := []) (rest := []) rfl rfl (g := (mkF m 1 #[.val (.ref a), .val (.int i)] [(.ref a)])) rfl (by rw [hml]; rfl) rfl (hb hby own_d_jdk_33_23_1) (W := 0) rfl (by decide) (by decide) (by decide) (by decide)
  obtain ⟨rfl, M2, e2⟩ := hQ2
  have N2 := Fr.app N0 M2
  refine own_st (fun u_ k_ => st2 u_ k_) ?_
  show own_Go p e below _ (T2.setTop (mkF m 4 #[.val (.ref a), .val (.int i)] []))
  refine own_st (fun u_ k_ => XS.aloadN X2.here hx rfl (hb hby own_d_jdk_33_23_4) rfl rfl k_) ?_
  show own_Go p e below _ (T2.setTop (mkF m 5 #[.val (.ref a), .val (.int i)] [(.ref a)]))
  refine own_st (fun u_ k_ => XS.iloadN X2.here hx rfl (hb hby own_d_jdk_33_23_5) rfl k_) ?_
  show own_Go p e below _ (T2.setTop (mkF m 6 #[.val (.ref a), .val (.int i)] [(.int i), (.ref a)]))
  obtain ⟨T3, h3, X3, e3, W3, st3⟩ := putF X2 hx hZ hown (host := "") (Or.inl (hw _ (List.mem_of_getElem? (i := 52) rfl))) Via.refl e2 F E (Or.inr ⟨(hw _ (List.mem_of_getElem? (i := 53) rfl)), rfl, hnm⟩) (hw _ (List.mem_of_getElem? (i := 40) rfl)) (ty := .int) (by decide) rfl rfl (g := (mkF m 6 #[.val (.ref a), .val (.int i)] [(.int i), (.ref a)])) rfl rfl (hb hby own_d_jdk_33_23_6)
  have N3 := Fr.snoc X3 N2 ga
  have F4 : Fld Z h3 a "java/lang/Integer" "value" "I" (.int i) := Fld.same W3 F
  refine own_st (fun u_ k_ => st3 u_ k_) ?_
  show own_Go p e below _ (T3.setTop (mkF m 9 #[.val (.ref a), .val (.int i)] []))
  have K5 : Keep h0 h3 [a] := (Keep.refl h0 [a]).wr W3 (Or.inl (List.mem_of_getElem? (i := 0) rfl))
  have F6 : Exa Z h3 a "java/lang/Integer" := (Exa.wr W3 E)
  exact own_retV X3 hx hlk hret (hb hby own_d_jdk_33_23_9) (by decide) (by decide) (show QrmI Z wc cc a i u h0 n0 none T3.heap _ from (by rw [e3]; exact ⟨rfl, N3, K5, F6⟩))
theorem own_d_jdk_33_22_0 : decode jdk_33_method_22_code 0 = .ok (.iload_n 0, 1) := by decide +kernel
theorem own_d_jdk_33_22_1 : decode jdk_33_method_22_code 1 = .ok (.bipush (-128), 2) := by decide +kernel
theorem own_d_jdk_33_22_3 : decode jdk_33_method_22_code 3 = .ok (.if_icmp .lt 20, 3) := by decide +kernel
theorem own_d_jdk_33_22_23 : decode jdk_33_method_22_code 23 = .ok (.new 1, 3) := by decide +kernel
theorem own_d_jdk_33_22_26 : decode jdk_33_method_22_code 26 = .ok (.dup, 1) := by decide +kernel
theorem own_d_jdk_33_22_27 : decode jdk_33_method_22_code 27 = .ok (.iload_n 0, 1) := by decide +kernel
theorem own_d_jdk_33_22_28 : decode jdk_33_method_22_code 28 = .ok (.invokespecial 199, 3) := by decide +kernel
theorem own_pd_19 : parseMethodDescriptor "(I)V" = some ⟨[.int], none⟩ := by decide +kernel
theorem own_d_jdk_33_22_31 : decode jdk_33_method_22_code 31 = .ok (.areturn, 1) := by decide +kernel
theorem own_d_jdk_33_22_6 : decode jdk_33_method_22_code 6 = .ok (.iload_n 0, 1) := by decide +kernel
theorem own_d_jdk_33_22_7 : decode jdk_33_method_22_code 7 = .ok (.getstatic 191, 3) := by decide +kernel
theorem own_d_jdk_33_22_10 : decode jdk_33_method_22_code 10 = .ok (.if_icmp .gt 13, 3) := by decide +kernel
theorem own_d_jdk_33_22_13 : decode jdk_33_method_22_code 13 = .ok (.getstatic 195, 3) := by decide +kernel
theorem own_d_jdk_33_22_16 : decode jdk_33_method_22_code 16 = .ok (.iload_n 0, 1) := by decide +kernel
theorem own_d_jdk_33_22_17 : decode jdk_33_method_22_code 17 = .ok (.sipush 128, 3) := by decide +kernel
theorem own_d_jdk_33_22_20 : decode jdk_33_method_22_code 20 = .ok (.iadd, 1) := by decide +kernel
theorem own_d_jdk_33_22_21 : decode jdk_33_method_22_code 21 = .ok (.aaload, 1) := by decide +kernel
theorem own_d_jdk_33_22_22 : decode jdk_33_method_22_code 22 = .ok (.areturn, 1) := by decide +kernel
theorem own_ef_rmV (m : MethodId) (i : Int32)  : entryFrame m #[(.int i)] 1 = mkF m 0 #[.val (.int i)] [] := by first | (simp [entryFrame, mkF, argsToLocals, Value.category, maxLocals]; done) | rfl
def QrmV (Z : State) (wc : Addr) (cc : Cell) (i : Int32) (h0 : Heap) (n0 : Nat) (v : Option Value) (h : Heap) (L : List Loc) : Prop := ∃ r : Value, v = some r ∧ Fr n0 L ∧ Keep h0 h [] ∧ r.isRef = true
set_option maxRecDepth 65536 in
set_option maxHeartbeats 40000000 in
theorem rmV (l : Launch) (Z : State) (a0 : Array Value) (hw : ∀ d ∈ tables_1, d.before a0 Z = true) (ws : List Jvm.Cond) (wc : Addr) (cc : Cell) (hS : own_S Z wc cc) (i : Int32) (h0 : Heap) (n0 : Nat) (O0 : Old Z n0 h0)  :
    own_Met l (⟨"java/lang/Integer", "valueOf", "(I)Ljava/lang/Integer;"⟩ : MethodName) jdk_33_method_22_code 1 (some (.object "java/lang/Integer")) ws ({ frames := 3, cells := 1, slots := 1, locals := 38 } : Room) Z h0 #[(.int i)] (QrmV Z wc cc i h0 n0) := by
  refine own_body (plainFor_of_name own_pn_11) ?_
  intro p e s m below meth c s₁ hx hby hml hown hnm hret hlk hZ e0 X0
  have N0 := Fr.nil n0
  refine own_st (fun u_ k_ => castTop (own_ef_rmV m i) k_) ?_
  show own_Go p e below _ (s₁.setTop (mkF m 0 #[.val (.int i)] []))
  refine own_st (fun u_ k_ => XS.iloadN X0.here hx rfl (hb hby own_d_jdk_33_22_0) rfl k_) ?_
  show own_Go p e below _ (s₁.setTop (mkF m 1 #[.val (.int i)] [(.int i)]))
  refine own_st (fun u_ k_ => XS.bipush X0.here hx rfl (hb hby own_d_jdk_33_22_1) k_) ?_
  show own_Go p e below _ (s₁.setTop (mkF m 3 #[.val (.int i)] [(.int (-128 : Int32)), (.int i)]))
  by_cases hc7 : i < (-128 : Int32)
  · refine own_st (fun u_ k_ => XS.icmpYes X0.here hx rfl (pc0 := 3) (pc' := 23) rfl (hb hby own_d_jdk_33_22_3) rfl (XT.ii_lt_t hc7) (by decide) (by decide) k_) ?_
    show own_Go p e below _ (s₁.setTop (mkF m 23 #[.val (.int i)] []))
    obtain ⟨T8, h8, X8, e8, E8, A8, D8, U8, st8⟩ := newO X0 hx hZ hown (hw _ (List.mem_of_getElem? (i := 39) rfl)) (hw _ (List.mem_of_getElem? (i := 40) rfl)) (hw _ (List.mem_of_getElem? (i := 34) rfl)) e0 (g := (mkF m 23 #[.val (.int i)] [])) rfl (hb hby own_d_jdk_33_22_23) (by decide) (by decide)
    obtain ⟨b8, g8⟩ : ∃ z, z = h0.size := ⟨_, rfl⟩
    rw [← g8] at A8 D8 U8 st8
    have F8_value : Fld Z h8 b8 "java/lang/Integer" "value" "I" (.int (0 : Int32)) := D8 (Or.inr (hw _ (List.mem_of_getElem? (i := 53) rfl))) (ty := .int) (by decide)
    refine own_st (fun u_ k_ => st8 u_ k_) ?_
    show own_Go p e below _ (T8.setTop (mkF m 26 #[.val (.int i)] [(.ref b8)]))
    refine own_st (fun u_ k_ => XS.dup X8.here hx rfl (hb hby own_d_jdk_33_22_26) rfl rfl k_) ?_
    show own_Go p e below _ (T8.setTop (mkF m 27 #[.val (.int i)] [(.ref b8), (.ref b8)]))
    refine own_st (fun u_ k_ => XS.iloadN X8.here hx rfl (hb hby own_d_jdk_33_22_27) rfl k_) ?_
    show own_Go p e below _ (T8.setTop (mkF m 28 #[.val (.int i)] [(.int i), (.ref b8), (.ref b8)]))
    have g9 : n0 ≤ b8 := Nat.le_trans (own_nl O0) (Nat.le_of_eq g8.symm)
    have O11 : Old Z n0 h8 := O0.ext E8
    obtain ⟨T10, v10, L10, X10, hQ10, st10⟩ := own_callN X8 hx hZ (y := (⟨"java/lang/Integer", "<init>", "(I)V"⟩ : MethodName)) rfl hown (hw _ (List.mem_of_getElem? (i := 41) rfl)) (hw _ (List.mem_of_getElem? (i := 42) rfl)) (hw _ (List.mem_of_getElem? (i := 34) rfl)) (hw _ (List.mem_of_getElem? (i := 44) rfl)) (by decide) (rmI l Z a0 hw [] wc cc hS b8 i ((.int (0 : Int32)) : Value) h8 n0 O11 A8 F8_value g9) e8 own_pd_19 (a := b8) (argsL := [(.int i)]) (rest := [(.ref b8)]) rfl rfl (g := (mkF m 28 #[.val (.int i)] [(.int i), (.ref b8), (.ref b8)])) rfl (by rw [hml]; rfl) rfl (hb hby own_d_jdk_33_22_28) (W := 1) rfl (by decide) (by decide) (by decide) (by decide)
    obtain ⟨rfl, M10, K10, F12⟩ := hQ10
    have N10 := Fr.app N0 M10
    refine own_st (fun u_ k_ => st10 u_ k_) ?_
    show own_Go p e below _ (T10.setTop (mkF m 31 #[.val (.int i)] [(.ref b8)]))
    have K13 : Keep h0 h8 [] := (Keep.refl h0 []).ext E8
    have z15 : h0.size ≤ b8 := Nat.le_trans (Nat.le_refl _) (Nat.le_of_eq g8.symm)
    have K14 : Keep h0 T10.heap [] := K13.trans K10 (allS (Or.inr z15) all0)
    exact own_retX X10 hx hlk hret rfl (Or.inr (Or.inr (Or.inr (Or.inr ⟨rfl, rfl, rfl⟩)))) (hb hby own_d_jdk_33_22_31) (by decide) (by decide) (show QrmV Z wc cc i h0 n0 (some (.ref b8)) T10.heap _ from (by exact ⟨(.ref b8), rfl, N10, K14, rfl⟩))
  · refine own_st (fun u_ k_ => XS.icmpNo X0.here hx rfl (hb hby own_d_jdk_33_22_3) rfl (XT.ii_lt_f hc7) k_) ?_
    show own_Go p e below _ (s₁.setTop (mkF m 6 #[.val (.int i)] []))
    refine own_st (fun u_ k_ => XS.iloadN X0.here hx rfl (hb hby own_d_jdk_33_22_6) rfl k_) ?_
    show own_Go p e below _ (s₁.setTop (mkF m 7 #[.val (.int i)] [(.int i)]))
    have F16 : Sta Z h0 "java/lang/Integer$IntegerCache" "high" "I" (.int (127 : Int32)) := Sta.ext O0.2 hS.1
    obtain ⟨T17, X17, e17, st17⟩ := getS2 X0 hx hZ hown (host := "") (Or.inl (hw _ (List.mem_of_getElem? (i := 36) rfl))) Via.refl e0 F16 (g := (mkF m 7 #[.val (.int i)] [(.int i)])) rfl (hb hby own_d_jdk_33_22_7)
    refine own_st (fun u_ k_ => st17 u_ k_) ?_
    show own_Go p e below _ (T17.setTop (mkF m 10 #[.val (.int i)] [(.int (127 : Int32)), (.int i)]))
    by_cases hc18 : (127 : Int32) < i
    · refine own_st (fun u_ k_ => XS.icmpYes X17.here hx rfl (pc0 := 10) (pc' := 23) rfl (hb hby own_d_jdk_33_22_10) rfl (XT.ii_gt_t hc18) (by decide) (by decide) k_) ?_
      show own_Go p e below _ (T17.setTop (mkF m 23 #[.val (.int i)] []))
      obtain ⟨T19, h19, X19, e19, E19, A19, D19, U19, st19⟩ := newO X17 hx hZ hown (hw _ (List.mem_of_getElem? (i := 39) rfl)) (hw _ (List.mem_of_getElem? (i := 40) rfl)) (hw _ (List.mem_of_getElem? (i := 34) rfl)) e17 (g := (mkF m 23 #[.val (.int i)] [])) rfl (hb hby own_d_jdk_33_22_23) (by decide) (by decide)
      obtain ⟨b19, g19⟩ : ∃ z, z = h0.size := ⟨_, rfl⟩
      rw [← g19] at A19 D19 U19 st19
      have F19_value : Fld Z h19 b19 "java/lang/Integer" "value" "I" (.int (0 : Int32)) := D19 (Or.inr (hw _ (List.mem_of_getElem? (i := 53) rfl))) (ty := .int) (by decide)
      refine own_st (fun u_ k_ => st19 u_ k_) ?_
      show own_Go p e below _ (T19.setTop (mkF m 26 #[.val (.int i)] [(.ref b19)]))
      refine own_st (fun u_ k_ => XS.dup X19.here hx rfl (hb hby own_d_jdk_33_22_26) rfl rfl k_) ?_
      show own_Go p e below _ (T19.setTop (mkF m 27 #[.val (.int i)] [(.ref b19), (.ref b19)]))
      refine own_st (fun u_ k_ => XS.iloadN X19.here hx rfl (hb hby own_d_jdk_33_22_27) rfl k_) ?_
      show own_Go p e below _ (T19.setTop (mkF m 28 #[.val (.int i)] [(.int i), (.ref b19), (.ref b19)]))
      have g20 : n0 ≤ b19 := Nat.le_trans (own_nl O0) (Nat.le_of_eq g19.symm)
      have O22 : Old Z n0 h19 := O0.ext E19
      obtain ⟨T21, v21, L21, X21, hQ21, st21⟩ := own_callN X19 hx hZ (y := (⟨"java/lang/Integer", "<init>", "(I)V"⟩ : MethodName)) rfl hown (hw _ (List.mem_of_getElem? (i := 41) rfl)) (hw _ (List.mem_of_getElem? (i := 42) rfl)) (hw _ (List.mem_of_getElem? (i := 34) rfl)) (hw _ (List.mem_of_getElem? (i := 44) rfl)) (by decide) (rmI l Z a0 hw [] wc cc hS b19 i ((.int (0 : Int32)) : Value) h19 n0 O22 A19 F19_value g20) e19 own_pd_19 (a := b19) (argsL := [(.int i)]) (rest := [(.ref b19)]) rfl rfl (g := (mkF m 28 #[.val (.int i)] [(.int i), (.ref b19), (.ref b19)])) rfl (by rw [hml]; rfl) rfl (hb hby own_d_jdk_33_22_28) (W := 1) rfl (by decide) (by decide) (by decide) (by decide)
      obtain ⟨rfl, M21, K21, F23⟩ := hQ21
      have N21 := Fr.app N0 M21
      refine own_st (fun u_ k_ => st21 u_ k_) ?_
      show own_Go p e below _ (T21.setTop (mkF m 31 #[.val (.int i)] [(.ref b19)]))
      have K24 : Keep h0 h19 [] := (Keep.refl h0 []).ext E19
      have z26 : h0.size ≤ b19 := Nat.le_trans (Nat.le_refl _) (Nat.le_of_eq g19.symm)
      have K25 : Keep h0 T21.heap [] := K24.trans K21 (allS (Or.inr z26) all0)
      exact own_retX X21 hx hlk hret rfl (Or.inr (Or.inr (Or.inr (Or.inr ⟨rfl, rfl, rfl⟩)))) (hb hby own_d_jdk_33_22_31) (by decide) (by decide) (show QrmV Z wc cc i h0 n0 (some (.ref b19)) T21.heap _ from (by exact ⟨(.ref b19), rfl, N21, K25, rfl⟩))
    · refine own_st (fun u_ k_ => XS.icmpNo X17.here hx rfl (hb hby own_d_jdk_33_22_10) rfl (XT.ii_gt_f hc18) k_) ?_
      show own_Go p e below _ (T17.setTop (mkF m 13 #[.val (.int i)] []))
      have F27 : Sta Z h0 "java/lang/Integer$IntegerCache" "cache" "[Ljava/lang/Integer;" (.ref wc) := Sta.ext O0.2 hS.2.1
      obtain ⟨T28, X28, e28, st28⟩ := getS2 X17 hx hZ hown (host := "") (Or.inl (hw _ (List.mem_of_getElem? (i := 38) rfl))) Via.refl e17 F27 (g := (mkF m 13 #[.val (.int i)] [])) rfl (hb hby own_d_jdk_33_22_13)
      refine own_st (fun u_ k_ => st28 u_ k_) ?_
      show own_Go p e below _ (T28.setTop (mkF m 16 #[.val (.int i)] [(.ref wc)]))
      refine own_st (fun u_ k_ => XS.iloadN X28.here hx rfl (hb hby own_d_jdk_33_22_16) rfl k_) ?_
      show own_Go p e below _ (T28.setTop (mkF m 17 #[.val (.int i)] [(.int i), (.ref wc)]))
      refine own_st (fun u_ k_ => XS.sipush X28.here hx rfl (hb hby own_d_jdk_33_22_17) k_) ?_
      show own_Go p e below _ (T28.setTop (mkF m 20 #[.val (.int i)] [(.int (128 : Int32)), (.int i), (.ref wc)]))
      refine own_st (fun u_ k_ => XS.iadd X28.here hx rfl (hb hby own_d_jdk_33_22_20) rfl k_) ?_
      show own_Go p e below _ (T28.setTop (mkF m 21 #[.val (.int i)] [(.int (i + (128 : Int32))), (.ref wc)]))
      have hi29 := own_cache (c := cc) hS.2.2.2.1 hc7 hc18
      obtain ⟨r29, ha29, hr29⟩ := hS.2.2.2.2 _ hi29
      have Ar29 := hS.2.2.1.ext O0.2
      refine own_st (X28.aaload hx (by rw [e28]; exact Ar29.1) (State.isArrayOf_alike hZ.alike Ar29.2.1) rfl Ar29.2.2 hi29 ha29 (g := (mkF m 21 #[.val (.int i)] [(.int (i + (128 : Int32))), (.ref wc)])) rfl rfl (hb hby own_d_jdk_33_22_21)) ?_
      show own_Go p e below _ (T28.setTop (mkF m 22 #[.val (.int i)] [r29]))
      exact own_retX X28 hx hlk hret (own_narG hr29) (Or.inr (Or.inr (Or.inr (Or.inr ⟨rfl, rfl, hr29⟩)))) (hb hby own_d_jdk_33_22_22) (by decide) (by decide) (show QrmV Z wc cc i h0 n0 (some r29) T28.heap _ from (by rw [e28]; exact ⟨r29, rfl, N0, (Keep.refl h0 []), hr29⟩))
theorem own_d_prog_52_1_0 : decode prog_52_method_1_code 0 = .ok (.aload_n 0, 1) := by decide +kernel
theorem own_d_prog_52_1_1 : decode prog_52_method_1_code 1 = .ok (.invokespecial 1, 3) := by decide +kernel
theorem own_d_prog_52_1_4 : decode prog_52_method_1_code 4 = .ok (.return_, 1) := by decide +kernel
theorem own_pn_33 : plainName "com/example/forgewire/forgewire/beans/Need" = true := by first | (simp [plainName, overriddenIn]; done) | decide +kernel
theorem own_ef_rmM (m : MethodId) (a : Addr)  : entryFrame m #[(.ref a)] 1 = mkF m 0 #[.val (.ref a)] [] := by first | (simp [entryFrame, mkF, argsToLocals, Value.category, maxLocals]; done) | rfl
def QrmM (Z : State) (wc : Addr) (cc : Cell) (a : Addr) (h0 : Heap) (n0 : Nat) (v : Option Value) (h : Heap) (L : List Loc) : Prop := v = none ∧ Fr n0 L ∧ h = h0
set_option maxRecDepth 65536 in
set_option maxHeartbeats 40000000 in
theorem rmM (l : Launch) (Z : State) (a0 : Array Value) (hw : ∀ d ∈ tables_1, d.before a0 Z = true) (ws : List Jvm.Cond) (wc : Addr) (cc : Cell) (hS : own_S Z wc cc) (a : Addr) (h0 : Heap) (n0 : Nat) (O0 : Old Z n0 h0)  :
    own_Met l (⟨"com/example/forgewire/forgewire/beans/Need", "<init>", "()V"⟩ : MethodName) prog_52_method_1_code 1 none ws ({ frames := 1, cells := 0, slots := 0, locals := 12 } : Room) Z h0 #[(.ref a)] (QrmM Z wc cc a h0 n0) := by
  refine own_body (plainFor_of_name own_pn_33) ?_
  intro p e s m below meth c s₁ hx hby hml hown hnm hret hlk hZ e0 X0
  have N0 := Fr.nil n0
  refine own_st (fun u_ k_ => castTop (own_ef_rmM m a) k_) ?_
  show own_Go p e below _ (s₁.setTop (mkF m 0 #[.val (.ref a)] []))
  refine own_st (fun u_ k_ => XS.aloadN X0.here hx rfl (hb hby own_d_prog_52_1_0) rfl rfl k_) ?_
  show own_Go p e below _ (s₁.setTop (mkF m 1 #[.val (.ref a)] [(.ref a)]))
  obtain ⟨T30, X30, e30, st30⟩ := initO X0 hx hZ hown (hw _ (List.mem_of_getElem? (i := 11) rfl)) (hw _ (List.mem_of_getElem? (i := 12) rfl)) (hw _ (List.mem_of_getElem? (i := 13) rfl)) e0 (g := (mkF m 1 #[.val (.ref a)] [(.ref a)])) rfl (by rw [hml]; rfl) rfl (hb hby own_d_prog_52_1_1) (by decide) (W := 0) (by show 2 * 0 + _ ≤ _; exact Nat.le_of_eq rfl) (by decide)
  refine own_st (fun u_ k_ => st30 u_ k_) ?_
  show own_Go p e below _ (T30.setTop (mkF m 4 #[.val (.ref a)] []))
  exact own_retV X30 hx hlk hret (hb hby own_d_prog_52_1_4) (by decide) (by decide) (show QrmM Z wc cc a h0 n0 none T30.heap _ from (by rw [e30]; exact ⟨rfl, N0, rfl⟩))
theorem own_d_prog_55_1_0 : decode prog_55_method_1_code 0 = .ok (.aload_n 0, 1) := by decide +kernel
theorem own_d_prog_55_1_1 : decode prog_55_method_1_code 1 = .ok (.invokespecial 1, 3) := by decide +kernel
theorem own_d_prog_55_1_4 : decode prog_55_method_1_code 4 = .ok (.aload_n 0, 1) := by decide +kernel
theorem own_d_prog_55_1_5 : decode prog_55_method_1_code 5 = .ok (.aload_n 1, 1) := by decide +kernel
theorem own_d_prog_55_1_6 : decode prog_55_method_1_code 6 = .ok (.putfield 7, 3) := by decide +kernel
theorem own_d_prog_55_1_9 : decode prog_55_method_1_code 9 = .ok (.aload_n 0, 1) := by decide +kernel
theorem own_d_prog_55_1_10 : decode prog_55_method_1_code 10 = .ok (.aload_n 2, 1) := by decide +kernel
theorem own_d_prog_55_1_11 : decode prog_55_method_1_code 11 = .ok (.putfield 13, 3) := by decide +kernel
theorem own_d_prog_55_1_14 : decode prog_55_method_1_code 14 = .ok (.return_, 1) := by decide +kernel
theorem own_pn_43 : plainName "com/example/forgewire/forgewire/beans/Need$Named" = true := by first | (simp [plainName, overriddenIn]; done) | decide +kernel
theorem own_ef_rmD (m : MethodId) (a : Addr)  : entryFrame m #[(.ref a), .null, .null] 3 = mkF m 0 #[.val (.ref a), .val .null, .val .null] [] := by first | (simp [entryFrame, mkF, argsToLocals, Value.category, maxLocals]; done) | rfl
def QrmD (Z : State) (wc : Addr) (cc : Cell) (a : Addr) (h0 : Heap) (n0 : Nat) (v : Option Value) (h : Heap) (L : List Loc) : Prop := v = none ∧ Fr n0 L ∧ Keep h0 h [a] ∧ Exa Z h a "com/example/forgewire/forgewire/beans/Need$Named" ∧ Fld Z h a "com/example/forgewire/forgewire/beans/Need" "failure" "Ljava/lang/Throwable;" .null ∧ Fld Z h a "com/example/forgewire/forgewire/beans/Need" "bean" "Ljava/lang/Object;" .null
set_option maxRecDepth 65536 in
set_option maxHeartbeats 40000000 in
theorem rmD (l : Launch) (Z : State) (a0 : Array Value) (hw : ∀ d ∈ tables_1, d.before a0 Z = true) (ws : List Jvm.Cond) (wc : Addr) (cc : Cell) (hS : own_S Z wc cc) (a : Addr) (h0 : Heap) (n0 : Nat) (O0 : Old Z n0 h0) (E : Exa Z h0 a "com/example/forgewire/forgewire/beans/Need$Named") (F1 : Fld Z h0 a "com/example/forgewire/forgewire/beans/Need$Named" "name" "Ljava/lang/String;" .null) (F2 : Fld Z h0 a "com/example/forgewire/forgewire/beans/Need$Named" "type" "Ljava/lang/Class;" .null) (F3 : Fld Z h0 a "com/example/forgewire/forgewire/beans/Need" "failure" "Ljava/lang/Throwable;" .null) (F4 : Fld Z h0 a "com/example/forgewire/forgewire/beans/Need" "bean" "Ljava/lang/Object;" .null) (ga : n0 ≤ a) :
    own_Met l (⟨"com/example/forgewire/forgewire/beans/Need$Named", "<init>", "(Ljava/lang/String;Ljava/lang/Class;)V"⟩ : MethodName) prog_55_method_1_code 3 none ws ({ frames := 2, cells := 0, slots := 0, locals := 24 } : Room) Z h0 #[(.ref a), .null, .null] (QrmD Z wc cc a h0 n0) := by
  refine own_body (plainFor_of_name own_pn_43) ?_
  intro p e s m below meth c s₁ hx hby hml hown hnm hret hlk hZ e0 X0
  have N0 := Fr.nil n0
  refine own_st (fun u_ k_ => castTop (own_ef_rmD m a) k_) ?_
  show own_Go p e below _ (s₁.setTop (mkF m 0 #[.val (.ref a), .val .null, .val .null] []))
  refine own_st (fun u_ k_ => XS.aloadN X0.here hx rfl (hb hby own_d_prog_55_1_0) rfl rfl k_) ?_
  show own_Go p e below _ (s₁.setTop (mkF m 1 #[.val (.ref a), .val .null, .val .null] [(.ref a)]))
  obtain ⟨T31, v31, L31, X31, hQ31, st31⟩ := own_callN X0 hx hZ (y := (⟨"com/example/forgewire/forgewire/beans/Need", "<init>", "()V"⟩ : MethodName)) rfl hown (hw _ (List.mem_of_getElem? (i := 6) rfl)) (hw _ (List.mem_of_getElem? (i := 7) rfl)) (hw _ (List.mem_of_getElem? (i := 9) rfl)) (hw _ (List.mem_of_getElem? (i := 10) rfl)) (by decide) (rmM l Z a0 hw [] wc cc hS a h0 n0 O0 ) e0 own_pd_6 (a := a) (argsL := []) (rest := []) rfl rfl (g := (mkF m 1 #[.val (.ref a), .val .null, .val .null] [(.ref a)])) rfl (by rw [hml]; rfl) rfl (hb hby own_d_prog_55_1_1) (W := 0) rfl (by decide) (by decide) (by decide) (by decide)
  obtain ⟨rfl, M31, e31⟩ := hQ31
  have N31 := Fr.app N0 M31
  refine own_st (fun u_ k_ => st31 u_ k_) ?_
  show own_Go p e below _ (T31.setTop (mkF m 4 #[.val (.ref a), .val .null, .val .null] []))
  refine own_st (fun u_ k_ => XS.aloadN X31.here hx rfl (hb hby own_d_prog_55_1_4) rfl rfl k_) ?_
  show own_Go p e below _ (T31.setTop (mkF m 5 #[.val (.ref a), .val .null, .val .null] [(.ref a)]))
  refine own_st (fun u_ k_ => XS.aloadN X31.here hx rfl (hb hby own_d_prog_55_1_5) rfl rfl k_) ?_
  show own_Go p e below _ (T31.setTop (mkF m 6 #[.val (.ref a), .val .null, .val .null] [.null, (.ref a)]))
  obtain ⟨T32, h32, X32, e32, W32, st32⟩ := putF X31 hx hZ hown (host := "") (Or.inl (hw _ (List.mem_of_getElem? (i := 14) rfl))) Via.refl e31 F1 E (Or.inr ⟨(hw _ (List.mem_of_getElem? (i := 15) rfl)), rfl, hnm⟩) (hw _ (List.mem_of_getElem? (i := 1) rfl)) (ty := (.object "java/lang/String")) (by decide) rfl rfl (g := (mkF m 6 #[.val (.ref a), .val .null, .val .null] [.null, (.ref a)])) rfl rfl (hb hby own_d_prog_55_1_6)
  have N32 := Fr.snoc X32 N31 ga
  have F33 : Fld Z h32 a "com/example/forgewire/forgewire/beans/Need$Named" "name" "Ljava/lang/String;" .null := Fld.same W32 F1
  refine own_st (fun u_ k_ => st32 u_ k_) ?_
  show own_Go p e below _ (T32.setTop (mkF m 9 #[.val (.ref a), .val .null, .val .null] []))
  refine own_st (fun u_ k_ => XS.aloadN X32.here hx rfl (hb hby own_d_prog_55_1_9) rfl rfl k_) ?_
  show own_Go p e below _ (T32.setTop (mkF m 10 #[.val (.ref a), .val .null, .val .null] [(.ref a)]))
  refine own_st (fun u_ k_ => XS.aloadN X32.here hx rfl (hb hby own_d_prog_55_1_10) rfl rfl k_) ?_
  show own_Go p e below _ (T32.setTop (mkF m 11 #[.val (.ref a), .val .null, .val .null] [.null, (.ref a)]))
  have F34 : Exa Z h32 a "com/example/forgewire/forgewire/beans/Need$Named" := (Exa.wr W32 E)
  have F35 : Fld Z h32 a "com/example/forgewire/forgewire/beans/Need$Named" "type" "Ljava/lang/Class;" .null := (Fld.other W32 F2 (Or.inr (slot_ne (Or.inr (hw _ (List.mem_of_getElem? (i := 17) rfl))) (Or.inr (hw _ (List.mem_of_getElem? (i := 15) rfl))) (by decide) (t := (.object "java/lang/Class")) (t' := (.object "java/lang/String")) (by decide) (by decide))))
  obtain ⟨T36, h36, X36, e36, W36, st36⟩ := putF X32 hx hZ hown (host := "") (Or.inl (hw _ (List.mem_of_getElem? (i := 16) rfl))) Via.refl e32 F35 F34 (Or.inr ⟨(hw _ (List.mem_of_getElem? (i := 17) rfl)), rfl, hnm⟩) (hw _ (List.mem_of_getElem? (i := 1) rfl)) (ty := (.object "java/lang/Class")) (by decide) rfl rfl (g := (mkF m 11 #[.val (.ref a), .val .null, .val .null] [.null, (.ref a)])) rfl rfl (hb hby own_d_prog_55_1_11)
  have N36 := Fr.snoc X36 N32 ga
  have F37 : Fld Z h36 a "com/example/forgewire/forgewire/beans/Need$Named" "type" "Ljava/lang/Class;" .null := Fld.same W36 F35
  refine own_st (fun u_ k_ => st36 u_ k_) ?_
  show own_Go p e below _ (T36.setTop (mkF m 14 #[.val (.ref a), .val .null, .val .null] []))
  have K38 : Keep h0 h32 [a] := (Keep.refl h0 [a]).wr W32 (Or.inl (List.mem_of_getElem? (i := 0) rfl))
  have K39 : Keep h0 h36 [a] := K38.wr W36 (Or.inl (List.mem_of_getElem? (i := 0) rfl))
  have F40 : Exa Z h36 a "com/example/forgewire/forgewire/beans/Need$Named" := (Exa.wr W36 F34)
  have F41 : Fld Z h36 a "com/example/forgewire/forgewire/beans/Need" "failure" "Ljava/lang/Throwable;" .null := (Fld.other W36 (Fld.other W32 F3 (Or.inr (slot_ne (Or.inl (hw _ (List.mem_of_getElem? (i := 24) rfl))) (Or.inr (hw _ (List.mem_of_getElem? (i := 15) rfl))) (by decide) (t := (.object "java/lang/Throwable")) (t' := (.object "java/lang/String")) (by decide) (by decide)))) (Or.inr (slot_ne (Or.inl (hw _ (List.mem_of_getElem? (i := 24) rfl))) (Or.inr (hw _ (List.mem_of_getElem? (i := 17) rfl))) (by decide) (t := (.object "java/lang/Throwable")) (t' := (.object "java/lang/Class")) (by decide) (by decide))))
  have F42 : Fld Z h36 a "com/example/forgewire/forgewire/beans/Need" "bean" "Ljava/lang/Object;" .null := (Fld.other W36 (Fld.other W32 F4 (Or.inr (slot_ne (Or.inl (hw _ (List.mem_of_getElem? (i := 26) rfl))) (Or.inr (hw _ (List.mem_of_getElem? (i := 15) rfl))) (by decide) (t := (.object "java/lang/Object")) (t' := (.object "java/lang/String")) (by decide) (by decide)))) (Or.inr (slot_ne (Or.inl (hw _ (List.mem_of_getElem? (i := 26) rfl))) (Or.inr (hw _ (List.mem_of_getElem? (i := 17) rfl))) (by decide) (t := (.object "java/lang/Object")) (t' := (.object "java/lang/Class")) (by decide) (by decide))))
  exact own_retV X36 hx hlk hret (hb hby own_d_prog_55_1_14) (by decide) (by decide) (show QrmD Z wc cc a h0 n0 none T36.heap _ from (by rw [e36]; exact ⟨rfl, N36, K39, F40, F41, F42⟩))
theorem own_d_prog_52_4_0 : decode prog_52_method_4_code 0 = .ok (.aload_n 0, 1) := by decide +kernel
theorem own_d_prog_52_4_1 : decode prog_52_method_4_code 1 = .ok (.getfield 13, 3) := by decide +kernel
theorem own_d_prog_52_4_4 : decode prog_52_method_4_code 4 = .ok (.ifnull 14, 3) := by decide +kernel
theorem own_d_prog_52_4_18 : decode prog_52_method_4_code 18 = .ok (.aload_n 0, 1) := by decide +kernel
theorem own_d_prog_52_4_19 : decode prog_52_method_4_code 19 = .ok (.getfield 7, 3) := by decide +kernel
theorem own_d_prog_52_4_22 : decode prog_52_method_4_code 22 = .ok (.areturn, 1) := by decide +kernel
theorem own_ef_rmT (m : MethodId) (a : Addr)  : entryFrame m #[(.ref a)] 1 = mkF m 0 #[.val (.ref a)] [] := by first | (simp [entryFrame, mkF, argsToLocals, Value.category, maxLocals]; done) | rfl
def QrmT (Z : State) (wc : Addr) (cc : Cell) (a : Addr) (u : Value) (h0 : Heap) (n0 : Nat) (v : Option Value) (h : Heap) (L : List Loc) : Prop := v = some u ∧ Fr n0 L ∧ h = h0
set_option maxRecDepth 65536 in
set_option maxHeartbeats 40000000 in
theorem rmT (l : Launch) (Z : State) (a0 : Array Value) (hw : ∀ d ∈ tables_1, d.before a0 Z = true) (ws : List Jvm.Cond) (wc : Addr) (cc : Cell) (hS : own_S Z wc cc) (a : Addr) (u : Value) (h0 : Heap) (n0 : Nat) (O0 : Old Z n0 h0) (F3 : Fld Z h0 a "com/example/forgewire/forgewire/beans/Need" "failure" "Ljava/lang/Throwable;" .null) (F4 : Fld Z h0 a "com/example/forgewire/forgewire/beans/Need" "bean" "Ljava/lang/Object;" u) (hu : u.isRef = true) :
    own_Met l (⟨"com/example/forgewire/forgewire/beans/Need", "take", "()Ljava/lang/Object;"⟩ : MethodName) prog_52_method_4_code 1 (some (.object "java/lang/Object")) ws ({ frames := 0, cells := 0, slots := 0, locals := 0 } : Room) Z h0 #[(.ref a)] (QrmT Z wc cc a u h0 n0) := by
  refine own_body (plainFor_of_name own_pn_33) ?_
  intro p e s m below meth c s₁ hx hby hml hown hnm hret hlk hZ e0 X0
  have N0 := Fr.nil n0
  refine own_st (fun u_ k_ => castTop (own_ef_rmT m a) k_) ?_
  show own_Go p e below _ (s₁.setTop (mkF m 0 #[.val (.ref a)] []))
  refine own_st (fun u_ k_ => XS.aloadN X0.here hx rfl (hb hby own_d_prog_52_4_0) rfl rfl k_) ?_
  show own_Go p e below _ (s₁.setTop (mkF m 1 #[.val (.ref a)] [(.ref a)]))
  obtain ⟨T43, X43, e43, st43⟩ := getF X0 hx hZ hown (host := "") (Or.inl (hw _ (List.mem_of_getElem? (i := 23) rfl))) Via.refl e0 F3 (g := (mkF m 1 #[.val (.ref a)] [(.ref a)])) rfl rfl (hb hby own_d_prog_52_4_1)
  refine own_st (fun u_ k_ => st43 u_ k_) ?_
  show own_Go p e below _ (T43.setTop (mkF m 4 #[.val (.ref a)] [.null]))
  refine own_st (fun u_ k_ => XS.ifnullYes X43.here hx rfl (pc0 := 4) (pc' := 18) rfl (hb hby own_d_prog_52_4_4) rfl (by decide) (by decide) k_) ?_
  show own_Go p e below _ (T43.setTop (mkF m 18 #[.val (.ref a)] []))
  refine own_st (fun u_ k_ => XS.aloadN X43.here hx rfl (hb hby own_d_prog_52_4_18) rfl rfl k_) ?_
  show own_Go p e below _ (T43.setTop (mkF m 19 #[.val (.ref a)] [(.ref a)]))
  obtain ⟨T44, X44, e44, st44⟩ := getF X43 hx hZ hown (host := "") (Or.inl (hw _ (List.mem_of_getElem? (i := 25) rfl))) Via.refl e43 F4 (g := (mkF m 19 #[.val (.ref a)] [(.ref a)])) rfl rfl (hb hby own_d_prog_52_4_19)
  refine own_st (fun u_ k_ => st44 u_ k_) ?_
  show own_Go p e below _ (T44.setTop (mkF m 22 #[.val (.ref a)] [u]))
  exact own_retX X44 hx hlk hret (own_narG hu) (Or.inr (Or.inr (Or.inr (Or.inr ⟨rfl, rfl, hu⟩)))) (hb hby own_d_prog_52_4_22) (by decide) (by decide) (show QrmT Z wc cc a u h0 n0 (some u) T44.heap _ from (by rw [e44]; exact ⟨rfl, N0, rfl⟩))
theorem own_d_prog_52_2_0 : decode prog_52_method_2_code 0 = .ok (.aload_n 0, 1) := by decide +kernel
theorem own_d_prog_52_2_1 : decode prog_52_method_2_code 1 = .ok (.aload_n 1, 1) := by decide +kernel
theorem own_d_prog_52_2_2 : decode prog_52_method_2_code 2 = .ok (.putfield 7, 3) := by decide +kernel
theorem own_d_prog_52_2_5 : decode prog_52_method_2_code 5 = .ok (.return_, 1) := by decide +kernel
theorem own_ef_rmG (m : MethodId) (a : Addr) (u : Value) (hu : u.isRef = true) : entryFrame m #[(.ref a), u] 2 = mkF m 0 #[.val (.ref a), .val u] [] := by rcases ref_cases hu with rfl | ⟨_, rfl⟩ <;> first | (simp [entryFrame, mkF, argsToLocals, Value.category, maxLocals]; done) | rfl
def QrmG (Z : State) (wc : Addr) (cc : Cell) (a : Addr) (u : Value) (o : Value) (h0 : Heap) (n0 : Nat) (v : Option Value) (h : Heap) (L : List Loc) : Prop := v = none ∧ Fr n0 L ∧ Keep h0 h [a] ∧ Exa Z h a "com/example/forgewire/forgewire/beans/Need$Named" ∧ Fld Z h a "com/example/forgewire/forgewire/beans/Need" "failure" "Ljava/lang/Throwable;" .null ∧ Fld Z h a "com/example/forgewire/forgewire/beans/Need" "bean" "Ljava/lang/Object;" u
set_option maxRecDepth 65536 in
set_option maxHeartbeats 40000000 in
theorem rmG (l : Launch) (Z : State) (a0 : Array Value) (hw : ∀ d ∈ tables_1, d.before a0 Z = true) (ws : List Jvm.Cond) (wc : Addr) (cc : Cell) (hS : own_S Z wc cc) (a : Addr) (u : Value) (o : Value) (h0 : Heap) (n0 : Nat) (O0 : Old Z n0 h0) (E : Exa Z h0 a "com/example/forgewire/forgewire/beans/Need$Named") (F3 : Fld Z h0 a "com/example/forgewire/forgewire/beans/Need" "failure" "Ljava/lang/Throwable;" .null) (F4 : Fld Z h0 a "com/example/forgewire/forgewire/beans/Need" "bean" "Ljava/lang/Object;" o) (ga : n0 ≤ a) (hu : u.isRef = true) :
    own_Met l (⟨"com/example/forgewire/forgewire/beans/Need", "give", "(Ljava/lang/Object;)V"⟩ : MethodName) prog_52_method_2_code 2 none ws ({ frames := 0, cells := 0, slots := 0, locals := 0 } : Room) Z h0 #[(.ref a), u] (QrmG Z wc cc a u o h0 n0) := by
  refine own_body (plainFor_of_name own_pn_33) ?_
  intro p e s m below meth c s₁ hx hby hml hown hnm hret hlk hZ e0 X0
  have N0 := Fr.nil n0
  refine own_st (fun u_ k_ => castTop (own_ef_rmG m a u hu) k_) ?_
  show own_Go p e below _ (s₁.setTop (mkF m 0 #[.val (.ref a), .val u] []))
  refine own_st (fun u_ k_ => XS.aloadN X0.here hx rfl (hb hby own_d_prog_52_2_0) rfl rfl k_) ?_
  show own_Go p e below _ (s₁.setTop (mkF m 1 #[.val (.ref a), .val u] [(.ref a)]))
  refine own_st (fun u_ k_ => XS.aloadN X0.here hx rfl (hb hby own_d_prog_52_2_1) rfl hu k_) ?_
  show own_Go p e below _ (s₁.setTop (mkF m 2 #[.val (.ref a), .val u] [u, (.ref a)]))
  obtain ⟨T45, h45, X45, e45, W45, st45⟩ := putF X0 hx hZ hown (host := "") (Or.inl (hw _ (List.mem_of_getElem? (i := 25) rfl))) Via.refl e0 F4 E (Or.inl (hw _ (List.mem_of_getElem? (i := 26) rfl))) (hw _ (List.mem_of_getElem? (i := 1) rfl)) (ty := (.object "java/lang/Object")) (by decide) (own_narG hu) (own_fitG hu) (g := (mkF m 2 #[.val (.ref a), .val u] [u, (.ref a)])) rfl rfl (hb hby own_d_prog_52_2_2)
  have N45 := Fr.snoc X45 N0 ga
  have F46 : Fld Z h45 a "com/example/forgewire/forgewire/beans/Need" "bean" "Ljava/lang/Object;" u := Fld.same W45 F4
  refine own_st (fun u_ k_ => st45 u_ k_) ?_
  show own_Go p e below _ (T45.setTop (mkF m 5 #[.val (.ref a), .val u] []))
  have K47 : Keep h0 h45 [a] := (Keep.refl h0 [a]).wr W45 (Or.inl (List.mem_of_getElem? (i := 0) rfl))
  have F48 : Exa Z h45 a "com/example/forgewire/forgewire/beans/Need$Named" := (Exa.wr W45 E)
  have F49 : Fld Z h45 a "com/example/forgewire/forgewire/beans/Need" "failure" "Ljava/lang/Throwable;" .null := (Fld.other W45 F3 (Or.inr (slot_ne (Or.inl (hw _ (List.mem_of_getElem? (i := 24) rfl))) (Or.inl (hw _ (List.mem_of_getElem? (i := 26) rfl))) (by decide) (t := (.object "java/lang/Throwable")) (t' := (.object "java/lang/Object")) (by decide) (by decide))))
  exact own_retV X45 hx hlk hret (hb hby own_d_prog_52_2_5) (by decide) (by decide) (show QrmG Z wc cc a u o h0 n0 none T45.heap _ from (by rw [e45]; exact ⟨rfl, N45, K47, F48, F49, F46⟩))
theorem own_pd_54 : parseMethodDescriptor "(Ljava/lang/String;Ljava/lang/Class;)V" = some ⟨[(.object "java/lang/String"), (.object "java/lang/Class")], none⟩ := by decide +kernel
theorem own_pd_55 : parseMethodDescriptor "()Ljava/lang/Object;" = some ⟨[], some (.object "java/lang/Object")⟩ := by decide +kernel
theorem own_pd_56 : parseMethodDescriptor "(Ljava/lang/Object;)V" = some ⟨[(.object "java/lang/Object")], none⟩ := by decide +kernel
theorem own_pd_57 : parseMethodDescriptor "(I)Ljava/lang/Integer;" = some ⟨[.int], some (.object "java/lang/Integer")⟩ := by decide +kernel
-- the law itself
theorem own_pn_58 : plainName "com/example/forgewire/forgewire/beans/NeedTakePinLaw" = true := by first | (simp [plainName, overriddenIn]; done) | decide +kernel
theorem own_ef_rm0 (m : MethodId) (md : Int32) (va : Int32)  : entryFrame m #[(.int md), (.int va)] maxLocals = mkF m 0 #[.val (.int md), .val (.int va), .unset, .unset, .unset, .unset, .unset, .unset, .unset] [] := by first | (simp [entryFrame, mkF, argsToLocals, Value.category, maxLocals]; done) | rfl
def Qrm0 (Z : State) (wc : Addr) (cc : Cell) (md : Int32) (va : Int32) (h0 : Heap) (n0 : Nat) (v : Option Value) (h : Heap) (L : List Loc) : Prop := v = some (.int (1 : Int32)) ∧ Fr n0 L ∧ Keep h0 h []
set_option maxRecDepth 65536 in
set_option maxHeartbeats 40000000 in
theorem rm0 (l : Launch) (Z : State) (a0 : Array Value) (hw : ∀ d ∈ tables_1, d.before a0 Z = true) (ws : List Jvm.Cond) (wc : Addr) (cc : Cell) (hS : own_S Z wc cc) (md : Int32) (va : Int32) (h0 : Heap) (n0 : Nat) (O0 : Old Z n0 h0)  :
    own_Met l x code maxLocals ret ws room_1 Z h0 #[(.int md), (.int va)] (Qrm0 Z wc cc md va h0 n0) := by
  refine own_body (plainFor_of_name own_pn_58) ?_
  intro p e s m below meth c s₁ hx hby hml hown hnm hret hlk hZ e0 X0
  have N0 := Fr.nil n0
  refine own_st (fun u_ k_ => castTop (own_ef_rm0 m md va) k_) ?_
  show own_Go p e below _ (s₁.setTop (mkF m 0 #[.val (.int md), .val (.int va), .unset, .unset, .unset, .unset, .unset, .unset, .unset] []))
  obtain ⟨T50, h50, X50, e50, E50, A50, D50, U50, st50⟩ := newO X0 hx hZ hown (hw _ (List.mem_of_getElem? (i := 0) rfl)) (hw _ (List.mem_of_getElem? (i := 1) rfl)) (hw _ (List.mem_of_getElem? (i := 2) rfl)) e0 (g := (mkF m 0 #[.val (.int md), .val (.int va), .unset, .unset, .unset, .unset, .unset, .unset, .unset] [])) rfl (hb hby at_0) (by decide) (by decide)
  obtain ⟨b50, g50⟩ : ∃ z, z = h0.size := ⟨_, rfl⟩
  rw [← g50] at A50 D50 U50 st50
  have F50_name : Fld Z h50 b50 "com/example/forgewire/forgewire/beans/Need$Named" "name" "Ljava/lang/String;" .null := D50 (Or.inr (hw _ (List.mem_of_getElem? (i := 15) rfl))) (ty := (.object "java/lang/String")) (by decide)
  have F50_type : Fld Z h50 b50 "com/example/forgewire/forgewire/beans/Need$Named" "type" "Ljava/lang/Class;" .null := D50 (Or.inr (hw _ (List.mem_of_getElem? (i := 17) rfl))) (ty := (.object "java/lang/Class")) (by decide)
  have F50_failure : Fld Z h50 b50 "com/example/forgewire/forgewire/beans/Need" "failure" "Ljava/lang/Throwable;" .null := D50 (Or.inl (hw _ (List.mem_of_getElem? (i := 24) rfl))) (ty := (.object "java/lang/Throwable")) (by decide)
  have F50_bean : Fld Z h50 b50 "com/example/forgewire/forgewire/beans/Need" "bean" "Ljava/lang/Object;" .null := D50 (Or.inl (hw _ (List.mem_of_getElem? (i := 26) rfl))) (ty := (.object "java/lang/Object")) (by decide)
  refine own_st (fun u_ k_ => st50 u_ k_) ?_
  show own_Go p e below _ (T50.setTop (mkF m 3 #[.val (.int md), .val (.int va), .unset, .unset, .unset, .unset, .unset, .unset, .unset] [(.ref b50)]))
  refine own_st (fun u_ k_ => XS.dup X50.here hx rfl (hb hby at_3) rfl rfl k_) ?_
  show own_Go p e below _ (T50.setTop (mkF m 4 #[.val (.int md), .val (.int va), .unset, .unset, .unset, .unset, .unset, .unset, .unset] [(.ref b50), (.ref b50)]))
  refine own_st (fun u_ k_ => XS.aconstNull X50.here hx rfl (hb hby at_4) k_) ?_
  show own_Go p e below _ (T50.setTop (mkF m 5 #[.val (.int md), .val (.int va), .unset, .unset, .unset, .unset, .unset, .unset, .unset] [.null, (.ref b50), (.ref b50)]))
  refine own_st (fun u_ k_ => XS.aconstNull X50.here hx rfl (hb hby at_5) k_) ?_
  show own_Go p e below _ (T50.setTop (mkF m 6 #[.val (.int md), .val (.int va), .unset, .unset, .unset, .unset, .unset, .unset, .unset] [.null, .null, (.ref b50), (.ref b50)]))
  have g51 : n0 ≤ b50 := Nat.le_trans (own_nl O0) (Nat.le_of_eq g50.symm)
  have O53 : Old Z n0 h50 := O0.ext E50
  obtain ⟨T52, v52, L52, X52, hQ52, st52⟩ := own_callN X50 hx hZ (y := (⟨"com/example/forgewire/forgewire/beans/Need$Named", "<init>", "(Ljava/lang/String;Ljava/lang/Class;)V"⟩ : MethodName)) rfl hown (hw _ (List.mem_of_getElem? (i := 3) rfl)) (hw _ (List.mem_of_getElem? (i := 4) rfl)) (hw _ (List.mem_of_getElem? (i := 2) rfl)) (hw _ (List.mem_of_getElem? (i := 5) rfl)) (by decide) (rmD l Z a0 hw [] wc cc hS b50 h50 n0 O53 A50 F50_name F50_type F50_failure F50_bean g51) e50 own_pd_54 (a := b50) (argsL := [.null, .null]) (rest := [(.ref b50)]) rfl rfl (g := (mkF m 6 #[.val (.int md), .val (.int va), .unset, .unset, .unset, .unset, .unset, .unset, .unset] [.null, .null, (.ref b50), (.ref b50)])) rfl (by rw [hml]; rfl) rfl (hb hby at_6) (W := 1) rfl (by decide) (by decide) (by decide) (by decide)
  obtain ⟨rfl, M52, K52, F54, F55, F56⟩ := hQ52
  have N52 := Fr.app N0 M52
  refine own_st (fun u_ k_ => st52 u_ k_) ?_
  show own_Go p e below _ (T52.setTop (mkF m 9 #[.val (.int md), .val (.int va), .unset, .unset, .unset, .unset, .unset, .unset, .unset] [(.ref b50)]))
  refine own_st (fun u_ k_ => XS.astoreN X52.here hx rfl (hb hby at_9) rfl rfl (l' := #[.val (.int md), .val (.int va), .val (.ref b50), .unset, .unset, .unset, .unset, .unset, .unset]) rfl k_) ?_
  show own_Go p e below _ (T52.setTop (mkF m 10 #[.val (.int md), .val (.int va), .val (.ref b50), .unset, .unset, .unset, .unset, .unset, .unset] []))
  refine own_st (fun u_ k_ => XS.iloadN X52.here hx rfl (hb hby at_10) rfl k_) ?_
  show own_Go p e below _ (T52.setTop (mkF m 11 #[.val (.int md), .val (.int va), .val (.ref b50), .unset, .unset, .unset, .unset, .unset, .unset] [(.int md)]))
  refine own_st (fun u_ k_ => XS.iconst X52.here hx rfl (hb hby at_11) k_) ?_
  show own_Go p e below _ (T52.setTop (mkF m 12 #[.val (.int md), .val (.int va), .val (.ref b50), .unset, .unset, .unset, .unset, .unset, .unset] [(.int (3 : Int32)), (.int md)]))
  refine own_st (fun u_ k_ => XS.iand X52.here hx rfl (hb hby at_12) rfl k_) ?_
  show own_Go p e below _ (T52.setTop (mkF m 13 #[.val (.int md), .val (.int va), .val (.ref b50), .unset, .unset, .unset, .unset, .unset, .unset] [(.int (md &&& (3 : Int32)))]))
  refine own_st (fun u_ k_ => XS.istoreN X52.here hx rfl (hb hby at_13) rfl (l' := #[.val (.int md), .val (.int va), .val (.ref b50), .val (.int (md &&& (3 : Int32))), .unset, .unset, .unset, .unset, .unset]) rfl k_) ?_
  show own_Go p e below _ (T52.setTop (mkF m 14 #[.val (.int md), .val (.int va), .val (.ref b50), .val (.int (md &&& (3 : Int32))), .unset, .unset, .unset, .unset, .unset] []))
  refine own_st (fun u_ k_ => XS.iloadN X52.here hx rfl (hb hby at_14) rfl k_) ?_
  show own_Go p e below _ (T52.setTop (mkF m 15 #[.val (.int md), .val (.int va), .val (.ref b50), .val (.int (md &&& (3 : Int32))), .unset, .unset, .unset, .unset, .unset] [(.int (md &&& (3 : Int32)))]))
  by_cases hc57 : (md &&& (3 : Int32)) = (0 : Int32)
  · refine own_st (fun u_ k_ => XS.ifNo X52.here hx rfl (hb hby at_15) rfl (XT.i0_ne_f hc57) k_) ?_
    show own_Go p e below _ (T52.setTop (mkF m 18 #[.val (.int md), .val (.int va), .val (.ref b50), .val (.int (md &&& (3 : Int32))), .unset, .unset, .unset, .unset, .unset] []))
    refine own_st (fun u_ k_ => XS.aconstNull X52.here hx rfl (hb hby at_18) k_) ?_
    show own_Go p e below _ (T52.setTop (mkF m 19 #[.val (.int md), .val (.int va), .val (.ref b50), .val (.int (md &&& (3 : Int32))), .unset, .unset, .unset, .unset, .unset] [.null]))
    refine own_st (fun u_ k_ => XS.astore X52.here hx rfl (hb hby at_19) rfl rfl (l' := #[.val (.int md), .val (.int va), .val (.ref b50), .val (.int (md &&& (3 : Int32))), .val .null, .unset, .unset, .unset, .unset]) rfl k_) ?_
    show own_Go p e below _ (T52.setTop (mkF m 21 #[.val (.int md), .val (.int va), .val (.ref b50), .val (.int (md &&& (3 : Int32))), .val .null, .unset, .unset, .unset, .unset] []))
    refine own_st (fun u_ k_ => XS.goto X52.here hx rfl (pc0 := 21) (pc' := 60) rfl (hb hby at_21) (by decide) (by decide) k_) ?_
    show own_Go p e below _ (T52.setTop (mkF m 60 #[.val (.int md), .val (.int va), .val (.ref b50), .val (.int (md &&& (3 : Int32))), .val .null, .unset, .unset, .unset, .unset] []))
    refine own_st (fun u_ k_ => XS.iloadN X52.here hx rfl (hb hby at_60) rfl k_) ?_
    show own_Go p e below _ (T52.setTop (mkF m 61 #[.val (.int md), .val (.int va), .val (.ref b50), .val (.int (md &&& (3 : Int32))), .val .null, .unset, .unset, .unset, .unset] [(.int md)]))
    refine own_st (fun u_ k_ => XS.iconst X52.here hx rfl (hb hby at_61) k_) ?_
    show own_Go p e below _ (T52.setTop (mkF m 62 #[.val (.int md), .val (.int va), .val (.ref b50), .val (.int (md &&& (3 : Int32))), .val .null, .unset, .unset, .unset, .unset] [(.int (4 : Int32)), (.int md)]))
    refine own_st (fun u_ k_ => XS.iand X52.here hx rfl (hb hby at_62) rfl k_) ?_
    show own_Go p e below _ (T52.setTop (mkF m 63 #[.val (.int md), .val (.int va), .val (.ref b50), .val (.int (md &&& (3 : Int32))), .val .null, .unset, .unset, .unset, .unset] [(.int (md &&& (4 : Int32)))]))
    by_cases hc58 : (md &&& (4 : Int32)) = (0 : Int32)
    · refine own_st (fun u_ k_ => XS.ifYes X52.here hx rfl (pc0 := 63) (pc' := 70) rfl (hb hby at_63) rfl (XT.i0_eq_t hc58) (by decide) (by decide) k_) ?_
      show own_Go p e below _ (T52.setTop (mkF m 70 #[.val (.int md), .val (.int va), .val (.ref b50), .val (.int (md &&& (3 : Int32))), .val .null, .unset, .unset, .unset, .unset] []))
      refine own_st (fun u_ k_ => XS.iconst X52.here hx rfl (hb hby at_70) k_) ?_
      show own_Go p e below _ (T52.setTop (mkF m 71 #[.val (.int md), .val (.int va), .val (.ref b50), .val (.int (md &&& (3 : Int32))), .val .null, .unset, .unset, .unset, .unset] [(.int (0 : Int32))]))
      refine own_st (fun u_ k_ => XS.istore X52.here hx rfl (hb hby at_71) rfl (l' := #[.val (.int md), .val (.int va), .val (.ref b50), .val (.int (md &&& (3 : Int32))), .val .null, .val (.int (0 : Int32)), .unset, .unset, .unset]) rfl k_) ?_
      show own_Go p e below _ (T52.setTop (mkF m 73 #[.val (.int md), .val (.int va), .val (.ref b50), .val (.int (md &&& (3 : Int32))), .val .null, .val (.int (0 : Int32)), .unset, .unset, .unset] []))
      refine own_st (fun u_ k_ => XS.iload X52.here hx rfl (hb hby at_73) rfl k_) ?_
      show own_Go p e below _ (T52.setTop (mkF m 75 #[.val (.int md), .val (.int va), .val (.ref b50), .val (.int (md &&& (3 : Int32))), .val .null, .val (.int (0 : Int32)), .unset, .unset, .unset] [(.int (0 : Int32))]))
      refine own_st (fun u_ k_ => XS.ifYes X52.here hx rfl (pc0 := 75) (pc' := 84) rfl (hb hby at_75) rfl (XT.i0_eq_t (by decide)) (by decide) (by decide) k_) ?_
      show own_Go p e below _ (T52.setTop (mkF m 84 #[.val (.int md), .val (.int va), .val (.ref b50), .val (.int (md &&& (3 : Int32))), .val .null, .val (.int (0 : Int32)), .unset, .unset, .unset] []))
      refine own_st (fun u_ k_ => XS.iload X52.here hx rfl (hb hby at_84) rfl k_) ?_
      show own_Go p e below _ (T52.setTop (mkF m 86 #[.val (.int md), .val (.int va), .val (.ref b50), .val (.int (md &&& (3 : Int32))), .val .null, .val (.int (0 : Int32)), .unset, .unset, .unset] [(.int (0 : Int32))]))
      refine own_st (fun u_ k_ => XS.ifYes X52.here hx rfl (pc0 := 86) (pc' := 94) rfl (hb hby at_86) rfl (XT.i0_eq_t (by decide)) (by decide) (by decide) k_) ?_
      show own_Go p e below _ (T52.setTop (mkF m 94 #[.val (.int md), .val (.int va), .val (.ref b50), .val (.int (md &&& (3 : Int32))), .val .null, .val (.int (0 : Int32)), .unset, .unset, .unset] []))
      refine own_st (fun u_ k_ => XS.aconstNull X52.here hx rfl (hb hby at_94) k_) ?_
      show own_Go p e below _ (T52.setTop (mkF m 95 #[.val (.int md), .val (.int va), .val (.ref b50), .val (.int (md &&& (3 : Int32))), .val .null, .val (.int (0 : Int32)), .unset, .unset, .unset] [.null]))
      refine own_st (fun u_ k_ => XS.astore X52.here hx rfl (hb hby at_95) rfl rfl (l' := #[.val (.int md), .val (.int va), .val (.ref b50), .val (.int (md &&& (3 : Int32))), .val .null, .val (.int (0 : Int32)), .val .null, .unset, .unset]) rfl k_) ?_
      show own_Go p e below _ (T52.setTop (mkF m 97 #[.val (.int md), .val (.int va), .val (.ref b50), .val (.int (md &&& (3 : Int32))), .val .null, .val (.int (0 : Int32)), .val .null, .unset, .unset] []))
      refine own_st (fun u_ k_ => XS.aloadN X52.here hx rfl (hb hby at_97) rfl rfl k_) ?_
      show own_Go p e below _ (T52.setTop (mkF m 98 #[.val (.int md), .val (.int va), .val (.ref b50), .val (.int (md &&& (3 : Int32))), .val .null, .val (.int (0 : Int32)), .val .null, .unset, .unset] [(.ref b50)]))
      have O60 : Old Z n0 T52.heap := O53.keep K52 (allS g51 all0)
      obtain ⟨T59, v59, L59, X59, hQ59, st59⟩ := own_callV X52 hx hZ (y := (⟨"com/example/forgewire/forgewire/beans/Need", "take", "()Ljava/lang/Object;"⟩ : MethodName)) (z := (⟨"com/example/forgewire/forgewire/beans/Need", "take", "()Ljava/lang/Object;"⟩ : MethodName)) hown (hw _ (List.mem_of_getElem? (i := 18) rfl)) (hw _ (List.mem_of_getElem? (i := 19) rfl)) (notFace_of_selects (args := #[]) (mvT hZ (hw _ (List.mem_of_getElem? (i := 21) rfl)))) (hw _ (List.mem_of_getElem? (i := 21) rfl)) (hw _ (List.mem_of_getElem? (i := 20) rfl)) (hw _ (List.mem_of_getElem? (i := 9) rfl)) (hw _ (List.mem_of_getElem? (i := 22) rfl)) (by decide) (rmT l Z a0 hw [] wc cc hS b50 (.null : Value) T52.heap n0 O60 F55 F56 rfl) rfl F54 own_pd_55 (argsL := []) (rest := []) rfl rfl (g := (mkF m 98 #[.val (.int md), .val (.int va), .val (.ref b50), .val (.int (md &&& (3 : Int32))), .val .null, .val (.int (0 : Int32)), .val .null, .unset, .unset] [(.ref b50)])) rfl (by rw [hml]; rfl) rfl (hb hby at_98) (W := 0) rfl (by decide) (by decide) (by decide) (by decide)
      obtain ⟨rfl, M59, e59⟩ := hQ59
      have N59 := Fr.app N52 M59
      refine own_st (fun u_ k_ => st59 u_ k_) ?_
      show own_Go p e below _ (T59.setTop (mkF m 101 #[.val (.int md), .val (.int va), .val (.ref b50), .val (.int (md &&& (3 : Int32))), .val .null, .val (.int (0 : Int32)), .val .null, .unset, .unset] [.null]))
      refine own_st (fun u_ k_ => XS.astore X59.here hx rfl (hb hby at_101) rfl rfl (l' := #[.val (.int md), .val (.int va), .val (.ref b50), .val (.int (md &&& (3 : Int32))), .val .null, .val (.int (0 : Int32)), .val .null, .val .null, .unset]) rfl k_) ?_
      show own_Go p e below _ (T59.setTop (mkF m 103 #[.val (.int md), .val (.int va), .val (.ref b50), .val (.int (md &&& (3 : Int32))), .val .null, .val (.int (0 : Int32)), .val .null, .val .null, .unset] []))
      refine own_st (fun u_ k_ => XS.aloadN X59.here hx rfl (hb hby at_103) rfl rfl k_) ?_
      show own_Go p e below _ (T59.setTop (mkF m 104 #[.val (.int md), .val (.int va), .val (.ref b50), .val (.int (md &&& (3 : Int32))), .val .null, .val (.int (0 : Int32)), .val .null, .val .null, .unset] [(.ref b50)]))
      obtain ⟨T61, v61, L61, X61, hQ61, st61⟩ := own_callV X59 hx hZ (y := (⟨"com/example/forgewire/forgewire/beans/Need", "take", "()Ljava/lang/Object;"⟩ : MethodName)) (z := (⟨"com/example/forgewire/forgewire/beans/Need", "take", "()Ljava/lang/Object;"⟩ : MethodName)) hown (hw _ (List.mem_of_getElem? (i := 18) rfl)) (hw _ (List.mem_of_getElem? (i := 19) rfl)) (notFace_of_selects (args := #[]) (mvT hZ (hw _ (List.mem_of_getElem? (i := 21) rfl)))) (hw _ (List.mem_of_getElem? (i := 21) rfl)) (hw _ (List.mem_of_getElem? (i := 20) rfl)) (hw _ (List.mem_of_getElem? (i := 9) rfl)) (hw _ (List.mem_of_getElem? (i := 22) rfl)) (by decide) (rmT l Z a0 hw [] wc cc hS b50 (.null : Value) T52.heap n0 O60 F55 F56 rfl) e59 F54 own_pd_55 (argsL := []) (rest := []) rfl rfl (g := (mkF m 104 #[.val (.int md), .val (.int va), .val (.ref b50), .val (.int (md &&& (3 : Int32))), .val .null, .val (.int (0 : Int32)), .val .null, .val .null, .unset] [(.ref b50)])) rfl (by rw [hml]; rfl) rfl (hb hby at_104) (W := 0) rfl (by decide) (by decide) (by decide) (by decide)
      obtain ⟨rfl, M61, e61⟩ := hQ61
      have N61 := Fr.app N59 M61
      refine own_st (fun u_ k_ => st61 u_ k_) ?_
      show own_Go p e below _ (T61.setTop (mkF m 107 #[.val (.int md), .val (.int va), .val (.ref b50), .val (.int (md &&& (3 : Int32))), .val .null, .val (.int (0 : Int32)), .val .null, .val .null, .unset] [.null]))
      refine own_st (fun u_ k_ => XS.astore X61.here hx rfl (hb hby at_107) rfl rfl (l' := #[.val (.int md), .val (.int va), .val (.ref b50), .val (.int (md &&& (3 : Int32))), .val .null, .val (.int (0 : Int32)), .val .null, .val .null, .val .null]) rfl k_) ?_
      show own_Go p e below _ (T61.setTop (mkF m 109 #[.val (.int md), .val (.int va), .val (.ref b50), .val (.int (md &&& (3 : Int32))), .val .null, .val (.int (0 : Int32)), .val .null, .val .null, .val .null] []))
      refine own_st (fun u_ k_ => XS.aload X61.here hx rfl (hb hby at_109) rfl rfl k_) ?_
      show own_Go p e below _ (T61.setTop (mkF m 111 #[.val (.int md), .val (.int va), .val (.ref b50), .val (.int (md &&& (3 : Int32))), .val .null, .val (.int (0 : Int32)), .val .null, .val .null, .val .null] [.null]))
      refine own_st (fun u_ k_ => XS.aload X61.here hx rfl (hb hby at_111) rfl rfl k_) ?_
      show own_Go p e below _ (T61.setTop (mkF m 113 #[.val (.int md), .val (.int va), .val (.ref b50), .val (.int (md &&& (3 : Int32))), .val .null, .val (.int (0 : Int32)), .val .null, .val .null, .val .null] [.null, .null]))
      refine own_st (fun u_ k_ => XT.acmpNo X61.here hx rfl (hb hby at_113) rfl rfl rfl (XT.aa_ne_f rfl) k_) ?_
      show own_Go p e below _ (T61.setTop (mkF m 116 #[.val (.int md), .val (.int va), .val (.ref b50), .val (.int (md &&& (3 : Int32))), .val .null, .val (.int (0 : Int32)), .val .null, .val .null, .val .null] []))
      refine own_st (fun u_ k_ => XS.aload X61.here hx rfl (hb hby at_116) rfl rfl k_) ?_
      show own_Go p e below _ (T61.setTop (mkF m 118 #[.val (.int md), .val (.int va), .val (.ref b50), .val (.int (md &&& (3 : Int32))), .val .null, .val (.int (0 : Int32)), .val .null, .val .null, .val .null] [.null]))
      refine own_st (fun u_ k_ => XS.aload X61.here hx rfl (hb hby at_118) rfl rfl k_) ?_
      show own_Go p e below _ (T61.setTop (mkF m 120 #[.val (.int md), .val (.int va), .val (.ref b50), .val (.int (md &&& (3 : Int32))), .val .null, .val (.int (0 : Int32)), .val .null, .val .null, .val .null] [.null, .null]))
      refine own_st (fun u_ k_ => XT.acmpNo X61.here hx rfl (hb hby at_120) rfl rfl rfl (XT.aa_ne_f rfl) k_) ?_
      show own_Go p e below _ (T61.setTop (mkF m 123 #[.val (.int md), .val (.int va), .val (.ref b50), .val (.int (md &&& (3 : Int32))), .val .null, .val (.int (0 : Int32)), .val .null, .val .null, .val .null] []))
      refine own_st (fun u_ k_ => XS.iconst X61.here hx rfl (hb hby at_123) k_) ?_
      show own_Go p e below _ (T61.setTop (mkF m 124 #[.val (.int md), .val (.int va), .val (.ref b50), .val (.int (md &&& (3 : Int32))), .val .null, .val (.int (0 : Int32)), .val .null, .val .null, .val .null] [(.int (1 : Int32))]))
      refine own_st (fun u_ k_ => XS.goto X61.here hx rfl (pc0 := 124) (pc' := 128) rfl (hb hby at_124) (by decide) (by decide) k_) ?_
      show own_Go p e below _ (T61.setTop (mkF m 128 #[.val (.int md), .val (.int va), .val (.ref b50), .val (.int (md &&& (3 : Int32))), .val .null, .val (.int (0 : Int32)), .val .null, .val .null, .val .null] [(.int (1 : Int32))]))
      have K62 : Keep h0 h50 [] := (Keep.refl h0 []).ext E50
      have z64 : h0.size ≤ b50 := Nat.le_trans (Nat.le_refl _) (Nat.le_of_eq g50.symm)
      have K63 : Keep h0 T52.heap [] := K62.trans K52 (allS (Or.inr z64) all0)
      exact own_retX X61 hx hlk hret rfl (Or.inl ⟨rfl, by simp, _, rfl⟩) (hb hby at_128) (by decide) (by decide) (show Qrm0 Z wc cc md va h0 n0 (some (.int (1 : Int32))) T61.heap _ from (by rw [e61]; exact ⟨rfl, N61, K63⟩))
    · refine own_st (fun u_ k_ => XS.ifNo X52.here hx rfl (hb hby at_63) rfl (XT.i0_eq_f hc58) k_) ?_
      show own_Go p e below _ (T52.setTop (mkF m 66 #[.val (.int md), .val (.int va), .val (.ref b50), .val (.int (md &&& (3 : Int32))), .val .null, .unset, .unset, .unset, .unset] []))
      refine own_st (fun u_ k_ => XS.iconst X52.here hx rfl (hb hby at_66) k_) ?_
      show own_Go p e below _ (T52.setTop (mkF m 67 #[.val (.int md), .val (.int va), .val (.ref b50), .val (.int (md &&& (3 : Int32))), .val .null, .unset, .unset, .unset, .unset] [(.int (1 : Int32))]))
      refine own_st (fun u_ k_ => XS.goto X52.here hx rfl (pc0 := 67) (pc' := 71) rfl (hb hby at_67) (by decide) (by decide) k_) ?_
      show own_Go p e below _ (T52.setTop (mkF m 71 #[.val (.int md), .val (.int va), .val (.ref b50), .val (.int (md &&& (3 : Int32))), .val .null, .unset, .unset, .unset, .unset] [(.int (1 : Int32))]))
      refine own_st (fun u_ k_ => XS.istore X52.here hx rfl (hb hby at_71) rfl (l' := #[.val (.int md), .val (.int va), .val (.ref b50), .val (.int (md &&& (3 : Int32))), .val .null, .val (.int (1 : Int32)), .unset, .unset, .unset]) rfl k_) ?_
      show own_Go p e below _ (T52.setTop (mkF m 73 #[.val (.int md), .val (.int va), .val (.ref b50), .val (.int (md &&& (3 : Int32))), .val .null, .val (.int (1 : Int32)), .unset, .unset, .unset] []))
      refine own_st (fun u_ k_ => XS.iload X52.here hx rfl (hb hby at_73) rfl k_) ?_
      show own_Go p e below _ (T52.setTop (mkF m 75 #[.val (.int md), .val (.int va), .val (.ref b50), .val (.int (md &&& (3 : Int32))), .val .null, .val (.int (1 : Int32)), .unset, .unset, .unset] [(.int (1 : Int32))]))
      refine own_st (fun u_ k_ => XS.ifNo X52.here hx rfl (hb hby at_75) rfl (XT.i0_eq_f (by decide)) k_) ?_
      show own_Go p e below _ (T52.setTop (mkF m 78 #[.val (.int md), .val (.int va), .val (.ref b50), .val (.int (md &&& (3 : Int32))), .val .null, .val (.int (1 : Int32)), .unset, .unset, .unset] []))
      refine own_st (fun u_ k_ => XS.aloadN X52.here hx rfl (hb hby at_78) rfl rfl k_) ?_
      show own_Go p e below _ (T52.setTop (mkF m 79 #[.val (.int md), .val (.int va), .val (.ref b50), .val (.int (md &&& (3 : Int32))), .val .null, .val (.int (1 : Int32)), .unset, .unset, .unset] [(.ref b50)]))
      refine own_st (fun u_ k_ => XS.aload X52.here hx rfl (hb hby at_79) rfl rfl k_) ?_
      show own_Go p e below _ (T52.setTop (mkF m 81 #[.val (.int md), .val (.int va), .val (.ref b50), .val (.int (md &&& (3 : Int32))), .val .null, .val (.int (1 : Int32)), .unset, .unset, .unset] [.null, (.ref b50)]))
      have O66 : Old Z n0 T52.heap := O53.keep K52 (allS g51 all0)
      obtain ⟨T65, v65, L65, X65, hQ65, st65⟩ := own_callV X52 hx hZ (y := (⟨"com/example/forgewire/forgewire/beans/Need", "give", "(Ljava/lang/Object;)V"⟩ : MethodName)) (z := (⟨"com/example/forgewire/forgewire/beans/Need", "give", "(Ljava/lang/Object;)V"⟩ : MethodName)) hown (hw _ (List.mem_of_getElem? (i := 27) rfl)) (hw _ (List.mem_of_getElem? (i := 28) rfl)) (notFace_of_selects (args := #[]) (mvT hZ (hw _ (List.mem_of_getElem? (i := 30) rfl)))) (hw _ (List.mem_of_getElem? (i := 30) rfl)) (hw _ (List.mem_of_getElem? (i := 29) rfl)) (hw _ (List.mem_of_getElem? (i := 9) rfl)) (hw _ (List.mem_of_getElem? (i := 31) rfl)) (by decide) (rmG l Z a0 hw [] wc cc hS b50 (.null : Value) (.null : Value) T52.heap n0 O66 F54 F55 F56 g51 rfl) rfl F54 own_pd_56 (argsL := [.null]) (rest := []) rfl rfl (g := (mkF m 81 #[.val (.int md), .val (.int va), .val (.ref b50), .val (.int (md &&& (3 : Int32))), .val .null, .val (.int (1 : Int32)), .unset, .unset, .unset] [.null, (.ref b50)])) rfl (by rw [hml]; rfl) rfl (hb hby at_81) (W := 0) rfl (by decide) (by decide) (by decide) (by decide)
      obtain ⟨rfl, M65, K65, F67, F68, F69⟩ := hQ65
      have N65 := Fr.app N52 M65
      refine own_st (fun u_ k_ => st65 u_ k_) ?_
      show own_Go p e below _ (T65.setTop (mkF m 84 #[.val (.int md), .val (.int va), .val (.ref b50), .val (.int (md &&& (3 : Int32))), .val .null, .val (.int (1 : Int32)), .unset, .unset, .unset] []))
      refine own_st (fun u_ k_ => XS.iload X65.here hx rfl (hb hby at_84) rfl k_) ?_
      show own_Go p e below _ (T65.setTop (mkF m 86 #[.val (.int md), .val (.int va), .val (.ref b50), .val (.int (md &&& (3 : Int32))), .val .null, .val (.int (1 : Int32)), .unset, .unset, .unset] [(.int (1 : Int32))]))
      refine own_st (fun u_ k_ => XS.ifNo X65.here hx rfl (hb hby at_86) rfl (XT.i0_eq_f (by decide)) k_) ?_
      show own_Go p e below _ (T65.setTop (mkF m 89 #[.val (.int md), .val (.int va), .val (.ref b50), .val (.int (md &&& (3 : Int32))), .val .null, .val (.int (1 : Int32)), .unset, .unset, .unset] []))
      refine own_st (fun u_ k_ => XS.aload X65.here hx rfl (hb hby at_89) rfl rfl k_) ?_
      show own_Go p e below _ (T65.setTop (mkF m 91 #[.val (.int md), .val (.int va), .val (.ref b50), .val (.int (md &&& (3 : Int32))), .val .null, .val (.int (1 : Int32)), .unset, .unset, .unset] [.null]))
      refine own_st (fun u_ k_ => XS.goto X65.here hx rfl (pc0 := 91) (pc' := 95) rfl (hb hby at_91) (by decide) (by decide) k_) ?_
      show own_Go p e below _ (T65.setTop (mkF m 95 #[.val (.int md), .val (.int va), .val (.ref b50), .val (.int (md &&& (3 : Int32))), .val .null, .val (.int (1 : Int32)), .unset, .unset, .unset] [.null]))
      refine own_st (fun u_ k_ => XS.astore X65.here hx rfl (hb hby at_95) rfl rfl (l' := #[.val (.int md), .val (.int va), .val (.ref b50), .val (.int (md &&& (3 : Int32))), .val .null, .val (.int (1 : Int32)), .val .null, .unset, .unset]) rfl k_) ?_
      show own_Go p e below _ (T65.setTop (mkF m 97 #[.val (.int md), .val (.int va), .val (.ref b50), .val (.int (md &&& (3 : Int32))), .val .null, .val (.int (1 : Int32)), .val .null, .unset, .unset] []))
      refine own_st (fun u_ k_ => XS.aloadN X65.here hx rfl (hb hby at_97) rfl rfl k_) ?_
      show own_Go p e below _ (T65.setTop (mkF m 98 #[.val (.int md), .val (.int va), .val (.ref b50), .val (.int (md &&& (3 : Int32))), .val .null, .val (.int (1 : Int32)), .val .null, .unset, .unset] [(.ref b50)]))
      have O71 : Old Z n0 T65.heap := O66.keep K65 (allS g51 all0)
      obtain ⟨T70, v70, L70, X70, hQ70, st70⟩ := own_callV X65 hx hZ (y := (⟨"com/example/forgewire/forgewire/beans/Need", "take", "()Ljava/lang/Object;"⟩ : MethodName)) (z := (⟨"com/example/forgewire/forgewire/beans/Need", "take", "()Ljava/lang/Object;"⟩ : MethodName)) hown (hw _ (List.mem_of_getElem? (i := 18) rfl)) (hw _ (List.mem_of_getElem? (i := 19) rfl)) (notFace_of_selects (args := #[]) (mvT hZ (hw _ (List.mem_of_getElem? (i := 21) rfl)))) (hw _ (List.mem_of_getElem? (i := 21) rfl)) (hw _ (List.mem_of_getElem? (i := 20) rfl)) (hw _ (List.mem_of_getElem? (i := 9) rfl)) (hw _ (List.mem_of_getElem? (i := 22) rfl)) (by decide) (rmT l Z a0 hw [] wc cc hS b50 (.null : Value) T65.heap n0 O71 F68 F69 rfl) rfl F67 own_pd_55 (argsL := []) (rest := []) rfl rfl (g := (mkF m 98 #[.val (.int md), .val (.int va), .val (.ref b50), .val (.int (md &&& (3 : Int32))), .val .null, .val (.int (1 : Int32)), .val .null, .unset, .unset] [(.ref b50)])) rfl (by rw [hml]; rfl) rfl (hb hby at_98) (W := 0) rfl (by decide) (by decide) (by decide) (by decide)
      obtain ⟨rfl, M70, e70⟩ := hQ70
      have N70 := Fr.app N65 M70
      refine own_st (fun u_ k_ => st70 u_ k_) ?_
      show own_Go p e below _ (T70.setTop (mkF m 101 #[.val (.int md), .val (.int va), .val (.ref b50), .val (.int (md &&& (3 : Int32))), .val .null, .val (.int (1 : Int32)), .val .null, .unset, .unset] [.null]))
      refine own_st (fun u_ k_ => XS.astore X70.here hx rfl (hb hby at_101) rfl rfl (l' := #[.val (.int md), .val (.int va), .val (.ref b50), .val (.int (md &&& (3 : Int32))), .val .null, .val (.int (1 : Int32)), .val .null, .val .null, .unset]) rfl k_) ?_
      show own_Go p e below _ (T70.setTop (mkF m 103 #[.val (.int md), .val (.int va), .val (.ref b50), .val (.int (md &&& (3 : Int32))), .val .null, .val (.int (1 : Int32)), .val .null, .val .null, .unset] []))
      refine own_st (fun u_ k_ => XS.aloadN X70.here hx rfl (hb hby at_103) rfl rfl k_) ?_
      show own_Go p e below _ (T70.setTop (mkF m 104 #[.val (.int md), .val (.int va), .val (.ref b50), .val (.int (md &&& (3 : Int32))), .val .null, .val (.int (1 : Int32)), .val .null, .val .null, .unset] [(.ref b50)]))
      obtain ⟨T72, v72, L72, X72, hQ72, st72⟩ := own_callV X70 hx hZ (y := (⟨"com/example/forgewire/forgewire/beans/Need", "take", "()Ljava/lang/Object;"⟩ : MethodName)) (z := (⟨"com/example/forgewire/forgewire/beans/Need", "take", "()Ljava/lang/Object;"⟩ : MethodName)) hown (hw _ (List.mem_of_getElem? (i := 18) rfl)) (hw _ (List.mem_of_getElem? (i := 19) rfl)) (notFace_of_selects (args := #[]) (mvT hZ (hw _ (List.mem_of_getElem? (i := 21) rfl)))) (hw _ (List.mem_of_getElem? (i := 21) rfl)) (hw _ (List.mem_of_getElem? (i := 20) rfl)) (hw _ (List.mem_of_getElem? (i := 9) rfl)) (hw _ (List.mem_of_getElem? (i := 22) rfl)) (by decide) (rmT l Z a0 hw [] wc cc hS b50 (.null : Value) T65.heap n0 O71 F68 F69 rfl) e70 F67 own_pd_55 (argsL := []) (rest := []) rfl rfl (g := (mkF m 104 #[.val (.int md), .val (.int va), .val (.ref b50), .val (.int (md &&& (3 : Int32))), .val .null, .val (.int (1 : Int32)), .val .null, .val .null, .unset] [(.ref b50)])) rfl (by rw [hml]; rfl) rfl (hb hby at_104) (W := 0) rfl (by decide) (by decide) (by decide) (by decide)
      obtain ⟨rfl, M72, e72⟩ := hQ72
      have N72 := Fr.app N70 M72
      refine own_st (fun u_ k_ => st72 u_ k_) ?_
      show own_Go p e below _ (T72.setTop (mkF m 107 #[.val (.int md), .val (.int va), .val (.ref b50), .val (.int (md &&& (3 : Int32))), .val .null, .val (.int (1 : Int32)), .val .null, .val .null, .unset] [.null]))
      refine own_st (fun u_ k_ => XS.astore X72.here hx rfl (hb hby at_107) rfl rfl (l' := #[.val (.int md), .val (.int va), .val (.ref b50), .val (.int (md &&& (3 : Int32))), .val .null, .val (.int (1 : Int32)), .val .null, .val .null, .val .null]) rfl k_) ?_
      show own_Go p e below _ (T72.setTop (mkF m 109 #[.val (.int md), .val (.int va), .val (.ref b50), .val (.int (md &&& (3 : Int32))), .val .null, .val (.int (1 : Int32)), .val .null, .val .null, .val .null] []))
      refine own_st (fun u_ k_ => XS.aload X72.here hx rfl (hb hby at_109) rfl rfl k_) ?_
      show own_Go p e below _ (T72.setTop (mkF m 111 #[.val (.int md), .val (.int va), .val (.ref b50), .val (.int (md &&& (3 : Int32))), .val .null, .val (.int (1 : Int32)), .val .null, .val .null, .val .null] [.null]))
      refine own_st (fun u_ k_ => XS.aload X72.here hx rfl (hb hby at_111) rfl rfl k_) ?_
      show own_Go p e below _ (T72.setTop (mkF m 113 #[.val (.int md), .val (.int va), .val (.ref b50), .val (.int (md &&& (3 : Int32))), .val .null, .val (.int (1 : Int32)), .val .null, .val .null, .val .null] [.null, .null]))
      refine own_st (fun u_ k_ => XT.acmpNo X72.here hx rfl (hb hby at_113) rfl rfl rfl (XT.aa_ne_f rfl) k_) ?_
      show own_Go p e below _ (T72.setTop (mkF m 116 #[.val (.int md), .val (.int va), .val (.ref b50), .val (.int (md &&& (3 : Int32))), .val .null, .val (.int (1 : Int32)), .val .null, .val .null, .val .null] []))
      refine own_st (fun u_ k_ => XS.aload X72.here hx rfl (hb hby at_116) rfl rfl k_) ?_
      show own_Go p e below _ (T72.setTop (mkF m 118 #[.val (.int md), .val (.int va), .val (.ref b50), .val (.int (md &&& (3 : Int32))), .val .null, .val (.int (1 : Int32)), .val .null, .val .null, .val .null] [.null]))
      refine own_st (fun u_ k_ => XS.aload X72.here hx rfl (hb hby at_118) rfl rfl k_) ?_
      show own_Go p e below _ (T72.setTop (mkF m 120 #[.val (.int md), .val (.int va), .val (.ref b50), .val (.int (md &&& (3 : Int32))), .val .null, .val (.int (1 : Int32)), .val .null, .val .null, .val .null] [.null, .null]))
      refine own_st (fun u_ k_ => XT.acmpNo X72.here hx rfl (hb hby at_120) rfl rfl rfl (XT.aa_ne_f rfl) k_) ?_
      show own_Go p e below _ (T72.setTop (mkF m 123 #[.val (.int md), .val (.int va), .val (.ref b50), .val (.int (md &&& (3 : Int32))), .val .null, .val (.int (1 : Int32)), .val .null, .val .null, .val .null] []))
      refine own_st (fun u_ k_ => XS.iconst X72.here hx rfl (hb hby at_123) k_) ?_
      show own_Go p e below _ (T72.setTop (mkF m 124 #[.val (.int md), .val (.int va), .val (.ref b50), .val (.int (md &&& (3 : Int32))), .val .null, .val (.int (1 : Int32)), .val .null, .val .null, .val .null] [(.int (1 : Int32))]))
      refine own_st (fun u_ k_ => XS.goto X72.here hx rfl (pc0 := 124) (pc' := 128) rfl (hb hby at_124) (by decide) (by decide) k_) ?_
      show own_Go p e below _ (T72.setTop (mkF m 128 #[.val (.int md), .val (.int va), .val (.ref b50), .val (.int (md &&& (3 : Int32))), .val .null, .val (.int (1 : Int32)), .val .null, .val .null, .val .null] [(.int (1 : Int32))]))
      have K73 : Keep h0 h50 [] := (Keep.refl h0 []).ext E50
      have z75 : h0.size ≤ b50 := Nat.le_trans (Nat.le_refl _) (Nat.le_of_eq g50.symm)
      have K74 : Keep h0 T52.heap [] := K73.trans K52 (allS (Or.inr z75) all0)
      have K76 : Keep h0 T65.heap [] := K74.trans K65 (allS (Or.inr z75) all0)
      exact own_retX X72 hx hlk hret rfl (Or.inl ⟨rfl, by simp, _, rfl⟩) (hb hby at_128) (by decide) (by decide) (show Qrm0 Z wc cc md va h0 n0 (some (.int (1 : Int32))) T72.heap _ from (by rw [e72]; exact ⟨rfl, N72, K76⟩))
  · refine own_st (fun u_ k_ => XS.ifYes X52.here hx rfl (pc0 := 15) (pc' := 24) rfl (hb hby at_15) rfl (XT.i0_ne_t hc57) (by decide) (by decide) k_) ?_
    show own_Go p e below _ (T52.setTop (mkF m 24 #[.val (.int md), .val (.int va), .val (.ref b50), .val (.int (md &&& (3 : Int32))), .unset, .unset, .unset, .unset, .unset] []))
    refine own_st (fun u_ k_ => XS.iloadN X52.here hx rfl (hb hby at_24) rfl k_) ?_
    show own_Go p e below _ (T52.setTop (mkF m 25 #[.val (.int md), .val (.int va), .val (.ref b50), .val (.int (md &&& (3 : Int32))), .unset, .unset, .unset, .unset, .unset] [(.int (md &&& (3 : Int32)))]))
    refine own_st (fun u_ k_ => XS.iconst X52.here hx rfl (hb hby at_25) k_) ?_
    show own_Go p e below _ (T52.setTop (mkF m 26 #[.val (.int md), .val (.int va), .val (.ref b50), .val (.int (md &&& (3 : Int32))), .unset, .unset, .unset, .unset, .unset] [(.int (1 : Int32)), (.int (md &&& (3 : Int32)))]))
    by_cases hc77 : (md &&& (3 : Int32)) = (1 : Int32)
    · refine own_st (fun u_ k_ => XS.icmpNo X52.here hx rfl (hb hby at_26) rfl (XT.ii_ne_f hc77) k_) ?_
      show own_Go p e below _ (T52.setTop (mkF m 29 #[.val (.int md), .val (.int va), .val (.ref b50), .val (.int (md &&& (3 : Int32))), .unset, .unset, .unset, .unset, .unset] []))
      refine own_st (fun u_ k_ => XS.iloadN X52.here hx rfl (hb hby at_29) rfl k_) ?_
      show own_Go p e below _ (T52.setTop (mkF m 30 #[.val (.int md), .val (.int va), .val (.ref b50), .val (.int (md &&& (3 : Int32))), .unset, .unset, .unset, .unset, .unset] [(.int va)]))
      have O79 : Old Z n0 T52.heap := O53.keep K52 (allS g51 all0)
      obtain ⟨T78, v78, L78, X78, hQ78, st78⟩ := own_callS X52 hx hZ (y := (⟨"java/lang/Integer", "valueOf", "(I)Ljava/lang/Integer;"⟩ : MethodName)) hown (hw _ (List.mem_of_getElem? (i := 32) rfl)) (hw _ (List.mem_of_getElem? (i := 33) rfl)) (hw _ (List.mem_of_getElem? (i := 34) rfl)) (hw _ (List.mem_of_getElem? (i := 35) rfl)) (by decide) (rmV l Z a0 hw [] wc cc hS va T52.heap n0 O79 ) rfl own_pd_57 (argsL := [(.int va)]) (rest := []) rfl rfl (g := (mkF m 30 #[.val (.int md), .val (.int va), .val (.ref b50), .val (.int (md &&& (3 : Int32))), .unset, .unset, .unset, .unset, .unset] [(.int va)])) rfl (by rw [hml]; rfl) rfl (hb hby at_30) (W := 0) rfl (by decide) (by decide) (by decide) (by decide)
      obtain ⟨r_80, rfl, M78, K78, ref_81⟩ := hQ78
      have N78 := Fr.app N52 M78
      refine own_st (fun u_ k_ => st78 u_ k_) ?_
      show own_Go p e below _ (T78.setTop (mkF m 33 #[.val (.int md), .val (.int va), .val (.ref b50), .val (.int (md &&& (3 : Int32))), .unset, .unset, .unset, .unset, .unset] [r_80]))
      refine own_st (fun u_ k_ => XS.astoreS X78.here hx rfl (hb hby at_33) rfl ref_81 (XT.cat1 ref_81) rfl (Or.inl rfl) k_) ?_
      show own_Go p e below _ (T78.setTop (mkF m 35 #[.val (.int md), .val (.int va), .val (.ref b50), .val (.int (md &&& (3 : Int32))), .val r_80, .unset, .unset, .unset, .unset] []))
      refine own_st (fun u_ k_ => XS.goto X78.here hx rfl (pc0 := 35) (pc' := 60) rfl (hb hby at_35) (by decide) (by decide) k_) ?_
      show own_Go p e below _ (T78.setTop (mkF m 60 #[.val (.int md), .val (.int va), .val (.ref b50), .val (.int (md &&& (3 : Int32))), .val r_80, .unset, .unset, .unset, .unset] []))
      refine own_st (fun u_ k_ => XS.iloadN X78.here hx rfl (hb hby at_60) rfl k_) ?_
      show own_Go p e below _ (T78.setTop (mkF m 61 #[.val (.int md), .val (.int va), .val (.ref b50), .val (.int (md &&& (3 : Int32))), .val r_80, .unset, .unset, .unset, .unset] [(.int md)]))
      refine own_st (fun u_ k_ => XS.iconst X78.here hx rfl (hb hby at_61) k_) ?_
      show own_Go p e below _ (T78.setTop (mkF m 62 #[.val (.int md), .val (.int va), .val (.ref b50), .val (.int (md &&& (3 : Int32))), .val r_80, .unset, .unset, .unset, .unset] [(.int (4 : Int32)), (.int md)]))
      refine own_st (fun u_ k_ => XS.iand X78.here hx rfl (hb hby at_62) rfl k_) ?_
      show own_Go p e below _ (T78.setTop (mkF m 63 #[.val (.int md), .val (.int va), .val (.ref b50), .val (.int (md &&& (3 : Int32))), .val r_80, .unset, .unset, .unset, .unset] [(.int (md &&& (4 : Int32)))]))
      by_cases hc82 : (md &&& (4 : Int32)) = (0 : Int32)
      · refine own_st (fun u_ k_ => XS.ifYes X78.here hx rfl (pc0 := 63) (pc' := 70) rfl (hb hby at_63) rfl (XT.i0_eq_t hc82) (by decide) (by decide) k_) ?_
        show own_Go p e below _ (T78.setTop (mkF m 70 #[.val (.int md), .val (.int va), .val (.ref b50), .val (.int (md &&& (3 : Int32))), .val r_80, .unset, .unset, .unset, .unset] []))
        refine own_st (fun u_ k_ => XS.iconst X78.here hx rfl (hb hby at_70) k_) ?_
        show own_Go p e below _ (T78.setTop (mkF m 71 #[.val (.int md), .val (.int va), .val (.ref b50), .val (.int (md &&& (3 : Int32))), .val r_80, .unset, .unset, .unset, .unset] [(.int (0 : Int32))]))
        refine own_st (fun u_ k_ => XS.istore X78.here hx rfl (hb hby at_71) rfl (l' := #[.val (.int md), .val (.int va), .val (.ref b50), .val (.int (md &&& (3 : Int32))), .val r_80, .val (.int (0 : Int32)), .unset, .unset, .unset]) rfl k_) ?_
        show own_Go p e below _ (T78.setTop (mkF m 73 #[.val (.int md), .val (.int va), .val (.ref b50), .val (.int (md &&& (3 : Int32))), .val r_80, .val (.int (0 : Int32)), .unset, .unset, .unset] []))
        refine own_st (fun u_ k_ => XS.iload X78.here hx rfl (hb hby at_73) rfl k_) ?_
        show own_Go p e below _ (T78.setTop (mkF m 75 #[.val (.int md), .val (.int va), .val (.ref b50), .val (.int (md &&& (3 : Int32))), .val r_80, .val (.int (0 : Int32)), .unset, .unset, .unset] [(.int (0 : Int32))]))
        refine own_st (fun u_ k_ => XS.ifYes X78.here hx rfl (pc0 := 75) (pc' := 84) rfl (hb hby at_75) rfl (XT.i0_eq_t (by decide)) (by decide) (by decide) k_) ?_
        show own_Go p e below _ (T78.setTop (mkF m 84 #[.val (.int md), .val (.int va), .val (.ref b50), .val (.int (md &&& (3 : Int32))), .val r_80, .val (.int (0 : Int32)), .unset, .unset, .unset] []))
        refine own_st (fun u_ k_ => XS.iload X78.here hx rfl (hb hby at_84) rfl k_) ?_
        show own_Go p e below _ (T78.setTop (mkF m 86 #[.val (.int md), .val (.int va), .val (.ref b50), .val (.int (md &&& (3 : Int32))), .val r_80, .val (.int (0 : Int32)), .unset, .unset, .unset] [(.int (0 : Int32))]))
        refine own_st (fun u_ k_ => XS.ifYes X78.here hx rfl (pc0 := 86) (pc' := 94) rfl (hb hby at_86) rfl (XT.i0_eq_t (by decide)) (by decide) (by decide) k_) ?_
        show own_Go p e below _ (T78.setTop (mkF m 94 #[.val (.int md), .val (.int va), .val (.ref b50), .val (.int (md &&& (3 : Int32))), .val r_80, .val (.int (0 : Int32)), .unset, .unset, .unset] []))
        refine own_st (fun u_ k_ => XS.aconstNull X78.here hx rfl (hb hby at_94) k_) ?_
        show own_Go p e below _ (T78.setTop (mkF m 95 #[.val (.int md), .val (.int va), .val (.ref b50), .val (.int (md &&& (3 : Int32))), .val r_80, .val (.int (0 : Int32)), .unset, .unset, .unset] [.null]))
        refine own_st (fun u_ k_ => XS.astore X78.here hx rfl (hb hby at_95) rfl rfl (l' := #[.val (.int md), .val (.int va), .val (.ref b50), .val (.int (md &&& (3 : Int32))), .val r_80, .val (.int (0 : Int32)), .val .null, .unset, .unset]) rfl k_) ?_
        show own_Go p e below _ (T78.setTop (mkF m 97 #[.val (.int md), .val (.int va), .val (.ref b50), .val (.int (md &&& (3 : Int32))), .val r_80, .val (.int (0 : Int32)), .val .null, .unset, .unset] []))
        refine own_st (fun u_ k_ => XS.aloadN X78.here hx rfl (hb hby at_97) rfl rfl k_) ?_
        show own_Go p e below _ (T78.setTop (mkF m 98 #[.val (.int md), .val (.int va), .val (.ref b50), .val (.int (md &&& (3 : Int32))), .val r_80, .val (.int (0 : Int32)), .val .null, .unset, .unset] [(.ref b50)]))
        have F83 : Fld Z T78.heap b50 "com/example/forgewire/forgewire/beans/Need" "failure" "Ljava/lang/Throwable;" .null := (F55.keep K78 nin0)
        have F84 : Fld Z T78.heap b50 "com/example/forgewire/forgewire/beans/Need" "bean" "Ljava/lang/Object;" .null := (F56.keep K78 nin0)
        have O86 : Old Z n0 T78.heap := O79.keep K78 all0
        have F87 : Exa Z T78.heap b50 "com/example/forgewire/forgewire/beans/Need$Named" := (F54.keep K78)
        obtain ⟨T85, v85, L85, X85, hQ85, st85⟩ := own_callV X78 hx hZ (y := (⟨"com/example/forgewire/forgewire/beans/Need", "take", "()Ljava/lang/Object;"⟩ : MethodName)) (z := (⟨"com/example/forgewire/forgewire/beans/Need", "take", "()Ljava/lang/Object;"⟩ : MethodName)) hown (hw _ (List.mem_of_getElem? (i := 18) rfl)) (hw _ (List.mem_of_getElem? (i := 19) rfl)) (notFace_of_selects (args := #[]) (mvT hZ (hw _ (List.mem_of_getElem? (i := 21) rfl)))) (hw _ (List.mem_of_getElem? (i := 21) rfl)) (hw _ (List.mem_of_getElem? (i := 20) rfl)) (hw _ (List.mem_of_getElem? (i := 9) rfl)) (hw _ (List.mem_of_getElem? (i := 22) rfl)) (by decide) (rmT l Z a0 hw [] wc cc hS b50 (.null : Value) T78.heap n0 O86 F83 F84 rfl) rfl F87 own_pd_55 (argsL := []) (rest := []) rfl rfl (g := (mkF m 98 #[.val (.int md), .val (.int va), .val (.ref b50), .val (.int (md &&& (3 : Int32))), .val r_80, .val (.int (0 : Int32)), .val .null, .unset, .unset] [(.ref b50)])) rfl (by rw [hml]; rfl) rfl (hb hby at_98) (W := 0) rfl (by decide) (by decide) (by decide) (by decide)
        obtain ⟨rfl, M85, e85⟩ := hQ85
        have N85 := Fr.app N78 M85
        refine own_st (fun u_ k_ => st85 u_ k_) ?_
        show own_Go p e below _ (T85.setTop (mkF m 101 #[.val (.int md), .val (.int va), .val (.ref b50), .val (.int (md &&& (3 : Int32))), .val r_80, .val (.int (0 : Int32)), .val .null, .unset, .unset] [.null]))
        refine own_st (fun u_ k_ => XS.astore X85.here hx rfl (hb hby at_101) rfl rfl (l' := #[.val (.int md), .val (.int va), .val (.ref b50), .val (.int (md &&& (3 : Int32))), .val r_80, .val (.int (0 : Int32)), .val .null, .val .null, .unset]) rfl k_) ?_
        show own_Go p e below _ (T85.setTop (mkF m 103 #[.val (.int md), .val (.int va), .val (.ref b50), .val (.int (md &&& (3 : Int32))), .val r_80, .val (.int (0 : Int32)), .val .null, .val .null, .unset] []))
        refine own_st (fun u_ k_ => XS.aloadN X85.here hx rfl (hb hby at_103) rfl rfl k_) ?_
        show own_Go p e below _ (T85.setTop (mkF m 104 #[.val (.int md), .val (.int va), .val (.ref b50), .val (.int (md &&& (3 : Int32))), .val r_80, .val (.int (0 : Int32)), .val .null, .val .null, .unset] [(.ref b50)]))
        obtain ⟨T88, v88, L88, X88, hQ88, st88⟩ := own_callV X85 hx hZ (y := (⟨"com/example/forgewire/forgewire/beans/Need", "take", "()Ljava/lang/Object;"⟩ : MethodName)) (z := (⟨"com/example/forgewire/forgewire/beans/Need", "take", "()Ljava/lang/Object;"⟩ : MethodName)) hown (hw _ (List.mem_of_getElem? (i := 18) rfl)) (hw _ (List.mem_of_getElem? (i := 19) rfl)) (notFace_of_selects (args := #[]) (mvT hZ (hw _ (List.mem_of_getElem? (i := 21) rfl)))) (hw _ (List.mem_of_getElem? (i := 21) rfl)) (hw _ (List.mem_of_getElem? (i := 20) rfl)) (hw _ (List.mem_of_getElem? (i := 9) rfl)) (hw _ (List.mem_of_getElem? (i := 22) rfl)) (by decide) (rmT l Z a0 hw [] wc cc hS b50 (.null : Value) T78.heap n0 O86 F83 F84 rfl) e85 F87 own_pd_55 (argsL := []) (rest := []) rfl rfl (g := (mkF m 104 #[.val (.int md), .val (.int va), .val (.ref b50), .val (.int (md &&& (3 : Int32))), .val r_80, .val (.int (0 : Int32)), .val .null, .val .null, .unset] [(.ref b50)])) rfl (by rw [hml]; rfl) rfl (hb hby at_104) (W := 0) rfl (by decide) (by decide) (by decide) (by decide)
        obtain ⟨rfl, M88, e88⟩ := hQ88
        have N88 := Fr.app N85 M88
        refine own_st (fun u_ k_ => st88 u_ k_) ?_
        show own_Go p e below _ (T88.setTop (mkF m 107 #[.val (.int md), .val (.int va), .val (.ref b50), .val (.int (md &&& (3 : Int32))), .val r_80, .val (.int (0 : Int32)), .val .null, .val .null, .unset] [.null]))
        refine own_st (fun u_ k_ => XS.astore X88.here hx rfl (hb hby at_107) rfl rfl (l' := #[.val (.int md), .val (.int va), .val (.ref b50), .val (.int (md &&& (3 : Int32))), .val r_80, .val (.int (0 : Int32)), .val .null, .val .null, .val .null]) rfl k_) ?_
        show own_Go p e below _ (T88.setTop (mkF m 109 #[.val (.int md), .val (.int va), .val (.ref b50), .val (.int (md &&& (3 : Int32))), .val r_80, .val (.int (0 : Int32)), .val .null, .val .null, .val .null] []))
        refine own_st (fun u_ k_ => XS.aload X88.here hx rfl (hb hby at_109) rfl rfl k_) ?_
        show own_Go p e below _ (T88.setTop (mkF m 111 #[.val (.int md), .val (.int va), .val (.ref b50), .val (.int (md &&& (3 : Int32))), .val r_80, .val (.int (0 : Int32)), .val .null, .val .null, .val .null] [.null]))
        refine own_st (fun u_ k_ => XS.aload X88.here hx rfl (hb hby at_111) rfl rfl k_) ?_
        show own_Go p e below _ (T88.setTop (mkF m 113 #[.val (.int md), .val (.int va), .val (.ref b50), .val (.int (md &&& (3 : Int32))), .val r_80, .val (.int (0 : Int32)), .val .null, .val .null, .val .null] [.null, .null]))
        refine own_st (fun u_ k_ => XT.acmpNo X88.here hx rfl (hb hby at_113) rfl rfl rfl (XT.aa_ne_f rfl) k_) ?_
        show own_Go p e below _ (T88.setTop (mkF m 116 #[.val (.int md), .val (.int va), .val (.ref b50), .val (.int (md &&& (3 : Int32))), .val r_80, .val (.int (0 : Int32)), .val .null, .val .null, .val .null] []))
        refine own_st (fun u_ k_ => XS.aload X88.here hx rfl (hb hby at_116) rfl rfl k_) ?_
        show own_Go p e below _ (T88.setTop (mkF m 118 #[.val (.int md), .val (.int va), .val (.ref b50), .val (.int (md &&& (3 : Int32))), .val r_80, .val (.int (0 : Int32)), .val .null, .val .null, .val .null] [.null]))
        refine own_st (fun u_ k_ => XS.aload X88.here hx rfl (hb hby at_118) rfl rfl k_) ?_
        show own_Go p e below _ (T88.setTop (mkF m 120 #[.val (.int md), .val (.int va), .val (.ref b50), .val (.int (md &&& (3 : Int32))), .val r_80, .val (.int (0 : Int32)), .val .null, .val .null, .val .null] [.null, .null]))
        refine own_st (fun u_ k_ => XT.acmpNo X88.here hx rfl (hb hby at_120) rfl rfl rfl (XT.aa_ne_f rfl) k_) ?_
        show own_Go p e below _ (T88.setTop (mkF m 123 #[.val (.int md), .val (.int va), .val (.ref b50), .val (.int (md &&& (3 : Int32))), .val r_80, .val (.int (0 : Int32)), .val .null, .val .null, .val .null] []))
        refine own_st (fun u_ k_ => XS.iconst X88.here hx rfl (hb hby at_123) k_) ?_
        show own_Go p e below _ (T88.setTop (mkF m 124 #[.val (.int md), .val (.int va), .val (.ref b50), .val (.int (md &&& (3 : Int32))), .val r_80, .val (.int (0 : Int32)), .val .null, .val .null, .val .null] [(.int (1 : Int32))]))
        refine own_st (fun u_ k_ => XS.goto X88.here hx rfl (pc0 := 124) (pc' := 128) rfl (hb hby at_124) (by decide) (by decide) k_) ?_
        show own_Go p e below _ (T88.setTop (mkF m 128 #[.val (.int md), .val (.int va), .val (.ref b50), .val (.int (md &&& (3 : Int32))), .val r_80, .val (.int (0 : Int32)), .val .null, .val .null, .val .null] [(.int (1 : Int32))]))
        have K89 : Keep h0 h50 [] := (Keep.refl h0 []).ext E50
        have z91 : h0.size ≤ b50 := Nat.le_trans (Nat.le_refl _) (Nat.le_of_eq g50.symm)
        have K90 : Keep h0 T52.heap [] := K89.trans K52 (allS (Or.inr z91) all0)
        have K92 : Keep h0 T78.heap [] := K90.trans K78 all0
        exact own_retX X88 hx hlk hret rfl (Or.inl ⟨rfl, by simp, _, rfl⟩) (hb hby at_128) (by decide) (by decide) (show Qrm0 Z wc cc md va h0 n0 (some (.int (1 : Int32))) T88.heap _ from (by rw [e88]; exact ⟨rfl, N88, K92⟩))
      · refine own_st (fun u_ k_ => XS.ifNo X78.here hx rfl (hb hby at_63) rfl (XT.i0_eq_f hc82) k_) ?_
        show own_Go p e below _ (T78.setTop (mkF m 66 #[.val (.int md), .val (.int va), .val (.ref b50), .val (.int (md &&& (3 : Int32))), .val r_80, .unset, .unset, .unset, .unset] []))
        refine own_st (fun u_ k_ => XS.iconst X78.here hx rfl (hb hby at_66) k_) ?_
        show own_Go p e below _ (T78.setTop (mkF m 67 #[.val (.int md), .val (.int va), .val (.ref b50), .val (.int (md &&& (3 : Int32))), .val r_80, .unset, .unset, .unset, .unset] [(.int (1 : Int32))]))
        refine own_st (fun u_ k_ => XS.goto X78.here hx rfl (pc0 := 67) (pc' := 71) rfl (hb hby at_67) (by decide) (by decide) k_) ?_
        show own_Go p e below _ (T78.setTop (mkF m 71 #[.val (.int md), .val (.int va), .val (.ref b50), .val (.int (md &&& (3 : Int32))), .val r_80, .unset, .unset, .unset, .unset] [(.int (1 : Int32))]))
        refine own_st (fun u_ k_ => XS.istore X78.here hx rfl (hb hby at_71) rfl (l' := #[.val (.int md), .val (.int va), .val (.ref b50), .val (.int (md &&& (3 : Int32))), .val r_80, .val (.int (1 : Int32)), .unset, .unset, .unset]) rfl k_) ?_
        show own_Go p e below _ (T78.setTop (mkF m 73 #[.val (.int md), .val (.int va), .val (.ref b50), .val (.int (md &&& (3 : Int32))), .val r_80, .val (.int (1 : Int32)), .unset, .unset, .unset] []))
        refine own_st (fun u_ k_ => XS.iload X78.here hx rfl (hb hby at_73) rfl k_) ?_
        show own_Go p e below _ (T78.setTop (mkF m 75 #[.val (.int md), .val (.int va), .val (.ref b50), .val (.int (md &&& (3 : Int32))), .val r_80, .val (.int (1 : Int32)), .unset, .unset, .unset] [(.int (1 : Int32))]))
        refine own_st (fun u_ k_ => XS.ifNo X78.here hx rfl (hb hby at_75) rfl (XT.i0_eq_f (by decide)) k_) ?_
        show own_Go p e below _ (T78.setTop (mkF m 78 #[.val (.int md), .val (.int va), .val (.ref b50), .val (.int (md &&& (3 : Int32))), .val r_80, .val (.int (1 : Int32)), .unset, .unset, .unset] []))
        refine own_st (fun u_ k_ => XS.aloadN X78.here hx rfl (hb hby at_78) rfl rfl k_) ?_
        show own_Go p e below _ (T78.setTop (mkF m 79 #[.val (.int md), .val (.int va), .val (.ref b50), .val (.int (md &&& (3 : Int32))), .val r_80, .val (.int (1 : Int32)), .unset, .unset, .unset] [(.ref b50)]))
        refine own_st (fun u_ k_ => XS.aload X78.here hx rfl (hb hby at_79) rfl ref_81 k_) ?_
        show own_Go p e below _ (T78.setTop (mkF m 81 #[.val (.int md), .val (.int va), .val (.ref b50), .val (.int (md &&& (3 : Int32))), .val r_80, .val (.int (1 : Int32)), .unset, .unset, .unset] [r_80, (.ref b50)]))
        have F93 : Exa Z T78.heap b50 "com/example/forgewire/forgewire/beans/Need$Named" := (F54.keep K78)
        have F94 : Fld Z T78.heap b50 "com/example/forgewire/forgewire/beans/Need" "failure" "Ljava/lang/Throwable;" .null := (F55.keep K78 nin0)
        have F95 : Fld Z T78.heap b50 "com/example/forgewire/forgewire/beans/Need" "bean" "Ljava/lang/Object;" .null := (F56.keep K78 nin0)
        have O97 : Old Z n0 T78.heap := O79.keep K78 all0
        obtain ⟨T96, v96, L96, X96, hQ96, st96⟩ := own_callV X78 hx hZ (y := (⟨"com/example/forgewire/forgewire/beans/Need", "give", "(Ljava/lang/Object;)V"⟩ : MethodName)) (z := (⟨"com/example/forgewire/forgewire/beans/Need", "give", "(Ljava/lang/Object;)V"⟩ : MethodName)) hown (hw _ (List.mem_of_getElem? (i := 27) rfl)) (hw _ (List.mem_of_getElem? (i := 28) rfl)) (notFace_of_selects (args := #[]) (mvT hZ (hw _ (List.mem_of_getElem? (i := 30) rfl)))) (hw _ (List.mem_of_getElem? (i := 30) rfl)) (hw _ (List.mem_of_getElem? (i := 29) rfl)) (hw _ (List.mem_of_getElem? (i := 9) rfl)) (hw _ (List.mem_of_getElem? (i := 31) rfl)) (by decide) (rmG l Z a0 hw [] wc cc hS b50 r_80 (.null : Value) T78.heap n0 O97 F93 F94 F95 g51 ref_81) rfl F93 own_pd_56 (argsL := [r_80]) (rest := []) rfl rfl (g := (mkF m 81 #[.val (.int md), .val (.int va), .val (.ref b50), .val (.int (md &&& (3 : Int32))), .val r_80, .val (.int (1 : Int32)), .unset, .unset, .unset] [r_80, (.ref b50)])) rfl (by rw [hml]; rfl) rfl (hb hby at_81) (W := 0) rfl (by decide) (by decide) (by decide) (by decide)
        obtain ⟨rfl, M96, K96, F98, F99, F100⟩ := hQ96
        have N96 := Fr.app N78 M96
        refine own_st (fun u_ k_ => st96 u_ k_) ?_
        show own_Go p e below _ (T96.setTop (mkF m 84 #[.val (.int md), .val (.int va), .val (.ref b50), .val (.int (md &&& (3 : Int32))), .val r_80, .val (.int (1 : Int32)), .unset, .unset, .unset] []))
        refine own_st (fun u_ k_ => XS.iload X96.here hx rfl (hb hby at_84) rfl k_) ?_
        show own_Go p e below _ (T96.setTop (mkF m 86 #[.val (.int md), .val (.int va), .val (.ref b50), .val (.int (md &&& (3 : Int32))), .val r_80, .val (.int (1 : Int32)), .unset, .unset, .unset] [(.int (1 : Int32))]))
        refine own_st (fun u_ k_ => XS.ifNo X96.here hx rfl (hb hby at_86) rfl (XT.i0_eq_f (by decide)) k_) ?_
        show own_Go p e below _ (T96.setTop (mkF m 89 #[.val (.int md), .val (.int va), .val (.ref b50), .val (.int (md &&& (3 : Int32))), .val r_80, .val (.int (1 : Int32)), .unset, .unset, .unset] []))
        refine own_st (fun u_ k_ => XS.aload X96.here hx rfl (hb hby at_89) rfl ref_81 k_) ?_
        show own_Go p e below _ (T96.setTop (mkF m 91 #[.val (.int md), .val (.int va), .val (.ref b50), .val (.int (md &&& (3 : Int32))), .val r_80, .val (.int (1 : Int32)), .unset, .unset, .unset] [r_80]))
        refine own_st (fun u_ k_ => XS.goto X96.here hx rfl (pc0 := 91) (pc' := 95) rfl (hb hby at_91) (by decide) (by decide) k_) ?_
        show own_Go p e below _ (T96.setTop (mkF m 95 #[.val (.int md), .val (.int va), .val (.ref b50), .val (.int (md &&& (3 : Int32))), .val r_80, .val (.int (1 : Int32)), .unset, .unset, .unset] [r_80]))
        refine own_st (fun u_ k_ => XS.astoreS X96.here hx rfl (hb hby at_95) rfl ref_81 (XT.cat1 ref_81) rfl (Or.inl rfl) k_) ?_
        show own_Go p e below _ (T96.setTop (mkF m 97 #[.val (.int md), .val (.int va), .val (.ref b50), .val (.int (md &&& (3 : Int32))), .val r_80, .val (.int (1 : Int32)), .val r_80, .unset, .unset] []))
        refine own_st (fun u_ k_ => XS.aloadN X96.here hx rfl (hb hby at_97) rfl rfl k_) ?_
        show own_Go p e below _ (T96.setTop (mkF m 98 #[.val (.int md), .val (.int va), .val (.ref b50), .val (.int (md &&& (3 : Int32))), .val r_80, .val (.int (1 : Int32)), .val r_80, .unset, .unset] [(.ref b50)]))
        have O102 : Old Z n0 T96.heap := O97.keep K96 (allS g51 all0)
        obtain ⟨T101, v101, L101, X101, hQ101, st101⟩ := own_callV X96 hx hZ (y := (⟨"com/example/forgewire/forgewire/beans/Need", "take", "()Ljava/lang/Object;"⟩ : MethodName)) (z := (⟨"com/example/forgewire/forgewire/beans/Need", "take", "()Ljava/lang/Object;"⟩ : MethodName)) hown (hw _ (List.mem_of_getElem? (i := 18) rfl)) (hw _ (List.mem_of_getElem? (i := 19) rfl)) (notFace_of_selects (args := #[]) (mvT hZ (hw _ (List.mem_of_getElem? (i := 21) rfl)))) (hw _ (List.mem_of_getElem? (i := 21) rfl)) (hw _ (List.mem_of_getElem? (i := 20) rfl)) (hw _ (List.mem_of_getElem? (i := 9) rfl)) (hw _ (List.mem_of_getElem? (i := 22) rfl)) (by decide) (rmT l Z a0 hw [] wc cc hS b50 r_80 T96.heap n0 O102 F99 F100 ref_81) rfl F98 own_pd_55 (argsL := []) (rest := []) rfl rfl (g := (mkF m 98 #[.val (.int md), .val (.int va), .val (.ref b50), .val (.int (md &&& (3 : Int32))), .val r_80, .val (.int (1 : Int32)), .val r_80, .unset, .unset] [(.ref b50)])) rfl (by rw [hml]; rfl) rfl (hb hby at_98) (W := 0) rfl (by decide) (by decide) (by decide) (by decide)
        obtain ⟨rfl, M101, e101⟩ := hQ101
        have N101 := Fr.app N96 M101
        refine own_st (fun u_ k_ => st101 u_ k_) ?_
        show own_Go p e below _ (T101.setTop (mkF m 101 #[.val (.int md), .val (.int va), .val (.ref b50), .val (.int (md &&& (3 : Int32))), .val r_80, .val (.int (1 : Int32)), .val r_80, .unset, .unset] [r_80]))
        refine own_st (fun u_ k_ => XS.astoreS X101.here hx rfl (hb hby at_101) rfl ref_81 (XT.cat1 ref_81) rfl (Or.inl rfl) k_) ?_
        show own_Go p e below _ (T101.setTop (mkF m 103 #[.val (.int md), .val (.int va), .val (.ref b50), .val (.int (md &&& (3 : Int32))), .val r_80, .val (.int (1 : Int32)), .val r_80, .val r_80, .unset] []))
        refine own_st (fun u_ k_ => XS.aloadN X101.here hx rfl (hb hby at_103) rfl rfl k_) ?_
        show own_Go p e below _ (T101.setTop (mkF m 104 #[.val (.int md), .val (.int va), .val (.ref b50), .val (.int (md &&& (3 : Int32))), .val r_80, .val (.int (1 : Int32)), .val r_80, .val r_80, .unset] [(.ref b50)]))
        obtain ⟨T103, v103, L103, X103, hQ103, st103⟩ := own_callV X101 hx hZ (y := (⟨"com/example/forgewire/forgewire/beans/Need", "take", "()Ljava/lang/Object;"⟩ : MethodName)) (z := (⟨"com/example/forgewire/forgewire/beans/Need", "take", "()Ljava/lang/Object;"⟩ : MethodName)) hown (hw _ (List.mem_of_getElem? (i := 18) rfl)) (hw _ (List.mem_of_getElem? (i := 19) rfl)) (notFace_of_selects (args := #[]) (mvT hZ (hw _ (List.mem_of_getElem? (i := 21) rfl)))) (hw _ (List.mem_of_getElem? (i := 21) rfl)) (hw _ (List.mem_of_getElem? (i := 20) rfl)) (hw _ (List.mem_of_getElem? (i := 9) rfl)) (hw _ (List.mem_of_getElem? (i := 22) rfl)) (by decide) (rmT l Z a0 hw [] wc cc hS b50 r_80 T96.heap n0 O102 F99 F100 ref_81) e101 F98 own_pd_55 (argsL := []) (rest := []) rfl rfl (g := (mkF m 104 #[.val (.int md), .val (.int va), .val (.ref b50), .val (.int (md &&& (3 : Int32))), .val r_80, .val (.int (1 : Int32)), .val r_80, .val r_80, .unset] [(.ref b50)])) rfl (by rw [hml]; rfl) rfl (hb hby at_104) (W := 0) rfl (by decide) (by decide) (by decide) (by decide)
        obtain ⟨rfl, M103, e103⟩ := hQ103
        have N103 := Fr.app N101 M103
        refine own_st (fun u_ k_ => st103 u_ k_) ?_
        show own_Go p e below _ (T103.setTop (mkF m 107 #[.val (.int md), .val (.int va), .val (.ref b50), .val (.int (md &&& (3 : Int32))), .val r_80, .val (.int (1 : Int32)), .val r_80, .val r_80, .unset] [r_80]))
        refine own_st (fun u_ k_ => XS.astoreS X103.here hx rfl (hb hby at_107) rfl ref_81 (XT.cat1 ref_81) rfl (Or.inl rfl) k_) ?_
        show own_Go p e below _ (T103.setTop (mkF m 109 #[.val (.int md), .val (.int va), .val (.ref b50), .val (.int (md &&& (3 : Int32))), .val r_80, .val (.int (1 : Int32)), .val r_80, .val r_80, .val r_80] []))
        refine own_st (fun u_ k_ => XS.aload X103.here hx rfl (hb hby at_109) rfl ref_81 k_) ?_
        show own_Go p e below _ (T103.setTop (mkF m 111 #[.val (.int md), .val (.int va), .val (.ref b50), .val (.int (md &&& (3 : Int32))), .val r_80, .val (.int (1 : Int32)), .val r_80, .val r_80, .val r_80] [r_80]))
        refine own_st (fun u_ k_ => XS.aload X103.here hx rfl (hb hby at_111) rfl ref_81 k_) ?_
        show own_Go p e below _ (T103.setTop (mkF m 113 #[.val (.int md), .val (.int va), .val (.ref b50), .val (.int (md &&& (3 : Int32))), .val r_80, .val (.int (1 : Int32)), .val r_80, .val r_80, .val r_80] [r_80, r_80]))
        refine own_st (fun u_ k_ => XT.acmpNo X103.here hx rfl (hb hby at_113) rfl ref_81 ref_81 (XT.aa_ne_f rfl) k_) ?_
        show own_Go p e below _ (T103.setTop (mkF m 116 #[.val (.int md), .val (.int va), .val (.ref b50), .val (.int (md &&& (3 : Int32))), .val r_80, .val (.int (1 : Int32)), .val r_80, .val r_80, .val r_80] []))
        refine own_st (fun u_ k_ => XS.aload X103.here hx rfl (hb hby at_116) rfl ref_81 k_) ?_
        show own_Go p e below _ (T103.setTop (mkF m 118 #[.val (.int md), .val (.int va), .val (.ref b50), .val (.int (md &&& (3 : Int32))), .val r_80, .val (.int (1 : Int32)), .val r_80, .val r_80, .val r_80] [r_80]))
        refine own_st (fun u_ k_ => XS.aload X103.here hx rfl (hb hby at_118) rfl ref_81 k_) ?_
        show own_Go p e below _ (T103.setTop (mkF m 120 #[.val (.int md), .val (.int va), .val (.ref b50), .val (.int (md &&& (3 : Int32))), .val r_80, .val (.int (1 : Int32)), .val r_80, .val r_80, .val r_80] [r_80, r_80]))
        refine own_st (fun u_ k_ => XT.acmpNo X103.here hx rfl (hb hby at_120) rfl ref_81 ref_81 (XT.aa_ne_f rfl) k_) ?_
        show own_Go p e below _ (T103.setTop (mkF m 123 #[.val (.int md), .val (.int va), .val (.ref b50), .val (.int (md &&& (3 : Int32))), .val r_80, .val (.int (1 : Int32)), .val r_80, .val r_80, .val r_80] []))
        refine own_st (fun u_ k_ => XS.iconst X103.here hx rfl (hb hby at_123) k_) ?_
        show own_Go p e below _ (T103.setTop (mkF m 124 #[.val (.int md), .val (.int va), .val (.ref b50), .val (.int (md &&& (3 : Int32))), .val r_80, .val (.int (1 : Int32)), .val r_80, .val r_80, .val r_80] [(.int (1 : Int32))]))
        refine own_st (fun u_ k_ => XS.goto X103.here hx rfl (pc0 := 124) (pc' := 128) rfl (hb hby at_124) (by decide) (by decide) k_) ?_
        show own_Go p e below _ (T103.setTop (mkF m 128 #[.val (.int md), .val (.int va), .val (.ref b50), .val (.int (md &&& (3 : Int32))), .val r_80, .val (.int (1 : Int32)), .val r_80, .val r_80, .val r_80] [(.int (1 : Int32))]))
        have K104 : Keep h0 h50 [] := (Keep.refl h0 []).ext E50
        have z106 : h0.size ≤ b50 := Nat.le_trans (Nat.le_refl _) (Nat.le_of_eq g50.symm)
        have K105 : Keep h0 T52.heap [] := K104.trans K52 (allS (Or.inr z106) all0)
        have K107 : Keep h0 T78.heap [] := K105.trans K78 all0
        have K108 : Keep h0 T96.heap [] := K107.trans K96 (allS (Or.inr z106) all0)
        exact own_retX X103 hx hlk hret rfl (Or.inl ⟨rfl, by simp, _, rfl⟩) (hb hby at_128) (by decide) (by decide) (show Qrm0 Z wc cc md va h0 n0 (some (.int (1 : Int32))) T103.heap _ from (by rw [e103]; exact ⟨rfl, N103, K108⟩))
    · refine own_st (fun u_ k_ => XS.icmpYes X52.here hx rfl (pc0 := 26) (pc' := 38) rfl (hb hby at_26) rfl (XT.ii_ne_t hc77) (by decide) (by decide) k_) ?_
      show own_Go p e below _ (T52.setTop (mkF m 38 #[.val (.int md), .val (.int va), .val (.ref b50), .val (.int (md &&& (3 : Int32))), .unset, .unset, .unset, .unset, .unset] []))
      refine own_st (fun u_ k_ => XS.iloadN X52.here hx rfl (hb hby at_38) rfl k_) ?_
      show own_Go p e below _ (T52.setTop (mkF m 39 #[.val (.int md), .val (.int va), .val (.ref b50), .val (.int (md &&& (3 : Int32))), .unset, .unset, .unset, .unset, .unset] [(.int (md &&& (3 : Int32)))]))
      refine own_st (fun u_ k_ => XS.iconst X52.here hx rfl (hb hby at_39) k_) ?_
      show own_Go p e below _ (T52.setTop (mkF m 40 #[.val (.int md), .val (.int va), .val (.ref b50), .val (.int (md &&& (3 : Int32))), .unset, .unset, .unset, .unset, .unset] [(.int (2 : Int32)), (.int (md &&& (3 : Int32)))]))
      by_cases hc109 : (md &&& (3 : Int32)) = (2 : Int32)
      · refine own_st (fun u_ k_ => XS.icmpNo X52.here hx rfl (hb hby at_40) rfl (XT.ii_ne_f hc109) k_) ?_
        show own_Go p e below _ (T52.setTop (mkF m 43 #[.val (.int md), .val (.int va), .val (.ref b50), .val (.int (md &&& (3 : Int32))), .unset, .unset, .unset, .unset, .unset] []))
        refine own_st (fun u_ k_ => XS.aloadN X52.here hx rfl (hb hby at_43) rfl rfl k_) ?_
        show own_Go p e below _ (T52.setTop (mkF m 44 #[.val (.int md), .val (.int va), .val (.ref b50), .val (.int (md &&& (3 : Int32))), .unset, .unset, .unset, .unset, .unset] [(.ref b50)]))
        refine own_st (fun u_ k_ => XS.astore X52.here hx rfl (hb hby at_44) rfl rfl (l' := #[.val (.int md), .val (.int va), .val (.ref b50), .val (.int (md &&& (3 : Int32))), .val (.ref b50), .unset, .unset, .unset, .unset]) rfl k_) ?_
        show own_Go p e below _ (T52.setTop (mkF m 46 #[.val (.int md), .val (.int va), .val (.ref b50), .val (.int (md &&& (3 : Int32))), .val (.ref b50), .unset, .unset, .unset, .unset] []))
        refine own_st (fun u_ k_ => XS.goto X52.here hx rfl (pc0 := 46) (pc' := 60) rfl (hb hby at_46) (by decide) (by decide) k_) ?_
        show own_Go p e below _ (T52.setTop (mkF m 60 #[.val (.int md), .val (.int va), .val (.ref b50), .val (.int (md &&& (3 : Int32))), .val (.ref b50), .unset, .unset, .unset, .unset] []))
        refine own_st (fun u_ k_ => XS.iloadN X52.here hx rfl (hb hby at_60) rfl k_) ?_
        show own_Go p e below _ (T52.setTop (mkF m 61 #[.val (.int md), .val (.int va), .val (.ref b50), .val (.int (md &&& (3 : Int32))), .val (.ref b50), .unset, .unset, .unset, .unset] [(.int md)]))
        refine own_st (fun u_ k_ => XS.iconst X52.here hx rfl (hb hby at_61) k_) ?_
        show own_Go p e below _ (T52.setTop (mkF m 62 #[.val (.int md), .val (.int va), .val (.ref b50), .val (.int (md &&& (3 : Int32))), .val (.ref b50), .unset, .unset, .unset, .unset] [(.int (4 : Int32)), (.int md)]))
        refine own_st (fun u_ k_ => XS.iand X52.here hx rfl (hb hby at_62) rfl k_) ?_
        show own_Go p e below _ (T52.setTop (mkF m 63 #[.val (.int md), .val (.int va), .val (.ref b50), .val (.int (md &&& (3 : Int32))), .val (.ref b50), .unset, .unset, .unset, .unset] [(.int (md &&& (4 : Int32)))]))
        by_cases hc110 : (md &&& (4 : Int32)) = (0 : Int32)
        · refine own_st (fun u_ k_ => XS.ifYes X52.here hx rfl (pc0 := 63) (pc' := 70) rfl (hb hby at_63) rfl (XT.i0_eq_t hc110) (by decide) (by decide) k_) ?_
          show own_Go p e below _ (T52.setTop (mkF m 70 #[.val (.int md), .val (.int va), .val (.ref b50), .val (.int (md &&& (3 : Int32))), .val (.ref b50), .unset, .unset, .unset, .unset] []))
          refine own_st (fun u_ k_ => XS.iconst X52.here hx rfl (hb hby at_70) k_) ?_
          show own_Go p e below _ (T52.setTop (mkF m 71 #[.val (.int md), .val (.int va), .val (.ref b50), .val (.int (md &&& (3 : Int32))), .val (.ref b50), .unset, .unset, .unset, .unset] [(.int (0 : Int32))]))
          refine own_st (fun u_ k_ => XS.istore X52.here hx rfl (hb hby at_71) rfl (l' := #[.val (.int md), .val (.int va), .val (.ref b50), .val (.int (md &&& (3 : Int32))), .val (.ref b50), .val (.int (0 : Int32)), .unset, .unset, .unset]) rfl k_) ?_
          show own_Go p e below _ (T52.setTop (mkF m 73 #[.val (.int md), .val (.int va), .val (.ref b50), .val (.int (md &&& (3 : Int32))), .val (.ref b50), .val (.int (0 : Int32)), .unset, .unset, .unset] []))
          refine own_st (fun u_ k_ => XS.iload X52.here hx rfl (hb hby at_73) rfl k_) ?_
          show own_Go p e below _ (T52.setTop (mkF m 75 #[.val (.int md), .val (.int va), .val (.ref b50), .val (.int (md &&& (3 : Int32))), .val (.ref b50), .val (.int (0 : Int32)), .unset, .unset, .unset] [(.int (0 : Int32))]))
          refine own_st (fun u_ k_ => XS.ifYes X52.here hx rfl (pc0 := 75) (pc' := 84) rfl (hb hby at_75) rfl (XT.i0_eq_t (by decide)) (by decide) (by decide) k_) ?_
          show own_Go p e below _ (T52.setTop (mkF m 84 #[.val (.int md), .val (.int va), .val (.ref b50), .val (.int (md &&& (3 : Int32))), .val (.ref b50), .val (.int (0 : Int32)), .unset, .unset, .unset] []))
          refine own_st (fun u_ k_ => XS.iload X52.here hx rfl (hb hby at_84) rfl k_) ?_
          show own_Go p e below _ (T52.setTop (mkF m 86 #[.val (.int md), .val (.int va), .val (.ref b50), .val (.int (md &&& (3 : Int32))), .val (.ref b50), .val (.int (0 : Int32)), .unset, .unset, .unset] [(.int (0 : Int32))]))
          refine own_st (fun u_ k_ => XS.ifYes X52.here hx rfl (pc0 := 86) (pc' := 94) rfl (hb hby at_86) rfl (XT.i0_eq_t (by decide)) (by decide) (by decide) k_) ?_
          show own_Go p e below _ (T52.setTop (mkF m 94 #[.val (.int md), .val (.int va), .val (.ref b50), .val (.int (md &&& (3 : Int32))), .val (.ref b50), .val (.int (0 : Int32)), .unset, .unset, .unset] []))
          refine own_st (fun u_ k_ => XS.aconstNull X52.here hx rfl (hb hby at_94) k_) ?_
          show own_Go p e below _ (T52.setTop (mkF m 95 #[.val (.int md), .val (.int va), .val (.ref b50), .val (.int (md &&& (3 : Int32))), .val (.ref b50), .val (.int (0 : Int32)), .unset, .unset, .unset] [.null]))
          refine own_st (fun u_ k_ => XS.astore X52.here hx rfl (hb hby at_95) rfl rfl (l' := #[.val (.int md), .val (.int va), .val (.ref b50), .val (.int (md &&& (3 : Int32))), .val (.ref b50), .val (.int (0 : Int32)), .val .null, .unset, .unset]) rfl k_) ?_
          show own_Go p e below _ (T52.setTop (mkF m 97 #[.val (.int md), .val (.int va), .val (.ref b50), .val (.int (md &&& (3 : Int32))), .val (.ref b50), .val (.int (0 : Int32)), .val .null, .unset, .unset] []))
          refine own_st (fun u_ k_ => XS.aloadN X52.here hx rfl (hb hby at_97) rfl rfl k_) ?_
          show own_Go p e below _ (T52.setTop (mkF m 98 #[.val (.int md), .val (.int va), .val (.ref b50), .val (.int (md &&& (3 : Int32))), .val (.ref b50), .val (.int (0 : Int32)), .val .null, .unset, .unset] [(.ref b50)]))
          have O112 : Old Z n0 T52.heap := O53.keep K52 (allS g51 all0)
          obtain ⟨T111, v111, L111, X111, hQ111, st111⟩ := own_callV X52 hx hZ (y := (⟨"com/example/forgewire/forgewire/beans/Need", "take", "()Ljava/lang/Object;"⟩ : MethodName)) (z := (⟨"com/example/forgewire/forgewire/beans/Need", "take", "()Ljava/lang/Object;"⟩ : MethodName)) hown (hw _ (List.mem_of_getElem? (i := 18) rfl)) (hw _ (List.mem_of_getElem? (i := 19) rfl)) (notFace_of_selects (args := #[]) (mvT hZ (hw _ (List.mem_of_getElem? (i := 21) rfl)))) (hw _ (List.mem_of_getElem? (i := 21) rfl)) (hw _ (List.mem_of_getElem? (i := 20) rfl)) (hw _ (List.mem_of_getElem? (i := 9) rfl)) (hw _ (List.mem_of_getElem? (i := 22) rfl)) (by decide) (rmT l Z a0 hw [] wc cc hS b50 (.null : Value) T52.heap n0 O112 F55 F56 rfl) rfl F54 own_pd_55 (argsL := []) (rest := []) rfl rfl (g := (mkF m 98 #[.val (.int md), .val (.int va), .val (.ref b50), .val (.int (md &&& (3 : Int32))), .val (.ref b50), .val (.int (0 : Int32)), .val .null, .unset, .unset] [(.ref b50)])) rfl (by rw [hml]; rfl) rfl (hb hby at_98) (W := 0) rfl (by decide) (by decide) (by decide) (by decide)
          obtain ⟨rfl, M111, e111⟩ := hQ111
          have N111 := Fr.app N52 M111
          refine own_st (fun u_ k_ => st111 u_ k_) ?_
          show own_Go p e below _ (T111.setTop (mkF m 101 #[.val (.int md), .val (.int va), .val (.ref b50), .val (.int (md &&& (3 : Int32))), .val (.ref b50), .val (.int (0 : Int32)), .val .null, .unset, .unset] [.null]))
          refine own_st (fun u_ k_ => XS.astore X111.here hx rfl (hb hby at_101) rfl rfl (l' := #[.val (.int md), .val (.int va), .val (.ref b50), .val (.int (md &&& (3 : Int32))), .val (.ref b50), .val (.int (0 : Int32)), .val .null, .val .null, .unset]) rfl k_) ?_
          show own_Go p e below _ (T111.setTop (mkF m 103 #[.val (.int md), .val (.int va), .val (.ref b50), .val (.int (md &&& (3 : Int32))), .val (.ref b50), .val (.int (0 : Int32)), .val .null, .val .null, .unset] []))
          refine own_st (fun u_ k_ => XS.aloadN X111.here hx rfl (hb hby at_103) rfl rfl k_) ?_
          show own_Go p e below _ (T111.setTop (mkF m 104 #[.val (.int md), .val (.int va), .val (.ref b50), .val (.int (md &&& (3 : Int32))), .val (.ref b50), .val (.int (0 : Int32)), .val .null, .val .null, .unset] [(.ref b50)]))
          obtain ⟨T113, v113, L113, X113, hQ113, st113⟩ := own_callV X111 hx hZ (y := (⟨"com/example/forgewire/forgewire/beans/Need", "take", "()Ljava/lang/Object;"⟩ : MethodName)) (z := (⟨"com/example/forgewire/forgewire/beans/Need", "take", "()Ljava/lang/Object;"⟩ : MethodName)) hown (hw _ (List.mem_of_getElem? (i := 18) rfl)) (hw _ (List.mem_of_getElem? (i := 19) rfl)) (notFace_of_selects (args := #[]) (mvT hZ (hw _ (List.mem_of_getElem? (i := 21) rfl)))) (hw _ (List.mem_of_getElem? (i := 21) rfl)) (hw _ (List.mem_of_getElem? (i := 20) rfl)) (hw _ (List.mem_of_getElem? (i := 9) rfl)) (hw _ (List.mem_of_getElem? (i := 22) rfl)) (by decide) (rmT l Z a0 hw [] wc cc hS b50 (.null : Value) T52.heap n0 O112 F55 F56 rfl) e111 F54 own_pd_55 (argsL := []) (rest := []) rfl rfl (g := (mkF m 104 #[.val (.int md), .val (.int va), .val (.ref b50), .val (.int (md &&& (3 : Int32))), .val (.ref b50), .val (.int (0 : Int32)), .val .null, .val .null, .unset] [(.ref b50)])) rfl (by rw [hml]; rfl) rfl (hb hby at_104) (W := 0) rfl (by decide) (by decide) (by decide) (by decide)
          obtain ⟨rfl, M113, e113⟩ := hQ113
          have N113 := Fr.app N111 M113
          refine own_st (fun u_ k_ => st113 u_ k_) ?_
          show own_Go p e below _ (T113.setTop (mkF m 107 #[.val (.int md), .val (.int va), .val (.ref b50), .val (.int (md &&& (3 : Int32))), .val (.ref b50), .val (.int (0 : Int32)), .val .null, .val .null, .unset] [.null]))
          refine own_st (fun u_ k_ => XS.astore X113.here hx rfl (hb hby at_107) rfl rfl (l' := #[.val (.int md), .val (.int va), .val (.ref b50), .val (.int (md &&& (3 : Int32))), .val (.ref b50), .val (.int (0 : Int32)), .val .null, .val .null, .val .null]) rfl k_) ?_
          show own_Go p e below _ (T113.setTop (mkF m 109 #[.val (.int md), .val (.int va), .val (.ref b50), .val (.int (md &&& (3 : Int32))), .val (.ref b50), .val (.int (0 : Int32)), .val .null, .val .null, .val .null] []))
          refine own_st (fun u_ k_ => XS.aload X113.here hx rfl (hb hby at_109) rfl rfl k_) ?_
          show own_Go p e below _ (T113.setTop (mkF m 111 #[.val (.int md), .val (.int va), .val (.ref b50), .val (.int (md &&& (3 : Int32))), .val (.ref b50), .val (.int (0 : Int32)), .val .null, .val .null, .val .null] [.null]))
          refine own_st (fun u_ k_ => XS.aload X113.here hx rfl (hb hby at_111) rfl rfl k_) ?_
          show own_Go p e below _ (T113.setTop (mkF m 113 #[.val (.int md), .val (.int va), .val (.ref b50), .val (.int (md &&& (3 : Int32))), .val (.ref b50), .val (.int (0 : Int32)), .val .null, .val .null, .val .null] [.null, .null]))
          refine own_st (fun u_ k_ => XT.acmpNo X113.here hx rfl (hb hby at_113) rfl rfl rfl (XT.aa_ne_f rfl) k_) ?_
          show own_Go p e below _ (T113.setTop (mkF m 116 #[.val (.int md), .val (.int va), .val (.ref b50), .val (.int (md &&& (3 : Int32))), .val (.ref b50), .val (.int (0 : Int32)), .val .null, .val .null, .val .null] []))
          refine own_st (fun u_ k_ => XS.aload X113.here hx rfl (hb hby at_116) rfl rfl k_) ?_
          show own_Go p e below _ (T113.setTop (mkF m 118 #[.val (.int md), .val (.int va), .val (.ref b50), .val (.int (md &&& (3 : Int32))), .val (.ref b50), .val (.int (0 : Int32)), .val .null, .val .null, .val .null] [.null]))
          refine own_st (fun u_ k_ => XS.aload X113.here hx rfl (hb hby at_118) rfl rfl k_) ?_
          show own_Go p e below _ (T113.setTop (mkF m 120 #[.val (.int md), .val (.int va), .val (.ref b50), .val (.int (md &&& (3 : Int32))), .val (.ref b50), .val (.int (0 : Int32)), .val .null, .val .null, .val .null] [.null, .null]))
          refine own_st (fun u_ k_ => XT.acmpNo X113.here hx rfl (hb hby at_120) rfl rfl rfl (XT.aa_ne_f rfl) k_) ?_
          show own_Go p e below _ (T113.setTop (mkF m 123 #[.val (.int md), .val (.int va), .val (.ref b50), .val (.int (md &&& (3 : Int32))), .val (.ref b50), .val (.int (0 : Int32)), .val .null, .val .null, .val .null] []))
          refine own_st (fun u_ k_ => XS.iconst X113.here hx rfl (hb hby at_123) k_) ?_
          show own_Go p e below _ (T113.setTop (mkF m 124 #[.val (.int md), .val (.int va), .val (.ref b50), .val (.int (md &&& (3 : Int32))), .val (.ref b50), .val (.int (0 : Int32)), .val .null, .val .null, .val .null] [(.int (1 : Int32))]))
          refine own_st (fun u_ k_ => XS.goto X113.here hx rfl (pc0 := 124) (pc' := 128) rfl (hb hby at_124) (by decide) (by decide) k_) ?_
          show own_Go p e below _ (T113.setTop (mkF m 128 #[.val (.int md), .val (.int va), .val (.ref b50), .val (.int (md &&& (3 : Int32))), .val (.ref b50), .val (.int (0 : Int32)), .val .null, .val .null, .val .null] [(.int (1 : Int32))]))
          have K114 : Keep h0 h50 [] := (Keep.refl h0 []).ext E50
          have z116 : h0.size ≤ b50 := Nat.le_trans (Nat.le_refl _) (Nat.le_of_eq g50.symm)
          have K115 : Keep h0 T52.heap [] := K114.trans K52 (allS (Or.inr z116) all0)
          exact own_retX X113 hx hlk hret rfl (Or.inl ⟨rfl, by simp, _, rfl⟩) (hb hby at_128) (by decide) (by decide) (show Qrm0 Z wc cc md va h0 n0 (some (.int (1 : Int32))) T113.heap _ from (by rw [e113]; exact ⟨rfl, N113, K115⟩))
        · refine own_st (fun u_ k_ => XS.ifNo X52.here hx rfl (hb hby at_63) rfl (XT.i0_eq_f hc110) k_) ?_
          show own_Go p e below _ (T52.setTop (mkF m 66 #[.val (.int md), .val (.int va), .val (.ref b50), .val (.int (md &&& (3 : Int32))), .val (.ref b50), .unset, .unset, .unset, .unset] []))
          refine own_st (fun u_ k_ => XS.iconst X52.here hx rfl (hb hby at_66) k_) ?_
          show own_Go p e below _ (T52.setTop (mkF m 67 #[.val (.int md), .val (.int va), .val (.ref b50), .val (.int (md &&& (3 : Int32))), .val (.ref b50), .unset, .unset, .unset, .unset] [(.int (1 : Int32))]))
          refine own_st (fun u_ k_ => XS.goto X52.here hx rfl (pc0 := 67) (pc' := 71) rfl (hb hby at_67) (by decide) (by decide) k_) ?_
          show own_Go p e below _ (T52.setTop (mkF m 71 #[.val (.int md), .val (.int va), .val (.ref b50), .val (.int (md &&& (3 : Int32))), .val (.ref b50), .unset, .unset, .unset, .unset] [(.int (1 : Int32))]))
          refine own_st (fun u_ k_ => XS.istore X52.here hx rfl (hb hby at_71) rfl (l' := #[.val (.int md), .val (.int va), .val (.ref b50), .val (.int (md &&& (3 : Int32))), .val (.ref b50), .val (.int (1 : Int32)), .unset, .unset, .unset]) rfl k_) ?_
          show own_Go p e below _ (T52.setTop (mkF m 73 #[.val (.int md), .val (.int va), .val (.ref b50), .val (.int (md &&& (3 : Int32))), .val (.ref b50), .val (.int (1 : Int32)), .unset, .unset, .unset] []))
          refine own_st (fun u_ k_ => XS.iload X52.here hx rfl (hb hby at_73) rfl k_) ?_
          show own_Go p e below _ (T52.setTop (mkF m 75 #[.val (.int md), .val (.int va), .val (.ref b50), .val (.int (md &&& (3 : Int32))), .val (.ref b50), .val (.int (1 : Int32)), .unset, .unset, .unset] [(.int (1 : Int32))]))
          refine own_st (fun u_ k_ => XS.ifNo X52.here hx rfl (hb hby at_75) rfl (XT.i0_eq_f (by decide)) k_) ?_
          show own_Go p e below _ (T52.setTop (mkF m 78 #[.val (.int md), .val (.int va), .val (.ref b50), .val (.int (md &&& (3 : Int32))), .val (.ref b50), .val (.int (1 : Int32)), .unset, .unset, .unset] []))
          refine own_st (fun u_ k_ => XS.aloadN X52.here hx rfl (hb hby at_78) rfl rfl k_) ?_
          show own_Go p e below _ (T52.setTop (mkF m 79 #[.val (.int md), .val (.int va), .val (.ref b50), .val (.int (md &&& (3 : Int32))), .val (.ref b50), .val (.int (1 : Int32)), .unset, .unset, .unset] [(.ref b50)]))
          refine own_st (fun u_ k_ => XS.aload X52.here hx rfl (hb hby at_79) rfl rfl k_) ?_
          show own_Go p e below _ (T52.setTop (mkF m 81 #[.val (.int md), .val (.int va), .val (.ref b50), .val (.int (md &&& (3 : Int32))), .val (.ref b50), .val (.int (1 : Int32)), .unset, .unset, .unset] [(.ref b50), (.ref b50)]))
          have O118 : Old Z n0 T52.heap := O53.keep K52 (allS g51 all0)
          obtain ⟨T117, v117, L117, X117, hQ117, st117⟩ := own_callV X52 hx hZ (y := (⟨"com/example/forgewire/forgewire/beans/Need", "give", "(Ljava/lang/Object;)V"⟩ : MethodName)) (z := (⟨"com/example/forgewire/forgewire/beans/Need", "give", "(Ljava/lang/Object;)V"⟩ : MethodName)) hown (hw _ (List.mem_of_getElem? (i := 27) rfl)) (hw _ (List.mem_of_getElem? (i := 28) rfl)) (notFace_of_selects (args := #[]) (mvT hZ (hw _ (List.mem_of_getElem? (i := 30) rfl)))) (hw _ (List.mem_of_getElem? (i := 30) rfl)) (hw _ (List.mem_of_getElem? (i := 29) rfl)) (hw _ (List.mem_of_getElem? (i := 9) rfl)) (hw _ (List.mem_of_getElem? (i := 31) rfl)) (by decide) (rmG l Z a0 hw [] wc cc hS b50 ((.ref b50) : Value) (.null : Value) T52.heap n0 O118 F54 F55 F56 g51 rfl) rfl F54 own_pd_56 (argsL := [(.ref b50)]) (rest := []) rfl rfl (g := (mkF m 81 #[.val (.int md), .val (.int va), .val (.ref b50), .val (.int (md &&& (3 : Int32))), .val (.ref b50), .val (.int (1 : Int32)), .unset, .unset, .unset] [(.ref b50), (.ref b50)])) rfl (by rw [hml]; rfl) rfl (hb hby at_81) (W := 0) rfl (by decide) (by decide) (by decide) (by decide)
          obtain ⟨rfl, M117, K117, F119, F120, F121⟩ := hQ117
          have N117 := Fr.app N52 M117
          refine own_st (fun u_ k_ => st117 u_ k_) ?_
          show own_Go p e below _ (T117.setTop (mkF m 84 #[.val (.int md), .val (.int va), .val (.ref b50), .val (.int (md &&& (3 : Int32))), .val (.ref b50), .val (.int (1 : Int32)), .unset, .unset, .unset] []))
          refine own_st (fun u_ k_ => XS.iload X117.here hx rfl (hb hby at_84) rfl k_) ?_
          show own_Go p e below _ (T117.setTop (mkF m 86 #[.val (.int md), .val (.int va), .val (.ref b50), .val (.int (md &&& (3 : Int32))), .val (.ref b50), .val (.int (1 : Int32)), .unset, .unset, .unset] [(.int (1 : Int32))]))
          refine own_st (fun u_ k_ => XS.ifNo X117.here hx rfl (hb hby at_86) rfl (XT.i0_eq_f (by decide)) k_) ?_
          show own_Go p e below _ (T117.setTop (mkF m 89 #[.val (.int md), .val (.int va), .val (.ref b50), .val (.int (md &&& (3 : Int32))), .val (.ref b50), .val (.int (1 : Int32)), .unset, .unset, .unset] []))
          refine own_st (fun u_ k_ => XS.aload X117.here hx rfl (hb hby at_89) rfl rfl k_) ?_
          show own_Go p e below _ (T117.setTop (mkF m 91 #[.val (.int md), .val (.int va), .val (.ref b50), .val (.int (md &&& (3 : Int32))), .val (.ref b50), .val (.int (1 : Int32)), .unset, .unset, .unset] [(.ref b50)]))
          refine own_st (fun u_ k_ => XS.goto X117.here hx rfl (pc0 := 91) (pc' := 95) rfl (hb hby at_91) (by decide) (by decide) k_) ?_
          show own_Go p e below _ (T117.setTop (mkF m 95 #[.val (.int md), .val (.int va), .val (.ref b50), .val (.int (md &&& (3 : Int32))), .val (.ref b50), .val (.int (1 : Int32)), .unset, .unset, .unset] [(.ref b50)]))
          refine own_st (fun u_ k_ => XS.astore X117.here hx rfl (hb hby at_95) rfl rfl (l' := #[.val (.int md), .val (.int va), .val (.ref b50), .val (.int (md &&& (3 : Int32))), .val (.ref b50), .val (.int (1 : Int32)), .val (.ref b50), .unset, .unset]) rfl k_) ?_
          show own_Go p e below _ (T117.setTop (mkF m 97 #[.val (.int md), .val (.int va), .val (.ref b50), .val (.int (md &&& (3 : Int32))), .val (.ref b50), .val (.int (1 : Int32)), .val (.ref b50), .unset, .unset] []))
          refine own_st (fun u_ k_ => XS.aloadN X117.here hx rfl (hb hby at_97) rfl rfl k_) ?_
          show own_Go p e below _ (T117.setTop (mkF m 98 #[.val (.int md), .val (.int va), .val (.ref b50), .val (.int (md &&& (3 : Int32))), .val (.ref b50), .val (.int (1 : Int32)), .val (.ref b50), .unset, .unset] [(.ref b50)]))
          have O123 : Old Z n0 T117.heap := O118.keep K117 (allS g51 all0)
          obtain ⟨T122, v122, L122, X122, hQ122, st122⟩ := own_callV X117 hx hZ (y := (⟨"com/example/forgewire/forgewire/beans/Need", "take", "()Ljava/lang/Object;"⟩ : MethodName)) (z := (⟨"com/example/forgewire/forgewire/beans/Need", "take", "()Ljava/lang/Object;"⟩ : MethodName)) hown (hw _ (List.mem_of_getElem? (i := 18) rfl)) (hw _ (List.mem_of_getElem? (i := 19) rfl)) (notFace_of_selects (args := #[]) (mvT hZ (hw _ (List.mem_of_getElem? (i := 21) rfl)))) (hw _ (List.mem_of_getElem? (i := 21) rfl)) (hw _ (List.mem_of_getElem? (i := 20) rfl)) (hw _ (List.mem_of_getElem? (i := 9) rfl)) (hw _ (List.mem_of_getElem? (i := 22) rfl)) (by decide) (rmT l Z a0 hw [] wc cc hS b50 ((.ref b50) : Value) T117.heap n0 O123 F120 F121 rfl) rfl F119 own_pd_55 (argsL := []) (rest := []) rfl rfl (g := (mkF m 98 #[.val (.int md), .val (.int va), .val (.ref b50), .val (.int (md &&& (3 : Int32))), .val (.ref b50), .val (.int (1 : Int32)), .val (.ref b50), .unset, .unset] [(.ref b50)])) rfl (by rw [hml]; rfl) rfl (hb hby at_98) (W := 0) rfl (by decide) (by decide) (by decide) (by decide)
          obtain ⟨rfl, M122, e122⟩ := hQ122
          have N122 := Fr.app N117 M122
          refine own_st (fun u_ k_ => st122 u_ k_) ?_
          show own_Go p e below _ (T122.setTop (mkF m 101 #[.val (.int md), .val (.int va), .val (.ref b50), .val (.int (md &&& (3 : Int32))), .val (.ref b50), .val (.int (1 : Int32)), .val (.ref b50), .unset, .unset] [(.ref b50)]))
          refine own_st (fun u_ k_ => XS.astore X122.here hx rfl (hb hby at_101) rfl rfl (l' := #[.val (.int md), .val (.int va), .val (.ref b50), .val (.int (md &&& (3 : Int32))), .val (.ref b50), .val (.int (1 : Int32)), .val (.ref b50), .val (.ref b50), .unset]) rfl k_) ?_
          show own_Go p e below _ (T122.setTop (mkF m 103 #[.val (.int md), .val (.int va), .val (.ref b50), .val (.int (md &&& (3 : Int32))), .val (.ref b50), .val (.int (1 : Int32)), .val (.ref b50), .val (.ref b50), .unset] []))
          refine own_st (fun u_ k_ => XS.aloadN X122.here hx rfl (hb hby at_103) rfl rfl k_) ?_
          show own_Go p e below _ (T122.setTop (mkF m 104 #[.val (.int md), .val (.int va), .val (.ref b50), .val (.int (md &&& (3 : Int32))), .val (.ref b50), .val (.int (1 : Int32)), .val (.ref b50), .val (.ref b50), .unset] [(.ref b50)]))
          obtain ⟨T124, v124, L124, X124, hQ124, st124⟩ := own_callV X122 hx hZ (y := (⟨"com/example/forgewire/forgewire/beans/Need", "take", "()Ljava/lang/Object;"⟩ : MethodName)) (z := (⟨"com/example/forgewire/forgewire/beans/Need", "take", "()Ljava/lang/Object;"⟩ : MethodName)) hown (hw _ (List.mem_of_getElem? (i := 18) rfl)) (hw _ (List.mem_of_getElem? (i := 19) rfl)) (notFace_of_selects (args := #[]) (mvT hZ (hw _ (List.mem_of_getElem? (i := 21) rfl)))) (hw _ (List.mem_of_getElem? (i := 21) rfl)) (hw _ (List.mem_of_getElem? (i := 20) rfl)) (hw _ (List.mem_of_getElem? (i := 9) rfl)) (hw _ (List.mem_of_getElem? (i := 22) rfl)) (by decide) (rmT l Z a0 hw [] wc cc hS b50 ((.ref b50) : Value) T117.heap n0 O123 F120 F121 rfl) e122 F119 own_pd_55 (argsL := []) (rest := []) rfl rfl (g := (mkF m 104 #[.val (.int md), .val (.int va), .val (.ref b50), .val (.int (md &&& (3 : Int32))), .val (.ref b50), .val (.int (1 : Int32)), .val (.ref b50), .val (.ref b50), .unset] [(.ref b50)])) rfl (by rw [hml]; rfl) rfl (hb hby at_104) (W := 0) rfl (by decide) (by decide) (by decide) (by decide)
          obtain ⟨rfl, M124, e124⟩ := hQ124
          have N124 := Fr.app N122 M124
          refine own_st (fun u_ k_ => st124 u_ k_) ?_
          show own_Go p e below _ (T124.setTop (mkF m 107 #[.val (.int md), .val (.int va), .val (.ref b50), .val (.int (md &&& (3 : Int32))), .val (.ref b50), .val (.int (1 : Int32)), .val (.ref b50), .val (.ref b50), .unset] [(.ref b50)]))
          refine own_st (fun u_ k_ => XS.astore X124.here hx rfl (hb hby at_107) rfl rfl (l' := #[.val (.int md), .val (.int va), .val (.ref b50), .val (.int (md &&& (3 : Int32))), .val (.ref b50), .val (.int (1 : Int32)), .val (.ref b50), .val (.ref b50), .val (.ref b50)]) rfl k_) ?_
          show own_Go p e below _ (T124.setTop (mkF m 109 #[.val (.int md), .val (.int va), .val (.ref b50), .val (.int (md &&& (3 : Int32))), .val (.ref b50), .val (.int (1 : Int32)), .val (.ref b50), .val (.ref b50), .val (.ref b50)] []))
          refine own_st (fun u_ k_ => XS.aload X124.here hx rfl (hb hby at_109) rfl rfl k_) ?_
          show own_Go p e below _ (T124.setTop (mkF m 111 #[.val (.int md), .val (.int va), .val (.ref b50), .val (.int (md &&& (3 : Int32))), .val (.ref b50), .val (.int (1 : Int32)), .val (.ref b50), .val (.ref b50), .val (.ref b50)] [(.ref b50)]))
          refine own_st (fun u_ k_ => XS.aload X124.here hx rfl (hb hby at_111) rfl rfl k_) ?_
          show own_Go p e below _ (T124.setTop (mkF m 113 #[.val (.int md), .val (.int va), .val (.ref b50), .val (.int (md &&& (3 : Int32))), .val (.ref b50), .val (.int (1 : Int32)), .val (.ref b50), .val (.ref b50), .val (.ref b50)] [(.ref b50), (.ref b50)]))
          refine own_st (fun u_ k_ => XT.acmpNo X124.here hx rfl (hb hby at_113) rfl rfl rfl (XT.aa_ne_f rfl) k_) ?_
          show own_Go p e below _ (T124.setTop (mkF m 116 #[.val (.int md), .val (.int va), .val (.ref b50), .val (.int (md &&& (3 : Int32))), .val (.ref b50), .val (.int (1 : Int32)), .val (.ref b50), .val (.ref b50), .val (.ref b50)] []))
          refine own_st (fun u_ k_ => XS.aload X124.here hx rfl (hb hby at_116) rfl rfl k_) ?_
          show own_Go p e below _ (T124.setTop (mkF m 118 #[.val (.int md), .val (.int va), .val (.ref b50), .val (.int (md &&& (3 : Int32))), .val (.ref b50), .val (.int (1 : Int32)), .val (.ref b50), .val (.ref b50), .val (.ref b50)] [(.ref b50)]))
          refine own_st (fun u_ k_ => XS.aload X124.here hx rfl (hb hby at_118) rfl rfl k_) ?_
          show own_Go p e below _ (T124.setTop (mkF m 120 #[.val (.int md), .val (.int va), .val (.ref b50), .val (.int (md &&& (3 : Int32))), .val (.ref b50), .val (.int (1 : Int32)), .val (.ref b50), .val (.ref b50), .val (.ref b50)] [(.ref b50), (.ref b50)]))
          refine own_st (fun u_ k_ => XT.acmpNo X124.here hx rfl (hb hby at_120) rfl rfl rfl (XT.aa_ne_f rfl) k_) ?_
          show own_Go p e below _ (T124.setTop (mkF m 123 #[.val (.int md), .val (.int va), .val (.ref b50), .val (.int (md &&& (3 : Int32))), .val (.ref b50), .val (.int (1 : Int32)), .val (.ref b50), .val (.ref b50), .val (.ref b50)] []))
          refine own_st (fun u_ k_ => XS.iconst X124.here hx rfl (hb hby at_123) k_) ?_
          show own_Go p e below _ (T124.setTop (mkF m 124 #[.val (.int md), .val (.int va), .val (.ref b50), .val (.int (md &&& (3 : Int32))), .val (.ref b50), .val (.int (1 : Int32)), .val (.ref b50), .val (.ref b50), .val (.ref b50)] [(.int (1 : Int32))]))
          refine own_st (fun u_ k_ => XS.goto X124.here hx rfl (pc0 := 124) (pc' := 128) rfl (hb hby at_124) (by decide) (by decide) k_) ?_
          show own_Go p e below _ (T124.setTop (mkF m 128 #[.val (.int md), .val (.int va), .val (.ref b50), .val (.int (md &&& (3 : Int32))), .val (.ref b50), .val (.int (1 : Int32)), .val (.ref b50), .val (.ref b50), .val (.ref b50)] [(.int (1 : Int32))]))
          have K125 : Keep h0 h50 [] := (Keep.refl h0 []).ext E50
          have z127 : h0.size ≤ b50 := Nat.le_trans (Nat.le_refl _) (Nat.le_of_eq g50.symm)
          have K126 : Keep h0 T52.heap [] := K125.trans K52 (allS (Or.inr z127) all0)
          have K128 : Keep h0 T117.heap [] := K126.trans K117 (allS (Or.inr z127) all0)
          exact own_retX X124 hx hlk hret rfl (Or.inl ⟨rfl, by simp, _, rfl⟩) (hb hby at_128) (by decide) (by decide) (show Qrm0 Z wc cc md va h0 n0 (some (.int (1 : Int32))) T124.heap _ from (by rw [e124]; exact ⟨rfl, N124, K128⟩))
      · refine own_st (fun u_ k_ => XS.icmpYes X52.here hx rfl (pc0 := 40) (pc' := 49) rfl (hb hby at_40) rfl (XT.ii_ne_t hc109) (by decide) (by decide) k_) ?_
        show own_Go p e below _ (T52.setTop (mkF m 49 #[.val (.int md), .val (.int va), .val (.ref b50), .val (.int (md &&& (3 : Int32))), .unset, .unset, .unset, .unset, .unset] []))
        obtain ⟨T129, h129, X129, e129, E129, A129, D129, U129, st129⟩ := newO X52 hx hZ hown (hw _ (List.mem_of_getElem? (i := 0) rfl)) (hw _ (List.mem_of_getElem? (i := 1) rfl)) (hw _ (List.mem_of_getElem? (i := 2) rfl)) rfl (g := (mkF m 49 #[.val (.int md), .val (.int va), .val (.ref b50), .val (.int (md &&& (3 : Int32))), .unset, .unset, .unset, .unset, .unset] [])) rfl (hb hby at_49) (by decide) (by decide)
        obtain ⟨b129, g129⟩ : ∃ z, z = T52.heap.size := ⟨_, rfl⟩
        rw [← g129] at A129 D129 U129 st129
        have F129_name : Fld Z h129 b129 "com/example/forgewire/forgewire/beans/Need$Named" "name" "Ljava/lang/String;" .null := D129 (Or.inr (hw _ (List.mem_of_getElem? (i := 15) rfl))) (ty := (.object "java/lang/String")) (by decide)
        have F129_type : Fld Z h129 b129 "com/example/forgewire/forgewire/beans/Need$Named" "type" "Ljava/lang/Class;" .null := D129 (Or.inr (hw _ (List.mem_of_getElem? (i := 17) rfl))) (ty := (.object "java/lang/Class")) (by decide)
        have F129_failure : Fld Z h129 b129 "com/example/forgewire/forgewire/beans/Need" "failure" "Ljava/lang/Throwable;" .null := D129 (Or.inl (hw _ (List.mem_of_getElem? (i := 24) rfl))) (ty := (.object "java/lang/Throwable")) (by decide)
        have F129_bean : Fld Z h129 b129 "com/example/forgewire/forgewire/beans/Need" "bean" "Ljava/lang/Object;" .null := D129 (Or.inl (hw _ (List.mem_of_getElem? (i := 26) rfl))) (ty := (.object "java/lang/Object")) (by decide)
        refine own_st (fun u_ k_ => st129 u_ k_) ?_
        show own_Go p e below _ (T129.setTop (mkF m 52 #[.val (.int md), .val (.int va), .val (.ref b50), .val (.int (md &&& (3 : Int32))), .unset, .unset, .unset, .unset, .unset] [(.ref b129)]))
        refine own_st (fun u_ k_ => XS.dup X129.here hx rfl (hb hby at_52) rfl rfl k_) ?_
        show own_Go p e below _ (T129.setTop (mkF m 53 #[.val (.int md), .val (.int va), .val (.ref b50), .val (.int (md &&& (3 : Int32))), .unset, .unset, .unset, .unset, .unset] [(.ref b129), (.ref b129)]))
        refine own_st (fun u_ k_ => XS.aconstNull X129.here hx rfl (hb hby at_53) k_) ?_
        show own_Go p e below _ (T129.setTop (mkF m 54 #[.val (.int md), .val (.int va), .val (.ref b50), .val (.int (md &&& (3 : Int32))), .unset, .unset, .unset, .unset, .unset] [.null, (.ref b129), (.ref b129)]))
        refine own_st (fun u_ k_ => XS.aconstNull X129.here hx rfl (hb hby at_54) k_) ?_
        show own_Go p e below _ (T129.setTop (mkF m 55 #[.val (.int md), .val (.int va), .val (.ref b50), .val (.int (md &&& (3 : Int32))), .unset, .unset, .unset, .unset, .unset] [.null, .null, (.ref b129), (.ref b129)]))
        have O131 : Old Z n0 T52.heap := O53.keep K52 (allS g51 all0)
        have g130 : n0 ≤ b129 := Nat.le_trans (own_nl O131) (Nat.le_of_eq g129.symm)
        have O133 : Old Z n0 h129 := O131.ext E129
        obtain ⟨T132, v132, L132, X132, hQ132, st132⟩ := own_callN X129 hx hZ (y := (⟨"com/example/forgewire/forgewire/beans/Need$Named", "<init>", "(Ljava/lang/String;Ljava/lang/Class;)V"⟩ : MethodName)) rfl hown (hw _ (List.mem_of_getElem? (i := 3) rfl)) (hw _ (List.mem_of_getElem? (i := 4) rfl)) (hw _ (List.mem_of_getElem? (i := 2) rfl)) (hw _ (List.mem_of_getElem? (i := 5) rfl)) (by decide) (rmD l Z a0 hw [] wc cc hS b129 h129 n0 O133 A129 F129_name F129_type F129_failure F129_bean g130) e129 own_pd_54 (a := b129) (argsL := [.null, .null]) (rest := [(.ref b129)]) rfl rfl (g := (mkF m 55 #[.val (.int md), .val (.int va), .val (.ref b50), .val (.int (md &&& (3 : Int32))), .unset, .unset, .unset, .unset, .unset] [.null, .null, (.ref b129), (.ref b129)])) rfl (by rw [hml]; rfl) rfl (hb hby at_55) (W := 1) rfl (by decide) (by decide) (by decide) (by decide)
        obtain ⟨rfl, M132, K132, F134, F135, F136⟩ := hQ132
        have N132 := Fr.app N52 M132
        refine own_st (fun u_ k_ => st132 u_ k_) ?_
        show own_Go p e below _ (T132.setTop (mkF m 58 #[.val (.int md), .val (.int va), .val (.ref b50), .val (.int (md &&& (3 : Int32))), .unset, .unset, .unset, .unset, .unset] [(.ref b129)]))
        refine own_st (fun u_ k_ => XS.astore X132.here hx rfl (hb hby at_58) rfl rfl (l' := #[.val (.int md), .val (.int va), .val (.ref b50), .val (.int (md &&& (3 : Int32))), .val (.ref b129), .unset, .unset, .unset, .unset]) rfl k_) ?_
        show own_Go p e below _ (T132.setTop (mkF m 60 #[.val (.int md), .val (.int va), .val (.ref b50), .val (.int (md &&& (3 : Int32))), .val (.ref b129), .unset, .unset, .unset, .unset] []))
        refine own_st (fun u_ k_ => XS.iloadN X132.here hx rfl (hb hby at_60) rfl k_) ?_
        show own_Go p e below _ (T132.setTop (mkF m 61 #[.val (.int md), .val (.int va), .val (.ref b50), .val (.int (md &&& (3 : Int32))), .val (.ref b129), .unset, .unset, .unset, .unset] [(.int md)]))
        refine own_st (fun u_ k_ => XS.iconst X132.here hx rfl (hb hby at_61) k_) ?_
        show own_Go p e below _ (T132.setTop (mkF m 62 #[.val (.int md), .val (.int va), .val (.ref b50), .val (.int (md &&& (3 : Int32))), .val (.ref b129), .unset, .unset, .unset, .unset] [(.int (4 : Int32)), (.int md)]))
        refine own_st (fun u_ k_ => XS.iand X132.here hx rfl (hb hby at_62) rfl k_) ?_
        show own_Go p e below _ (T132.setTop (mkF m 63 #[.val (.int md), .val (.int va), .val (.ref b50), .val (.int (md &&& (3 : Int32))), .val (.ref b129), .unset, .unset, .unset, .unset] [(.int (md &&& (4 : Int32)))]))
        by_cases hc137 : (md &&& (4 : Int32)) = (0 : Int32)
        · refine own_st (fun u_ k_ => XS.ifYes X132.here hx rfl (pc0 := 63) (pc' := 70) rfl (hb hby at_63) rfl (XT.i0_eq_t hc137) (by decide) (by decide) k_) ?_
          show own_Go p e below _ (T132.setTop (mkF m 70 #[.val (.int md), .val (.int va), .val (.ref b50), .val (.int (md &&& (3 : Int32))), .val (.ref b129), .unset, .unset, .unset, .unset] []))
          refine own_st (fun u_ k_ => XS.iconst X132.here hx rfl (hb hby at_70) k_) ?_
          show own_Go p e below _ (T132.setTop (mkF m 71 #[.val (.int md), .val (.int va), .val (.ref b50), .val (.int (md &&& (3 : Int32))), .val (.ref b129), .unset, .unset, .unset, .unset] [(.int (0 : Int32))]))
          refine own_st (fun u_ k_ => XS.istore X132.here hx rfl (hb hby at_71) rfl (l' := #[.val (.int md), .val (.int va), .val (.ref b50), .val (.int (md &&& (3 : Int32))), .val (.ref b129), .val (.int (0 : Int32)), .unset, .unset, .unset]) rfl k_) ?_
          show own_Go p e below _ (T132.setTop (mkF m 73 #[.val (.int md), .val (.int va), .val (.ref b50), .val (.int (md &&& (3 : Int32))), .val (.ref b129), .val (.int (0 : Int32)), .unset, .unset, .unset] []))
          refine own_st (fun u_ k_ => XS.iload X132.here hx rfl (hb hby at_73) rfl k_) ?_
          show own_Go p e below _ (T132.setTop (mkF m 75 #[.val (.int md), .val (.int va), .val (.ref b50), .val (.int (md &&& (3 : Int32))), .val (.ref b129), .val (.int (0 : Int32)), .unset, .unset, .unset] [(.int (0 : Int32))]))
          refine own_st (fun u_ k_ => XS.ifYes X132.here hx rfl (pc0 := 75) (pc' := 84) rfl (hb hby at_75) rfl (XT.i0_eq_t (by decide)) (by decide) (by decide) k_) ?_
          show own_Go p e below _ (T132.setTop (mkF m 84 #[.val (.int md), .val (.int va), .val (.ref b50), .val (.int (md &&& (3 : Int32))), .val (.ref b129), .val (.int (0 : Int32)), .unset, .unset, .unset] []))
          refine own_st (fun u_ k_ => XS.iload X132.here hx rfl (hb hby at_84) rfl k_) ?_
          show own_Go p e below _ (T132.setTop (mkF m 86 #[.val (.int md), .val (.int va), .val (.ref b50), .val (.int (md &&& (3 : Int32))), .val (.ref b129), .val (.int (0 : Int32)), .unset, .unset, .unset] [(.int (0 : Int32))]))
          refine own_st (fun u_ k_ => XS.ifYes X132.here hx rfl (pc0 := 86) (pc' := 94) rfl (hb hby at_86) rfl (XT.i0_eq_t (by decide)) (by decide) (by decide) k_) ?_
          show own_Go p e below _ (T132.setTop (mkF m 94 #[.val (.int md), .val (.int va), .val (.ref b50), .val (.int (md &&& (3 : Int32))), .val (.ref b129), .val (.int (0 : Int32)), .unset, .unset, .unset] []))
          refine own_st (fun u_ k_ => XS.aconstNull X132.here hx rfl (hb hby at_94) k_) ?_
          show own_Go p e below _ (T132.setTop (mkF m 95 #[.val (.int md), .val (.int va), .val (.ref b50), .val (.int (md &&& (3 : Int32))), .val (.ref b129), .val (.int (0 : Int32)), .unset, .unset, .unset] [.null]))
          refine own_st (fun u_ k_ => XS.astore X132.here hx rfl (hb hby at_95) rfl rfl (l' := #[.val (.int md), .val (.int va), .val (.ref b50), .val (.int (md &&& (3 : Int32))), .val (.ref b129), .val (.int (0 : Int32)), .val .null, .unset, .unset]) rfl k_) ?_
          show own_Go p e below _ (T132.setTop (mkF m 97 #[.val (.int md), .val (.int va), .val (.ref b50), .val (.int (md &&& (3 : Int32))), .val (.ref b129), .val (.int (0 : Int32)), .val .null, .unset, .unset] []))
          refine own_st (fun u_ k_ => XS.aloadN X132.here hx rfl (hb hby at_97) rfl rfl k_) ?_
          show own_Go p e below _ (T132.setTop (mkF m 98 #[.val (.int md), .val (.int va), .val (.ref b50), .val (.int (md &&& (3 : Int32))), .val (.ref b129), .val (.int (0 : Int32)), .val .null, .unset, .unset] [(.ref b50)]))
          have ne138 : b50 ≠ b129 := (Nat.ne_of_lt (Nat.lt_of_lt_of_le F54.lt (Nat.le_of_eq g129.symm)))
          have F139 : Fld Z T132.heap b50 "com/example/forgewire/forgewire/beans/Need" "failure" "Ljava/lang/Throwable;" .null := ((Fld.ext E129 F55).keep K132 (ninS ne138 nin0))
          have F140 : Fld Z T132.heap b50 "com/example/forgewire/forgewire/beans/Need" "bean" "Ljava/lang/Object;" .null := ((Fld.ext E129 F56).keep K132 (ninS ne138 nin0))
          have O142 : Old Z n0 T132.heap := O133.keep K132 (allS g130 all0)
          have F143 : Exa Z T132.heap b50 "com/example/forgewire/forgewire/beans/Need$Named" := ((Exa.ext E129 F54).keep K132)
          obtain ⟨T141, v141, L141, X141, hQ141, st141⟩ := own_callV X132 hx hZ (y := (⟨"com/example/forgewire/forgewire/beans/Need", "take", "()Ljava/lang/Object;"⟩ : MethodName)) (z := (⟨"com/example/forgewire/forgewire/beans/Need", "take", "()Ljava/lang/Object;"⟩ : MethodName)) hown (hw _ (List.mem_of_getElem? (i := 18) rfl)) (hw _ (List.mem_of_getElem? (i := 19) rfl)) (notFace_of_selects (args := #[]) (mvT hZ (hw _ (List.mem_of_getElem? (i := 21) rfl)))) (hw _ (List.mem_of_getElem? (i := 21) rfl)) (hw _ (List.mem_of_getElem? (i := 20) rfl)) (hw _ (List.mem_of_getElem? (i := 9) rfl)) (hw _ (List.mem_of_getElem? (i := 22) rfl)) (by decide) (rmT l Z a0 hw [] wc cc hS b50 (.null : Value) T132.heap n0 O142 F139 F140 rfl) rfl F143 own_pd_55 (argsL := []) (rest := []) rfl rfl (g := (mkF m 98 #[.val (.int md), .val (.int va), .val (.ref b50), .val (.int (md &&& (3 : Int32))), .val (.ref b129), .val (.int (0 : Int32)), .val .null, .unset, .unset] [(.ref b50)])) rfl (by rw [hml]; rfl) rfl (hb hby at_98) (W := 0) rfl (by decide) (by decide) (by decide) (by decide)
          obtain ⟨rfl, M141, e141⟩ := hQ141
          have N141 := Fr.app N132 M141
          refine own_st (fun u_ k_ => st141 u_ k_) ?_
          show own_Go p e below _ (T141.setTop (mkF m 101 #[.val (.int md), .val (.int va), .val (.ref b50), .val (.int (md &&& (3 : Int32))), .val (.ref b129), .val (.int (0 : Int32)), .val .null, .unset, .unset] [.null]))
          refine own_st (fun u_ k_ => XS.astore X141.here hx rfl (hb hby at_101) rfl rfl (l' := #[.val (.int md), .val (.int va), .val (.ref b50), .val (.int (md &&& (3 : Int32))), .val (.ref b129), .val (.int (0 : Int32)), .val .null, .val .null, .unset]) rfl k_) ?_
          show own_Go p e below _ (T141.setTop (mkF m 103 #[.val (.int md), .val (.int va), .val (.ref b50), .val (.int (md &&& (3 : Int32))), .val (.ref b129), .val (.int (0 : Int32)), .val .null, .val .null, .unset] []))
          refine own_st (fun u_ k_ => XS.aloadN X141.here hx rfl (hb hby at_103) rfl rfl k_) ?_
          show own_Go p e below _ (T141.setTop (mkF m 104 #[.val (.int md), .val (.int va), .val (.ref b50), .val (.int (md &&& (3 : Int32))), .val (.ref b129), .val (.int (0 : Int32)), .val .null, .val .null, .unset] [(.ref b50)]))
          obtain ⟨T144, v144, L144, X144, hQ144, st144⟩ := own_callV X141 hx hZ (y := (⟨"com/example/forgewire/forgewire/beans/Need", "take", "()Ljava/lang/Object;"⟩ : MethodName)) (z := (⟨"com/example/forgewire/forgewire/beans/Need", "take", "()Ljava/lang/Object;"⟩ : MethodName)) hown (hw _ (List.mem_of_getElem? (i := 18) rfl)) (hw _ (List.mem_of_getElem? (i := 19) rfl)) (notFace_of_selects (args := #[]) (mvT hZ (hw _ (List.mem_of_getElem? (i := 21) rfl)))) (hw _ (List.mem_of_getElem? (i := 21) rfl)) (hw _ (List.mem_of_getElem? (i := 20) rfl)) (hw _ (List.mem_of_getElem? (i := 9) rfl)) (hw _ (List.mem_of_getElem? (i := 22) rfl)) (by decide) (rmT l Z a0 hw [] wc cc hS b50 (.null : Value) T132.heap n0 O142 F139 F140 rfl) e141 F143 own_pd_55 (argsL := []) (rest := []) rfl rfl (g := (mkF m 104 #[.val (.int md), .val (.int va), .val (.ref b50), .val (.int (md &&& (3 : Int32))), .val (.ref b129), .val (.int (0 : Int32)), .val .null, .val .null, .unset] [(.ref b50)])) rfl (by rw [hml]; rfl) rfl (hb hby at_104) (W := 0) rfl (by decide) (by decide) (by decide) (by decide)
          obtain ⟨rfl, M144, e144⟩ := hQ144
          have N144 := Fr.app N141 M144
          refine own_st (fun u_ k_ => st144 u_ k_) ?_
          show own_Go p e below _ (T144.setTop (mkF m 107 #[.val (.int md), .val (.int va), .val (.ref b50), .val (.int (md &&& (3 : Int32))), .val (.ref b129), .val (.int (0 : Int32)), .val .null, .val .null, .unset] [.null]))
          refine own_st (fun u_ k_ => XS.astore X144.here hx rfl (hb hby at_107) rfl rfl (l' := #[.val (.int md), .val (.int va), .val (.ref b50), .val (.int (md &&& (3 : Int32))), .val (.ref b129), .val (.int (0 : Int32)), .val .null, .val .null, .val .null]) rfl k_) ?_
          show own_Go p e below _ (T144.setTop (mkF m 109 #[.val (.int md), .val (.int va), .val (.ref b50), .val (.int (md &&& (3 : Int32))), .val (.ref b129), .val (.int (0 : Int32)), .val .null, .val .null, .val .null] []))
          refine own_st (fun u_ k_ => XS.aload X144.here hx rfl (hb hby at_109) rfl rfl k_) ?_
          show own_Go p e below _ (T144.setTop (mkF m 111 #[.val (.int md), .val (.int va), .val (.ref b50), .val (.int (md &&& (3 : Int32))), .val (.ref b129), .val (.int (0 : Int32)), .val .null, .val .null, .val .null] [.null]))
          refine own_st (fun u_ k_ => XS.aload X144.here hx rfl (hb hby at_111) rfl rfl k_) ?_
          show own_Go p e below _ (T144.setTop (mkF m 113 #[.val (.int md), .val (.int va), .val (.ref b50), .val (.int (md &&& (3 : Int32))), .val (.ref b129), .val (.int (0 : Int32)), .val .null, .val .null, .val .null] [.null, .null]))
          refine own_st (fun u_ k_ => XT.acmpNo X144.here hx rfl (hb hby at_113) rfl rfl rfl (XT.aa_ne_f rfl) k_) ?_
          show own_Go p e below _ (T144.setTop (mkF m 116 #[.val (.int md), .val (.int va), .val (.ref b50), .val (.int (md &&& (3 : Int32))), .val (.ref b129), .val (.int (0 : Int32)), .val .null, .val .null, .val .null] []))
          refine own_st (fun u_ k_ => XS.aload X144.here hx rfl (hb hby at_116) rfl rfl k_) ?_
          show own_Go p e below _ (T144.setTop (mkF m 118 #[.val (.int md), .val (.int va), .val (.ref b50), .val (.int (md &&& (3 : Int32))), .val (.ref b129), .val (.int (0 : Int32)), .val .null, .val .null, .val .null] [.null]))
          refine own_st (fun u_ k_ => XS.aload X144.here hx rfl (hb hby at_118) rfl rfl k_) ?_
          show own_Go p e below _ (T144.setTop (mkF m 120 #[.val (.int md), .val (.int va), .val (.ref b50), .val (.int (md &&& (3 : Int32))), .val (.ref b129), .val (.int (0 : Int32)), .val .null, .val .null, .val .null] [.null, .null]))
          refine own_st (fun u_ k_ => XT.acmpNo X144.here hx rfl (hb hby at_120) rfl rfl rfl (XT.aa_ne_f rfl) k_) ?_
          show own_Go p e below _ (T144.setTop (mkF m 123 #[.val (.int md), .val (.int va), .val (.ref b50), .val (.int (md &&& (3 : Int32))), .val (.ref b129), .val (.int (0 : Int32)), .val .null, .val .null, .val .null] []))
          refine own_st (fun u_ k_ => XS.iconst X144.here hx rfl (hb hby at_123) k_) ?_
          show own_Go p e below _ (T144.setTop (mkF m 124 #[.val (.int md), .val (.int va), .val (.ref b50), .val (.int (md &&& (3 : Int32))), .val (.ref b129), .val (.int (0 : Int32)), .val .null, .val .null, .val .null] [(.int (1 : Int32))]))
          refine own_st (fun u_ k_ => XS.goto X144.here hx rfl (pc0 := 124) (pc' := 128) rfl (hb hby at_124) (by decide) (by decide) k_) ?_
          show own_Go p e below _ (T144.setTop (mkF m 128 #[.val (.int md), .val (.int va), .val (.ref b50), .val (.int (md &&& (3 : Int32))), .val (.ref b129), .val (.int (0 : Int32)), .val .null, .val .null, .val .null] [(.int (1 : Int32))]))
          have K145 : Keep h0 h50 [] := (Keep.refl h0 []).ext E50
          have z147 : h0.size ≤ b50 := Nat.le_trans (Nat.le_refl _) (Nat.le_of_eq g50.symm)
          have K146 : Keep h0 T52.heap [] := K145.trans K52 (allS (Or.inr z147) all0)
          have K148 : Keep h0 h129 [] := K146.ext E129
          have z150 : h0.size ≤ b129 := Nat.le_trans (Nat.le_trans E50.1 K52.1) (Nat.le_of_eq g129.symm)
          have K149 : Keep h0 T132.heap [] := K148.trans K132 (allS (Or.inr z150) all0)
          exact own_retX X144 hx hlk hret rfl (Or.inl ⟨rfl, by simp, _, rfl⟩) (hb hby at_128) (by decide) (by decide) (show Qrm0 Z wc cc md va h0 n0 (some (.int (1 : Int32))) T144.heap _ from (by rw [e144]; exact ⟨rfl, N144, K149⟩))
        · refine own_st (fun u_ k_ => XS.ifNo X132.here hx rfl (hb hby at_63) rfl (XT.i0_eq_f hc137) k_) ?_
          show own_Go p e below _ (T132.setTop (mkF m 66 #[.val (.int md), .val (.int va), .val (.ref b50), .val (.int (md &&& (3 : Int32))), .val (.ref b129), .unset, .unset, .unset, .unset] []))
          refine own_st (fun u_ k_ => XS.iconst X132.here hx rfl (hb hby at_66) k_) ?_
          show own_Go p e below _ (T132.setTop (mkF m 67 #[.val (.int md), .val (.int va), .val (.ref b50), .val (.int (md &&& (3 : Int32))), .val (.ref b129), .unset, .unset, .unset, .unset] [(.int (1 : Int32))]))
          refine own_st (fun u_ k_ => XS.goto X132.here hx rfl (pc0 := 67) (pc' := 71) rfl (hb hby at_67) (by decide) (by decide) k_) ?_
          show own_Go p e below _ (T132.setTop (mkF m 71 #[.val (.int md), .val (.int va), .val (.ref b50), .val (.int (md &&& (3 : Int32))), .val (.ref b129), .unset, .unset, .unset, .unset] [(.int (1 : Int32))]))
          refine own_st (fun u_ k_ => XS.istore X132.here hx rfl (hb hby at_71) rfl (l' := #[.val (.int md), .val (.int va), .val (.ref b50), .val (.int (md &&& (3 : Int32))), .val (.ref b129), .val (.int (1 : Int32)), .unset, .unset, .unset]) rfl k_) ?_
          show own_Go p e below _ (T132.setTop (mkF m 73 #[.val (.int md), .val (.int va), .val (.ref b50), .val (.int (md &&& (3 : Int32))), .val (.ref b129), .val (.int (1 : Int32)), .unset, .unset, .unset] []))
          refine own_st (fun u_ k_ => XS.iload X132.here hx rfl (hb hby at_73) rfl k_) ?_
          show own_Go p e below _ (T132.setTop (mkF m 75 #[.val (.int md), .val (.int va), .val (.ref b50), .val (.int (md &&& (3 : Int32))), .val (.ref b129), .val (.int (1 : Int32)), .unset, .unset, .unset] [(.int (1 : Int32))]))
          refine own_st (fun u_ k_ => XS.ifNo X132.here hx rfl (hb hby at_75) rfl (XT.i0_eq_f (by decide)) k_) ?_
          show own_Go p e below _ (T132.setTop (mkF m 78 #[.val (.int md), .val (.int va), .val (.ref b50), .val (.int (md &&& (3 : Int32))), .val (.ref b129), .val (.int (1 : Int32)), .unset, .unset, .unset] []))
          refine own_st (fun u_ k_ => XS.aloadN X132.here hx rfl (hb hby at_78) rfl rfl k_) ?_
          show own_Go p e below _ (T132.setTop (mkF m 79 #[.val (.int md), .val (.int va), .val (.ref b50), .val (.int (md &&& (3 : Int32))), .val (.ref b129), .val (.int (1 : Int32)), .unset, .unset, .unset] [(.ref b50)]))
          refine own_st (fun u_ k_ => XS.aload X132.here hx rfl (hb hby at_79) rfl rfl k_) ?_
          show own_Go p e below _ (T132.setTop (mkF m 81 #[.val (.int md), .val (.int va), .val (.ref b50), .val (.int (md &&& (3 : Int32))), .val (.ref b129), .val (.int (1 : Int32)), .unset, .unset, .unset] [(.ref b129), (.ref b50)]))
          have F151 : Exa Z T132.heap b50 "com/example/forgewire/forgewire/beans/Need$Named" := ((Exa.ext E129 F54).keep K132)
          have ne152 : b50 ≠ b129 := (Nat.ne_of_lt (Nat.lt_of_lt_of_le F54.lt (Nat.le_of_eq g129.symm)))
          have F153 : Fld Z T132.heap b50 "com/example/forgewire/forgewire/beans/Need" "failure" "Ljava/lang/Throwable;" .null := ((Fld.ext E129 F55).keep K132 (ninS ne152 nin0))
          have F154 : Fld Z T132.heap b50 "com/example/forgewire/forgewire/beans/Need" "bean" "Ljava/lang/Object;" .null := ((Fld.ext E129 F56).keep K132 (ninS ne152 nin0))
          have O156 : Old Z n0 T132.heap := O133.keep K132 (allS g130 all0)
          obtain ⟨T155, v155, L155, X155, hQ155, st155⟩ := own_callV X132 hx hZ (y := (⟨"com/example/forgewire/forgewire/beans/Need", "give", "(Ljava/lang/Object;)V"⟩ : MethodName)) (z := (⟨"com/example/forgewire/forgewire/beans/Need", "give", "(Ljava/lang/Object;)V"⟩ : MethodName)) hown (hw _ (List.mem_of_getElem? (i := 27) rfl)) (hw _ (List.mem_of_getElem? (i := 28) rfl)) (notFace_of_selects (args := #[]) (mvT hZ (hw _ (List.mem_of_getElem? (i := 30) rfl)))) (hw _ (List.mem_of_getElem? (i := 30) rfl)) (hw _ (List.mem_of_getElem? (i := 29) rfl)) (hw _ (List.mem_of_getElem? (i := 9) rfl)) (hw _ (List.mem_of_getElem? (i := 31) rfl)) (by decide) (rmG l Z a0 hw [] wc cc hS b50 ((.ref b129) : Value) (.null : Value) T132.heap n0 O156 F151 F153 F154 g51 rfl) rfl F151 own_pd_56 (argsL := [(.ref b129)]) (rest := []) rfl rfl (g := (mkF m 81 #[.val (.int md), .val (.int va), .val (.ref b50), .val (.int (md &&& (3 : Int32))), .val (.ref b129), .val (.int (1 : Int32)), .unset, .unset, .unset] [(.ref b129), (.ref b50)])) rfl (by rw [hml]; rfl) rfl (hb hby at_81) (W := 0) rfl (by decide) (by decide) (by decide) (by decide)
          obtain ⟨rfl, M155, K155, F157, F158, F159⟩ := hQ155
          have N155 := Fr.app N132 M155
          refine own_st (fun u_ k_ => st155 u_ k_) ?_
          show own_Go p e below _ (T155.setTop (mkF m 84 #[.val (.int md), .val (.int va), .val (.ref b50), .val (.int (md &&& (3 : Int32))), .val (.ref b129), .val (.int (1 : Int32)), .unset, .unset, .unset] []))
          refine own_st (fun u_ k_ => XS.iload X155.here hx rfl (hb hby at_84) rfl k_) ?_
          show own_Go p e below _ (T155.setTop (mkF m 86 #[.val (.int md), .val (.int va), .val (.ref b50), .val (.int (md &&& (3 : Int32))), .val (.ref b129), .val (.int (1 : Int32)), .unset, .unset, .unset] [(.int (1 : Int32))]))
          refine own_st (fun u_ k_ => XS.ifNo X155.here hx rfl (hb hby at_86) rfl (XT.i0_eq_f (by decide)) k_) ?_
          show own_Go p e below _ (T155.setTop (mkF m 89 #[.val (.int md), .val (.int va), .val (.ref b50), .val (.int (md &&& (3 : Int32))), .val (.ref b129), .val (.int (1 : Int32)), .unset, .unset, .unset] []))
          refine own_st (fun u_ k_ => XS.aload X155.here hx rfl (hb hby at_89) rfl rfl k_) ?_
          show own_Go p e below _ (T155.setTop (mkF m 91 #[.val (.int md), .val (.int va), .val (.ref b50), .val (.int (md &&& (3 : Int32))), .val (.ref b129), .val (.int (1 : Int32)), .unset, .unset, .unset] [(.ref b129)]))
          refine own_st (fun u_ k_ => XS.goto X155.here hx rfl (pc0 := 91) (pc' := 95) rfl (hb hby at_91) (by decide) (by decide) k_) ?_
          show own_Go p e below _ (T155.setTop (mkF m 95 #[.val (.int md), .val (.int va), .val (.ref b50), .val (.int (md &&& (3 : Int32))), .val (.ref b129), .val (.int (1 : Int32)), .unset, .unset, .unset] [(.ref b129)]))
          refine own_st (fun u_ k_ => XS.astore X155.here hx rfl (hb hby at_95) rfl rfl (l' := #[.val (.int md), .val (.int va), .val (.ref b50), .val (.int (md &&& (3 : Int32))), .val (.ref b129), .val (.int (1 : Int32)), .val (.ref b129), .unset, .unset]) rfl k_) ?_
          show own_Go p e below _ (T155.setTop (mkF m 97 #[.val (.int md), .val (.int va), .val (.ref b50), .val (.int (md &&& (3 : Int32))), .val (.ref b129), .val (.int (1 : Int32)), .val (.ref b129), .unset, .unset] []))
          refine own_st (fun u_ k_ => XS.aloadN X155.here hx rfl (hb hby at_97) rfl rfl k_) ?_
          show own_Go p e below _ (T155.setTop (mkF m 98 #[.val (.int md), .val (.int va), .val (.ref b50), .val (.int (md &&& (3 : Int32))), .val (.ref b129), .val (.int (1 : Int32)), .val (.ref b129), .unset, .unset] [(.ref b50)]))
          have O161 : Old Z n0 T155.heap := O156.keep K155 (allS g51 all0)
          obtain ⟨T160, v160, L160, X160, hQ160, st160⟩ := own_callV X155 hx hZ (y := (⟨"com/example/forgewire/forgewire/beans/Need", "take", "()Ljava/lang/Object;"⟩ : MethodName)) (z := (⟨"com/example/forgewire/forgewire/beans/Need", "take", "()Ljava/lang/Object;"⟩ : MethodName)) hown (hw _ (List.mem_of_getElem? (i := 18) rfl)) (hw _ (List.mem_of_getElem? (i := 19) rfl)) (notFace_of_selects (args := #[]) (mvT hZ (hw _ (List.mem_of_getElem? (i := 21) rfl)))) (hw _ (List.mem_of_getElem? (i := 21) rfl)) (hw _ (List.mem_of_getElem? (i := 20) rfl)) (hw _ (List.mem_of_getElem? (i := 9) rfl)) (hw _ (List.mem_of_getElem? (i := 22) rfl)) (by decide) (rmT l Z a0 hw [] wc cc hS b50 ((.ref b129) : Value) T155.heap n0 O161 F158 F159 rfl) rfl F157 own_pd_55 (argsL := []) (rest := []) rfl rfl (g := (mkF m 98 #[.val (.int md), .val (.int va), .val (.ref b50), .val (.int (md &&& (3 : Int32))), .val (.ref b129), .val (.int (1 : Int32)), .val (.ref b129), .unset, .unset] [(.ref b50)])) rfl (by rw [hml]; rfl) rfl (hb hby at_98) (W := 0) rfl (by decide) (by decide) (by decide) (by decide)
          obtain ⟨rfl, M160, e160⟩ := hQ160
          have N160 := Fr.app N155 M160
          refine own_st (fun u_ k_ => st160 u_ k_) ?_
          show own_Go p e below _ (T160.setTop (mkF m 101 #[.val (.int md), .val (.int va), .val (.ref b50), .val (.int (md &&& (3 : Int32))), .val (.ref b129), .val (.int (1 : Int32)), .val (.ref b129), .unset, .unset] [(.ref b129)]))
          refine own_st (fun u_ k_ => XS.astore X160.here hx rfl (hb hby at_101) rfl rfl (l' := #[.val (.int md), .val (.int va), .val (.ref b50), .val (.int (md &&& (3 : Int32))), .val (.ref b129), .val (.int (1 : Int32)), .val (.ref b129), .val (.ref b129), .unset]) rfl k_) ?_
          show own_Go p e below _ (T160.setTop (mkF m 103 #[.val (.int md), .val (.int va), .val (.ref b50), .val (.int (md &&& (3 : Int32))), .val (.ref b129), .val (.int (1 : Int32)), .val (.ref b129), .val (.ref b129), .unset] []))
          refine own_st (fun u_ k_ => XS.aloadN X160.here hx rfl (hb hby at_103) rfl rfl k_) ?_
          show own_Go p e below _ (T160.setTop (mkF m 104 #[.val (.int md), .val (.int va), .val (.ref b50), .val (.int (md &&& (3 : Int32))), .val (.ref b129), .val (.int (1 : Int32)), .val (.ref b129), .val (.ref b129), .unset] [(.ref b50)]))
          obtain ⟨T162, v162, L162, X162, hQ162, st162⟩ := own_callV X160 hx hZ (y := (⟨"com/example/forgewire/forgewire/beans/Need", "take", "()Ljava/lang/Object;"⟩ : MethodName)) (z := (⟨"com/example/forgewire/forgewire/beans/Need", "take", "()Ljava/lang/Object;"⟩ : MethodName)) hown (hw _ (List.mem_of_getElem? (i := 18) rfl)) (hw _ (List.mem_of_getElem? (i := 19) rfl)) (notFace_of_selects (args := #[]) (mvT hZ (hw _ (List.mem_of_getElem? (i := 21) rfl)))) (hw _ (List.mem_of_getElem? (i := 21) rfl)) (hw _ (List.mem_of_getElem? (i := 20) rfl)) (hw _ (List.mem_of_getElem? (i := 9) rfl)) (hw _ (List.mem_of_getElem? (i := 22) rfl)) (by decide) (rmT l Z a0 hw [] wc cc hS b50 ((.ref b129) : Value) T155.heap n0 O161 F158 F159 rfl) e160 F157 own_pd_55 (argsL := []) (rest := []) rfl rfl (g := (mkF m 104 #[.val (.int md), .val (.int va), .val (.ref b50), .val (.int (md &&& (3 : Int32))), .val (.ref b129), .val (.int (1 : Int32)), .val (.ref b129), .val (.ref b129), .unset] [(.ref b50)])) rfl (by rw [hml]; rfl) rfl (hb hby at_104) (W := 0) rfl (by decide) (by decide) (by decide) (by decide)
          obtain ⟨rfl, M162, e162⟩ := hQ162
          have N162 := Fr.app N160 M162
          refine own_st (fun u_ k_ => st162 u_ k_) ?_
          show own_Go p e below _ (T162.setTop (mkF m 107 #[.val (.int md), .val (.int va), .val (.ref b50), .val (.int (md &&& (3 : Int32))), .val (.ref b129), .val (.int (1 : Int32)), .val (.ref b129), .val (.ref b129), .unset] [(.ref b129)]))
          refine own_st (fun u_ k_ => XS.astore X162.here hx rfl (hb hby at_107) rfl rfl (l' := #[.val (.int md), .val (.int va), .val (.ref b50), .val (.int (md &&& (3 : Int32))), .val (.ref b129), .val (.int (1 : Int32)), .val (.ref b129), .val (.ref b129), .val (.ref b129)]) rfl k_) ?_
          show own_Go p e below _ (T162.setTop (mkF m 109 #[.val (.int md), .val (.int va), .val (.ref b50), .val (.int (md &&& (3 : Int32))), .val (.ref b129), .val (.int (1 : Int32)), .val (.ref b129), .val (.ref b129), .val (.ref b129)] []))
          refine own_st (fun u_ k_ => XS.aload X162.here hx rfl (hb hby at_109) rfl rfl k_) ?_
          show own_Go p e below _ (T162.setTop (mkF m 111 #[.val (.int md), .val (.int va), .val (.ref b50), .val (.int (md &&& (3 : Int32))), .val (.ref b129), .val (.int (1 : Int32)), .val (.ref b129), .val (.ref b129), .val (.ref b129)] [(.ref b129)]))
          refine own_st (fun u_ k_ => XS.aload X162.here hx rfl (hb hby at_111) rfl rfl k_) ?_
          show own_Go p e below _ (T162.setTop (mkF m 113 #[.val (.int md), .val (.int va), .val (.ref b50), .val (.int (md &&& (3 : Int32))), .val (.ref b129), .val (.int (1 : Int32)), .val (.ref b129), .val (.ref b129), .val (.ref b129)] [(.ref b129), (.ref b129)]))
          refine own_st (fun u_ k_ => XT.acmpNo X162.here hx rfl (hb hby at_113) rfl rfl rfl (XT.aa_ne_f rfl) k_) ?_
          show own_Go p e below _ (T162.setTop (mkF m 116 #[.val (.int md), .val (.int va), .val (.ref b50), .val (.int (md &&& (3 : Int32))), .val (.ref b129), .val (.int (1 : Int32)), .val (.ref b129), .val (.ref b129), .val (.ref b129)] []))
          refine own_st (fun u_ k_ => XS.aload X162.here hx rfl (hb hby at_116) rfl rfl k_) ?_
          show own_Go p e below _ (T162.setTop (mkF m 118 #[.val (.int md), .val (.int va), .val (.ref b50), .val (.int (md &&& (3 : Int32))), .val (.ref b129), .val (.int (1 : Int32)), .val (.ref b129), .val (.ref b129), .val (.ref b129)] [(.ref b129)]))
          refine own_st (fun u_ k_ => XS.aload X162.here hx rfl (hb hby at_118) rfl rfl k_) ?_
          show own_Go p e below _ (T162.setTop (mkF m 120 #[.val (.int md), .val (.int va), .val (.ref b50), .val (.int (md &&& (3 : Int32))), .val (.ref b129), .val (.int (1 : Int32)), .val (.ref b129), .val (.ref b129), .val (.ref b129)] [(.ref b129), (.ref b129)]))
          refine own_st (fun u_ k_ => XT.acmpNo X162.here hx rfl (hb hby at_120) rfl rfl rfl (XT.aa_ne_f rfl) k_) ?_
          show own_Go p e below _ (T162.setTop (mkF m 123 #[.val (.int md), .val (.int va), .val (.ref b50), .val (.int (md &&& (3 : Int32))), .val (.ref b129), .val (.int (1 : Int32)), .val (.ref b129), .val (.ref b129), .val (.ref b129)] []))
          refine own_st (fun u_ k_ => XS.iconst X162.here hx rfl (hb hby at_123) k_) ?_
          show own_Go p e below _ (T162.setTop (mkF m 124 #[.val (.int md), .val (.int va), .val (.ref b50), .val (.int (md &&& (3 : Int32))), .val (.ref b129), .val (.int (1 : Int32)), .val (.ref b129), .val (.ref b129), .val (.ref b129)] [(.int (1 : Int32))]))
          refine own_st (fun u_ k_ => XS.goto X162.here hx rfl (pc0 := 124) (pc' := 128) rfl (hb hby at_124) (by decide) (by decide) k_) ?_
          show own_Go p e below _ (T162.setTop (mkF m 128 #[.val (.int md), .val (.int va), .val (.ref b50), .val (.int (md &&& (3 : Int32))), .val (.ref b129), .val (.int (1 : Int32)), .val (.ref b129), .val (.ref b129), .val (.ref b129)] [(.int (1 : Int32))]))
          have K163 : Keep h0 h50 [] := (Keep.refl h0 []).ext E50
          have z165 : h0.size ≤ b50 := Nat.le_trans (Nat.le_refl _) (Nat.le_of_eq g50.symm)
          have K164 : Keep h0 T52.heap [] := K163.trans K52 (allS (Or.inr z165) all0)
          have K166 : Keep h0 h129 [] := K164.ext E129
          have z168 : h0.size ≤ b129 := Nat.le_trans (Nat.le_trans E50.1 K52.1) (Nat.le_of_eq g129.symm)
          have K167 : Keep h0 T132.heap [] := K166.trans K132 (allS (Or.inr z168) all0)
          have K169 : Keep h0 T155.heap [] := K167.trans K155 (allS (Or.inr z165) all0)
          exact own_retX X162 hx hlk hret rfl (Or.inl ⟨rfl, by simp, _, rfl⟩) (hb hby at_128) (by decide) (by decide) (show Qrm0 Z wc cc md va h0 n0 (some (.int (1 : Int32))) T162.heap _ from (by rw [e162]; exact ⟨rfl, N162, K169⟩))
set_option maxRecDepth 65536 in
set_option maxHeartbeats 40000000 in
theorem comes_1 {Post : Tables → Env → Array Value → State → Outcome → State → Prop} (hpost : ∀ tb e args s v u, (limb_1_1.after args s (.returned v) u = true ∧ limb_1_2.after args s (.returned v) u = true ∧ True) → FrameEnd s (.returned v) u (Jvm.fieldLocs frame_1_writes args s ++ Jvm.arrayLocs frame_1_arrays args s ++ Jvm.staticLocs frame_1_statics s) 16 128 → Post tb e args s (.returned v) u) :
    ArmFor flags0 classFile x code maxLocals ret World_1 tables_1 room_1 Calls_1 rest_1 Pre_1 Post := by
  intro l hfl _ _ p e ha hc hk s m args below hf hA hF happ hP
  obtain ⟨hcalls, hrest, hpre⟩ := hP
  obtain ⟨-, -, -, hnamed, -, -, -, hat⟩ := (Spec.applies_iff hf).mp happ
  obtain ⟨hg, hn⟩ := and_e (Cond.before_iff.mp (show (Jvm.Cond.and given_1 narrow_1).before args s = true from hpre))
  obtain ⟨hcount, hr0⟩ := and_e hg
  obtain ⟨ha0, hr1⟩ := and_e hr0
  have ha1 := hr1
  obtain ⟨w_0, w_1, rfl⟩ : ∃ w_0 w_1 : Value, args = #[w_0, w_1] := by
    have hs : args.size = 2 := by simpa [Cond.value, given_1] using hcount
    obtain ⟨L⟩ := args
    match L, hs with
    | [w_0, w_1], _ => exact ⟨w_0, w_1, rfl⟩
  have hw := fun d (hd : d ∈ tables_1) => atoms_spec (ws := Jvm.Cond.code x code maxLocals ret :: tables_1) hat d (List.mem_cons_of_mem _ hd)
  have hfit : Fit s := fun {y c} hc i hi => by
    obtain ⟨ha, rfl⟩ := Array.getElem?_eq_some_iff.mp hc
    have q := List.all_eq_true.mp ((Array.all_eq_true_iff_forall_mem.mp hF) _ (Array.getElem_mem ha)) i (List.mem_range.mpr hi)
    simpa [Array.getElem?_eq_getElem hi] using q
  obtain ⟨i_0, ei_0⟩ := is_v ha0
  obtain rfl : w_0 = (.int i_0) := Option.some.inj ei_0
  obtain ⟨i_1, ei_1⟩ := is_v ha1
  obtain rfl : w_1 = (.int i_1) := Option.some.inj ei_1
  have hl0 := hn
  obtain ⟨hsets, hown0⟩ := atoms_of _ (rest_1_c_eq ▸ (show rest_1_c.before _ s = true from hrest))
  obtain ⟨wc, ewc⟩ := arr_v (Cond.before_iff.mp (hsets _ (List.mem_of_getElem? (i := 4) rfl)))
  obtain ⟨cc, hcc⟩ := Arr.start ewc (Cond.before_iff.mp (hsets _ (List.mem_of_getElem? (i := 4) rfl)))
  have hhi := own_statI (Cond.before_iff.mp (hsets _ (List.mem_of_getElem? (i := 3) rfl)))
  have hln := own_len ewc hcc (Cond.before_iff.mp (hsets _ (List.mem_of_getElem? (i := 6) rfl)))
  have hS : own_S s wc cc := ⟨(Sta.start hhi (Or.inl (hsets _ (List.mem_of_getElem? (i := 1) rfl)))), (Sta.start ewc (Or.inr ⟨(hw _ (List.mem_of_getElem? (i := 37) rfl)), hsets _ (List.mem_of_getElem? (i := 2) rfl)⟩)), hcc, (own_lenN hln.1 hln.2), fun j hj => (let ⟨v, q1, q2⟩ := elem_fit hfit hcc hj; ⟨v, q1, fit_R q2 rfl⟩)⟩
  obtain ⟨n, o, h1, h2, h3, _, L, rfl, ⟨rfl, N, _⟩, hq⟩ := rm0 l s _ hw tables_1 wc cc hS i_0 i_1 s.heap s.heap.size (Old.start s) p e ha hc hk s m _ below hf ((Spec.applies_iff_loose hf).mp happ).1 ⟨rfl, State.Warmed39.refl s, rfl⟩ trivial
  refine ⟨n, _, h1, h2, h3, hpost _ _ _ _ _ _ ⟨Cond.after_iff.mpr rfl, Cond.after_iff.mpr (eq_i res_at (Term.int_eval (1)) rfl), trivial⟩ ⟨hq.1, hq.2.1, (hq.2.2.sift fun y hy => Or.inr (N y hy)).mono (by decide) (by decide)⟩⟩
theorem main_1_1 : Claimed_1_1 := comes_1 fun _ _ _ _ _ _ h hF => ⟨h.1, hF⟩
theorem main_1_2 : Claimed_1_2 := comes_1 fun _ _ _ _ _ _ h hF => ⟨h.2.1, hF⟩
end Jvm.Pilot.@@N@@
namespace Jvm.Pilot.@@N@@
open Jvm Jvm.ClassFile Sem Op Lib Jvm.Free Jvm.Stand Jvm.Pilot.@@N@@.Jvm.D
/-! MADE BY PROGRAM (witnessworld.py) out of the Statement's table words and the real class files: 17 classes; the members and pool entries that the words name. The judged class is class 1, her method 1. -/
namespace start1
open Jvm.ClassFile
def u (s : String) : CpInfo := .utf8 (stringToUtf16 s)
/-- a pool by its gaps: so many unusable entries, then the entry; so many at the end -/
def gap : Nat → List CpInfo → List CpInfo
  | 0, r => r
  | n + 1, r => .unusable :: gap n r
def poolList (es : List (Nat × CpInfo)) (last : Nat) : List CpInfo := es.foldr (fun e r => gap e.1 (e.2 :: r)) (gap last [])
def pool (es : List (Nat × CpInfo)) (last : Nat) : Array CpInfo := ⟨poolList es last⟩
def fileOf (pool : Array CpInfo) (this : Nat) (attrs : Array Attribute := #[]) (ms : Array MethodInfo := #[]) (fl : Nat := 33) (sup : Nat := 0) (ifs : Array Nat := #[]) (fds : Array FieldInfo := #[]) : ClassFile where
  minorVersion := 0
  majorVersion := 65
  constantPool := pool
  accessFlags := fl
  thisClass := this
  superClass := sup
  interfaces := ifs
  fields := fds
  methods := ms
  attributes := attrs
def plain (name : String) (sup : Option ClassId) : Class where
  name := name
  kind := .ordinary
  loader := none
  accessFlags := 33
  super := sup
  interfaces := #[]
  cf := none
  fields := #[]
  methods := #[]
  instanceTypes := #[]
  staticTypes := #[]
  resolved := #[]
  callSites := []
  init := .initialized
  statics := none
  mirror := none

def pool0 : Array CpInfo := pool [(5, u "<init>"), (0, u "()V"), (1, .class_ 10), (1, u "java/lang/Object")] 113

def k0c0 : Code := { maxStack := 0, maxLocals := 1, code := object_method_1_code, exceptionTable := #[], attributes := #[] }
def k0m0 : Method := { name := "<init>", desc := "()V", sig := { parameters := [], returnType := none }, accessFlags := 1, code := some k0c0 }
/-- java/lang/Object -/
def k0 : Class := { plain "java/lang/Object" none with
  accessFlags := 33
  interfaces := #[]
  cf := some (fileOf pool0 8 #[] #[{ accessFlags := 1, nameIndex := 5, descriptorIndex := 6, attributes := #[] }] 33 0 #[] #[])
  fields := #[]
  methods := #[k0m0]
  instanceTypes := #[]
  staticTypes := #[]
  resolved := Array.replicate 124 none
  statics := none }

def pool1 : Array CpInfo := pool [(2, .class_ 4), (1, u "java/lang/Object"), (0, u "<init>"), (0, u "()V"), (0, .class_ 8), (0, u "com/example/forgewire/forgewire/beans/Need$Named"), (0, .methodref 7 10), (0, .nameAndType 5 11), (0, u "(Ljava/lang/String;Ljava/lang/Class;)V"), (0, .methodref 13 14), (0, .class_ 15), (0, .nameAndType 16 17), (0, u "java/lang/Integer"), (0, u "valueOf"), (0, u "(I)Ljava/lang/Integer;"), (0, .methodref 19 20), (0, .class_ 21), (0, .nameAndType 22 23), (0, u "com/example/forgewire/forgewire/beans/Need"), (0, u "give"), (0, u "(Ljava/lang/Object;)V"), (0, .methodref 19 25), (0, .nameAndType 26 27), (0, u "take"), (0, u "()Ljava/lang/Object;"), (0, .class_ 29), (0, u "com/example/forgewire/forgewire/beans/NeedTakePinLaw"), (2, u "law"), (0, u "(II)Z")] 5

def k1m0 : Method := { name := "<init>", desc := "()V", sig := { parameters := [], returnType := none }, accessFlags := 1, code := none }
def k1c1 : Code := { maxStack := 4, maxLocals := 9, code := code, exceptionTable := #[], attributes := #[] }
def k1m1 : Method := { name := "law", desc := "(II)Z", sig := { parameters := [.int, .int], returnType := some .boolean }, accessFlags := 9, code := some k1c1 }
/-- com/example/forgewire/forgewire/beans/NeedTakePinLaw -/
def k1 : Class := { plain "com/example/forgewire/forgewire/beans/NeedTakePinLaw" (some 0) with
  accessFlags := 49
  interfaces := #[]
  cf := some (fileOf pool1 28 #[] #[{ accessFlags := 1, nameIndex := 5, descriptorIndex := 6, attributes := #[] }, { accessFlags := 9, nameIndex := 32, descriptorIndex := 33, attributes := #[] }] 49 2 #[] #[])
  fields := #[]
  methods := #[k1m0, k1m1]
  instanceTypes := #[]
  staticTypes := #[]
  resolved := Array.replicate 39 none
  statics := none }

def pool2 : Array CpInfo := pool [(1, .methodref 2 3), (0, .class_ 4), (0, .nameAndType 5 6), (0, u "java/lang/Object"), (0, u "<init>"), (0, u "()V"), (0, .fieldref 8 9), (0, .class_ 10), (0, .nameAndType 11 12), (0, u "com/example/forgewire/forgewire/beans/Need"), (0, u "bean"), (0, u "Ljava/lang/Object;"), (0, .fieldref 8 14), (0, .nameAndType 15 16), (0, u "failure"), (0, u "Ljava/lang/Throwable;"), (8, u "give"), (0, u "(Ljava/lang/Object;)V"), (2, u "take"), (0, u "()Ljava/lang/Object;"), (9, .class_ 41), (0, u "com/example/forgewire/forgewire/beans/Need$Inner"), (0, .class_ 43), (0, u "com/example/forgewire/forgewire/beans/Need$Instance"), (0, .class_ 45), (0, u "com/example/forgewire/forgewire/beans/Need$Named")] 5

def k2c0 : Code := { maxStack := 1, maxLocals := 1, code := prog_52_method_1_code, exceptionTable := #[], attributes := #[] }
def k2m0 : Method := { name := "<init>", desc := "()V", sig := { parameters := [], returnType := none }, accessFlags := 0, code := some k2c0 }
def k2c1 : Code := { maxStack := 2, maxLocals := 2, code := prog_52_method_2_code, exceptionTable := #[], attributes := #[] }
def k2m1 : Method := { name := "give", desc := "(Ljava/lang/Object;)V", sig := { parameters := [(.object "java/lang/Object")], returnType := none }, accessFlags := 16, code := some k2c1 }
def k2c2 : Code := { maxStack := 1, maxLocals := 1, code := prog_52_method_4_code, exceptionTable := #[], attributes := #[] }
def k2m2 : Method := { name := "take", desc := "()Ljava/lang/Object;", sig := { parameters := [], returnType := some (.object "java/lang/Object") }, accessFlags := 16, code := some k2c2 }
/-- com/example/forgewire/forgewire/beans/Need -/
def k2 : Class := { plain "com/example/forgewire/forgewire/beans/Need" (some 0) with
  accessFlags := 1056
  interfaces := #[]
  cf := some (fileOf pool2 8 #[.nestMembers #[40, 42, 44]] #[{ accessFlags := 0, nameIndex := 5, descriptorIndex := 6, attributes := #[] }, { accessFlags := 16, nameIndex := 25, descriptorIndex := 26, attributes := #[] }, { accessFlags := 16, nameIndex := 29, descriptorIndex := 30, attributes := #[] }] 1056 2 #[] #[{ accessFlags := 2, nameIndex := 11, descriptorIndex := 12, attributes := #[] }, { accessFlags := 2, nameIndex := 15, descriptorIndex := 16, attributes := #[] }])
  fields := #[{ name := "bean", type := (.object "java/lang/Object"), accessFlags := 2, slot := 0, constantValue := 0 }, { name := "failure", type := (.object "java/lang/Throwable"), accessFlags := 2, slot := 1, constantValue := 0 }]
  methods := #[k2m0, k2m1, k2m2]
  instanceTypes := #[(.object "java/lang/Object"), (.object "java/lang/Throwable")]
  staticTypes := #[]
  resolved := Array.replicate 51 none
  statics := none }

def pool3 : Array CpInfo := pool [(1, .methodref 2 3), (0, .class_ 4), (0, .nameAndType 5 6), (0, u "com/example/forgewire/forgewire/beans/Need"), (0, u "<init>"), (0, u "()V"), (0, .fieldref 8 9), (0, .class_ 10), (0, .nameAndType 11 12), (0, u "com/example/forgewire/forgewire/beans/Need$Named"), (0, u "name"), (0, u "Ljava/lang/String;"), (0, .fieldref 8 14), (0, .nameAndType 15 16), (0, u "type"), (0, u "Ljava/lang/Class;"), (2, u "(Ljava/lang/String;Ljava/lang/Class;)V")] 11

def k3c0 : Code := { maxStack := 2, maxLocals := 3, code := prog_55_method_1_code, exceptionTable := #[], attributes := #[] }
def k3m0 : Method := { name := "<init>", desc := "(Ljava/lang/String;Ljava/lang/Class;)V", sig := { parameters := [(.object "java/lang/String"), (.object "java/lang/Class")], returnType := none }, accessFlags := 0, code := some k3c0 }
/-- com/example/forgewire/forgewire/beans/Need$Named -/
def k3 : Class := { plain "com/example/forgewire/forgewire/beans/Need$Named" (some 2) with
  accessFlags := 48
  interfaces := #[]
  cf := some (fileOf pool3 8 #[.nestHost 2] #[{ accessFlags := 0, nameIndex := 5, descriptorIndex := 19, attributes := #[] }] 48 2 #[] #[{ accessFlags := 18, nameIndex := 11, descriptorIndex := 12, attributes := #[] }, { accessFlags := 18, nameIndex := 15, descriptorIndex := 16, attributes := #[] }])
  fields := #[{ name := "name", type := (.object "java/lang/String"), accessFlags := 18, slot := 2, constantValue := 0 }, { name := "type", type := (.object "java/lang/Class"), accessFlags := 18, slot := 3, constantValue := 0 }]
  methods := #[k3m0]
  instanceTypes := #[(.object "java/lang/Object"), (.object "java/lang/Throwable"), (.object "java/lang/String"), (.object "java/lang/Class")]
  staticTypes := #[]
  resolved := Array.replicate 31 none
  statics := none }

def pool4 : Array CpInfo := pool [(1, .class_ 2), (0, u "java/io/Serializable"), (0, .class_ 4), (0, u "java/lang/Object")] 2

/-- java/io/Serializable -/
def k4 : Class := { plain "java/io/Serializable" (some 0) with
  accessFlags := 1537
  interfaces := #[]
  cf := some (fileOf pool4 1 #[] #[] 1537 3 #[] #[])
  fields := #[]
  methods := #[]
  instanceTypes := #[]
  staticTypes := #[]
  resolved := Array.replicate 7 none
  statics := none }

def pool5 : Array CpInfo := pool [(1, .methodref 2 3), (0, .class_ 4), (0, .nameAndType 5 6), (0, u "java/lang/Object"), (0, u "<init>"), (0, u "()V"), (1, .class_ 10), (1, u "java/lang/Number"), (2, .class_ 14), (0, u "java/io/Serializable"), (0, u "serialVersionUID"), (0, u "J")] 20

def k5c0 : Code := { maxStack := 1, maxLocals := 1, code := jdk_18_method_1_code, exceptionTable := #[], attributes := #[] }
def k5m0 : Method := { name := "<init>", desc := "()V", sig := { parameters := [], returnType := none }, accessFlags := 1, code := some k5c0 }
/-- java/lang/Number -/
def k5 : Class := { plain "java/lang/Number" (some 0) with
  accessFlags := 1057
  interfaces := #[4]
  cf := some (fileOf pool5 8 #[] #[{ accessFlags := 1, nameIndex := 5, descriptorIndex := 6, attributes := #[] }] 1057 2 #[13] #[{ accessFlags := 26, nameIndex := 15, descriptorIndex := 16, attributes := #[] }])
  fields := #[{ name := "serialVersionUID", type := .long, accessFlags := 26, slot := 0, constantValue := 0 }]
  methods := #[k5m0]
  instanceTypes := #[]
  staticTypes := #[.long]
  resolved := Array.replicate 37 none
  statics := none }

def pool6 : Array CpInfo := pool [(1, .class_ 2), (0, u "java/lang/Comparable"), (0, .class_ 4), (0, u "java/lang/Object")] 7

/-- java/lang/Comparable -/
def k6 : Class := { plain "java/lang/Comparable" (some 0) with
  accessFlags := 1537
  interfaces := #[]
  cf := some (fileOf pool6 1 #[] #[] 1537 3 #[] #[])
  fields := #[]
  methods := #[]
  instanceTypes := #[]
  staticTypes := #[]
  resolved := Array.replicate 12 none
  statics := none }

def pool7 : Array CpInfo := pool [(1, .class_ 2), (0, u "java/lang/constant/Constable"), (0, .class_ 4), (0, u "java/lang/Object")] 6

/-- java/lang/constant/Constable -/
def k7 : Class := { plain "java/lang/constant/Constable" (some 0) with
  accessFlags := 1537
  interfaces := #[]
  cf := some (fileOf pool7 1 #[] #[] 1537 3 #[] #[])
  fields := #[]
  methods := #[]
  instanceTypes := #[]
  staticTypes := #[]
  resolved := Array.replicate 11 none
  statics := none }

def pool8 : Array CpInfo := pool [(1, .class_ 2), (0, u "java/lang/constant/ConstantDesc"), (0, .class_ 4), (0, u "java/lang/Object")] 32

/-- java/lang/constant/ConstantDesc -/
def k8 : Class := { plain "java/lang/constant/ConstantDesc" (some 0) with
  accessFlags := 1537
  interfaces := #[]
  cf := some (fileOf pool8 1 #[] #[] 1537 3 #[] #[])
  fields := #[]
  methods := #[]
  instanceTypes := #[]
  staticTypes := #[]
  resolved := Array.replicate 37 none
  statics := none }

def pool9 : Array CpInfo := pool [(1, .class_ 2), (0, u "java/lang/Integer"), (16, u "digits"), (0, u "[C"), (46, u "<init>"), (17, u "DigitOnes"), (0, u "[B"), (2, u "DigitTens"), (10, .nameAndType 67 101), (0, u "()V"), (85, u "valueOf"), (0, u "(I)Ljava/lang/Integer;"), (0, .class_ 190), (0, u "java/lang/Integer$IntegerCache"), (0, .fieldref 189 192), (0, .nameAndType 193 194), (0, u "high"), (0, u "I"), (0, .fieldref 189 196), (0, .nameAndType 197 198), (0, u "cache"), (0, u "[Ljava/lang/Integer;"), (0, .methodref 1 200), (0, .nameAndType 67 201), (0, u "(I)V"), (0, .methodref 203 100), (0, .class_ 204), (0, u "java/lang/Number"), (0, .fieldref 1 206), (0, .nameAndType 207 194), (0, u "value"), (94, u "TYPE"), (0, u "Ljava/lang/Class;"), (0, .class_ 305), (0, u "java/lang/Comparable"), (0, .class_ 307), (0, u "java/lang/constant/Constable"), (0, .class_ 309), (0, u "java/lang/constant/ConstantDesc"), (0, u "MIN_VALUE"), (1, u "MAX_VALUE"), (3, u "SIZE"), (1, u "BYTES"), (1, u "serialVersionUID"), (0, u "J")] 131

def k9c0 : Code := { maxStack := 3, maxLocals := 1, code := jdk_33_method_22_code, exceptionTable := #[], attributes := #[] }
def k9m0 : Method := { name := "valueOf", desc := "(I)Ljava/lang/Integer;", sig := { parameters := [.int], returnType := some (.object "java/lang/Integer") }, accessFlags := 9, code := some k9c0 }
def k9c1 : Code := { maxStack := 2, maxLocals := 2, code := jdk_33_method_23_code, exceptionTable := #[], attributes := #[] }
def k9m1 : Method := { name := "<init>", desc := "(I)V", sig := { parameters := [.int], returnType := none }, accessFlags := 1, code := some k9c1 }
/-- java/lang/Integer -/
def k9 : Class := { plain "java/lang/Integer" (some 5) with
  accessFlags := 49
  interfaces := #[6, 7, 8]
  cf := some (fileOf pool9 1 #[.nestMembers #[189]] #[{ accessFlags := 9, nameIndex := 187, descriptorIndex := 188, attributes := #[] }, { accessFlags := 1, nameIndex := 67, descriptorIndex := 201, attributes := #[] }] 49 203 #[304, 306, 308] #[{ accessFlags := 25, nameIndex := 310, descriptorIndex := 194, attributes := #[] }, { accessFlags := 25, nameIndex := 312, descriptorIndex := 194, attributes := #[] }, { accessFlags := 25, nameIndex := 302, descriptorIndex := 303, attributes := #[] }, { accessFlags := 24, nameIndex := 19, descriptorIndex := 20, attributes := #[] }, { accessFlags := 24, nameIndex := 89, descriptorIndex := 86, attributes := #[] }, { accessFlags := 24, nameIndex := 85, descriptorIndex := 86, attributes := #[] }, { accessFlags := 18, nameIndex := 207, descriptorIndex := 194, attributes := #[] }, { accessFlags := 25, nameIndex := 316, descriptorIndex := 194, attributes := #[] }, { accessFlags := 25, nameIndex := 318, descriptorIndex := 194, attributes := #[] }, { accessFlags := 26, nameIndex := 320, descriptorIndex := 321, attributes := #[] }])
  fields := #[{ name := "MIN_VALUE", type := .int, accessFlags := 25, slot := 0, constantValue := 0 }, { name := "MAX_VALUE", type := .int, accessFlags := 25, slot := 1, constantValue := 0 }, { name := "TYPE", type := (.object "java/lang/Class"), accessFlags := 25, slot := 2, constantValue := 0 }, { name := "digits", type := (.array .char), accessFlags := 24, slot := 3, constantValue := 0 }, { name := "DigitTens", type := (.array .byte), accessFlags := 24, slot := 4, constantValue := 0 }, { name := "DigitOnes", type := (.array .byte), accessFlags := 24, slot := 5, constantValue := 0 }, { name := "value", type := .int, accessFlags := 18, slot := 0, constantValue := 0 }, { name := "SIZE", type := .int, accessFlags := 25, slot := 6, constantValue := 0 }, { name := "BYTES", type := .int, accessFlags := 25, slot := 7, constantValue := 0 }, { name := "serialVersionUID", type := .long, accessFlags := 26, slot := 8, constantValue := 0 }]
  methods := #[k9m0, k9m1]
  instanceTypes := #[.int]
  staticTypes := #[.int, .int, (.object "java/lang/Class"), (.array .char), (.array .byte), (.array .byte), .int, .int, .long]
  resolved := Array.replicate 453 none
  statics := none }

def pool10 : Array CpInfo := pool [(2, .class_ 4), (1, u "java/lang/Object"), (0, u "<init>"), (0, u "()V"), (0, .class_ 8), (0, u "java/lang/Integer"), (7, .class_ 18), (1, u "java/lang/Integer$IntegerCache"), (0, u "$assertionsDisabled"), (0, u "Z"), (26, u "high"), (0, u "I"), (8, u "archivedCache"), (0, u "[Ljava/lang/Integer;"), (12, u "cache"), (0, u "low")] 27

def k10m0 : Method := { name := "<init>", desc := "()V", sig := { parameters := [], returnType := none }, accessFlags := 2, code := none }
/-- java/lang/Integer$IntegerCache -/
def k10 : Class := { plain "java/lang/Integer$IntegerCache" (some 0) with
  accessFlags := 48
  interfaces := #[]
  cf := some (fileOf pool10 16 #[.nestHost 7] #[{ accessFlags := 2, nameIndex := 5, descriptorIndex := 6, attributes := #[] }] 48 2 #[] #[{ accessFlags := 24, nameIndex := 72, descriptorIndex := 48, attributes := #[] }, { accessFlags := 24, nameIndex := 47, descriptorIndex := 48, attributes := #[] }, { accessFlags := 24, nameIndex := 71, descriptorIndex := 58, attributes := #[] }, { accessFlags := 8, nameIndex := 57, descriptorIndex := 58, attributes := #[] }, { accessFlags := 4120, nameIndex := 19, descriptorIndex := 20, attributes := #[] }])
  fields := #[{ name := "low", type := .int, accessFlags := 24, slot := 0, constantValue := 0 }, { name := "high", type := .int, accessFlags := 24, slot := 1, constantValue := 0 }, { name := "cache", type := (.array (.object "java/lang/Integer")), accessFlags := 24, slot := 2, constantValue := 0 }, { name := "archivedCache", type := (.array (.object "java/lang/Integer")), accessFlags := 8, slot := 3, constantValue := 0 }, { name := "$assertionsDisabled", type := .boolean, accessFlags := 4120, slot := 4, constantValue := 0 }]
  methods := #[k10m0]
  instanceTypes := #[]
  staticTypes := #[.int, .int, (.array (.object "java/lang/Integer")), (.array (.object "java/lang/Integer")), .boolean]
  resolved := Array.replicate 100 none
  statics := some 0 }

def pool11 : Array CpInfo := pool [(1, u "java/lang/Cloneable"), (0, .class_ 1), (0, u "java/lang/Object"), (0, .class_ 3)] 3

/-- java/lang/Cloneable -/
def k11 : Class := { plain "java/lang/Cloneable" (some 0) with
  accessFlags := 1537
  interfaces := #[]
  cf := some (fileOf pool11 2 #[] #[] 1537 4 #[] #[])
  fields := #[]
  methods := #[]
  instanceTypes := #[]
  staticTypes := #[]
  resolved := Array.replicate 8 none
  statics := none }

/-- the primitive byte -/
def k12 : Class := { plain "byte" none with kind := .primitive 'B', accessFlags := 0x411 }
/-- [B -/
def k13 : Class := { plain "[B" (some 0) with kind := .array 12 .byte, interfaces := #[11, 4], accessFlags := 1041 }

/-- the primitive int -/
def k14 : Class := { plain "int" none with kind := .primitive 'I', accessFlags := 0x411 }
/-- [I -/
def k15 : Class := { plain "[I" (some 0) with kind := .array 14 .int, interfaces := #[11, 4], accessFlags := 1041 }

/-- [Ljava/lang/Integer; -/
def k16 : Class := { plain "[Ljava/lang/Integer;" (some 0) with kind := .array 9 (.object "java/lang/Integer"), interfaces := #[11, 4], accessFlags := 1041 }

def heap : Heap := #[{ cls := 10, slots := #[.int 0, .int 127, .ref 1, .null, .int 0], vm := .statics 10 },
  { cls := 16, slots := #[.ref 2, .ref 3, .ref 4, .ref 5, .ref 6, .ref 7, .ref 8, .ref 9, .ref 10, .ref 11, .ref 12, .ref 13, .ref 14, .ref 15, .ref 16, .ref 17, .ref 18, .ref 19, .ref 20, .ref 21, .ref 22, .ref 23, .ref 24, .ref 25, .ref 26, .ref 27, .ref 28, .ref 29, .ref 30, .ref 31, .ref 32, .ref 33, .ref 34, .ref 35, .ref 36, .ref 37, .ref 38, .ref 39, .ref 40, .ref 41, .ref 42, .ref 43, .ref 44, .ref 45, .ref 46, .ref 47, .ref 48, .ref 49, .ref 50, .ref 51, .ref 52, .ref 53, .ref 54, .ref 55, .ref 56, .ref 57, .ref 58, .ref 59, .ref 60, .ref 61, .ref 62, .ref 63, .ref 64, .ref 65, .ref 66, .ref 67, .ref 68, .ref 69, .ref 70, .ref 71, .ref 72, .ref 73, .ref 74, .ref 75, .ref 76, .ref 77, .ref 78, .ref 79, .ref 80, .ref 81, .ref 82, .ref 83, .ref 84, .ref 85, .ref 86, .ref 87, .ref 88, .ref 89, .ref 90, .ref 91, .ref 92, .ref 93, .ref 94, .ref 95, .ref 96, .ref 97, .ref 98, .ref 99, .ref 100, .ref 101, .ref 102, .ref 103, .ref 104, .ref 105, .ref 106, .ref 107, .ref 108, .ref 109, .ref 110, .ref 111, .ref 112, .ref 113, .ref 114, .ref 115, .ref 116, .ref 117, .ref 118, .ref 119, .ref 120, .ref 121, .ref 122, .ref 123, .ref 124, .ref 125, .ref 126, .ref 127, .ref 128, .ref 129, .ref 130, .ref 131, .ref 132, .ref 133, .ref 134, .ref 135, .ref 136, .ref 137, .ref 138, .ref 139, .ref 140, .ref 141, .ref 142, .ref 143, .ref 144, .ref 145, .ref 146, .ref 147, .ref 148, .ref 149, .ref 150, .ref 151, .ref 152, .ref 153, .ref 154, .ref 155, .ref 156, .ref 157, .ref 158, .ref 159, .ref 160, .ref 161, .ref 162, .ref 163, .ref 164, .ref 165, .ref 166, .ref 167, .ref 168, .ref 169, .ref 170, .ref 171, .ref 172, .ref 173, .ref 174, .ref 175, .ref 176, .ref 177, .ref 178, .ref 179, .ref 180, .ref 181, .ref 182, .ref 183, .ref 184, .ref 185, .ref 186, .ref 187, .ref 188, .ref 189, .ref 190, .ref 191, .ref 192, .ref 193, .ref 194, .ref 195, .ref 196, .ref 197, .ref 198, .ref 199, .ref 200, .ref 201, .ref 202, .ref 203, .ref 204, .ref 205, .ref 206, .ref 207, .ref 208, .ref 209, .ref 210, .ref 211, .ref 212, .ref 213, .ref 214, .ref 215, .ref 216, .ref 217, .ref 218, .ref 219, .ref 220, .ref 221, .ref 222, .ref 223, .ref 224, .ref 225, .ref 226, .ref 227, .ref 228, .ref 229, .ref 230, .ref 231, .ref 232, .ref 233, .ref 234, .ref 235, .ref 236, .ref 237, .ref 238, .ref 239, .ref 240, .ref 241, .ref 242, .ref 243, .ref 244, .ref 245, .ref 246, .ref 247, .ref 248, .ref 249, .ref 250, .ref 251, .ref 252, .ref 253, .ref 254, .ref 255, .ref 256, .ref 257], vm := .none },
  { cls := 9, slots := #[.int (-128)], vm := .none },
  { cls := 9, slots := #[.int (-127)], vm := .none },
  { cls := 9, slots := #[.int (-126)], vm := .none },
  { cls := 9, slots := #[.int (-125)], vm := .none },
  { cls := 9, slots := #[.int (-124)], vm := .none },
  { cls := 9, slots := #[.int (-123)], vm := .none },
  { cls := 9, slots := #[.int (-122)], vm := .none },
  { cls := 9, slots := #[.int (-121)], vm := .none },
  { cls := 9, slots := #[.int (-120)], vm := .none },
  { cls := 9, slots := #[.int (-119)], vm := .none },
  { cls := 9, slots := #[.int (-118)], vm := .none },
  { cls := 9, slots := #[.int (-117)], vm := .none },
  { cls := 9, slots := #[.int (-116)], vm := .none },
  { cls := 9, slots := #[.int (-115)], vm := .none },
  { cls := 9, slots := #[.int (-114)], vm := .none },
  { cls := 9, slots := #[.int (-113)], vm := .none },
  { cls := 9, slots := #[.int (-112)], vm := .none },
  { cls := 9, slots := #[.int (-111)], vm := .none },
  { cls := 9, slots := #[.int (-110)], vm := .none },
  { cls := 9, slots := #[.int (-109)], vm := .none },
  { cls := 9, slots := #[.int (-108)], vm := .none },
  { cls := 9, slots := #[.int (-107)], vm := .none },
  { cls := 9, slots := #[.int (-106)], vm := .none },
  { cls := 9, slots := #[.int (-105)], vm := .none },
  { cls := 9, slots := #[.int (-104)], vm := .none },
  { cls := 9, slots := #[.int (-103)], vm := .none },
  { cls := 9, slots := #[.int (-102)], vm := .none },
  { cls := 9, slots := #[.int (-101)], vm := .none },
  { cls := 9, slots := #[.int (-100)], vm := .none },
  { cls := 9, slots := #[.int (-99)], vm := .none },
  { cls := 9, slots := #[.int (-98)], vm := .none },
  { cls := 9, slots := #[.int (-97)], vm := .none },
  { cls := 9, slots := #[.int (-96)], vm := .none },
  { cls := 9, slots := #[.int (-95)], vm := .none },
  { cls := 9, slots := #[.int (-94)], vm := .none },
  { cls := 9, slots := #[.int (-93)], vm := .none },
  { cls := 9, slots := #[.int (-92)], vm := .none },
  { cls := 9, slots := #[.int (-91)], vm := .none },
  { cls := 9, slots := #[.int (-90)], vm := .none },
  { cls := 9, slots := #[.int (-89)], vm := .none },
  { cls := 9, slots := #[.int (-88)], vm := .none },
  { cls := 9, slots := #[.int (-87)], vm := .none },
  { cls := 9, slots := #[.int (-86)], vm := .none },
  { cls := 9, slots := #[.int (-85)], vm := .none },
  { cls := 9, slots := #[.int (-84)], vm := .none },
  { cls := 9, slots := #[.int (-83)], vm := .none },
  { cls := 9, slots := #[.int (-82)], vm := .none },
  { cls := 9, slots := #[.int (-81)], vm := .none },
  { cls := 9, slots := #[.int (-80)], vm := .none },
  { cls := 9, slots := #[.int (-79)], vm := .none },
  { cls := 9, slots := #[.int (-78)], vm := .none },
  { cls := 9, slots := #[.int (-77)], vm := .none },
  { cls := 9, slots := #[.int (-76)], vm := .none },
  { cls := 9, slots := #[.int (-75)], vm := .none },
  { cls := 9, slots := #[.int (-74)], vm := .none },
  { cls := 9, slots := #[.int (-73)], vm := .none },
  { cls := 9, slots := #[.int (-72)], vm := .none },
  { cls := 9, slots := #[.int (-71)], vm := .none },
  { cls := 9, slots := #[.int (-70)], vm := .none },
  { cls := 9, slots := #[.int (-69)], vm := .none },
  { cls := 9, slots := #[.int (-68)], vm := .none },
  { cls := 9, slots := #[.int (-67)], vm := .none },
  { cls := 9, slots := #[.int (-66)], vm := .none },
  { cls := 9, slots := #[.int (-65)], vm := .none },
  { cls := 9, slots := #[.int (-64)], vm := .none },
  { cls := 9, slots := #[.int (-63)], vm := .none },
  { cls := 9, slots := #[.int (-62)], vm := .none },
  { cls := 9, slots := #[.int (-61)], vm := .none },
  { cls := 9, slots := #[.int (-60)], vm := .none },
  { cls := 9, slots := #[.int (-59)], vm := .none },
  { cls := 9, slots := #[.int (-58)], vm := .none },
  { cls := 9, slots := #[.int (-57)], vm := .none },
  { cls := 9, slots := #[.int (-56)], vm := .none },
  { cls := 9, slots := #[.int (-55)], vm := .none },
  { cls := 9, slots := #[.int (-54)], vm := .none },
  { cls := 9, slots := #[.int (-53)], vm := .none },
  { cls := 9, slots := #[.int (-52)], vm := .none },
  { cls := 9, slots := #[.int (-51)], vm := .none },
  { cls := 9, slots := #[.int (-50)], vm := .none },
  { cls := 9, slots := #[.int (-49)], vm := .none },
  { cls := 9, slots := #[.int (-48)], vm := .none },
  { cls := 9, slots := #[.int (-47)], vm := .none },
  { cls := 9, slots := #[.int (-46)], vm := .none },
  { cls := 9, slots := #[.int (-45)], vm := .none },
  { cls := 9, slots := #[.int (-44)], vm := .none },
  { cls := 9, slots := #[.int (-43)], vm := .none },
  { cls := 9, slots := #[.int (-42)], vm := .none },
  { cls := 9, slots := #[.int (-41)], vm := .none },
  { cls := 9, slots := #[.int (-40)], vm := .none },
  { cls := 9, slots := #[.int (-39)], vm := .none },
  { cls := 9, slots := #[.int (-38)], vm := .none },
  { cls := 9, slots := #[.int (-37)], vm := .none },
  { cls := 9, slots := #[.int (-36)], vm := .none },
  { cls := 9, slots := #[.int (-35)], vm := .none },
  { cls := 9, slots := #[.int (-34)], vm := .none },
  { cls := 9, slots := #[.int (-33)], vm := .none },
  { cls := 9, slots := #[.int (-32)], vm := .none },
  { cls := 9, slots := #[.int (-31)], vm := .none },
  { cls := 9, slots := #[.int (-30)], vm := .none },
  { cls := 9, slots := #[.int (-29)], vm := .none },
  { cls := 9, slots := #[.int (-28)], vm := .none },
  { cls := 9, slots := #[.int (-27)], vm := .none },
  { cls := 9, slots := #[.int (-26)], vm := .none },
  { cls := 9, slots := #[.int (-25)], vm := .none },
  { cls := 9, slots := #[.int (-24)], vm := .none },
  { cls := 9, slots := #[.int (-23)], vm := .none },
  { cls := 9, slots := #[.int (-22)], vm := .none },
  { cls := 9, slots := #[.int (-21)], vm := .none },
  { cls := 9, slots := #[.int (-20)], vm := .none },
  { cls := 9, slots := #[.int (-19)], vm := .none },
  { cls := 9, slots := #[.int (-18)], vm := .none },
  { cls := 9, slots := #[.int (-17)], vm := .none },
  { cls := 9, slots := #[.int (-16)], vm := .none },
  { cls := 9, slots := #[.int (-15)], vm := .none },
  { cls := 9, slots := #[.int (-14)], vm := .none },
  { cls := 9, slots := #[.int (-13)], vm := .none },
  { cls := 9, slots := #[.int (-12)], vm := .none },
  { cls := 9, slots := #[.int (-11)], vm := .none },
  { cls := 9, slots := #[.int (-10)], vm := .none },
  { cls := 9, slots := #[.int (-9)], vm := .none },
  { cls := 9, slots := #[.int (-8)], vm := .none },
  { cls := 9, slots := #[.int (-7)], vm := .none },
  { cls := 9, slots := #[.int (-6)], vm := .none },
  { cls := 9, slots := #[.int (-5)], vm := .none },
  { cls := 9, slots := #[.int (-4)], vm := .none },
  { cls := 9, slots := #[.int (-3)], vm := .none },
  { cls := 9, slots := #[.int (-2)], vm := .none },
  { cls := 9, slots := #[.int (-1)], vm := .none },
  { cls := 9, slots := #[.int (0)], vm := .none },
  { cls := 9, slots := #[.int (1)], vm := .none },
  { cls := 9, slots := #[.int (2)], vm := .none },
  { cls := 9, slots := #[.int (3)], vm := .none },
  { cls := 9, slots := #[.int (4)], vm := .none },
  { cls := 9, slots := #[.int (5)], vm := .none },
  { cls := 9, slots := #[.int (6)], vm := .none },
  { cls := 9, slots := #[.int (7)], vm := .none },
  { cls := 9, slots := #[.int (8)], vm := .none },
  { cls := 9, slots := #[.int (9)], vm := .none },
  { cls := 9, slots := #[.int (10)], vm := .none },
  { cls := 9, slots := #[.int (11)], vm := .none },
  { cls := 9, slots := #[.int (12)], vm := .none },
  { cls := 9, slots := #[.int (13)], vm := .none },
  { cls := 9, slots := #[.int (14)], vm := .none },
  { cls := 9, slots := #[.int (15)], vm := .none },
  { cls := 9, slots := #[.int (16)], vm := .none },
  { cls := 9, slots := #[.int (17)], vm := .none },
  { cls := 9, slots := #[.int (18)], vm := .none },
  { cls := 9, slots := #[.int (19)], vm := .none },
  { cls := 9, slots := #[.int (20)], vm := .none },
  { cls := 9, slots := #[.int (21)], vm := .none },
  { cls := 9, slots := #[.int (22)], vm := .none },
  { cls := 9, slots := #[.int (23)], vm := .none },
  { cls := 9, slots := #[.int (24)], vm := .none },
  { cls := 9, slots := #[.int (25)], vm := .none },
  { cls := 9, slots := #[.int (26)], vm := .none },
  { cls := 9, slots := #[.int (27)], vm := .none },
  { cls := 9, slots := #[.int (28)], vm := .none },
  { cls := 9, slots := #[.int (29)], vm := .none },
  { cls := 9, slots := #[.int (30)], vm := .none },
  { cls := 9, slots := #[.int (31)], vm := .none },
  { cls := 9, slots := #[.int (32)], vm := .none },
  { cls := 9, slots := #[.int (33)], vm := .none },
  { cls := 9, slots := #[.int (34)], vm := .none },
  { cls := 9, slots := #[.int (35)], vm := .none },
  { cls := 9, slots := #[.int (36)], vm := .none },
  { cls := 9, slots := #[.int (37)], vm := .none },
  { cls := 9, slots := #[.int (38)], vm := .none },
  { cls := 9, slots := #[.int (39)], vm := .none },
  { cls := 9, slots := #[.int (40)], vm := .none },
  { cls := 9, slots := #[.int (41)], vm := .none },
  { cls := 9, slots := #[.int (42)], vm := .none },
  { cls := 9, slots := #[.int (43)], vm := .none },
  { cls := 9, slots := #[.int (44)], vm := .none },
  { cls := 9, slots := #[.int (45)], vm := .none },
  { cls := 9, slots := #[.int (46)], vm := .none },
  { cls := 9, slots := #[.int (47)], vm := .none },
  { cls := 9, slots := #[.int (48)], vm := .none },
  { cls := 9, slots := #[.int (49)], vm := .none },
  { cls := 9, slots := #[.int (50)], vm := .none },
  { cls := 9, slots := #[.int (51)], vm := .none },
  { cls := 9, slots := #[.int (52)], vm := .none },
  { cls := 9, slots := #[.int (53)], vm := .none },
  { cls := 9, slots := #[.int (54)], vm := .none },
  { cls := 9, slots := #[.int (55)], vm := .none },
  { cls := 9, slots := #[.int (56)], vm := .none },
  { cls := 9, slots := #[.int (57)], vm := .none },
  { cls := 9, slots := #[.int (58)], vm := .none },
  { cls := 9, slots := #[.int (59)], vm := .none },
  { cls := 9, slots := #[.int (60)], vm := .none },
  { cls := 9, slots := #[.int (61)], vm := .none },
  { cls := 9, slots := #[.int (62)], vm := .none },
  { cls := 9, slots := #[.int (63)], vm := .none },
  { cls := 9, slots := #[.int (64)], vm := .none },
  { cls := 9, slots := #[.int (65)], vm := .none },
  { cls := 9, slots := #[.int (66)], vm := .none },
  { cls := 9, slots := #[.int (67)], vm := .none },
  { cls := 9, slots := #[.int (68)], vm := .none },
  { cls := 9, slots := #[.int (69)], vm := .none },
  { cls := 9, slots := #[.int (70)], vm := .none },
  { cls := 9, slots := #[.int (71)], vm := .none },
  { cls := 9, slots := #[.int (72)], vm := .none },
  { cls := 9, slots := #[.int (73)], vm := .none },
  { cls := 9, slots := #[.int (74)], vm := .none },
  { cls := 9, slots := #[.int (75)], vm := .none },
  { cls := 9, slots := #[.int (76)], vm := .none },
  { cls := 9, slots := #[.int (77)], vm := .none },
  { cls := 9, slots := #[.int (78)], vm := .none },
  { cls := 9, slots := #[.int (79)], vm := .none },
  { cls := 9, slots := #[.int (80)], vm := .none },
  { cls := 9, slots := #[.int (81)], vm := .none },
  { cls := 9, slots := #[.int (82)], vm := .none },
  { cls := 9, slots := #[.int (83)], vm := .none },
  { cls := 9, slots := #[.int (84)], vm := .none },
  { cls := 9, slots := #[.int (85)], vm := .none },
  { cls := 9, slots := #[.int (86)], vm := .none },
  { cls := 9, slots := #[.int (87)], vm := .none },
  { cls := 9, slots := #[.int (88)], vm := .none },
  { cls := 9, slots := #[.int (89)], vm := .none },
  { cls := 9, slots := #[.int (90)], vm := .none },
  { cls := 9, slots := #[.int (91)], vm := .none },
  { cls := 9, slots := #[.int (92)], vm := .none },
  { cls := 9, slots := #[.int (93)], vm := .none },
  { cls := 9, slots := #[.int (94)], vm := .none },
  { cls := 9, slots := #[.int (95)], vm := .none },
  { cls := 9, slots := #[.int (96)], vm := .none },
  { cls := 9, slots := #[.int (97)], vm := .none },
  { cls := 9, slots := #[.int (98)], vm := .none },
  { cls := 9, slots := #[.int (99)], vm := .none },
  { cls := 9, slots := #[.int (100)], vm := .none },
  { cls := 9, slots := #[.int (101)], vm := .none },
  { cls := 9, slots := #[.int (102)], vm := .none },
  { cls := 9, slots := #[.int (103)], vm := .none },
  { cls := 9, slots := #[.int (104)], vm := .none },
  { cls := 9, slots := #[.int (105)], vm := .none },
  { cls := 9, slots := #[.int (106)], vm := .none },
  { cls := 9, slots := #[.int (107)], vm := .none },
  { cls := 9, slots := #[.int (108)], vm := .none },
  { cls := 9, slots := #[.int (109)], vm := .none },
  { cls := 9, slots := #[.int (110)], vm := .none },
  { cls := 9, slots := #[.int (111)], vm := .none },
  { cls := 9, slots := #[.int (112)], vm := .none },
  { cls := 9, slots := #[.int (113)], vm := .none },
  { cls := 9, slots := #[.int (114)], vm := .none },
  { cls := 9, slots := #[.int (115)], vm := .none },
  { cls := 9, slots := #[.int (116)], vm := .none },
  { cls := 9, slots := #[.int (117)], vm := .none },
  { cls := 9, slots := #[.int (118)], vm := .none },
  { cls := 9, slots := #[.int (119)], vm := .none },
  { cls := 9, slots := #[.int (120)], vm := .none },
  { cls := 9, slots := #[.int (121)], vm := .none },
  { cls := 9, slots := #[.int (122)], vm := .none },
  { cls := 9, slots := #[.int (123)], vm := .none },
  { cls := 9, slots := #[.int (124)], vm := .none },
  { cls := 9, slots := #[.int (125)], vm := .none },
  { cls := 9, slots := #[.int (126)], vm := .none },
  { cls := 9, slots := #[.int (127)], vm := .none }]
def classes : Array Class := #[k0, k1, k2, k3, k4, k5, k6, k7, k8, k9, k10, k11, k12, k13, k14, k15, k16]
def interned : List (Array UInt16 × Addr) := []
def slotsUsed : Nat := 517
def theMethod : MethodId := ⟨1, 1⟩
def args0 : Array Value := #[.int 5, .int 7]
def aboutOver (below : List Frame) : State where
  vm := { classes := classes, interned := interned.toArray }
  heap := heap
  slotsUsed := slotsUsed
  threads := #[{ frames := .invoking theMethod args0 :: below }]
def below0 : List Frame := [.native { method := ⟨0, 0⟩, args := #[] }]
def about1 : State := aboutOver below0
def p0 : Program := .bare "" "" ""
def e0 : Env := launch0.env 0 0 0
theorem w_frames : about1.frames = Frame.invoking theMethod args0 :: below0 := rfl
set_option maxRecDepth 65536 in
theorem w_args : argsFit about1.vm theMethod args0 = true := by decide +kernel
set_option maxRecDepth 65536 in
theorem w_heap : heapFits about1 = true := by decide +kernel
set_option maxRecDepth 65536 in
theorem w_runnable : about1.curStatus? = some .runnable := by decide +kernel
set_option maxRecDepth 65536 in
theorem w_alone : about1.alone = true := by decide +kernel
set_option maxRecDepth 65536 in
theorem w_named : about1.methodNamed? x = some theMethod := by decide +kernel
set_option maxRecDepth 65536 in
theorem w_hears : about1.hears theMethod below0 = true := by decide +kernel
set_option maxRecDepth 65536 in
theorem w_ripe : about1.ripe theMethod args0 below0 = true := by decide +kernel
theorem w_running : about1.status = .running := rfl
set_option maxRecDepth 65536 in
theorem w_room : about1.hasRoom e0.platform room_1 = true :=
  launch0.hasRoom_least _ room_1 (by decide +kernel) (by decide +kernel) (by decide +kernel) (by decide +kernel) (by decide +kernel) (by decide +kernel)
theorem allAtoms_all (ts : List Jvm.Cond) (a : Array Jvm.Value) (st : Jvm.State) : (allAtoms ts).before a st = ts.all (fun c => c.before a st) := by
  induction ts with
  | nil => rfl
  | cons c t ih =>
    show (Jvm.Cond.and c (allAtoms t)).before a st = _
    rw [Jvm.Cond.before_and, ih, List.all_cons]
def words1 : List Jvm.Cond := Jvm.Cond.code x code maxLocals ret :: tables_1
/-- a 'code' word, met by the world's own term for the bytes: nothing is compared byte by byte -/
theorem code_word {y : MethodName} {bytes : ByteArray} {mx : Nat} {rt : Option FieldType} {a : Array Value} {s : State} {m : MethodId} {meth : Method} {c : Code} (h1 : s.methodNamed? y = some m) (h2 : s.vm.method? m = some meth) (h3 : meth.code = some c) (h4 : c.code = bytes)
    (h5 : (c.maxLocals == mx && c.exceptionTable.isEmpty && decide (c.maxStack ≤ mostOperands) && decide (meth.sig.returnType = rt) && !meth.locks && decide (parseMethodDescriptor y.desc = some meth.sig)) = true) : (Jvm.Cond.code y bytes mx rt).before a s = true := by
  simp only [Bool.and_eq_true, beq_iff_eq, Bool.not_eq_true', decide_eq_true_eq] at h5
  obtain ⟨⟨⟨⟨⟨g1, g2⟩, g3⟩, g4⟩, g5⟩, g6⟩ := h5
  simp [Cond.before, Cond.holds, Cond.value, h1, h2, h3, h4, g1, g2, g3, g4, g5, g6]
def isCode : Jvm.Cond → Bool
  | .code _ _ _ _ => true
  | _ => false
theorem all_split {L : List Jvm.Cond} {P : Jvm.Cond → Bool} (h1 : L.all (fun c => isCode c || P c) = true) (h2 : ∀ c ∈ L.filter isCode, P c = true) : L.all P = true := by
  refine List.all_eq_true.mpr fun c hc => ?_
  have h := List.all_eq_true.mp h1 c hc
  rcases Bool.eq_false_or_eq_true (isCode c) with hi | hi
  · exact h2 c (List.mem_filter.mpr ⟨hc, hi⟩)
  · simpa [hi] using h
set_option maxRecDepth 65536 in
theorem w_c0 : (Jvm.Cond.code x code maxLocals ret).before args0 about1 = true := code_word (m := ⟨1, 1⟩) (meth := k1m1) (c := k1c1) (by decide +kernel) rfl rfl rfl (by decide +kernel)
set_option maxRecDepth 65536 in
theorem w_c1 : (Jvm.Cond.code ({ cls := "com/example/forgewire/forgewire/beans/Need$Named", name := "<init>", desc := "(Ljava/lang/String;Ljava/lang/Class;)V" } : Jvm.MethodName) prog_55_method_1_code (3 : Nat) (Option.none : Option Jvm.ClassFile.FieldType)).before args0 about1 = true := code_word (m := ⟨3, 0⟩) (meth := k3m0) (c := k3c0) (by decide +kernel) rfl rfl rfl (by decide +kernel)
set_option maxRecDepth 65536 in
theorem w_c2 : (Jvm.Cond.code ({ cls := "com/example/forgewire/forgewire/beans/Need", name := "<init>", desc := "()V" } : Jvm.MethodName) prog_52_method_1_code (1 : Nat) (Option.none : Option Jvm.ClassFile.FieldType)).before args0 about1 = true := code_word (m := ⟨2, 0⟩) (meth := k2m0) (c := k2c0) (by decide +kernel) rfl rfl rfl (by decide +kernel)
set_option maxRecDepth 65536 in
theorem w_c3 : (Jvm.Cond.code ({ cls := "java/lang/Object", name := "<init>", desc := "()V" } : Jvm.MethodName) object_method_1_code (1 : Nat) (Option.none : Option Jvm.ClassFile.FieldType)).before args0 about1 = true := code_word (m := ⟨0, 0⟩) (meth := k0m0) (c := k0c0) (by decide +kernel) rfl rfl rfl (by decide +kernel)
set_option maxRecDepth 65536 in
theorem w_c4 : (Jvm.Cond.code ({ cls := "com/example/forgewire/forgewire/beans/Need", name := "take", desc := "()Ljava/lang/Object;" } : Jvm.MethodName) prog_52_method_4_code (1 : Nat) (Option.some (Jvm.ClassFile.FieldType.object "java/lang/Object"))).before args0 about1 = true := code_word (m := ⟨2, 2⟩) (meth := k2m2) (c := k2c2) (by decide +kernel) rfl rfl rfl (by decide +kernel)
set_option maxRecDepth 65536 in
theorem w_c5 : (Jvm.Cond.code ({ cls := "com/example/forgewire/forgewire/beans/Need", name := "give", desc := "(Ljava/lang/Object;)V" } : Jvm.MethodName) prog_52_method_2_code (2 : Nat) (Option.none : Option Jvm.ClassFile.FieldType)).before args0 about1 = true := code_word (m := ⟨2, 1⟩) (meth := k2m1) (c := k2c1) (by decide +kernel) rfl rfl rfl (by decide +kernel)
set_option maxRecDepth 65536 in
theorem w_c6 : (Jvm.Cond.code ({ cls := "java/lang/Integer", name := "valueOf", desc := "(I)Ljava/lang/Integer;" } : Jvm.MethodName) jdk_33_method_22_code (1 : Nat) (Option.some (Jvm.ClassFile.FieldType.object "java/lang/Integer"))).before args0 about1 = true := code_word (m := ⟨9, 0⟩) (meth := k9m0) (c := k9c0) (by decide +kernel) rfl rfl rfl (by decide +kernel)
set_option maxRecDepth 65536 in
theorem w_c7 : (Jvm.Cond.code ({ cls := "java/lang/Integer", name := "<init>", desc := "(I)V" } : Jvm.MethodName) jdk_33_method_23_code (2 : Nat) (Option.none : Option Jvm.ClassFile.FieldType)).before args0 about1 = true := code_word (m := ⟨9, 1⟩) (meth := k9m1) (c := k9c1) (by decide +kernel) rfl rfl rfl (by decide +kernel)
set_option maxRecDepth 65536 in
theorem w_c8 : (Jvm.Cond.code ({ cls := "java/lang/Number", name := "<init>", desc := "()V" } : Jvm.MethodName) jdk_18_method_1_code (1 : Nat) (Option.none : Option Jvm.ClassFile.FieldType)).before args0 about1 = true := code_word (m := ⟨5, 0⟩) (meth := k5m0) (c := k5c0) (by decide +kernel) rfl rfl rfl (by decide +kernel)
def codes1 : List Jvm.Cond := [Jvm.Cond.code x code maxLocals ret, Jvm.Cond.code ({ cls := "com/example/forgewire/forgewire/beans/Need$Named", name := "<init>", desc := "(Ljava/lang/String;Ljava/lang/Class;)V" } : Jvm.MethodName) prog_55_method_1_code (3 : Nat) (Option.none : Option Jvm.ClassFile.FieldType), Jvm.Cond.code ({ cls := "com/example/forgewire/forgewire/beans/Need", name := "<init>", desc := "()V" } : Jvm.MethodName) prog_52_method_1_code (1 : Nat) (Option.none : Option Jvm.ClassFile.FieldType), Jvm.Cond.code ({ cls := "java/lang/Object", name := "<init>", desc := "()V" } : Jvm.MethodName) object_method_1_code (1 : Nat) (Option.none : Option Jvm.ClassFile.FieldType), Jvm.Cond.code ({ cls := "com/example/forgewire/forgewire/beans/Need", name := "take", desc := "()Ljava/lang/Object;" } : Jvm.MethodName) prog_52_method_4_code (1 : Nat) (Option.some (Jvm.ClassFile.FieldType.object "java/lang/Object")), Jvm.Cond.code ({ cls := "com/example/forgewire/forgewire/beans/Need", name := "give", desc := "(Ljava/lang/Object;)V" } : Jvm.MethodName) prog_52_method_2_code (2 : Nat) (Option.none : Option Jvm.ClassFile.FieldType), Jvm.Cond.code ({ cls := "java/lang/Integer", name := "valueOf", desc := "(I)Ljava/lang/Integer;" } : Jvm.MethodName) jdk_33_method_22_code (1 : Nat) (Option.some (Jvm.ClassFile.FieldType.object "java/lang/Integer")), Jvm.Cond.code ({ cls := "java/lang/Integer", name := "<init>", desc := "(I)V" } : Jvm.MethodName) jdk_33_method_23_code (2 : Nat) (Option.none : Option Jvm.ClassFile.FieldType), Jvm.Cond.code ({ cls := "java/lang/Number", name := "<init>", desc := "()V" } : Jvm.MethodName) jdk_18_method_1_code (1 : Nat) (Option.none : Option Jvm.ClassFile.FieldType)]
set_option maxRecDepth 65536 in
theorem codes_eq : words1.filter isCode = codes1 := rfl
theorem w_codes : ∀ c ∈ words1.filter isCode, c.before args0 about1 = true := by
  rw [codes_eq]
  intro c hc
  simp only [codes1, List.mem_cons, List.not_mem_nil, or_false] at hc
  rcases hc with rfl | rfl | rfl | rfl | rfl | rfl | rfl | rfl | rfl
  · exact w_c0
  · exact w_c1
  · exact w_c2
  · exact w_c3
  · exact w_c4
  · exact w_c5
  · exact w_c6
  · exact w_c7
  · exact w_c8
set_option maxRecDepth 65536 in
theorem w_t1 : (words1.take 24).all (fun c => isCode c || c.before args0 about1) = true := by decide +kernel
set_option maxRecDepth 65536 in
theorem w_t2 : ((words1.drop 24).take 24).all (fun c => isCode c || c.before args0 about1) = true := by decide +kernel
set_option maxRecDepth 65536 in
theorem w_t3 : ((words1.drop 24).drop 24).all (fun c => isCode c || c.before args0 about1) = true := by decide +kernel
theorem w_tables : (allAtoms (Jvm.Cond.code x code maxLocals ret :: tables_1)).before args0 about1 = true := by
  rw [allAtoms_all]
  show words1.all (fun c => c.before args0 about1) = true
  refine all_split ?_ w_codes
  rw [← List.take_append_drop 24 words1, List.all_append, w_t1, ← List.take_append_drop 24 (words1.drop 24), List.all_append, w_t2, w_t3]
  rfl
set_option maxRecDepth 65536 in
theorem w_rest : rest_1_c.before args0 about1 = true := by decide +kernel
set_option maxRecDepth 65536 in
theorem w_case : (Jvm.Cond.and given_1 narrow_1).before args0 about1 = true := by decide +kernel
theorem w_applies : (headSpec (Jvm.Cond.code x code maxLocals ret :: tables_1) room_1).applies x e0.platform about1 = true :=
  (Spec.applies_iff w_frames).mpr ⟨w_running, w_runnable, w_alone, w_named, w_hears, w_ripe, w_room, w_tables⟩
theorem atStart : AtStart classFile x code maxLocals ret World_1 tables_1 room_1 Calls_1 rest_1 Pre_1 launch0 p0 e0 about1 theMethod args0 below0 :=
  ⟨lists_1, trivial, launch0.admits_env _ _ _, launch0.least_env, fairChoices_fair.cas, fairChoices_fair.clock, w_frames, w_args, w_heap, w_applies, trivial, w_rest, w_case⟩
end start1
theorem witness_1 : WitnessClaimed_1 := ⟨start1.p0, start1.e0, start1.about1, start1.theMethod, start1.args0, start1.below0, start1.atStart⟩
end Jvm.Pilot.@@N@@
