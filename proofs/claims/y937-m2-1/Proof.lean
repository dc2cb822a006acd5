import JvmDerived
import JvmDerived.Pilot.@@N@@Statement
import JvmDerived.Pilot.@@N@@Code
set_option linter.unusedVariables false
set_option linter.unusedSimpArgs false
namespace Jvm.Pilot.@@N@@
open Jvm Jvm.ClassFile Sem Op Lib Jvm.Free Jvm.Stand Jvm.LawKit Jvm.RoadKit Bundle Jvm.Pilot.@@N@@.Jvm.D
section OwnKit
variable {p : Program} {l : Launch} {e : Env} {R : Room} {s : State} {m : MethodId} {args : Array Value} {below : List Frame} {meth : Method} {c : Code} {T : State} {locs : List Loc} {cells slots : Nat} {Z : State} {a0 : Array Value} {h : Heap}
/-- the walk from A ends well: it returns, what it returns and leaves is as Q says -/
def own_G (p : Program) (e : Env) (below : List Frame) (s : State) (Q : Option Value → Heap → List Loc → Prop) (ce sl : Nat) (A : State) : Prop :=
  ∃ s₂ o, Steps p.tables e below A s₂ ∧ s₂.status = .running ∧ Ended s₂ below o ∧ ∃ v L, o = .returned v ∧ Q v s₂.heap L ∧ FrameEnd s o s₂ L ce sl
theorem own_st {Q : Option Value → Heap → List Loc → Prop} {ce sl : Nat} {A B : State} (k : ∀ t, Steps p.tables e below B t → Steps p.tables e below A t) (g : own_G p e below s Q ce sl B) : own_G p e below s Q ce sl A := by
  obtain ⟨s₂, o, h1, h2⟩ := g
  exact ⟨s₂, o, k _ h1, h2⟩
theorem own_ret {Q : Option Value → Heap → List Loc → Prop} {ce sl : Nat} (X : Stand p l e R s m args below meth c T locs cells slots) (hx : p.tables.exec = Jvm.exec) (hlk : meth.locks = false) {pc : Nat} {Ls : Array Slot} {w : Value} {t : FieldType} {i : Instr} {rest : List Value} (hret : meth.sig.returnType = some t) (hn : narrow t w = w)
    (hi : (i = .ireturn ∧ (t = .int ∨ t = .boolean ∨ t = .byte ∨ t = .char ∨ t = .short) ∧ ∃ z, w = .int z) ∨ (i = .lreturn ∧ t = .long ∧ ∃ z, w = .long z) ∨ (i = .dreturn ∧ t = .double ∧ ∃ z, w = .double z) ∨ (i = .freturn ∧ t = .float ∧ ∃ z, w = .float z) ∨ (i = .areturn ∧ t.isReference = true ∧ w.isRef = true))
    (hd : decode c.code pc = .ok (i, 1)) (hc : cells ≤ ce) (hs : slots ≤ sl) (hQ : Q (some w) T.heap locs) : own_G p e below s Q ce sl (T.setTop (mkF m pc Ls (w :: rest))) := by
  obtain ⟨fs, hr, hrun, hended, hW, hsame⟩ := X.leave (v := some w) (fun q => by rw [hret] at q; cases q) hlk
  exact ⟨_, _, retOut X hx hret hn hi hd hr, hrun, hended, _, _, rfl, hQ, ⟨_, rfl⟩, hW, hsame.mono hc hs⟩
theorem own_retI {Q : Option Value → Heap → List Loc → Prop} {ce sl : Nat} (X : Stand p l e R s m args below meth c T locs cells slots) (hx : p.tables.exec = Jvm.exec) (hlk : meth.locks = false) {pc : Nat} {Ls : Array Slot} {z : Int32} {rest : List Value} (hret : meth.sig.returnType = some .int)
    (hd : decode c.code pc = .ok (.ireturn, 1)) (hc : cells ≤ ce) (hs : slots ≤ sl) (hQ : Q (some (.int z)) T.heap locs) : own_G p e below s Q ce sl (T.setTop (mkF m pc Ls (.int z :: rest))) :=
  own_ret X hx hlk hret rfl (Or.inl ⟨rfl, Or.inl rfl, z, rfl⟩) hd hc hs hQ
theorem own_retZ {Q : Option Value → Heap → List Loc → Prop} {ce sl : Nat} (X : Stand p l e R s m args below meth c T locs cells slots) (hx : p.tables.exec = Jvm.exec) (hlk : meth.locks = false) {pc : Nat} {Ls : Array Slot} {z : Int32} {rest : List Value} (hret : meth.sig.returnType = some .boolean) (hn : z = 0 ∨ z = 1)
    (hd : decode c.code pc = .ok (.ireturn, 1)) (hc : cells ≤ ce) (hs : slots ≤ sl) (hQ : Q (some (.int z)) T.heap locs) : own_G p e below s Q ce sl (T.setTop (mkF m pc Ls (.int z :: rest))) :=
  own_ret X hx hlk hret (by rcases hn with rfl | rfl <;> rfl) (Or.inl ⟨rfl, Or.inr (Or.inl rfl), z, rfl⟩) hd hc hs hQ
theorem own_retJ {Q : Option Value → Heap → List Loc → Prop} {ce sl : Nat} (X : Stand p l e R s m args below meth c T locs cells slots) (hx : p.tables.exec = Jvm.exec) (hlk : meth.locks = false) {pc : Nat} {Ls : Array Slot} {z : Int64} {rest : List Value} (hret : meth.sig.returnType = some .long)
    (hd : decode c.code pc = .ok (.lreturn, 1)) (hc : cells ≤ ce) (hs : slots ≤ sl) (hQ : Q (some (.long z)) T.heap locs) : own_G p e below s Q ce sl (T.setTop (mkF m pc Ls (.long z :: rest))) :=
  own_ret X hx hlk hret rfl (Or.inr (Or.inl ⟨rfl, rfl, z, rfl⟩)) hd hc hs hQ
theorem own_retA {Q : Option Value → Heap → List Loc → Prop} {ce sl : Nat} (X : Stand p l e R s m args below meth c T locs cells slots) (hx : p.tables.exec = Jvm.exec) (hlk : meth.locks = false) {pc : Nat} {Ls : Array Slot} {w : Value} {t : FieldType} {rest : List Value} (hret : meth.sig.returnType = some t) (ht : t.isReference = true) (hw : w.isRef = true)
    (hd : decode c.code pc = .ok (.areturn, 1)) (hc : cells ≤ ce) (hs : slots ≤ sl) (hQ : Q (some w) T.heap locs) : own_G p e below s Q ce sl (T.setTop (mkF m pc Ls (w :: rest))) :=
  own_ret X hx hlk hret (by cases w <;> first | rfl | (cases t <;> first | rfl | cases ht)) (Or.inr (Or.inr (Or.inr (Or.inr ⟨rfl, ht, hw⟩)))) hd hc hs hQ
theorem own_retV {Q : Option Value → Heap → List Loc → Prop} {ce sl : Nat} (X : Stand p l e R s m args below meth c T locs cells slots) (hx : p.tables.exec = Jvm.exec) (hlk : meth.locks = false) {pc : Nat} {Ls : Array Slot} (hret : meth.sig.returnType = none)
    (hd : decode c.code pc = .ok (.return_, 1)) (hc : cells ≤ ce) (hs : slots ≤ sl) (hQ : Q none T.heap locs) : own_G p e below s Q ce sl (T.setTop (mkF m pc Ls [])) := by
  obtain ⟨fs, hr, hrun, hended, hW, hsame⟩ := X.leave (v := none) (fun _ => rfl) hlk
  exact ⟨_, _, X.returnOut hx hret hd hr, hrun, hended, _, _, rfl, hQ, ⟨_, rfl⟩, hW, hsame.mono hc hs⟩
/-- a contract out of the walk of its body -/
theorem own_met {y : MethodName} {bytes : ByteArray} {maxL : Nat} {ret : Option FieldType} {ws : List Jvm.Cond} {rm : Room} {as' : Array Value} {h0 : Heap} {Q : Option Value → Heap → List Loc → Prop} {ce sl : Nat} (hp : plainFor y = true)
    (body : ∀ (p : Program) (e : Env) (s : State) (m : MethodId) (below : List Frame) (meth : Method) (c : Code) (T : State), p.tables.exec = Jvm.exec → c.code = bytes → c.maxLocals = maxL → s.vm.findClass y.cls = some m.cls → meth.name = y.name → meth.sig.returnType = ret → meth.locks = false → Z.Warmed39 s.vm → T.heap = h0 →
      Stand p l e rm s m as' below meth c T [] 0 0 → own_G p e below s Q ce sl (T.setTop (entryFrame m as' maxL))) :
    MetFree l y (head1 (Jvm.Cond.code y bytes maxL ret :: ws) rm) (fun a U => a = as' ∧ Z.Warmed39 U.vm ∧ U.heap = h0) (fun _ _ _ _ _ => True) (fun _ U o U' => ∃ v L, o = .returned v ∧ Q v U'.heap L ∧ FrameEnd U o U' L ce sl) := by
  refine MetFree.of_bodySF hp hisR ?_
  intro p e s m args below meth c s₁ Bd hml0 hP hK
  obtain ⟨rfl, hZ, hh⟩ := hP
  exact body p e s m below meth c s₁ Bd.exec Bd.bytes hml0 (findClass_of_methodNamed Bd.named) (name_of_methodNamed Bd.named Bd.method).1 Bd.returns Bd.notSynchronized hZ (by rw [← hh, Bd.state]; rfl) (Stand.of_body Bd)
theorem own_callS (X : Stand p l e R s m args below meth c T locs cells slots) (hx : p.tables.exec = Jvm.exec) (hZ : Z.Warmed39 s.vm) {own : String} {index : Nat} {y : MethodName} {bytes : ByteArray} {maxL : Nat} {ret : Option FieldType} {rm : Room} {Q : Option Value → Heap → List Loc → Prop} {argsL rest : List Value} (W : Nat)
    (hown : s.vm.findClass own = some m.cls) (wl : (Jvm.Cond.methodLink own index y).before a0 Z = true) (wst : (Jvm.Cond.static y).before a0 Z = true) (wz : (Jvm.Cond.initialized y.cls).before a0 Z = true) (wc : (Jvm.Cond.code y bytes maxL ret).before a0 Z = true) (hy : y.cls ≠ "java/lang/invoke/MethodHandle" ∧ y.cls ≠ "java/lang/invoke/VarHandle")
    (hM : MetFree l y (head1 [Jvm.Cond.code y bytes maxL ret] rm) (fun a U => a = argsL.toArray ∧ Z.Warmed39 U.vm ∧ U.heap = h) (fun _ _ _ _ _ => True) (fun _ U o U' => ∃ v L, o = .returned v ∧ Q v U'.heap L ∧ FrameEnd U o U' L rm.cells rm.slots))
    (hf : rm.frames + 1 ≤ R.frames) (hl : W + (maxL + 11) + rm.locals ≤ R.locals) (eT : T.heap = h) {g : JFrame} (hg : g.method = m) (hsize : g.locals.size = c.maxLocals) {ps : List FieldType} {r : Option FieldType} (hpd : parseMethodDescriptor y.desc = some ⟨ps, r⟩) (hlen : argsL.length = ps.length)
    (hstack : g.stack = argsL.reverse ++ rest) (hW : 2 * g.monitorRoom + (rest.map fun v => v.category).sum ≤ W) (hdg : decode c.code g.pc = .ok (.invokestatic index, 3)) (hc : cells + rm.cells ≤ R.cells) (hs : slots + rm.slots ≤ R.slots) :
    ∃ v T' L, Stand p l e R s m args below meth c T' (locs ++ L) (cells + rm.cells) (slots + rm.slots) ∧ Q v T'.heap L ∧ ∀ t, Steps p.tables e below (T'.setTop { g with pc := g.pc + 3, stack := v.toList ++ rest }) t → Steps p.tables e below (T.setTop g) t := by
  obtain ⟨v, _, ⟨T', L', k', n'⟩, -, X', ⟨L, hQ, l1, y1, z1⟩, st⟩ := Jvm.LawKit.callS X hx (y := y) hown (mvT hZ wl) (mvT hZ wst) (mvT hZ wz) (mvT hZ wc) hy (backOf (W := W) hM hZ wc wz hf hl) hg hsize (lenOf hpd hlen) hstack hW hdg (fun _ _ => ⟨rfl, eT, hc, hs⟩)
  dsimp only [Pt.U, Pt.locs, Pt.cells, Pt.slots] at X' l1 y1 z1 st hQ
  subst l1 y1 z1
  exact ⟨v, T', L, X', hQ, st⟩
theorem own_callI (X : Stand p l e R s m args below meth c T locs cells slots) (hx : p.tables.exec = Jvm.exec) (hZ : Z.Warmed39 s.vm) {own : String} {index : Nat} {y : MethodName} {bytes : ByteArray} {maxL : Nat} {rm : Room} {Q : Option Value → Heap → List Loc → Prop} {a : Addr} {argsL rest : List Value} (W : Nat)
    (hy1 : y.name = "<init>") (hown : s.vm.findClass own = some m.cls) (wl : (Jvm.Cond.methodLink own index y).before a0 Z = true) (wi : (Jvm.Cond.instanceMethod y).before a0 Z = true) (wz : (Jvm.Cond.initialized y.cls).before a0 Z = true) (wc : (Jvm.Cond.code y bytes maxL none).before a0 Z = true) (hy : y.cls ≠ "java/lang/invoke/MethodHandle" ∧ y.cls ≠ "java/lang/invoke/VarHandle")
    (hM : MetFree l y (head1 [Jvm.Cond.code y bytes maxL none] rm) (fun b U => b = (Value.ref a :: argsL).toArray ∧ Z.Warmed39 U.vm ∧ U.heap = h) (fun _ _ _ _ _ => True) (fun _ U o U' => ∃ v L, o = .returned v ∧ Q v U'.heap L ∧ FrameEnd U o U' L rm.cells rm.slots))
    (hf : rm.frames + 1 ≤ R.frames) (hl : W + (maxL + 11) + rm.locals ≤ R.locals) (eT : T.heap = h) {g : JFrame} (hg : g.method = m) (hsize : g.locals.size = c.maxLocals) {ps : List FieldType} {r : Option FieldType} (hpd : parseMethodDescriptor y.desc = some ⟨ps, r⟩) (hlen : argsL.length = ps.length)
    (hstack : g.stack = argsL.reverse ++ .ref a :: rest) (hW : 2 * g.monitorRoom + (rest.map fun v => v.category).sum ≤ W) (hdg : decode c.code g.pc = .ok (.invokespecial index, 3)) (hc : cells + rm.cells ≤ R.cells) (hs : slots + rm.slots ≤ R.slots) :
    ∃ v T' L, Stand p l e R s m args below meth c T' (locs ++ L) (cells + rm.cells) (slots + rm.slots) ∧ Q v T'.heap L ∧ ∀ t, Steps p.tables e below (T'.setTop { g with pc := g.pc + 3, stack := v.toList ++ rest }) t → Steps p.tables e below (T.setTop g) t := by
  obtain ⟨v, _, ⟨T', L', k', n'⟩, -, X', ⟨L, hQ, l1, y1, z1⟩, st⟩ := X.specialBack hx (y := y) hy1 hown (mvT hZ wl) (mvT hZ wi) (mvT hZ wc) hy (backOf (W := W) hM hZ wc wz hf hl) hg hsize (Steps.refl _) (a := a) (lenOf hpd hlen) hstack hW hdg (fun _ _ => ⟨rfl, eT, hc, hs⟩)
  dsimp only [Pt.U, Pt.locs, Pt.cells, Pt.slots] at X' l1 y1 z1 st hQ
  subst l1 y1 z1
  exact ⟨v, T', L, X', hQ, fun t k => st.trans k⟩
theorem own_callV (X : Stand p l e R s m args below meth c T locs cells slots) (hx : p.tables.exec = Jvm.exec) (hZ : Z.Warmed39 s.vm) {own C : String} {index : Nat} {y z : MethodName} {bytes : ByteArray} {maxL : Nat} {ret : Option FieldType} {rm : Room} {Q : Option Value → Heap → List Loc → Prop} {a : Addr} {argsL rest : List Value} (W : Nat)
    (hown : s.vm.findClass own = some m.cls) (wl : (Jvm.Cond.methodLink own index y).before a0 Z = true) (wd : (Jvm.Cond.declares y).before a0 Z = true) (hnf : NotFace s y) (wsel : (Jvm.Cond.selects C y z).before a0 Z = true) (wi : (Jvm.Cond.instanceMethod z).before a0 Z = true) (wz : (Jvm.Cond.initialized z.cls).before a0 Z = true) (wc : (Jvm.Cond.code z bytes maxL ret).before a0 Z = true) (hy : y.cls ≠ "java/lang/invoke/MethodHandle" ∧ y.cls ≠ "java/lang/invoke/VarHandle")
    (hM : MetFree l z (head1 [Jvm.Cond.code z bytes maxL ret] rm) (fun b U => b = (Value.ref a :: argsL).toArray ∧ Z.Warmed39 U.vm ∧ U.heap = h) (fun _ _ _ _ _ => True) (fun _ U o U' => ∃ v L, o = .returned v ∧ Q v U'.heap L ∧ FrameEnd U o U' L rm.cells rm.slots))
    (hf : rm.frames + 1 ≤ R.frames) (hl : W + (maxL + 11) + rm.locals ≤ R.locals) (eT : T.heap = h) (E : Exa Z h a C) {g : JFrame} (hg : g.method = m) (hsize : g.locals.size = c.maxLocals) {ps : List FieldType} {r : Option FieldType} (hpd : parseMethodDescriptor y.desc = some ⟨ps, r⟩) (hlen : argsL.length = ps.length)
    (hstack : g.stack = argsL.reverse ++ .ref a :: rest) (hW : 2 * g.monitorRoom + (rest.map fun v => v.category).sum ≤ W) (hdg : decode c.code g.pc = .ok (.invokevirtual index, 3)) (hc : cells + rm.cells ≤ R.cells) (hs : slots + rm.slots ≤ R.slots) :
    ∃ v T' L, Stand p l e R s m args below meth c T' (locs ++ L) (cells + rm.cells) (slots + rm.slots) ∧ Q v T'.heap L ∧ ∀ t, Steps p.tables e below (T'.setTop { g with pc := g.pc + 3, stack := v.toList ++ rest }) t → Steps p.tables e below (T.setTop g) t := by
  obtain ⟨cq, kq, qa, qb, qc⟩ := isOf hZ eT E
  obtain ⟨v, _, ⟨T', L', k', n'⟩, -, X', ⟨L, hQ, l1, y1, z1⟩, st⟩ := X.virtualBack hx (y := y) (z := z) hown (mvT hZ wl) (mvT hZ wd) hnf (mvT hZ wsel) (mvT hZ wi) hy (backOf (W := W) hM hZ wc wz hf hl) qa qc hg hsize (Steps.refl _) (lenOf hpd hlen) hstack hW hdg (fun _ _ => ⟨rfl, eT, hc, hs⟩)
  dsimp only [Pt.U, Pt.locs, Pt.cells, Pt.slots] at X' l1 y1 z1 st hQ
  subst l1 y1 z1
  exact ⟨v, T', L, X', hQ, fun t k => st.trans k⟩
theorem own_nf {y : MethodName} {C : String} (hZ : Z.Warmed39 s.vm) (w : (Jvm.Cond.selects C y y).before a0 Z = true) : NotFace s y := notFace_of_selects (args := #[]) (mvT hZ w)
theorem own_selP {y y0 : MethodName} {C : String} (hZ : Z.Warmed39 s.vm) (w0 : (Jvm.Cond.selects C y0 y0).before a0 Z = true) (hc : y0.cls = y.cls) (wp : (Jvm.Cond.privateMethod y).before a0 Z = true) (wi : (Jvm.Cond.instanceMethod y).before a0 Z = true) (hy : y.cls ≠ "java/lang/invoke/MethodHandle" ∧ y.cls ≠ "java/lang/invoke/VarHandle") :
    (Jvm.Cond.selects y.cls y y).before args s = true := by
  obtain ⟨c2, r2, m2, q1, q2, q3, q4, kP, hkP, hkPi⟩ := Cond.selects_spec (mvT (args := args) hZ w0)
  exact selects_self_of_private (hc ▸ findClass_of_methodNamed q3) hkP hkPi (Cond.privateMethod_at (mvP hZ wp (args := #[]))) (mvT hZ wi) hy
theorem own_callP (X : Stand p l e R s m args below meth c T locs cells slots) (hx : p.tables.exec = Jvm.exec) (hZ : Z.Warmed39 s.vm) {own C C0 : String} {index : Nat} {y y0 : MethodName} {bytes : ByteArray} {maxL : Nat} {ret : Option FieldType} {rm : Room} {Q : Option Value → Heap → List Loc → Prop} {a : Addr} {argsL rest : List Value} (W : Nat)
    (hown : s.vm.findClass own = some m.cls) (wl : (Jvm.Cond.methodLink own index y).before a0 Z = true) (w0 : (Jvm.Cond.selects C0 y0 y0).before a0 Z = true) (hc0 : y0.cls = y.cls) (wp : (Jvm.Cond.privateMethod y).before a0 Z = true) (wi : (Jvm.Cond.instanceMethod y).before a0 Z = true) (wz : (Jvm.Cond.initialized y.cls).before a0 Z = true) (wc : (Jvm.Cond.code y bytes maxL ret).before a0 Z = true) (hy : y.cls ≠ "java/lang/invoke/MethodHandle" ∧ y.cls ≠ "java/lang/invoke/VarHandle")
    (hM : MetFree l y (head1 [Jvm.Cond.code y bytes maxL ret] rm) (fun b U => b = (Value.ref a :: argsL).toArray ∧ Z.Warmed39 U.vm ∧ U.heap = h) (fun _ _ _ _ _ => True) (fun _ U o U' => ∃ v L, o = .returned v ∧ Q v U'.heap L ∧ FrameEnd U o U' L rm.cells rm.slots))
    (hf : rm.frames + 1 ≤ R.frames) (hl : W + (maxL + 11) + rm.locals ≤ R.locals) (eT : T.heap = h) (E : Exa Z h a C) {g : JFrame} (hg : g.method = m) (hsize : g.locals.size = c.maxLocals) {ps : List FieldType} {r : Option FieldType} (hpd : parseMethodDescriptor y.desc = some ⟨ps, r⟩) (hlen : argsL.length = ps.length)
    (hstack : g.stack = argsL.reverse ++ .ref a :: rest) (hW : 2 * g.monitorRoom + (rest.map fun v => v.category).sum ≤ W) (hdg : decode c.code g.pc = .ok (.invokevirtual index, 3)) (hc : cells + rm.cells ≤ R.cells) (hs : slots + rm.slots ≤ R.slots) :
    ∃ v T' L, Stand p l e R s m args below meth c T' (locs ++ L) (cells + rm.cells) (slots + rm.slots) ∧ Q v T'.heap L ∧ ∀ t, Steps p.tables e below (T'.setTop { g with pc := g.pc + 3, stack := v.toList ++ rest }) t → Steps p.tables e below (T.setTop g) t := by
  obtain ⟨cq, q1, q2⟩ := E.cell
  obtain ⟨v, _, ⟨T', L', k', n'⟩, -, X', ⟨L, hQ, l1, y1, z1⟩, st⟩ := X.privateBack hx (y := y) hown (mvT hZ wl) (mvT hZ wi) (own_selP hZ w0 hc0 wp wi hy) (Cond.privateMethod_at (mvP hZ wp (args := #[]))) (mvT hZ wc) hy (backOf (W := W) hM hZ wc wz hf hl) hg hsize (Steps.refl _) (a := a) (by rw [eT]; exact q1) q2 (lenOf hpd hlen) hstack hW hdg (fun _ _ => ⟨rfl, eT, hc, hs⟩)
  dsimp only [Pt.U, Pt.locs, Pt.cells, Pt.slots] at X' l1 y1 z1 st hQ
  subst l1 y1 z1
  exact ⟨v, T', L, X', hQ, fun t k => st.trans k⟩
theorem own_callF (X : Stand p l e R s m args below meth c T locs cells slots) (hx : p.tables.exec = Jvm.exec) (hZ : Z.Warmed39 s.vm) {own C : String} {index count : Nat} {xi y : MethodName} {bytes : ByteArray} {maxL : Nat} {ret : Option FieldType} {rm : Room} {Q : Option Value → Heap → List Loc → Prop} {a : Addr} {argsL rest : List Value} (W : Nat)
    (hown : s.vm.findClass own = some m.cls) (wl : (Jvm.Cond.methodLink own index xi).before a0 Z = true) (wd : (Jvm.Cond.declares xi).before a0 Z = true) (wf : (Jvm.Cond.interfaceMethod xi.cls xi.cls xi.name xi.desc).before args s = true) (wsel : (Jvm.Cond.selects C xi y).before a0 Z = true) (wi : (Jvm.Cond.instanceMethod y).before a0 Z = true) (wp : (Jvm.Cond.publicMethod y).before a0 Z = true) (wu : (Jvm.Cond.unhidden C xi.name xi.desc).before a0 Z = true) (wk : (Jvm.Cond.castable C xi.cls).before a0 Z = true) (wz : (Jvm.Cond.initialized y.cls).before a0 Z = true) (wc : (Jvm.Cond.code y bytes maxL ret).before a0 Z = true) (hy : xi.cls ≠ "java/lang/invoke/MethodHandle" ∧ xi.cls ≠ "java/lang/invoke/VarHandle")
    (hM : MetFree l y (head1 [Jvm.Cond.code y bytes maxL ret] rm) (fun b U => b = (Value.ref a :: argsL).toArray ∧ Z.Warmed39 U.vm ∧ U.heap = h) (fun _ _ _ _ _ => True) (fun _ U o U' => ∃ v L, o = .returned v ∧ Q v U'.heap L ∧ FrameEnd U o U' L rm.cells rm.slots))
    (hf : rm.frames + 1 ≤ R.frames) (hl : W + (maxL + 11) + rm.locals ≤ R.locals) (eT : T.heap = h) (E : Exa Z h a C) {g : JFrame} (hg : g.method = m) (hsize : g.locals.size = c.maxLocals) {ps : List FieldType} {r : Option FieldType} (hpd : parseMethodDescriptor xi.desc = some ⟨ps, r⟩) (hlen : argsL.length = ps.length)
    (hstack : g.stack = argsL.reverse ++ .ref a :: rest) (hW : 2 * g.monitorRoom + (rest.map fun v => v.category).sum ≤ W) (hdg : decode c.code g.pc = .ok (.invokeinterface index count, 5)) (hc : cells + rm.cells ≤ R.cells) (hs : slots + rm.slots ≤ R.slots) :
    ∃ v T' L, Stand p l e R s m args below meth c T' (locs ++ L) (cells + rm.cells) (slots + rm.slots) ∧ Q v T'.heap L ∧ ∀ t, Steps p.tables e below (T'.setTop { g with pc := g.pc + 5, stack := v.toList ++ rest }) t → Steps p.tables e below (T.setTop g) t := by
  obtain ⟨cq, kq, qa, qb, qc⟩ := isOf hZ eT E
  obtain ⟨v, _, ⟨T', L', k', n'⟩, -, X', ⟨L, hQ, l1, y1, z1⟩, st⟩ := X.interfaceBack hx (xi := xi) (y := y) hown (mvT hZ wl) (mvT hZ wd) wf (mvT hZ wsel) (mvT hZ wi) (mvT hZ wp) (mvT hZ wu) (mvT hZ wk) hy (backOf (W := W) hM hZ wc wz hf hl) qa qb qc hg hsize (Steps.refl _) (lenOf hpd hlen) hstack hW hdg (fun _ _ => ⟨rfl, eT, hc, hs⟩)
  dsimp only [Pt.U, Pt.locs, Pt.cells, Pt.slots] at X' l1 y1 z1 st hQ
  subst l1 y1 z1
  exact ⟨v, T', L, X', hQ, fun t k => st.trans k⟩
/-- a truth as Java's int -/
def own_b (P : Prop) [Decidable P] : Int32 := if P then 1 else 0
theorem own_b1 {P : Prop} [Decidable P] (h : P) : own_b P = 1 := if_pos h
theorem own_b0 {P : Prop} [Decidable P] (h : ¬ P) : own_b P = 0 := if_neg h
theorem own_b01 (P : Prop) [Decidable P] : own_b P = 0 ∨ own_b P = 1 := by
  by_cases h : P
  · exact Or.inr (own_b1 h)
  · exact Or.inl (own_b0 h)
theorem own_bn {P : Prop} [Decidable P] (h : P) : ¬ own_b P = 0 := by rw [own_b1 h]; decide
theorem own_narZ {z : Int32} (h : z = 0 ∨ z = 1) : narrow .boolean (.int z) = .int z := by rcases h with rfl | rfl <;> rfl
theorem own_fitZ {z : Int32} (h : z = 0 ∨ z = 1) : fits .boolean (.int z) = true := by rcases h with rfl | rfl <;> rfl
end OwnKit
def own_tot (ss cm : Int32) : Int32 := if ss = (0 : Int32) then cm else if (0 : Int32) < cm then cm + (2 : Int32) else cm
theorem own_pn0 : plainFor (⟨"com/example/quorumproof/quorumproof/proof/Client", "<init>", "(IIZ)V"⟩ : MethodName) = true := plainFor_of_name (by first | (simp [plainName, overriddenIn]; done) | decide +kernel)
theorem dd_prog_37m1_0 : decode prog_37_method_1_code 0 = .ok (.aload_n 0, 1) := by decide +kernel
theorem dd_prog_37m1_1 : decode prog_37_method_1_code 1 = .ok (.invokespecial 1, 3) := by decide +kernel
theorem dd_prog_37m1_4 : decode prog_37_method_1_code 4 = .ok (.aload_n 0, 1) := by decide +kernel
theorem dd_prog_37m1_5 : decode prog_37_method_1_code 5 = .ok (.iconst 1, 1) := by decide +kernel
theorem dd_prog_37m1_6 : decode prog_37_method_1_code 6 = .ok (.putfield 7, 3) := by decide +kernel
theorem dd_prog_37m1_9 : decode prog_37_method_1_code 9 = .ok (.aload_n 0, 1) := by decide +kernel
theorem dd_prog_37m1_10 : decode prog_37_method_1_code 10 = .ok (.ldc2_w 15, 3) := by decide +kernel
theorem dd_prog_37m1_13 : decode prog_37_method_1_code 13 = .ok (.putfield 17, 3) := by decide +kernel
theorem dd_prog_37m1_16 : decode prog_37_method_1_code 16 = .ok (.aload_n 0, 1) := by decide +kernel
theorem dd_prog_37m1_17 : decode prog_37_method_1_code 17 = .ok (.iload_n 1, 1) := by decide +kernel
theorem dd_prog_37m1_18 : decode prog_37_method_1_code 18 = .ok (.putfield 21, 3) := by decide +kernel
theorem dd_prog_37m1_21 : decode prog_37_method_1_code 21 = .ok (.aload_n 0, 1) := by decide +kernel
theorem dd_prog_37m1_22 : decode prog_37_method_1_code 22 = .ok (.iload_n 2, 1) := by decide +kernel
theorem dd_prog_37m1_23 : decode prog_37_method_1_code 23 = .ok (.putfield 24, 3) := by decide +kernel
theorem dd_prog_37m1_26 : decode prog_37_method_1_code 26 = .ok (.aload_n 0, 1) := by decide +kernel
theorem dd_prog_37m1_27 : decode prog_37_method_1_code 27 = .ok (.iload_n 3, 1) := by decide +kernel
theorem dd_prog_37m1_28 : decode prog_37_method_1_code 28 = .ok (.putfield 27, 3) := by decide +kernel
theorem dd_prog_37m1_31 : decode prog_37_method_1_code 31 = .ok (.return_, 1) := by decide +kernel
theorem ef_own_ini (m : MethodId) (z0 : Addr) (z1 : Int32) (z2 : Int32) (z3 : Int32) : entryFrame m #[(.ref z0), (.int z1), (.int z2), (.int z3)] 4 = mkF m 0 #[.val (.ref z0), .val (.int z1), .val (.int z2), .val (.int z3)] [] := by first | (simp [entryFrame, mkF, argsToLocals, Value.category]; done) | rfl
def Q_own_ini (Z : State) (a : Addr) (cm : Int32) (sv : Int32) (ss : Int32) (h0 : Heap) (n0 : Nat) (zv : Option Value) (zh : Heap) (zL : List Loc) : Prop := zv = none ∧ Fr n0 zL ∧ Keep h0 zh [a] ∧ Fld Z zh a "com/example/quorumproof/quorumproof/proof/Client" "target" "I" (.int (1 : Int32)) ∧ Fld Z zh a "com/example/quorumproof/quorumproof/proof/Client" "retryAt" "J" (.long (9223372036854775807 : Int64)) ∧ Fld Z zh a "com/example/quorumproof/quorumproof/proof/Client" "commands" "I" (.int cm) ∧ Fld Z zh a "com/example/quorumproof/quorumproof/proof/Client" "servers" "I" (.int sv) ∧ Fld Z zh a "com/example/quorumproof/quorumproof/proof/Client" "sessions" "Z" (.int ss) ∧ Fld Z zh a "com/example/quorumproof/quorumproof/proof/Client" "attempt" "I" (.int (0 : Int32)) ∧ Fld Z zh a "com/example/quorumproof/quorumproof/proof/Client" "call" "I" (.int (0 : Int32))
set_option maxRecDepth 65536 in
set_option maxHeartbeats 40000000 in
theorem own_ini (l : Launch) (Z : State) (a0 : Array Value) (hw : ∀ d ∈ tables_1, d.before a0 Z = true) (ws : List Jvm.Cond) (a : Addr) (cm : Int32) (sv : Int32) (ss : Int32) (h0 : Heap) (n0 : Nat) (Z0 : n0 ≤ h0.size) (p0_ : Exa Z h0 a "com/example/quorumproof/quorumproof/proof/Client") (p1_ : Fld Z h0 a "com/example/quorumproof/quorumproof/proof/Client" "target" "I" (.int (0 : Int32))) (p2_ : Fld Z h0 a "com/example/quorumproof/quorumproof/proof/Client" "retryAt" "J" (.long (0 : Int64))) (p3_ : Fld Z h0 a "com/example/quorumproof/quorumproof/proof/Client" "commands" "I" (.int (0 : Int32))) (p4_ : Fld Z h0 a "com/example/quorumproof/quorumproof/proof/Client" "servers" "I" (.int (0 : Int32))) (p5_ : Fld Z h0 a "com/example/quorumproof/quorumproof/proof/Client" "sessions" "Z" (.int (0 : Int32))) (p6_ : Fld Z h0 a "com/example/quorumproof/quorumproof/proof/Client" "attempt" "I" (.int (0 : Int32))) (p7_ : Fld Z h0 a "com/example/quorumproof/quorumproof/proof/Client" "call" "I" (.int (0 : Int32))) (p8_ : n0 ≤ a) (p9_ : ss = 0 ∨ ss = 1) :
    MetFree l (⟨"com/example/quorumproof/quorumproof/proof/Client", "<init>", "(IIZ)V"⟩ : MethodName) (head1 (Jvm.Cond.code (⟨"com/example/quorumproof/quorumproof/proof/Client", "<init>", "(IIZ)V"⟩ : MethodName) prog_37_method_1_code 4 none :: ws) ({ frames := 1, cells := 0, slots := 0, locals := 12 } : Room)) (fun za zU => za = #[(.ref a), (.int cm), (.int sv), (.int ss)] ∧ Z.Warmed39 zU.vm ∧ zU.heap = h0) (fun _ _ _ _ _ => True) (fun _ zU zo zU' => ∃ zv zL, zo = .returned zv ∧ Q_own_ini Z a cm sv ss h0 n0 zv zU'.heap zL ∧ FrameEnd zU zo zU' zL ({ frames := 1, cells := 0, slots := 0, locals := 12 } : Room).cells ({ frames := 1, cells := 0, slots := 0, locals := 12 } : Room).slots) := by
  refine own_met (y := (⟨"com/example/quorumproof/quorumproof/proof/Client", "<init>", "(IIZ)V"⟩ : MethodName)) own_pn0 ?_
  intro p e s m below meth c T0 hx hby hml hown hnm hret hlk hZ e0 X0
  have N0 := Fr.nil n0
  refine own_st (fun zt zk => castTop (ef_own_ini m a cm sv ss) zk) ?_
  show own_G p e below s _ _ _ (T0.setTop (mkF m 0 #[.val (.ref a), .val (.int cm), .val (.int sv), .val (.int ss)] []))
  refine own_st (fun zt zk => XS.aloadN X0.here hx rfl (hb hby dd_prog_37m1_0) rfl rfl zk) ?_
  show own_G p e below s _ _ _ (T0.setTop (mkF m 1 #[.val (.ref a), .val (.int cm), .val (.int sv), .val (.int ss)] [(.ref a)]))
  obtain ⟨T1, X1, e1, st1⟩ := initO X0 hx hZ hown (hw _ (List.mem_of_getElem? (i := 7) rfl)) (hw _ (List.mem_of_getElem? (i := 8) rfl)) (hw _ (List.mem_of_getElem? (i := 9) rfl)) e0 (g := (mkF m 1 #[.val (.ref a), .val (.int cm), .val (.int sv), .val (.int ss)] [(.ref a)])) rfl (by rw [hml]; rfl) rfl (hb hby dd_prog_37m1_1) (by decide) (W := 0) (by show 2 * 0 + _ ≤ _; exact Nat.le_of_eq rfl) (by decide)
  refine own_st st1 ?_
  show own_G p e below s _ _ _ (T1.setTop (mkF m 4 #[.val (.ref a), .val (.int cm), .val (.int sv), .val (.int ss)] []))
  refine own_st (fun zt zk => XS.aloadN X1.here hx rfl (hb hby dd_prog_37m1_4) rfl rfl zk) ?_
  show own_G p e below s _ _ _ (T1.setTop (mkF m 5 #[.val (.ref a), .val (.int cm), .val (.int sv), .val (.int ss)] [(.ref a)]))
  refine own_st (fun zt zk => XS.iconst X1.here hx rfl (hb hby dd_prog_37m1_5) zk) ?_
  show own_G p e below s _ _ _ (T1.setTop (mkF m 6 #[.val (.ref a), .val (.int cm), .val (.int sv), .val (.int ss)] [(.int (1 : Int32)), (.ref a)]))
  obtain ⟨T2, h2, X2, e2, W2, st2⟩ := putF X1 hx hZ hown (host := "") (Or.inl (hw _ (List.mem_of_getElem? (i := 10) rfl))) Via.refl e1 p1_ p0_ (Or.inl (hw _ (List.mem_of_getElem? (i := 11) rfl))) (hw _ (List.mem_of_getElem? (i := 1) rfl)) (ty := .int) (by decide) rfl rfl (g := (mkF m 6 #[.val (.ref a), .val (.int cm), .val (.int sv), .val (.int ss)] [(.int (1 : Int32)), (.ref a)])) rfl rfl (hb hby dd_prog_37m1_6)
  refine own_st st2 ?_
  have N2 := Fr.snoc X2 N0 p8_
  show own_G p e below s _ _ _ (T2.setTop (mkF m 9 #[.val (.ref a), .val (.int cm), .val (.int sv), .val (.int ss)] []))
  refine own_st (fun zt zk => XS.aloadN X2.here hx rfl (hb hby dd_prog_37m1_9) rfl rfl zk) ?_
  show own_G p e below s _ _ _ (T2.setTop (mkF m 10 #[.val (.ref a), .val (.int cm), .val (.int sv), .val (.int ss)] [(.ref a)]))
  refine own_st (X2.ldc2Long hx hown (mvT hZ (hw _ (List.mem_of_getElem? (i := 12) rfl))) (g := (mkF m 10 #[.val (.ref a), .val (.int cm), .val (.int sv), .val (.int ss)] [(.ref a)])) rfl (hb hby dd_prog_37m1_10)) ?_
  show own_G p e below s _ _ _ (T2.setTop (mkF m 13 #[.val (.ref a), .val (.int cm), .val (.int sv), .val (.int ss)] [(.long (9223372036854775807 : Int64)), (.ref a)]))
  have F3 : Fld Z h2 a "com/example/quorumproof/quorumproof/proof/Client" "retryAt" "J" (.long (0 : Int64)) := (Fld.other W2 p2_ (Or.inr (slot_ne (Or.inl (hw _ (List.mem_of_getElem? (i := 14) rfl))) (Or.inl (hw _ (List.mem_of_getElem? (i := 11) rfl))) (by decide) (t := .long) (t' := .int) (by decide) (by decide))))
  have E4 : Exa Z h2 a "com/example/quorumproof/quorumproof/proof/Client" := (p0_.wr W2)
  obtain ⟨T5, h5, X5, e5, W5, st5⟩ := putF X2 hx hZ hown (host := "") (Or.inl (hw _ (List.mem_of_getElem? (i := 13) rfl))) Via.refl e2 F3 E4 (Or.inl (hw _ (List.mem_of_getElem? (i := 14) rfl))) (hw _ (List.mem_of_getElem? (i := 1) rfl)) (ty := .long) (by decide) rfl rfl (g := (mkF m 13 #[.val (.ref a), .val (.int cm), .val (.int sv), .val (.int ss)] [(.long (9223372036854775807 : Int64)), (.ref a)])) rfl rfl (hb hby dd_prog_37m1_13)
  refine own_st st5 ?_
  have N5 := Fr.snoc X5 N2 p8_
  show own_G p e below s _ _ _ (T5.setTop (mkF m 16 #[.val (.ref a), .val (.int cm), .val (.int sv), .val (.int ss)] []))
  refine own_st (fun zt zk => XS.aloadN X5.here hx rfl (hb hby dd_prog_37m1_16) rfl rfl zk) ?_
  show own_G p e below s _ _ _ (T5.setTop (mkF m 17 #[.val (.ref a), .val (.int cm), .val (.int sv), .val (.int ss)] [(.ref a)]))
  refine own_st (fun zt zk => XS.iloadN X5.here hx rfl (hb hby dd_prog_37m1_17) rfl zk) ?_
  show own_G p e below s _ _ _ (T5.setTop (mkF m 18 #[.val (.ref a), .val (.int cm), .val (.int sv), .val (.int ss)] [(.int cm), (.ref a)]))
  have F6 : Fld Z h5 a "com/example/quorumproof/quorumproof/proof/Client" "commands" "I" (.int (0 : Int32)) := (Fld.other W5 (Fld.other W2 p3_ (Or.inr (slot_ne (Or.inr (hw _ (List.mem_of_getElem? (i := 16) rfl))) (Or.inl (hw _ (List.mem_of_getElem? (i := 11) rfl))) (by decide) (t := .int) (t' := .int) (by decide) (by decide)))) (Or.inr (slot_ne (Or.inr (hw _ (List.mem_of_getElem? (i := 16) rfl))) (Or.inl (hw _ (List.mem_of_getElem? (i := 14) rfl))) (by decide) (t := .int) (t' := .long) (by decide) (by decide))))
  have E7 : Exa Z h5 a "com/example/quorumproof/quorumproof/proof/Client" := (E4.wr W5)
  obtain ⟨T8, h8, X8, e8, W8, st8⟩ := putF X5 hx hZ hown (host := "") (Or.inl (hw _ (List.mem_of_getElem? (i := 15) rfl))) Via.refl e5 F6 E7 (Or.inr ⟨(hw _ (List.mem_of_getElem? (i := 16) rfl)), rfl, hnm⟩) (hw _ (List.mem_of_getElem? (i := 1) rfl)) (ty := .int) (by decide) rfl rfl (g := (mkF m 18 #[.val (.ref a), .val (.int cm), .val (.int sv), .val (.int ss)] [(.int cm), (.ref a)])) rfl rfl (hb hby dd_prog_37m1_18)
  refine own_st st8 ?_
  have N8 := Fr.snoc X8 N5 p8_
  show own_G p e below s _ _ _ (T8.setTop (mkF m 21 #[.val (.ref a), .val (.int cm), .val (.int sv), .val (.int ss)] []))
  refine own_st (fun zt zk => XS.aloadN X8.here hx rfl (hb hby dd_prog_37m1_21) rfl rfl zk) ?_
  show own_G p e below s _ _ _ (T8.setTop (mkF m 22 #[.val (.ref a), .val (.int cm), .val (.int sv), .val (.int ss)] [(.ref a)]))
  refine own_st (fun zt zk => XS.iloadN X8.here hx rfl (hb hby dd_prog_37m1_22) rfl zk) ?_
  show own_G p e below s _ _ _ (T8.setTop (mkF m 23 #[.val (.ref a), .val (.int cm), .val (.int sv), .val (.int ss)] [(.int sv), (.ref a)]))
  have F9 : Fld Z h8 a "com/example/quorumproof/quorumproof/proof/Client" "servers" "I" (.int (0 : Int32)) := (Fld.other W8 (Fld.other W5 (Fld.other W2 p4_ (Or.inr (slot_ne (Or.inr (hw _ (List.mem_of_getElem? (i := 18) rfl))) (Or.inl (hw _ (List.mem_of_getElem? (i := 11) rfl))) (by decide) (t := .int) (t' := .int) (by decide) (by decide)))) (Or.inr (slot_ne (Or.inr (hw _ (List.mem_of_getElem? (i := 18) rfl))) (Or.inl (hw _ (List.mem_of_getElem? (i := 14) rfl))) (by decide) (t := .int) (t' := .long) (by decide) (by decide)))) (Or.inr (slot_ne (Or.inr (hw _ (List.mem_of_getElem? (i := 18) rfl))) (Or.inr (hw _ (List.mem_of_getElem? (i := 16) rfl))) (by decide) (t := .int) (t' := .int) (by decide) (by decide))))
  have E10 : Exa Z h8 a "com/example/quorumproof/quorumproof/proof/Client" := (E7.wr W8)
  obtain ⟨T11, h11, X11, e11, W11, st11⟩ := putF X8 hx hZ hown (host := "") (Or.inl (hw _ (List.mem_of_getElem? (i := 17) rfl))) Via.refl e8 F9 E10 (Or.inr ⟨(hw _ (List.mem_of_getElem? (i := 18) rfl)), rfl, hnm⟩) (hw _ (List.mem_of_getElem? (i := 1) rfl)) (ty := .int) (by decide) rfl rfl (g := (mkF m 23 #[.val (.ref a), .val (.int cm), .val (.int sv), .val (.int ss)] [(.int sv), (.ref a)])) rfl rfl (hb hby dd_prog_37m1_23)
  refine own_st st11 ?_
  have N11 := Fr.snoc X11 N8 p8_
  show own_G p e below s _ _ _ (T11.setTop (mkF m 26 #[.val (.ref a), .val (.int cm), .val (.int sv), .val (.int ss)] []))
  refine own_st (fun zt zk => XS.aloadN X11.here hx rfl (hb hby dd_prog_37m1_26) rfl rfl zk) ?_
  show own_G p e below s _ _ _ (T11.setTop (mkF m 27 #[.val (.ref a), .val (.int cm), .val (.int sv), .val (.int ss)] [(.ref a)]))
  refine own_st (fun zt zk => XS.iloadN X11.here hx rfl (hb hby dd_prog_37m1_27) rfl zk) ?_
  show own_G p e below s _ _ _ (T11.setTop (mkF m 28 #[.val (.ref a), .val (.int cm), .val (.int sv), .val (.int ss)] [(.int ss), (.ref a)]))
  have F12 : Fld Z h11 a "com/example/quorumproof/quorumproof/proof/Client" "sessions" "Z" (.int (0 : Int32)) := (Fld.other W11 (Fld.other W8 (Fld.other W5 (Fld.other W2 p5_ (Or.inr (slot_ne (Or.inr (hw _ (List.mem_of_getElem? (i := 20) rfl))) (Or.inl (hw _ (List.mem_of_getElem? (i := 11) rfl))) (by decide) (t := .boolean) (t' := .int) (by decide) (by decide)))) (Or.inr (slot_ne (Or.inr (hw _ (List.mem_of_getElem? (i := 20) rfl))) (Or.inl (hw _ (List.mem_of_getElem? (i := 14) rfl))) (by decide) (t := .boolean) (t' := .long) (by decide) (by decide)))) (Or.inr (slot_ne (Or.inr (hw _ (List.mem_of_getElem? (i := 20) rfl))) (Or.inr (hw _ (List.mem_of_getElem? (i := 16) rfl))) (by decide) (t := .boolean) (t' := .int) (by decide) (by decide)))) (Or.inr (slot_ne (Or.inr (hw _ (List.mem_of_getElem? (i := 20) rfl))) (Or.inr (hw _ (List.mem_of_getElem? (i := 18) rfl))) (by decide) (t := .boolean) (t' := .int) (by decide) (by decide))))
  have E13 : Exa Z h11 a "com/example/quorumproof/quorumproof/proof/Client" := (E10.wr W11)
  obtain ⟨T14, h14, X14, e14, W14, st14⟩ := putF X11 hx hZ hown (host := "") (Or.inl (hw _ (List.mem_of_getElem? (i := 19) rfl))) Via.refl e11 F12 E13 (Or.inr ⟨(hw _ (List.mem_of_getElem? (i := 20) rfl)), rfl, hnm⟩) (hw _ (List.mem_of_getElem? (i := 1) rfl)) (ty := .boolean) (by decide) (own_narZ p9_) (own_fitZ p9_) (g := (mkF m 28 #[.val (.ref a), .val (.int cm), .val (.int sv), .val (.int ss)] [(.int ss), (.ref a)])) rfl rfl (hb hby dd_prog_37m1_28)
  refine own_st st14 ?_
  have N14 := Fr.snoc X14 N11 p8_
  show own_G p e below s _ _ _ (T14.setTop (mkF m 31 #[.val (.ref a), .val (.int cm), .val (.int sv), .val (.int ss)] []))
  have F15 : Fld Z h14 a "com/example/quorumproof/quorumproof/proof/Client" "target" "I" (.int (1 : Int32)) := (Fld.other W14 (Fld.other W11 (Fld.other W8 (Fld.other W5 (Fld.same W2 p1_) (Or.inr (slot_ne (Or.inl (hw _ (List.mem_of_getElem? (i := 11) rfl))) (Or.inl (hw _ (List.mem_of_getElem? (i := 14) rfl))) (by decide) (t := .int) (t' := .long) (by decide) (by decide)))) (Or.inr (slot_ne (Or.inl (hw _ (List.mem_of_getElem? (i := 11) rfl))) (Or.inr (hw _ (List.mem_of_getElem? (i := 16) rfl))) (by decide) (t := .int) (t' := .int) (by decide) (by decide)))) (Or.inr (slot_ne (Or.inl (hw _ (List.mem_of_getElem? (i := 11) rfl))) (Or.inr (hw _ (List.mem_of_getElem? (i := 18) rfl))) (by decide) (t := .int) (t' := .int) (by decide) (by decide)))) (Or.inr (slot_ne (Or.inl (hw _ (List.mem_of_getElem? (i := 11) rfl))) (Or.inr (hw _ (List.mem_of_getElem? (i := 20) rfl))) (by decide) (t := .int) (t' := .boolean) (by decide) (by decide))))
  have F16 : Fld Z h14 a "com/example/quorumproof/quorumproof/proof/Client" "retryAt" "J" (.long (9223372036854775807 : Int64)) := (Fld.other W14 (Fld.other W11 (Fld.other W8 (Fld.same W5 F3) (Or.inr (slot_ne (Or.inl (hw _ (List.mem_of_getElem? (i := 14) rfl))) (Or.inr (hw _ (List.mem_of_getElem? (i := 16) rfl))) (by decide) (t := .long) (t' := .int) (by decide) (by decide)))) (Or.inr (slot_ne (Or.inl (hw _ (List.mem_of_getElem? (i := 14) rfl))) (Or.inr (hw _ (List.mem_of_getElem? (i := 18) rfl))) (by decide) (t := .long) (t' := .int) (by decide) (by decide)))) (Or.inr (slot_ne (Or.inl (hw _ (List.mem_of_getElem? (i := 14) rfl))) (Or.inr (hw _ (List.mem_of_getElem? (i := 20) rfl))) (by decide) (t := .long) (t' := .boolean) (by decide) (by decide))))
  have F17 : Fld Z h14 a "com/example/quorumproof/quorumproof/proof/Client" "commands" "I" (.int cm) := (Fld.other W14 (Fld.other W11 (Fld.same W8 F6) (Or.inr (slot_ne (Or.inr (hw _ (List.mem_of_getElem? (i := 16) rfl))) (Or.inr (hw _ (List.mem_of_getElem? (i := 18) rfl))) (by decide) (t := .int) (t' := .int) (by decide) (by decide)))) (Or.inr (slot_ne (Or.inr (hw _ (List.mem_of_getElem? (i := 16) rfl))) (Or.inr (hw _ (List.mem_of_getElem? (i := 20) rfl))) (by decide) (t := .int) (t' := .boolean) (by decide) (by decide))))
  have F18 : Fld Z h14 a "com/example/quorumproof/quorumproof/proof/Client" "servers" "I" (.int sv) := (Fld.other W14 (Fld.same W11 F9) (Or.inr (slot_ne (Or.inr (hw _ (List.mem_of_getElem? (i := 18) rfl))) (Or.inr (hw _ (List.mem_of_getElem? (i := 20) rfl))) (by decide) (t := .int) (t' := .boolean) (by decide) (by decide))))
  have F19 : Fld Z h14 a "com/example/quorumproof/quorumproof/proof/Client" "sessions" "Z" (.int ss) := (Fld.same W14 F12)
  have F20 : Fld Z h14 a "com/example/quorumproof/quorumproof/proof/Client" "attempt" "I" (.int (0 : Int32)) := (Fld.other W14 (Fld.other W11 (Fld.other W8 (Fld.other W5 (Fld.other W2 p6_ (Or.inr (slot_ne (Or.inl (hw _ (List.mem_of_getElem? (i := 34) rfl))) (Or.inl (hw _ (List.mem_of_getElem? (i := 11) rfl))) (by decide) (t := .int) (t' := .int) (by decide) (by decide)))) (Or.inr (slot_ne (Or.inl (hw _ (List.mem_of_getElem? (i := 34) rfl))) (Or.inl (hw _ (List.mem_of_getElem? (i := 14) rfl))) (by decide) (t := .int) (t' := .long) (by decide) (by decide)))) (Or.inr (slot_ne (Or.inl (hw _ (List.mem_of_getElem? (i := 34) rfl))) (Or.inr (hw _ (List.mem_of_getElem? (i := 16) rfl))) (by decide) (t := .int) (t' := .int) (by decide) (by decide)))) (Or.inr (slot_ne (Or.inl (hw _ (List.mem_of_getElem? (i := 34) rfl))) (Or.inr (hw _ (List.mem_of_getElem? (i := 18) rfl))) (by decide) (t := .int) (t' := .int) (by decide) (by decide)))) (Or.inr (slot_ne (Or.inl (hw _ (List.mem_of_getElem? (i := 34) rfl))) (Or.inr (hw _ (List.mem_of_getElem? (i := 20) rfl))) (by decide) (t := .int) (t' := .boolean) (by decide) (by decide))))
  have F21 : Fld Z h14 a "com/example/quorumproof/quorumproof/proof/Client" "call" "I" (.int (0 : Int32)) := (Fld.other W14 (Fld.other W11 (Fld.other W8 (Fld.other W5 (Fld.other W2 p7_ (Or.inr (slot_ne (Or.inl (hw _ (List.mem_of_getElem? (i := 27) rfl))) (Or.inl (hw _ (List.mem_of_getElem? (i := 11) rfl))) (by decide) (t := .int) (t' := .int) (by decide) (by decide)))) (Or.inr (slot_ne (Or.inl (hw _ (List.mem_of_getElem? (i := 27) rfl))) (Or.inl (hw _ (List.mem_of_getElem? (i := 14) rfl))) (by decide) (t := .int) (t' := .long) (by decide) (by decide)))) (Or.inr (slot_ne (Or.inl (hw _ (List.mem_of_getElem? (i := 27) rfl))) (Or.inr (hw _ (List.mem_of_getElem? (i := 16) rfl))) (by decide) (t := .int) (t' := .int) (by decide) (by decide)))) (Or.inr (slot_ne (Or.inl (hw _ (List.mem_of_getElem? (i := 27) rfl))) (Or.inr (hw _ (List.mem_of_getElem? (i := 18) rfl))) (by decide) (t := .int) (t' := .int) (by decide) (by decide)))) (Or.inr (slot_ne (Or.inl (hw _ (List.mem_of_getElem? (i := 27) rfl))) (Or.inr (hw _ (List.mem_of_getElem? (i := 20) rfl))) (by decide) (t := .int) (t' := .boolean) (by decide) (by decide))))
  refine own_retV X14 hx hlk hret (hb hby dd_prog_37m1_31) (by decide) (by decide) ?_
  show Q_own_ini Z a cm sv ss h0 n0 none T14.heap _
  rw [e14]
  exact ⟨rfl, N14, ((((((Keep.refl _ _).wr W2 (Or.inl (List.mem_of_getElem? (i := 0) rfl))).wr W5 (Or.inl (List.mem_of_getElem? (i := 0) rfl))).wr W8 (Or.inl (List.mem_of_getElem? (i := 0) rfl))).wr W11 (Or.inl (List.mem_of_getElem? (i := 0) rfl))).wr W14 (Or.inl (List.mem_of_getElem? (i := 0) rfl))), F15, F16, F17, F18, F19, F20, F21⟩
theorem own_pn1 : plainFor (⟨"com/example/quorumproof/quorumproof/proof/Client", "target", "()I"⟩ : MethodName) = true := plainFor_of_name (by first | (simp [plainName, overriddenIn]; done) | decide +kernel)
theorem dd_prog_37m4_0 : decode prog_37_method_4_code 0 = .ok (.aload_n 0, 1) := by decide +kernel
theorem dd_prog_37m4_1 : decode prog_37_method_4_code 1 = .ok (.getfield 7, 3) := by decide +kernel
theorem dd_prog_37m4_4 : decode prog_37_method_4_code 4 = .ok (.ireturn, 1) := by decide +kernel
theorem ef_own_g_target (m : MethodId) (z0 : Addr) : entryFrame m #[(.ref z0)] 1 = mkF m 0 #[.val (.ref z0)] [] := by first | (simp [entryFrame, mkF, argsToLocals, Value.category]; done) | rfl
def Q_own_g_target (Z : State) (a : Addr) (tg : Int32) (h0 : Heap) (n0 : Nat) (zv : Option Value) (zh : Heap) (zL : List Loc) : Prop := zv = some (.int tg) ∧ Fr n0 zL ∧ zh = h0
set_option maxRecDepth 65536 in
set_option maxHeartbeats 40000000 in
theorem own_g_target (l : Launch) (Z : State) (a0 : Array Value) (hw : ∀ d ∈ tables_1, d.before a0 Z = true) (ws : List Jvm.Cond) (a : Addr) (tg : Int32) (h0 : Heap) (n0 : Nat) (Z0 : n0 ≤ h0.size) (p0_ : Fld Z h0 a "com/example/quorumproof/quorumproof/proof/Client" "target" "I" (.int tg)) :
    MetFree l (⟨"com/example/quorumproof/quorumproof/proof/Client", "target", "()I"⟩ : MethodName) (head1 (Jvm.Cond.code (⟨"com/example/quorumproof/quorumproof/proof/Client", "target", "()I"⟩ : MethodName) prog_37_method_4_code 1 (some .int) :: ws) ({ frames := 0, cells := 0, slots := 0, locals := 0 } : Room)) (fun za zU => za = #[(.ref a)] ∧ Z.Warmed39 zU.vm ∧ zU.heap = h0) (fun _ _ _ _ _ => True) (fun _ zU zo zU' => ∃ zv zL, zo = .returned zv ∧ Q_own_g_target Z a tg h0 n0 zv zU'.heap zL ∧ FrameEnd zU zo zU' zL ({ frames := 0, cells := 0, slots := 0, locals := 0 } : Room).cells ({ frames := 0, cells := 0, slots := 0, locals := 0 } : Room).slots) := by
  refine own_met (y := (⟨"com/example/quorumproof/quorumproof/proof/Client", "target", "()I"⟩ : MethodName)) own_pn1 ?_
  intro p e s m below meth c T0 hx hby hml hown hnm hret hlk hZ e0 X0
  have N0 := Fr.nil n0
  refine own_st (fun zt zk => castTop (ef_own_g_target m a) zk) ?_
  show own_G p e below s _ _ _ (T0.setTop (mkF m 0 #[.val (.ref a)] []))
  refine own_st (fun zt zk => XS.aloadN X0.here hx rfl (hb hby dd_prog_37m4_0) rfl rfl zk) ?_
  show own_G p e below s _ _ _ (T0.setTop (mkF m 1 #[.val (.ref a)] [(.ref a)]))
  obtain ⟨T1, X1, e1, st1⟩ := getF X0 hx hZ hown (host := "") (Or.inl (hw _ (List.mem_of_getElem? (i := 10) rfl))) Via.refl e0 p0_ (g := (mkF m 1 #[.val (.ref a)] [(.ref a)])) rfl rfl (hb hby dd_prog_37m4_1)
  refine own_st st1 ?_
  show own_G p e below s _ _ _ (T1.setTop (mkF m 4 #[.val (.ref a)] [(.int tg)]))
  refine own_retI X1 hx hlk hret (hb hby dd_prog_37m4_4) (by decide) (by decide) ?_
  show Q_own_g_target Z a tg h0 n0 (some (.int tg)) T1.heap _
  rw [e1]
  exact ⟨rfl, N0, rfl⟩
theorem own_pn2 : plainFor (⟨"com/example/quorumproof/quorumproof/proof/Client", "attempt", "()I"⟩ : MethodName) = true := plainFor_of_name (by first | (simp [plainName, overriddenIn]; done) | decide +kernel)
theorem dd_prog_37m5_0 : decode prog_37_method_5_code 0 = .ok (.aload_n 0, 1) := by decide +kernel
theorem dd_prog_37m5_1 : decode prog_37_method_5_code 1 = .ok (.getfield 63, 3) := by decide +kernel
theorem dd_prog_37m5_4 : decode prog_37_method_5_code 4 = .ok (.ireturn, 1) := by decide +kernel
theorem ef_own_g_attempt (m : MethodId) (z0 : Addr) : entryFrame m #[(.ref z0)] 1 = mkF m 0 #[.val (.ref z0)] [] := by first | (simp [entryFrame, mkF, argsToLocals, Value.category]; done) | rfl
def Q_own_g_attempt (Z : State) (a : Addr) (at_ : Int32) (h0 : Heap) (n0 : Nat) (zv : Option Value) (zh : Heap) (zL : List Loc) : Prop := zv = some (.int at_) ∧ Fr n0 zL ∧ zh = h0
set_option maxRecDepth 65536 in
set_option maxHeartbeats 40000000 in
theorem own_g_attempt (l : Launch) (Z : State) (a0 : Array Value) (hw : ∀ d ∈ tables_1, d.before a0 Z = true) (ws : List Jvm.Cond) (a : Addr) (at_ : Int32) (h0 : Heap) (n0 : Nat) (Z0 : n0 ≤ h0.size) (p0_ : Fld Z h0 a "com/example/quorumproof/quorumproof/proof/Client" "attempt" "I" (.int at_)) :
    MetFree l (⟨"com/example/quorumproof/quorumproof/proof/Client", "attempt", "()I"⟩ : MethodName) (head1 (Jvm.Cond.code (⟨"com/example/quorumproof/quorumproof/proof/Client", "attempt", "()I"⟩ : MethodName) prog_37_method_5_code 1 (some .int) :: ws) ({ frames := 0, cells := 0, slots := 0, locals := 0 } : Room)) (fun za zU => za = #[(.ref a)] ∧ Z.Warmed39 zU.vm ∧ zU.heap = h0) (fun _ _ _ _ _ => True) (fun _ zU zo zU' => ∃ zv zL, zo = .returned zv ∧ Q_own_g_attempt Z a at_ h0 n0 zv zU'.heap zL ∧ FrameEnd zU zo zU' zL ({ frames := 0, cells := 0, slots := 0, locals := 0 } : Room).cells ({ frames := 0, cells := 0, slots := 0, locals := 0 } : Room).slots) := by
  refine own_met (y := (⟨"com/example/quorumproof/quorumproof/proof/Client", "attempt", "()I"⟩ : MethodName)) own_pn2 ?_
  intro p e s m below meth c T0 hx hby hml hown hnm hret hlk hZ e0 X0
  have N0 := Fr.nil n0
  refine own_st (fun zt zk => castTop (ef_own_g_attempt m a) zk) ?_
  show own_G p e below s _ _ _ (T0.setTop (mkF m 0 #[.val (.ref a)] []))
  refine own_st (fun zt zk => XS.aloadN X0.here hx rfl (hb hby dd_prog_37m5_0) rfl rfl zk) ?_
  show own_G p e below s _ _ _ (T0.setTop (mkF m 1 #[.val (.ref a)] [(.ref a)]))
  obtain ⟨T1, X1, e1, st1⟩ := getF X0 hx hZ hown (host := "") (Or.inl (hw _ (List.mem_of_getElem? (i := 33) rfl))) Via.refl e0 p0_ (g := (mkF m 1 #[.val (.ref a)] [(.ref a)])) rfl rfl (hb hby dd_prog_37m5_1)
  refine own_st st1 ?_
  show own_G p e below s _ _ _ (T1.setTop (mkF m 4 #[.val (.ref a)] [(.int at_)]))
  refine own_retI X1 hx hlk hret (hb hby dd_prog_37m5_4) (by decide) (by decide) ?_
  show Q_own_g_attempt Z a at_ h0 n0 (some (.int at_)) T1.heap _
  rw [e1]
  exact ⟨rfl, N0, rfl⟩
theorem own_pn3 : plainFor (⟨"com/example/quorumproof/quorumproof/proof/Client", "retryAt", "()J"⟩ : MethodName) = true := plainFor_of_name (by first | (simp [plainName, overriddenIn]; done) | decide +kernel)
theorem dd_prog_37m6_0 : decode prog_37_method_6_code 0 = .ok (.aload_n 0, 1) := by decide +kernel
theorem dd_prog_37m6_1 : decode prog_37_method_6_code 1 = .ok (.getfield 17, 3) := by decide +kernel
theorem dd_prog_37m6_4 : decode prog_37_method_6_code 4 = .ok (.lreturn, 1) := by decide +kernel
theorem ef_own_g_retryAt (m : MethodId) (z0 : Addr) : entryFrame m #[(.ref z0)] 1 = mkF m 0 #[.val (.ref z0)] [] := by first | (simp [entryFrame, mkF, argsToLocals, Value.category]; done) | rfl
def Q_own_g_retryAt (Z : State) (a : Addr) (ra : Int64) (h0 : Heap) (n0 : Nat) (zv : Option Value) (zh : Heap) (zL : List Loc) : Prop := zv = some (.long ra) ∧ Fr n0 zL ∧ zh = h0
set_option maxRecDepth 65536 in
set_option maxHeartbeats 40000000 in
theorem own_g_retryAt (l : Launch) (Z : State) (a0 : Array Value) (hw : ∀ d ∈ tables_1, d.before a0 Z = true) (ws : List Jvm.Cond) (a : Addr) (ra : Int64) (h0 : Heap) (n0 : Nat) (Z0 : n0 ≤ h0.size) (p0_ : Fld Z h0 a "com/example/quorumproof/quorumproof/proof/Client" "retryAt" "J" (.long ra)) :
    MetFree l (⟨"com/example/quorumproof/quorumproof/proof/Client", "retryAt", "()J"⟩ : MethodName) (head1 (Jvm.Cond.code (⟨"com/example/quorumproof/quorumproof/proof/Client", "retryAt", "()J"⟩ : MethodName) prog_37_method_6_code 1 (some .long) :: ws) ({ frames := 0, cells := 0, slots := 0, locals := 0 } : Room)) (fun za zU => za = #[(.ref a)] ∧ Z.Warmed39 zU.vm ∧ zU.heap = h0) (fun _ _ _ _ _ => True) (fun _ zU zo zU' => ∃ zv zL, zo = .returned zv ∧ Q_own_g_retryAt Z a ra h0 n0 zv zU'.heap zL ∧ FrameEnd zU zo zU' zL ({ frames := 0, cells := 0, slots := 0, locals := 0 } : Room).cells ({ frames := 0, cells := 0, slots := 0, locals := 0 } : Room).slots) := by
  refine own_met (y := (⟨"com/example/quorumproof/quorumproof/proof/Client", "retryAt", "()J"⟩ : MethodName)) own_pn3 ?_
  intro p e s m below meth c T0 hx hby hml hown hnm hret hlk hZ e0 X0
  have N0 := Fr.nil n0
  refine own_st (fun zt zk => castTop (ef_own_g_retryAt m a) zk) ?_
  show own_G p e below s _ _ _ (T0.setTop (mkF m 0 #[.val (.ref a)] []))
  refine own_st (fun zt zk => XS.aloadN X0.here hx rfl (hb hby dd_prog_37m6_0) rfl rfl zk) ?_
  show own_G p e below s _ _ _ (T0.setTop (mkF m 1 #[.val (.ref a)] [(.ref a)]))
  obtain ⟨T1, X1, e1, st1⟩ := getF X0 hx hZ hown (host := "") (Or.inl (hw _ (List.mem_of_getElem? (i := 13) rfl))) Via.refl e0 p0_ (g := (mkF m 1 #[.val (.ref a)] [(.ref a)])) rfl rfl (hb hby dd_prog_37m6_1)
  refine own_st st1 ?_
  show own_G p e below s _ _ _ (T1.setTop (mkF m 4 #[.val (.ref a)] [(.long ra)]))
  refine own_retJ X1 hx hlk hret (hb hby dd_prog_37m6_4) (by decide) (by decide) ?_
  show Q_own_g_retryAt Z a ra h0 n0 (some (.long ra)) T1.heap _
  rw [e1]
  exact ⟨rfl, N0, rfl⟩
theorem own_pn4 : plainFor (⟨"com/example/quorumproof/quorumproof/proof/Client", "finished", "()Z"⟩ : MethodName) = true := plainFor_of_name (by first | (simp [plainName, overriddenIn]; done) | decide +kernel)
theorem dd_prog_37m2_0 : decode prog_37_method_2_code 0 = .ok (.aload_n 0, 1) := by decide +kernel
theorem dd_prog_37m2_1 : decode prog_37_method_2_code 1 = .ok (.getfield 27, 3) := by decide +kernel
theorem dd_prog_37m2_4 : decode prog_37_method_2_code 4 = .ok (.ifCond .eq 19, 3) := by decide +kernel
theorem dd_prog_37m2_23 : decode prog_37_method_2_code 23 = .ok (.aload_n 0, 1) := by decide +kernel
theorem dd_prog_37m2_24 : decode prog_37_method_2_code 24 = .ok (.getfield 21, 3) := by decide +kernel
theorem dd_prog_37m2_27 : decode prog_37_method_2_code 27 = .ok (.istore_n 1, 1) := by decide +kernel
theorem dd_prog_37m2_28 : decode prog_37_method_2_code 28 = .ok (.aload_n 0, 1) := by decide +kernel
theorem dd_prog_37m2_29 : decode prog_37_method_2_code 29 = .ok (.getfield 31, 3) := by decide +kernel
theorem dd_prog_37m2_32 : decode prog_37_method_2_code 32 = .ok (.iload_n 1, 1) := by decide +kernel
theorem dd_prog_37m2_33 : decode prog_37_method_2_code 33 = .ok (.if_icmp .ne 7, 3) := by decide +kernel
theorem dd_prog_37m2_36 : decode prog_37_method_2_code 36 = .ok (.iconst 1, 1) := by decide +kernel
theorem dd_prog_37m2_37 : decode prog_37_method_2_code 37 = .ok (.goto 4, 3) := by decide +kernel
theorem dd_prog_37m2_41 : decode prog_37_method_2_code 41 = .ok (.ireturn, 1) := by decide +kernel
theorem dd_prog_37m2_40 : decode prog_37_method_2_code 40 = .ok (.iconst 0, 1) := by decide +kernel
theorem dd_prog_37m2_7 : decode prog_37_method_2_code 7 = .ok (.aload_n 0, 1) := by decide +kernel
theorem dd_prog_37m2_8 : decode prog_37_method_2_code 8 = .ok (.getfield 21, 3) := by decide +kernel
theorem dd_prog_37m2_11 : decode prog_37_method_2_code 11 = .ok (.ifCond .le 12, 3) := by decide +kernel
theorem dd_prog_37m2_14 : decode prog_37_method_2_code 14 = .ok (.aload_n 0, 1) := by decide +kernel
theorem dd_prog_37m2_15 : decode prog_37_method_2_code 15 = .ok (.getfield 21, 3) := by decide +kernel
theorem dd_prog_37m2_18 : decode prog_37_method_2_code 18 = .ok (.iconst 2, 1) := by decide +kernel
theorem dd_prog_37m2_19 : decode prog_37_method_2_code 19 = .ok (.iadd, 1) := by decide +kernel
theorem dd_prog_37m2_20 : decode prog_37_method_2_code 20 = .ok (.goto 7, 3) := by decide +kernel
theorem ef_own_fin (m : MethodId) (z0 : Addr) : entryFrame m #[(.ref z0)] 2 = mkF m 0 #[.val (.ref z0), .unset] [] := by first | (simp [entryFrame, mkF, argsToLocals, Value.category]; done) | rfl
def Q_own_fin (Z : State) (a : Addr) (ss : Int32) (cm : Int32) (cl : Int32) (h0 : Heap) (n0 : Nat) (zv : Option Value) (zh : Heap) (zL : List Loc) : Prop := zv = some (.int (own_b (cl = (own_tot ss cm)))) ∧ Fr n0 zL ∧ zh = h0
set_option maxRecDepth 65536 in
set_option maxHeartbeats 40000000 in
theorem own_fin (l : Launch) (Z : State) (a0 : Array Value) (hw : ∀ d ∈ tables_1, d.before a0 Z = true) (ws : List Jvm.Cond) (a : Addr) (ss : Int32) (cm : Int32) (cl : Int32) (h0 : Heap) (n0 : Nat) (Z0 : n0 ≤ h0.size) (p0_ : Fld Z h0 a "com/example/quorumproof/quorumproof/proof/Client" "sessions" "Z" (.int ss)) (p1_ : Fld Z h0 a "com/example/quorumproof/quorumproof/proof/Client" "commands" "I" (.int cm)) (p2_ : Fld Z h0 a "com/example/quorumproof/quorumproof/proof/Client" "call" "I" (.int cl)) :
    MetFree l (⟨"com/example/quorumproof/quorumproof/proof/Client", "finished", "()Z"⟩ : MethodName) (head1 (Jvm.Cond.code (⟨"com/example/quorumproof/quorumproof/proof/Client", "finished", "()Z"⟩ : MethodName) prog_37_method_2_code 2 (some .boolean) :: ws) ({ frames := 0, cells := 0, slots := 0, locals := 0 } : Room)) (fun za zU => za = #[(.ref a)] ∧ Z.Warmed39 zU.vm ∧ zU.heap = h0) (fun _ _ _ _ _ => True) (fun _ zU zo zU' => ∃ zv zL, zo = .returned zv ∧ Q_own_fin Z a ss cm cl h0 n0 zv zU'.heap zL ∧ FrameEnd zU zo zU' zL ({ frames := 0, cells := 0, slots := 0, locals := 0 } : Room).cells ({ frames := 0, cells := 0, slots := 0, locals := 0 } : Room).slots) := by
  refine own_met (y := (⟨"com/example/quorumproof/quorumproof/proof/Client", "finished", "()Z"⟩ : MethodName)) own_pn4 ?_
  intro p e s m below meth c T0 hx hby hml hown hnm hret hlk hZ e0 X0
  have N0 := Fr.nil n0
  refine own_st (fun zt zk => castTop (ef_own_fin m a) zk) ?_
  show own_G p e below s _ _ _ (T0.setTop (mkF m 0 #[.val (.ref a), .unset] []))
  refine own_st (fun zt zk => XS.aloadN X0.here hx rfl (hb hby dd_prog_37m2_0) rfl rfl zk) ?_
  show own_G p e below s _ _ _ (T0.setTop (mkF m 1 #[.val (.ref a), .unset] [(.ref a)]))
  obtain ⟨T1, X1, e1, st1⟩ := getF X0 hx hZ hown (host := "") (Or.inl (hw _ (List.mem_of_getElem? (i := 19) rfl))) Via.refl e0 p0_ (g := (mkF m 1 #[.val (.ref a), .unset] [(.ref a)])) rfl rfl (hb hby dd_prog_37m2_1)
  refine own_st st1 ?_
  show own_G p e below s _ _ _ (T1.setTop (mkF m 4 #[.val (.ref a), .unset] [(.int ss)]))
  by_cases hc4_2 : ss = (0 : Int32)
  · refine own_st (fun zt zk => XS.ifYes X1.here hx rfl (pc0 := 4) (pc' := 23) rfl (hb hby dd_prog_37m2_4) rfl ((if0 _ _).trans (teq hc4_2).1) (by decide) (by decide) zk) ?_
    show own_G p e below s _ _ _ (T1.setTop (mkF m 23 #[.val (.ref a), .unset] []))
    refine own_st (fun zt zk => XS.aloadN X1.here hx rfl (hb hby dd_prog_37m2_23) rfl rfl zk) ?_
    show own_G p e below s _ _ _ (T1.setTop (mkF m 24 #[.val (.ref a), .unset] [(.ref a)]))
    obtain ⟨T3, X3, e3, st3⟩ := getF X1 hx hZ hown (host := "") (Or.inl (hw _ (List.mem_of_getElem? (i := 15) rfl))) Via.refl e1 p1_ (g := (mkF m 24 #[.val (.ref a), .unset] [(.ref a)])) rfl rfl (hb hby dd_prog_37m2_24)
    refine own_st st3 ?_
    show own_G p e below s _ _ _ (T3.setTop (mkF m 27 #[.val (.ref a), .unset] [(.int cm)]))
    refine own_st (fun zt zk => XS.istoreN X3.here hx rfl (hb hby dd_prog_37m2_27) rfl (l' := #[.val (.ref a), .val (.int cm)]) rfl zk) ?_
    show own_G p e below s _ _ _ (T3.setTop (mkF m 28 #[.val (.ref a), .val (.int cm)] []))
    refine own_st (fun zt zk => XS.aloadN X3.here hx rfl (hb hby dd_prog_37m2_28) rfl rfl zk) ?_
    show own_G p e below s _ _ _ (T3.setTop (mkF m 29 #[.val (.ref a), .val (.int cm)] [(.ref a)]))
    obtain ⟨T4, X4, e4, st4⟩ := getF X3 hx hZ hown (host := "") (Or.inl (hw _ (List.mem_of_getElem? (i := 26) rfl))) Via.refl e3 p2_ (g := (mkF m 29 #[.val (.ref a), .val (.int cm)] [(.ref a)])) rfl rfl (hb hby dd_prog_37m2_29)
    refine own_st st4 ?_
    show own_G p e below s _ _ _ (T4.setTop (mkF m 32 #[.val (.ref a), .val (.int cm)] [(.int cl)]))
    refine own_st (fun zt zk => XS.iloadN X4.here hx rfl (hb hby dd_prog_37m2_32) rfl zk) ?_
    show own_G p e below s _ _ _ (T4.setTop (mkF m 33 #[.val (.ref a), .val (.int cm)] [(.int cm), (.int cl)]))
    by_cases hc33_5 : cl = cm
    · refine own_st (fun zt zk => XS.icmpNo X4.here hx rfl (hb hby dd_prog_37m2_33) rfl (teq hc33_5).2 zk) ?_
      show own_G p e below s _ _ _ (T4.setTop (mkF m 36 #[.val (.ref a), .val (.int cm)] []))
      refine own_st (fun zt zk => XS.iconst X4.here hx rfl (hb hby dd_prog_37m2_36) zk) ?_
      show own_G p e below s _ _ _ (T4.setTop (mkF m 37 #[.val (.ref a), .val (.int cm)] [(.int (1 : Int32))]))
      refine own_st (fun zt zk => XS.goto X4.here hx rfl (pc0 := 37) (pc' := 41) rfl (hb hby dd_prog_37m2_37) (by decide) (by decide) zk) ?_
      show own_G p e below s _ _ _ (T4.setTop (mkF m 41 #[.val (.ref a), .val (.int cm)] [(.int (1 : Int32))]))
      refine own_retZ X4 hx hlk hret (by decide) (hb hby dd_prog_37m2_41) (by decide) (by decide) ?_
      show Q_own_fin Z a ss cm cl h0 n0 (some (.int (1 : Int32))) T4.heap _
      rw [e4]
      exact ⟨(by simp [own_b, own_tot, hc4_2, hc33_5]), N0, rfl⟩
    · refine own_st (fun zt zk => XS.icmpYes X4.here hx rfl (pc0 := 33) (pc' := 40) rfl (hb hby dd_prog_37m2_33) rfl (feq hc33_5).2 (by decide) (by decide) zk) ?_
      show own_G p e below s _ _ _ (T4.setTop (mkF m 40 #[.val (.ref a), .val (.int cm)] []))
      refine own_st (fun zt zk => XS.iconst X4.here hx rfl (hb hby dd_prog_37m2_40) zk) ?_
      show own_G p e below s _ _ _ (T4.setTop (mkF m 41 #[.val (.ref a), .val (.int cm)] [(.int (0 : Int32))]))
      refine own_retZ X4 hx hlk hret (by decide) (hb hby dd_prog_37m2_41) (by decide) (by decide) ?_
      show Q_own_fin Z a ss cm cl h0 n0 (some (.int (0 : Int32))) T4.heap _
      rw [e4]
      exact ⟨(by simp [own_b, own_tot, hc4_2, hc33_5]), N0, rfl⟩
  · refine own_st (fun zt zk => XS.ifNo X1.here hx rfl (hb hby dd_prog_37m2_4) rfl ((if0 _ _).trans (feq hc4_2).1) zk) ?_
    show own_G p e below s _ _ _ (T1.setTop (mkF m 7 #[.val (.ref a), .unset] []))
    refine own_st (fun zt zk => XS.aloadN X1.here hx rfl (hb hby dd_prog_37m2_7) rfl rfl zk) ?_
    show own_G p e below s _ _ _ (T1.setTop (mkF m 8 #[.val (.ref a), .unset] [(.ref a)]))
    obtain ⟨T6, X6, e6, st6⟩ := getF X1 hx hZ hown (host := "") (Or.inl (hw _ (List.mem_of_getElem? (i := 15) rfl))) Via.refl e1 p1_ (g := (mkF m 8 #[.val (.ref a), .unset] [(.ref a)])) rfl rfl (hb hby dd_prog_37m2_8)
    refine own_st st6 ?_
    show own_G p e below s _ _ _ (T6.setTop (mkF m 11 #[.val (.ref a), .unset] [(.int cm)]))
    by_cases hc11_7 : (0 : Int32) < cm
    · refine own_st (fun zt zk => XS.ifNo X6.here hx rfl (hb hby dd_prog_37m2_11) rfl ((if0 _ _).trans (tlt hc11_7).2.2.2) zk) ?_
      show own_G p e below s _ _ _ (T6.setTop (mkF m 14 #[.val (.ref a), .unset] []))
      refine own_st (fun zt zk => XS.aloadN X6.here hx rfl (hb hby dd_prog_37m2_14) rfl rfl zk) ?_
      show own_G p e below s _ _ _ (T6.setTop (mkF m 15 #[.val (.ref a), .unset] [(.ref a)]))
      obtain ⟨T8, X8, e8, st8⟩ := getF X6 hx hZ hown (host := "") (Or.inl (hw _ (List.mem_of_getElem? (i := 15) rfl))) Via.refl e6 p1_ (g := (mkF m 15 #[.val (.ref a), .unset] [(.ref a)])) rfl rfl (hb hby dd_prog_37m2_15)
      refine own_st st8 ?_
      show own_G p e below s _ _ _ (T8.setTop (mkF m 18 #[.val (.ref a), .unset] [(.int cm)]))
      refine own_st (fun zt zk => XS.iconst X8.here hx rfl (hb hby dd_prog_37m2_18) zk) ?_
      show own_G p e below s _ _ _ (T8.setTop (mkF m 19 #[.val (.ref a), .unset] [(.int (2 : Int32)), (.int cm)]))
      refine own_st (fun zt zk => XS.iadd X8.here hx rfl (hb hby dd_prog_37m2_19) rfl zk) ?_
      show own_G p e below s _ _ _ (T8.setTop (mkF m 20 #[.val (.ref a), .unset] [(.int (cm + (2 : Int32)))]))
      refine own_st (fun zt zk => XS.goto X8.here hx rfl (pc0 := 20) (pc' := 27) rfl (hb hby dd_prog_37m2_20) (by decide) (by decide) zk) ?_
      show own_G p e below s _ _ _ (T8.setTop (mkF m 27 #[.val (.ref a), .unset] [(.int (cm + (2 : Int32)))]))
      refine own_st (fun zt zk => XS.istoreN X8.here hx rfl (hb hby dd_prog_37m2_27) rfl (l' := #[.val (.ref a), .val (.int (cm + (2 : Int32)))]) rfl zk) ?_
      show own_G p e below s _ _ _ (T8.setTop (mkF m 28 #[.val (.ref a), .val (.int (cm + (2 : Int32)))] []))
      refine own_st (fun zt zk => XS.aloadN X8.here hx rfl (hb hby dd_prog_37m2_28) rfl rfl zk) ?_
      show own_G p e below s _ _ _ (T8.setTop (mkF m 29 #[.val (.ref a), .val (.int (cm + (2 : Int32)))] [(.ref a)]))
      obtain ⟨T9, X9, e9, st9⟩ := getF X8 hx hZ hown (host := "") (Or.inl (hw _ (List.mem_of_getElem? (i := 26) rfl))) Via.refl e8 p2_ (g := (mkF m 29 #[.val (.ref a), .val (.int (cm + (2 : Int32)))] [(.ref a)])) rfl rfl (hb hby dd_prog_37m2_29)
      refine own_st st9 ?_
      show own_G p e below s _ _ _ (T9.setTop (mkF m 32 #[.val (.ref a), .val (.int (cm + (2 : Int32)))] [(.int cl)]))
      refine own_st (fun zt zk => XS.iloadN X9.here hx rfl (hb hby dd_prog_37m2_32) rfl zk) ?_
      show own_G p e below s _ _ _ (T9.setTop (mkF m 33 #[.val (.ref a), .val (.int (cm + (2 : Int32)))] [(.int (cm + (2 : Int32))), (.int cl)]))
      by_cases hc33_10 : cl = (cm + (2 : Int32))
      · refine own_st (fun zt zk => XS.icmpNo X9.here hx rfl (hb hby dd_prog_37m2_33) rfl (teq hc33_10).2 zk) ?_
        show own_G p e below s _ _ _ (T9.setTop (mkF m 36 #[.val (.ref a), .val (.int (cm + (2 : Int32)))] []))
        refine own_st (fun zt zk => XS.iconst X9.here hx rfl (hb hby dd_prog_37m2_36) zk) ?_
        show own_G p e below s _ _ _ (T9.setTop (mkF m 37 #[.val (.ref a), .val (.int (cm + (2 : Int32)))] [(.int (1 : Int32))]))
        refine own_st (fun zt zk => XS.goto X9.here hx rfl (pc0 := 37) (pc' := 41) rfl (hb hby dd_prog_37m2_37) (by decide) (by decide) zk) ?_
        show own_G p e below s _ _ _ (T9.setTop (mkF m 41 #[.val (.ref a), .val (.int (cm + (2 : Int32)))] [(.int (1 : Int32))]))
        refine own_retZ X9 hx hlk hret (by decide) (hb hby dd_prog_37m2_41) (by decide) (by decide) ?_
        show Q_own_fin Z a ss cm cl h0 n0 (some (.int (1 : Int32))) T9.heap _
        rw [e9]
        exact ⟨(by simp [own_b, own_tot, hc4_2, hc11_7, hc33_10]), N0, rfl⟩
      · refine own_st (fun zt zk => XS.icmpYes X9.here hx rfl (pc0 := 33) (pc' := 40) rfl (hb hby dd_prog_37m2_33) rfl (feq hc33_10).2 (by decide) (by decide) zk) ?_
        show own_G p e below s _ _ _ (T9.setTop (mkF m 40 #[.val (.ref a), .val (.int (cm + (2 : Int32)))] []))
        refine own_st (fun zt zk => XS.iconst X9.here hx rfl (hb hby dd_prog_37m2_40) zk) ?_
        show own_G p e below s _ _ _ (T9.setTop (mkF m 41 #[.val (.ref a), .val (.int (cm + (2 : Int32)))] [(.int (0 : Int32))]))
        refine own_retZ X9 hx hlk hret (by decide) (hb hby dd_prog_37m2_41) (by decide) (by decide) ?_
        show Q_own_fin Z a ss cm cl h0 n0 (some (.int (0 : Int32))) T9.heap _
        rw [e9]
        exact ⟨(by simp [own_b, own_tot, hc4_2, hc11_7, hc33_10]), N0, rfl⟩
    · refine own_st (fun zt zk => XS.ifYes X6.here hx rfl (pc0 := 11) (pc' := 23) rfl (hb hby dd_prog_37m2_11) rfl ((if0 _ _).trans (flt hc11_7).2.2.2) (by decide) (by decide) zk) ?_
      show own_G p e below s _ _ _ (T6.setTop (mkF m 23 #[.val (.ref a), .unset] []))
      refine own_st (fun zt zk => XS.aloadN X6.here hx rfl (hb hby dd_prog_37m2_23) rfl rfl zk) ?_
      show own_G p e below s _ _ _ (T6.setTop (mkF m 24 #[.val (.ref a), .unset] [(.ref a)]))
      obtain ⟨T11, X11, e11, st11⟩ := getF X6 hx hZ hown (host := "") (Or.inl (hw _ (List.mem_of_getElem? (i := 15) rfl))) Via.refl e6 p1_ (g := (mkF m 24 #[.val (.ref a), .unset] [(.ref a)])) rfl rfl (hb hby dd_prog_37m2_24)
      refine own_st st11 ?_
      show own_G p e below s _ _ _ (T11.setTop (mkF m 27 #[.val (.ref a), .unset] [(.int cm)]))
      refine own_st (fun zt zk => XS.istoreN X11.here hx rfl (hb hby dd_prog_37m2_27) rfl (l' := #[.val (.ref a), .val (.int cm)]) rfl zk) ?_
      show own_G p e below s _ _ _ (T11.setTop (mkF m 28 #[.val (.ref a), .val (.int cm)] []))
      refine own_st (fun zt zk => XS.aloadN X11.here hx rfl (hb hby dd_prog_37m2_28) rfl rfl zk) ?_
      show own_G p e below s _ _ _ (T11.setTop (mkF m 29 #[.val (.ref a), .val (.int cm)] [(.ref a)]))
      obtain ⟨T12, X12, e12, st12⟩ := getF X11 hx hZ hown (host := "") (Or.inl (hw _ (List.mem_of_getElem? (i := 26) rfl))) Via.refl e11 p2_ (g := (mkF m 29 #[.val (.ref a), .val (.int cm)] [(.ref a)])) rfl rfl (hb hby dd_prog_37m2_29)
      refine own_st st12 ?_
      show own_G p e below s _ _ _ (T12.setTop (mkF m 32 #[.val (.ref a), .val (.int cm)] [(.int cl)]))
      refine own_st (fun zt zk => XS.iloadN X12.here hx rfl (hb hby dd_prog_37m2_32) rfl zk) ?_
      show own_G p e below s _ _ _ (T12.setTop (mkF m 33 #[.val (.ref a), .val (.int cm)] [(.int cm), (.int cl)]))
      by_cases hc33_13 : cl = cm
      · refine own_st (fun zt zk => XS.icmpNo X12.here hx rfl (hb hby dd_prog_37m2_33) rfl (teq hc33_13).2 zk) ?_
        show own_G p e below s _ _ _ (T12.setTop (mkF m 36 #[.val (.ref a), .val (.int cm)] []))
        refine own_st (fun zt zk => XS.iconst X12.here hx rfl (hb hby dd_prog_37m2_36) zk) ?_
        show own_G p e below s _ _ _ (T12.setTop (mkF m 37 #[.val (.ref a), .val (.int cm)] [(.int (1 : Int32))]))
        refine own_st (fun zt zk => XS.goto X12.here hx rfl (pc0 := 37) (pc' := 41) rfl (hb hby dd_prog_37m2_37) (by decide) (by decide) zk) ?_
        show own_G p e below s _ _ _ (T12.setTop (mkF m 41 #[.val (.ref a), .val (.int cm)] [(.int (1 : Int32))]))
        refine own_retZ X12 hx hlk hret (by decide) (hb hby dd_prog_37m2_41) (by decide) (by decide) ?_
        show Q_own_fin Z a ss cm cl h0 n0 (some (.int (1 : Int32))) T12.heap _
        rw [e12]
        exact ⟨(by simp [own_b, own_tot, hc4_2, hc11_7, hc33_13]), N0, rfl⟩
      · refine own_st (fun zt zk => XS.icmpYes X12.here hx rfl (pc0 := 33) (pc' := 40) rfl (hb hby dd_prog_37m2_33) rfl (feq hc33_13).2 (by decide) (by decide) zk) ?_
        show own_G p e below s _ _ _ (T12.setTop (mkF m 40 #[.val (.ref a), .val (.int cm)] []))
        refine own_st (fun zt zk => XS.iconst X12.here hx rfl (hb hby dd_prog_37m2_40) zk) ?_
        show own_G p e below s _ _ _ (T12.setTop (mkF m 41 #[.val (.ref a), .val (.int cm)] [(.int (0 : Int32))]))
        refine own_retZ X12 hx hlk hret (by decide) (hb hby dd_prog_37m2_41) (by decide) (by decide) ?_
        show Q_own_fin Z a ss cm cl h0 n0 (some (.int (0 : Int32))) T12.heap _
        rw [e12]
        exact ⟨(by simp [own_b, own_tot, hc4_2, hc11_7, hc33_13]), N0, rfl⟩
theorem own_pn5 : plainFor (⟨"com/example/quorumproof/quorumproof/proof/Client", "request", "(J)V"⟩ : MethodName) = true := plainFor_of_name (by first | (simp [plainName, overriddenIn]; done) | decide +kernel)
theorem dd_prog_37m7_0 : decode prog_37_method_7_code 0 = .ok (.aload_n 0, 1) := by decide +kernel
theorem dd_prog_37m7_1 : decode prog_37_method_7_code 1 = .ok (.dup, 1) := by decide +kernel
theorem dd_prog_37m7_2 : decode prog_37_method_7_code 2 = .ok (.getfield 63, 3) := by decide +kernel
theorem dd_prog_37m7_5 : decode prog_37_method_7_code 5 = .ok (.iconst 1, 1) := by decide +kernel
theorem dd_prog_37m7_6 : decode prog_37_method_7_code 6 = .ok (.iadd, 1) := by decide +kernel
theorem dd_prog_37m7_7 : decode prog_37_method_7_code 7 = .ok (.putfield 63, 3) := by decide +kernel
theorem dd_prog_37m7_10 : decode prog_37_method_7_code 10 = .ok (.aload_n 0, 1) := by decide +kernel
theorem dd_prog_37m7_11 : decode prog_37_method_7_code 11 = .ok (.lload_n 1, 1) := by decide +kernel
theorem dd_prog_37m7_12 : decode prog_37_method_7_code 12 = .ok (.ldc2_w 68, 3) := by decide +kernel
theorem dd_prog_37m7_15 : decode prog_37_method_7_code 15 = .ok (.ladd, 1) := by decide +kernel
theorem dd_prog_37m7_16 : decode prog_37_method_7_code 16 = .ok (.putfield 17, 3) := by decide +kernel
theorem dd_prog_37m7_19 : decode prog_37_method_7_code 19 = .ok (.return_, 1) := by decide +kernel
theorem ef_own_req (m : MethodId) (z0 : Addr) (z1 : Int64) : entryFrame m #[(.ref z0), (.long z1)] 3 = mkF m 0 #[.val (.ref z0), .val (.long z1), .second] [] := by first | (simp [entryFrame, mkF, argsToLocals, Value.category]; done) | rfl
def Q_own_req (Z : State) (a : Addr) (nw : Int64) (tg : Int32) (ra : Int64) (cm : Int32) (sv : Int32) (ss : Int32) (at_ : Int32) (cl : Int32) (h0 : Heap) (n0 : Nat) (zv : Option Value) (zh : Heap) (zL : List Loc) : Prop := zv = none ∧ Fr n0 zL ∧ Keep h0 zh [a] ∧ Fld Z zh a "com/example/quorumproof/quorumproof/proof/Client" "target" "I" (.int tg) ∧ Fld Z zh a "com/example/quorumproof/quorumproof/proof/Client" "retryAt" "J" (.long (nw + (500 : Int64))) ∧ Fld Z zh a "com/example/quorumproof/quorumproof/proof/Client" "commands" "I" (.int cm) ∧ Fld Z zh a "com/example/quorumproof/quorumproof/proof/Client" "servers" "I" (.int sv) ∧ Fld Z zh a "com/example/quorumproof/quorumproof/proof/Client" "sessions" "Z" (.int ss) ∧ Fld Z zh a "com/example/quorumproof/quorumproof/proof/Client" "attempt" "I" (.int (at_ + (1 : Int32))) ∧ Fld Z zh a "com/example/quorumproof/quorumproof/proof/Client" "call" "I" (.int cl)
set_option maxRecDepth 65536 in
set_option maxHeartbeats 40000000 in
theorem own_req (l : Launch) (Z : State) (a0 : Array Value) (hw : ∀ d ∈ tables_1, d.before a0 Z = true) (ws : List Jvm.Cond) (a : Addr) (nw : Int64) (tg : Int32) (ra : Int64) (cm : Int32) (sv : Int32) (ss : Int32) (at_ : Int32) (cl : Int32) (h0 : Heap) (n0 : Nat) (Z0 : n0 ≤ h0.size) (p0_ : Exa Z h0 a "com/example/quorumproof/quorumproof/proof/Client") (p1_ : Fld Z h0 a "com/example/quorumproof/quorumproof/proof/Client" "target" "I" (.int tg)) (p2_ : Fld Z h0 a "com/example/quorumproof/quorumproof/proof/Client" "retryAt" "J" (.long ra)) (p3_ : Fld Z h0 a "com/example/quorumproof/quorumproof/proof/Client" "commands" "I" (.int cm)) (p4_ : Fld Z h0 a "com/example/quorumproof/quorumproof/proof/Client" "servers" "I" (.int sv)) (p5_ : Fld Z h0 a "com/example/quorumproof/quorumproof/proof/Client" "sessions" "Z" (.int ss)) (p6_ : Fld Z h0 a "com/example/quorumproof/quorumproof/proof/Client" "attempt" "I" (.int at_)) (p7_ : Fld Z h0 a "com/example/quorumproof/quorumproof/proof/Client" "call" "I" (.int cl)) (p8_ : n0 ≤ a) :
    MetFree l (⟨"com/example/quorumproof/quorumproof/proof/Client", "request", "(J)V"⟩ : MethodName) (head1 (Jvm.Cond.code (⟨"com/example/quorumproof/quorumproof/proof/Client", "request", "(J)V"⟩ : MethodName) prog_37_method_7_code 3 none :: ws) ({ frames := 0, cells := 0, slots := 0, locals := 0 } : Room)) (fun za zU => za = #[(.ref a), (.long nw)] ∧ Z.Warmed39 zU.vm ∧ zU.heap = h0) (fun _ _ _ _ _ => True) (fun _ zU zo zU' => ∃ zv zL, zo = .returned zv ∧ Q_own_req Z a nw tg ra cm sv ss at_ cl h0 n0 zv zU'.heap zL ∧ FrameEnd zU zo zU' zL ({ frames := 0, cells := 0, slots := 0, locals := 0 } : Room).cells ({ frames := 0, cells := 0, slots := 0, locals := 0 } : Room).slots) := by
  refine own_met (y := (⟨"com/example/quorumproof/quorumproof/proof/Client", "request", "(J)V"⟩ : MethodName)) own_pn5 ?_
  intro p e s m below meth c T0 hx hby hml hown hnm hret hlk hZ e0 X0
  have N0 := Fr.nil n0
  refine own_st (fun zt zk => castTop (ef_own_req m a nw) zk) ?_
  show own_G p e below s _ _ _ (T0.setTop (mkF m 0 #[.val (.ref a), .val (.long nw), .second] []))
  refine own_st (fun zt zk => XS.aloadN X0.here hx rfl (hb hby dd_prog_37m7_0) rfl rfl zk) ?_
  show own_G p e below s _ _ _ (T0.setTop (mkF m 1 #[.val (.ref a), .val (.long nw), .second] [(.ref a)]))
  refine own_st (fun zt zk => XS.dup X0.here hx rfl (hb hby dd_prog_37m7_1) rfl rfl zk) ?_
  show own_G p e below s _ _ _ (T0.setTop (mkF m 2 #[.val (.ref a), .val (.long nw), .second] [(.ref a), (.ref a)]))
  obtain ⟨T1, X1, e1, st1⟩ := getF X0 hx hZ hown (host := "") (Or.inl (hw _ (List.mem_of_getElem? (i := 33) rfl))) Via.refl e0 p6_ (g := (mkF m 2 #[.val (.ref a), .val (.long nw), .second] [(.ref a), (.ref a)])) rfl rfl (hb hby dd_prog_37m7_2)
  refine own_st st1 ?_
  show own_G p e below s _ _ _ (T1.setTop (mkF m 5 #[.val (.ref a), .val (.long nw), .second] [(.int at_), (.ref a)]))
  refine own_st (fun zt zk => XS.iconst X1.here hx rfl (hb hby dd_prog_37m7_5) zk) ?_
  show own_G p e below s _ _ _ (T1.setTop (mkF m 6 #[.val (.ref a), .val (.long nw), .second] [(.int (1 : Int32)), (.int at_), (.ref a)]))
  refine own_st (fun zt zk => XS.iadd X1.here hx rfl (hb hby dd_prog_37m7_6) rfl zk) ?_
  show own_G p e below s _ _ _ (T1.setTop (mkF m 7 #[.val (.ref a), .val (.long nw), .second] [(.int (at_ + (1 : Int32))), (.ref a)]))
  obtain ⟨T2, h2, X2, e2, W2, st2⟩ := putF X1 hx hZ hown (host := "") (Or.inl (hw _ (List.mem_of_getElem? (i := 33) rfl))) Via.refl e1 p6_ p0_ (Or.inl (hw _ (List.mem_of_getElem? (i := 34) rfl))) (hw _ (List.mem_of_getElem? (i := 1) rfl)) (ty := .int) (by decide) rfl rfl (g := (mkF m 7 #[.val (.ref a), .val (.long nw), .second] [(.int (at_ + (1 : Int32))), (.ref a)])) rfl rfl (hb hby dd_prog_37m7_7)
  refine own_st st2 ?_
  have N2 := Fr.snoc X2 N0 p8_
  show own_G p e below s _ _ _ (T2.setTop (mkF m 10 #[.val (.ref a), .val (.long nw), .second] []))
  refine own_st (fun zt zk => XS.aloadN X2.here hx rfl (hb hby dd_prog_37m7_10) rfl rfl zk) ?_
  show own_G p e below s _ _ _ (T2.setTop (mkF m 11 #[.val (.ref a), .val (.long nw), .second] [(.ref a)]))
  refine own_st (fun zt zk => XS.lloadN X2.here hx rfl (hb hby dd_prog_37m7_11) rfl zk) ?_
  show own_G p e below s _ _ _ (T2.setTop (mkF m 12 #[.val (.ref a), .val (.long nw), .second] [(.long nw), (.ref a)]))
  refine own_st (X2.ldc2Long hx hown (mvT hZ (hw _ (List.mem_of_getElem? (i := 35) rfl))) (g := (mkF m 12 #[.val (.ref a), .val (.long nw), .second] [(.long nw), (.ref a)])) rfl (hb hby dd_prog_37m7_12)) ?_
  show own_G p e below s _ _ _ (T2.setTop (mkF m 15 #[.val (.ref a), .val (.long nw), .second] [(.long (500 : Int64)), (.long nw), (.ref a)]))
  refine own_st (fun zt zk => XS.ladd X2.here hx rfl (hb hby dd_prog_37m7_15) rfl zk) ?_
  show own_G p e below s _ _ _ (T2.setTop (mkF m 16 #[.val (.ref a), .val (.long nw), .second] [(.long (nw + (500 : Int64))), (.ref a)]))
  have F3 : Fld Z h2 a "com/example/quorumproof/quorumproof/proof/Client" "retryAt" "J" (.long ra) := (Fld.other W2 p2_ (Or.inr (slot_ne (Or.inl (hw _ (List.mem_of_getElem? (i := 14) rfl))) (Or.inl (hw _ (List.mem_of_getElem? (i := 34) rfl))) (by decide) (t := .long) (t' := .int) (by decide) (by decide))))
  have E4 : Exa Z h2 a "com/example/quorumproof/quorumproof/proof/Client" := (p0_.wr W2)
  obtain ⟨T5, h5, X5, e5, W5, st5⟩ := putF X2 hx hZ hown (host := "") (Or.inl (hw _ (List.mem_of_getElem? (i := 13) rfl))) Via.refl e2 F3 E4 (Or.inl (hw _ (List.mem_of_getElem? (i := 14) rfl))) (hw _ (List.mem_of_getElem? (i := 1) rfl)) (ty := .long) (by decide) rfl rfl (g := (mkF m 16 #[.val (.ref a), .val (.long nw), .second] [(.long (nw + (500 : Int64))), (.ref a)])) rfl rfl (hb hby dd_prog_37m7_16)
  refine own_st st5 ?_
  have N5 := Fr.snoc X5 N2 p8_
  show own_G p e below s _ _ _ (T5.setTop (mkF m 19 #[.val (.ref a), .val (.long nw), .second] []))
  have F6 : Fld Z h5 a "com/example/quorumproof/quorumproof/proof/Client" "target" "I" (.int tg) := (Fld.other W5 (Fld.other W2 p1_ (Or.inr (slot_ne (Or.inl (hw _ (List.mem_of_getElem? (i := 11) rfl))) (Or.inl (hw _ (List.mem_of_getElem? (i := 34) rfl))) (by decide) (t := .int) (t' := .int) (by decide) (by decide)))) (Or.inr (slot_ne (Or.inl (hw _ (List.mem_of_getElem? (i := 11) rfl))) (Or.inl (hw _ (List.mem_of_getElem? (i := 14) rfl))) (by decide) (t := .int) (t' := .long) (by decide) (by decide))))
  have F7 : Fld Z h5 a "com/example/quorumproof/quorumproof/proof/Client" "retryAt" "J" (.long (nw + (500 : Int64))) := (Fld.same W5 F3)
  have F8 : Fld Z h5 a "com/example/quorumproof/quorumproof/proof/Client" "commands" "I" (.int cm) := (Fld.other W5 (Fld.other W2 p3_ (Or.inr (slot_ne (Or.inr (hw _ (List.mem_of_getElem? (i := 16) rfl))) (Or.inl (hw _ (List.mem_of_getElem? (i := 34) rfl))) (by decide) (t := .int) (t' := .int) (by decide) (by decide)))) (Or.inr (slot_ne (Or.inr (hw _ (List.mem_of_getElem? (i := 16) rfl))) (Or.inl (hw _ (List.mem_of_getElem? (i := 14) rfl))) (by decide) (t := .int) (t' := .long) (by decide) (by decide))))
  have F9 : Fld Z h5 a "com/example/quorumproof/quorumproof/proof/Client" "servers" "I" (.int sv) := (Fld.other W5 (Fld.other W2 p4_ (Or.inr (slot_ne (Or.inr (hw _ (List.mem_of_getElem? (i := 18) rfl))) (Or.inl (hw _ (List.mem_of_getElem? (i := 34) rfl))) (by decide) (t := .int) (t' := .int) (by decide) (by decide)))) (Or.inr (slot_ne (Or.inr (hw _ (List.mem_of_getElem? (i := 18) rfl))) (Or.inl (hw _ (List.mem_of_getElem? (i := 14) rfl))) (by decide) (t := .int) (t' := .long) (by decide) (by decide))))
  have F10 : Fld Z h5 a "com/example/quorumproof/quorumproof/proof/Client" "sessions" "Z" (.int ss) := (Fld.other W5 (Fld.other W2 p5_ (Or.inr (slot_ne (Or.inr (hw _ (List.mem_of_getElem? (i := 20) rfl))) (Or.inl (hw _ (List.mem_of_getElem? (i := 34) rfl))) (by decide) (t := .boolean) (t' := .int) (by decide) (by decide)))) (Or.inr (slot_ne (Or.inr (hw _ (List.mem_of_getElem? (i := 20) rfl))) (Or.inl (hw _ (List.mem_of_getElem? (i := 14) rfl))) (by decide) (t := .boolean) (t' := .long) (by decide) (by decide))))
  have F11 : Fld Z h5 a "com/example/quorumproof/quorumproof/proof/Client" "attempt" "I" (.int (at_ + (1 : Int32))) := (Fld.other W5 (Fld.same W2 p6_) (Or.inr (slot_ne (Or.inl (hw _ (List.mem_of_getElem? (i := 34) rfl))) (Or.inl (hw _ (List.mem_of_getElem? (i := 14) rfl))) (by decide) (t := .int) (t' := .long) (by decide) (by decide))))
  have F12 : Fld Z h5 a "com/example/quorumproof/quorumproof/proof/Client" "call" "I" (.int cl) := (Fld.other W5 (Fld.other W2 p7_ (Or.inr (slot_ne (Or.inl (hw _ (List.mem_of_getElem? (i := 27) rfl))) (Or.inl (hw _ (List.mem_of_getElem? (i := 34) rfl))) (by decide) (t := .int) (t' := .int) (by decide) (by decide)))) (Or.inr (slot_ne (Or.inl (hw _ (List.mem_of_getElem? (i := 27) rfl))) (Or.inl (hw _ (List.mem_of_getElem? (i := 14) rfl))) (by decide) (t := .int) (t' := .long) (by decide) (by decide))))
  refine own_retV X5 hx hlk hret (hb hby dd_prog_37m7_19) (by decide) (by decide) ?_
  show Q_own_req Z a nw tg ra cm sv ss at_ cl h0 n0 none T5.heap _
  rw [e5]
  exact ⟨rfl, N5, (((Keep.refl _ _).wr W2 (Or.inl (List.mem_of_getElem? (i := 0) rfl))).wr W5 (Or.inl (List.mem_of_getElem? (i := 0) rfl))), F6, F7, F8, F9, F10, F11, F12⟩
theorem own_pn6 : plainFor (⟨"com/example/quorumproof/quorumproof/proof/ClientRequestPinLaw", "law", "(IIIJJ)Z"⟩ : MethodName) = true := plainFor_of_name (by first | (simp [plainName, overriddenIn]; done) | decide +kernel)
theorem own_pd0 : parseMethodDescriptor "(IIZ)V" = some ⟨[.int, .int, .boolean], none⟩ := by decide +kernel
theorem own_pd1 : parseMethodDescriptor "()Z" = some ⟨[], some .boolean⟩ := by decide +kernel
theorem own_pd2 : parseMethodDescriptor "(J)V" = some ⟨[.long], none⟩ := by decide +kernel
theorem own_pd3 : parseMethodDescriptor "()I" = some ⟨[], some .int⟩ := by decide +kernel
theorem own_pd4 : parseMethodDescriptor "()J" = some ⟨[], some .long⟩ := by decide +kernel
theorem ef_own_law (m : MethodId) (z0 : Int32) (z1 : Int32) (z2 : Int32) (z3 : Int64) (z4 : Int64) : entryFrame m #[(.int z0), (.int z1), (.int z2), (.long z3), (.long z4)] maxLocals = mkF m 0 #[.val (.int z0), .val (.int z1), .val (.int z2), .val (.long z3), .second, .val (.long z4), .second, .unset, .unset, .unset] [] := by first | (simp [entryFrame, mkF, argsToLocals, Value.category, maxLocals]; done) | rfl
def Q_own_law (Z : State) (cs : Int32) (sr : Int32) (fl : Int32) (n1 : Int64) (n2 : Int64) (h0 : Heap) (n0 : Nat) (zv : Option Value) (zh : Heap) (zL : List Loc) : Prop := zv = some (.int (1 : Int32)) ∧ Fr n0 zL
set_option maxRecDepth 65536 in
set_option maxHeartbeats 40000000 in
theorem own_law (l : Launch) (Z : State) (a0 : Array Value) (hw : ∀ d ∈ tables_1, d.before a0 Z = true) (ws : List Jvm.Cond) (cs : Int32) (sr : Int32) (fl : Int32) (n1 : Int64) (n2 : Int64) (h0 : Heap) (n0 : Nat) (Z0 : n0 ≤ h0.size)  :
    MetFree l x (head1 (Jvm.Cond.code x code maxLocals ret :: ws) room_1) (fun za zU => za = #[(.int cs), (.int sr), (.int fl), (.long n1), (.long n2)] ∧ Z.Warmed39 zU.vm ∧ zU.heap = h0) (fun _ _ _ _ _ => True) (fun _ zU zo zU' => ∃ zv zL, zo = .returned zv ∧ Q_own_law Z cs sr fl n1 n2 h0 n0 zv zU'.heap zL ∧ FrameEnd zU zo zU' zL 1 8) := by
  refine own_met (y := x) own_pn6 ?_
  intro p e s m below meth c T0 hx hby hml hown hnm hret hlk hZ e0 X0
  have N0 := Fr.nil n0
  refine own_st (fun zt zk => castTop (ef_own_law m cs sr fl n1 n2) zk) ?_
  show own_G p e below s _ _ _ (T0.setTop (mkF m 0 #[.val (.int cs), .val (.int sr), .val (.int fl), .val (.long n1), .second, .val (.long n2), .second, .unset, .unset, .unset] []))
  obtain ⟨T1, h1, X1, e1, E1, A1, D1, -, st1⟩ := newO X0 hx hZ hown (hw _ (List.mem_of_getElem? (i := 0) rfl)) (hw _ (List.mem_of_getElem? (i := 1) rfl)) (hw _ (List.mem_of_getElem? (i := 2) rfl)) e0 (g := (mkF m 0 #[.val (.int cs), .val (.int sr), .val (.int fl), .val (.long n1), .second, .val (.long n2), .second, .unset, .unset, .unset] [])) rfl (hb hby at_0) (by decide) (by decide)
  obtain ⟨b1, g1⟩ : ∃ z, z = h0.size := ⟨_, rfl⟩
  rw [← g1] at A1 D1 st1
  have ge1 : n0 ≤ b1 := Nat.le_trans Z0 (Nat.le_of_eq g1.symm)
  have sz1 : h0.size ≤ b1 := Nat.le_trans (Nat.le_refl h0.size) (Nat.le_of_eq g1.symm)
  refine own_st st1 ?_
  show own_G p e below s _ _ _ (T1.setTop (mkF m 3 #[.val (.int cs), .val (.int sr), .val (.int fl), .val (.long n1), .second, .val (.long n2), .second, .unset, .unset, .unset] [(.ref b1)]))
  refine own_st (fun zt zk => XS.dup X1.here hx rfl (hb hby at_3) rfl rfl zk) ?_
  show own_G p e below s _ _ _ (T1.setTop (mkF m 4 #[.val (.int cs), .val (.int sr), .val (.int fl), .val (.long n1), .second, .val (.long n2), .second, .unset, .unset, .unset] [(.ref b1), (.ref b1)]))
  refine own_st (fun zt zk => XS.iloadN X1.here hx rfl (hb hby at_4) rfl zk) ?_
  show own_G p e below s _ _ _ (T1.setTop (mkF m 5 #[.val (.int cs), .val (.int sr), .val (.int fl), .val (.long n1), .second, .val (.long n2), .second, .unset, .unset, .unset] [(.int cs), (.ref b1), (.ref b1)]))
  refine own_st (fun zt zk => XS.iconst X1.here hx rfl (hb hby at_5) zk) ?_
  show own_G p e below s _ _ _ (T1.setTop (mkF m 6 #[.val (.int cs), .val (.int sr), .val (.int fl), .val (.long n1), .second, .val (.long n2), .second, .unset, .unset, .unset] [(.int (3 : Int32)), (.int cs), (.ref b1), (.ref b1)]))
  refine own_st (fun zt zk => XS.iand X1.here hx rfl (hb hby at_6) rfl zk) ?_
  show own_G p e below s _ _ _ (T1.setTop (mkF m 7 #[.val (.int cs), .val (.int sr), .val (.int fl), .val (.long n1), .second, .val (.long n2), .second, .unset, .unset, .unset] [(.int (cs &&& (3 : Int32))), (.ref b1), (.ref b1)]))
  refine own_st (fun zt zk => XS.iloadN X1.here hx rfl (hb hby at_7) rfl zk) ?_
  show own_G p e below s _ _ _ (T1.setTop (mkF m 8 #[.val (.int cs), .val (.int sr), .val (.int fl), .val (.long n1), .second, .val (.long n2), .second, .unset, .unset, .unset] [(.int sr), (.int (cs &&& (3 : Int32))), (.ref b1), (.ref b1)]))
  refine own_st (X1.ldcInt hx hown (mvT hZ (hw _ (List.mem_of_getElem? (i := 3) rfl))) (g := (mkF m 8 #[.val (.int cs), .val (.int sr), .val (.int fl), .val (.long n1), .second, .val (.long n2), .second, .unset, .unset, .unset] [(.int sr), (.int (cs &&& (3 : Int32))), (.ref b1), (.ref b1)])) rfl (hb hby at_8)) ?_
  show own_G p e below s _ _ _ (T1.setTop (mkF m 10 #[.val (.int cs), .val (.int sr), .val (.int fl), .val (.long n1), .second, .val (.long n2), .second, .unset, .unset, .unset] [(.int (2147483647 : Int32)), (.int sr), (.int (cs &&& (3 : Int32))), (.ref b1), (.ref b1)]))
  refine own_st (fun zt zk => XS.iand X1.here hx rfl (hb hby at_10) rfl zk) ?_
  show own_G p e below s _ _ _ (T1.setTop (mkF m 11 #[.val (.int cs), .val (.int sr), .val (.int fl), .val (.long n1), .second, .val (.long n2), .second, .unset, .unset, .unset] [(.int (sr &&& (2147483647 : Int32))), (.int (cs &&& (3 : Int32))), (.ref b1), (.ref b1)]))
  refine own_st (fun zt zk => XS.bipush X1.here hx rfl (hb hby at_11) zk) ?_
  show own_G p e below s _ _ _ (T1.setTop (mkF m 13 #[.val (.int cs), .val (.int sr), .val (.int fl), .val (.long n1), .second, .val (.long n2), .second, .unset, .unset, .unset] [(.int (7 : Int32)), (.int (sr &&& (2147483647 : Int32))), (.int (cs &&& (3 : Int32))), (.ref b1), (.ref b1)]))
  refine own_st (fun zt zk => Jvm.RoadKit.iremM X1 hx rfl (hb hby at_13) rfl (by decide) zk) ?_
  show own_G p e below s _ _ _ (T1.setTop (mkF m 14 #[.val (.int cs), .val (.int sr), .val (.int fl), .val (.long n1), .second, .val (.long n2), .second, .unset, .unset, .unset] [(.int ((sr &&& (2147483647 : Int32)) % (7 : Int32))), (.int (cs &&& (3 : Int32))), (.ref b1), (.ref b1)]))
  refine own_st (fun zt zk => XS.iconst X1.here hx rfl (hb hby at_14) zk) ?_
  show own_G p e below s _ _ _ (T1.setTop (mkF m 15 #[.val (.int cs), .val (.int sr), .val (.int fl), .val (.long n1), .second, .val (.long n2), .second, .unset, .unset, .unset] [(.int (1 : Int32)), (.int ((sr &&& (2147483647 : Int32)) % (7 : Int32))), (.int (cs &&& (3 : Int32))), (.ref b1), (.ref b1)]))
  refine own_st (fun zt zk => XS.iadd X1.here hx rfl (hb hby at_15) rfl zk) ?_
  show own_G p e below s _ _ _ (T1.setTop (mkF m 16 #[.val (.int cs), .val (.int sr), .val (.int fl), .val (.long n1), .second, .val (.long n2), .second, .unset, .unset, .unset] [(.int (((sr &&& (2147483647 : Int32)) % (7 : Int32)) + (1 : Int32))), (.int (cs &&& (3 : Int32))), (.ref b1), (.ref b1)]))
  refine own_st (fun zt zk => XS.iloadN X1.here hx rfl (hb hby at_16) rfl zk) ?_
  show own_G p e below s _ _ _ (T1.setTop (mkF m 17 #[.val (.int cs), .val (.int sr), .val (.int fl), .val (.long n1), .second, .val (.long n2), .second, .unset, .unset, .unset] [(.int fl), (.int (((sr &&& (2147483647 : Int32)) % (7 : Int32)) + (1 : Int32))), (.int (cs &&& (3 : Int32))), (.ref b1), (.ref b1)]))
  refine own_st (fun zt zk => XS.iconst X1.here hx rfl (hb hby at_17) zk) ?_
  show own_G p e below s _ _ _ (T1.setTop (mkF m 18 #[.val (.int cs), .val (.int sr), .val (.int fl), .val (.long n1), .second, .val (.long n2), .second, .unset, .unset, .unset] [(.int (1 : Int32)), (.int fl), (.int (((sr &&& (2147483647 : Int32)) % (7 : Int32)) + (1 : Int32))), (.int (cs &&& (3 : Int32))), (.ref b1), (.ref b1)]))
  refine own_st (fun zt zk => XS.iand X1.here hx rfl (hb hby at_18) rfl zk) ?_
  show own_G p e below s _ _ _ (T1.setTop (mkF m 19 #[.val (.int cs), .val (.int sr), .val (.int fl), .val (.long n1), .second, .val (.long n2), .second, .unset, .unset, .unset] [(.int (fl &&& (1 : Int32))), (.int (((sr &&& (2147483647 : Int32)) % (7 : Int32)) + (1 : Int32))), (.int (cs &&& (3 : Int32))), (.ref b1), (.ref b1)]))
  by_cases hc19_2 : (fl &&& (1 : Int32)) = (0 : Int32)
  · refine own_st (fun zt zk => XS.ifYes X1.here hx rfl (pc0 := 19) (pc' := 26) rfl (hb hby at_19) rfl ((if0 _ _).trans (teq hc19_2).1) (by decide) (by decide) zk) ?_
    show own_G p e below s _ _ _ (T1.setTop (mkF m 26 #[.val (.int cs), .val (.int sr), .val (.int fl), .val (.long n1), .second, .val (.long n2), .second, .unset, .unset, .unset] [(.int (((sr &&& (2147483647 : Int32)) % (7 : Int32)) + (1 : Int32))), (.int (cs &&& (3 : Int32))), (.ref b1), (.ref b1)]))
    refine own_st (fun zt zk => XS.iconst X1.here hx rfl (hb hby at_26) zk) ?_
    show own_G p e below s _ _ _ (T1.setTop (mkF m 27 #[.val (.int cs), .val (.int sr), .val (.int fl), .val (.long n1), .second, .val (.long n2), .second, .unset, .unset, .unset] [(.int (0 : Int32)), (.int (((sr &&& (2147483647 : Int32)) % (7 : Int32)) + (1 : Int32))), (.int (cs &&& (3 : Int32))), (.ref b1), (.ref b1)]))
    obtain ⟨_, T3, L3, X3, hQ3, st3⟩ := own_callI X1 hx hZ (y := (⟨"com/example/quorumproof/quorumproof/proof/Client", "<init>", "(IIZ)V"⟩ : MethodName)) (a := b1) (argsL := [(.int (cs &&& (3 : Int32))), (.int (((sr &&& (2147483647 : Int32)) % (7 : Int32)) + (1 : Int32))), (.int (0 : Int32))]) (rest := [(.ref b1)]) 1 rfl hown (hw _ (List.mem_of_getElem? (i := 4) rfl)) (hw _ (List.mem_of_getElem? (i := 5) rfl)) (hw _ (List.mem_of_getElem? (i := 2) rfl)) (hw _ (List.mem_of_getElem? (i := 6) rfl)) (by decide) (own_ini l Z a0 hw [] b1 (cs &&& (3 : Int32)) (((sr &&& (2147483647 : Int32)) % (7 : Int32)) + (1 : Int32)) (0 : Int32) h1 n0 (Nat.le_trans Z0 E1.1) A1 (D1 (Or.inl (hw _ (List.mem_of_getElem? (i := 11) rfl))) (ty := .int) (by decide)) (D1 (Or.inl (hw _ (List.mem_of_getElem? (i := 14) rfl))) (ty := .long) (by decide)) (D1 (Or.inr (hw _ (List.mem_of_getElem? (i := 16) rfl))) (ty := .int) (by decide)) (D1 (Or.inr (hw _ (List.mem_of_getElem? (i := 18) rfl))) (ty := .int) (by decide)) (D1 (Or.inr (hw _ (List.mem_of_getElem? (i := 20) rfl))) (ty := .boolean) (by decide)) (D1 (Or.inl (hw _ (List.mem_of_getElem? (i := 34) rfl))) (ty := .int) (by decide)) (D1 (Or.inl (hw _ (List.mem_of_getElem? (i := 27) rfl))) (ty := .int) (by decide)) ge1 (by first | assumption | decide | (simp [hc19_2]; done) | omega)) (by decide) (by decide) e1 (g := (mkF m 27 #[.val (.int cs), .val (.int sr), .val (.int fl), .val (.long n1), .second, .val (.long n2), .second, .unset, .unset, .unset] [(.int (0 : Int32)), (.int (((sr &&& (2147483647 : Int32)) % (7 : Int32)) + (1 : Int32))), (.int (cs &&& (3 : Int32))), (.ref b1), (.ref b1)])) rfl (by rw [hml]; rfl) own_pd0 rfl rfl (by show 2 * 0 + _ ≤ _; exact Nat.le_of_eq rfl) (hb hby at_27) (by decide) (by decide)
    obtain ⟨rfl, N3q, K3, q3_0, q3_1, q3_2, q3_3, q3_4, q3_5, q3_6⟩ := hQ3
    have N3 := Fr.app N0 N3q
    refine own_st st3 ?_
    show own_G p e below s _ _ _ (T3.setTop (mkF m 30 #[.val (.int cs), .val (.int sr), .val (.int fl), .val (.long n1), .second, .val (.long n2), .second, .unset, .unset, .unset] [(.ref b1)]))
    refine own_st (fun zt zk => XS.astore X3.here hx rfl (hb hby at_30) rfl rfl (l' := #[.val (.int cs), .val (.int sr), .val (.int fl), .val (.long n1), .second, .val (.long n2), .second, .val (.ref b1), .unset, .unset]) rfl zk) ?_
    show own_G p e below s _ _ _ (T3.setTop (mkF m 32 #[.val (.int cs), .val (.int sr), .val (.int fl), .val (.long n1), .second, .val (.long n2), .second, .val (.ref b1), .unset, .unset] []))
    refine own_st (fun zt zk => XS.aload X3.here hx rfl (hb hby at_32) rfl rfl zk) ?_
    show own_G p e below s _ _ _ (T3.setTop (mkF m 34 #[.val (.int cs), .val (.int sr), .val (.int fl), .val (.long n1), .second, .val (.long n2), .second, .val (.ref b1), .unset, .unset] [(.ref b1)]))
    have E5 : Exa Z T3.heap b1 "com/example/quorumproof/quorumproof/proof/Client" := (A1.keep K3)
    obtain ⟨_, T4, L4, X4, hQ4, st4⟩ := own_callV X3 hx hZ (C := "com/example/quorumproof/quorumproof/proof/Client") (y := (⟨"com/example/quorumproof/quorumproof/proof/Client", "finished", "()Z"⟩ : MethodName)) (z := (⟨"com/example/quorumproof/quorumproof/proof/Client", "finished", "()Z"⟩ : MethodName)) (a := b1) (argsL := []) (rest := []) 0 hown (hw _ (List.mem_of_getElem? (i := 21) rfl)) (hw _ (List.mem_of_getElem? (i := 22) rfl)) (own_nf hZ (hw _ (List.mem_of_getElem? (i := 24) rfl))) (hw _ (List.mem_of_getElem? (i := 24) rfl)) (hw _ (List.mem_of_getElem? (i := 23) rfl)) (hw _ (List.mem_of_getElem? (i := 2) rfl)) (hw _ (List.mem_of_getElem? (i := 25) rfl)) (by decide) (own_fin l Z a0 hw [] b1 (0 : Int32) (cs &&& (3 : Int32)) (0 : Int32) T3.heap n0 (Nat.le_trans (Nat.le_trans Z0 E1.1) K3.1) q3_4 q3_2 q3_6) (by decide) (by decide) rfl E5 (g := (mkF m 34 #[.val (.int cs), .val (.int sr), .val (.int fl), .val (.long n1), .second, .val (.long n2), .second, .val (.ref b1), .unset, .unset] [(.ref b1)])) rfl (by rw [hml]; rfl) own_pd1 rfl rfl (by show 2 * 0 + _ ≤ _; exact Nat.le_of_eq rfl) (hb hby at_34) (by decide) (by decide)
    obtain ⟨rfl, N4q, e4⟩ := hQ4
    have N4 := Fr.app N3 N4q
    refine own_st st4 ?_
    show own_G p e below s _ _ _ (T4.setTop (mkF m 37 #[.val (.int cs), .val (.int sr), .val (.int fl), .val (.long n1), .second, .val (.long n2), .second, .val (.ref b1), .unset, .unset] [(.int (own_b ((0 : Int32) = (own_tot (0 : Int32) (cs &&& (3 : Int32))))))]))
    refine own_st (fun zt zk => XS.istore X4.here hx rfl (hb hby at_37) rfl (l' := #[.val (.int cs), .val (.int sr), .val (.int fl), .val (.long n1), .second, .val (.long n2), .second, .val (.ref b1), .val (.int (own_b ((0 : Int32) = (own_tot (0 : Int32) (cs &&& (3 : Int32)))))), .unset]) rfl zk) ?_
    show own_G p e below s _ _ _ (T4.setTop (mkF m 39 #[.val (.int cs), .val (.int sr), .val (.int fl), .val (.long n1), .second, .val (.long n2), .second, .val (.ref b1), .val (.int (own_b ((0 : Int32) = (own_tot (0 : Int32) (cs &&& (3 : Int32)))))), .unset] []))
    refine own_st (fun zt zk => XS.aload X4.here hx rfl (hb hby at_39) rfl rfl zk) ?_
    show own_G p e below s _ _ _ (T4.setTop (mkF m 41 #[.val (.int cs), .val (.int sr), .val (.int fl), .val (.long n1), .second, .val (.long n2), .second, .val (.ref b1), .val (.int (own_b ((0 : Int32) = (own_tot (0 : Int32) (cs &&& (3 : Int32)))))), .unset] [(.ref b1)]))
    refine own_st (fun zt zk => XS.lloadN X4.here hx rfl (hb hby at_41) rfl zk) ?_
    show own_G p e below s _ _ _ (T4.setTop (mkF m 42 #[.val (.int cs), .val (.int sr), .val (.int fl), .val (.long n1), .second, .val (.long n2), .second, .val (.ref b1), .val (.int (own_b ((0 : Int32) = (own_tot (0 : Int32) (cs &&& (3 : Int32)))))), .unset] [(.long n1), (.ref b1)]))
    obtain ⟨_, T6, L6, X6, hQ6, st6⟩ := own_callV X4 hx hZ (C := "com/example/quorumproof/quorumproof/proof/Client") (y := (⟨"com/example/quorumproof/quorumproof/proof/Client", "request", "(J)V"⟩ : MethodName)) (z := (⟨"com/example/quorumproof/quorumproof/proof/Client", "request", "(J)V"⟩ : MethodName)) (a := b1) (argsL := [(.long n1)]) (rest := []) 0 hown (hw _ (List.mem_of_getElem? (i := 28) rfl)) (hw _ (List.mem_of_getElem? (i := 29) rfl)) (own_nf hZ (hw _ (List.mem_of_getElem? (i := 31) rfl))) (hw _ (List.mem_of_getElem? (i := 31) rfl)) (hw _ (List.mem_of_getElem? (i := 30) rfl)) (hw _ (List.mem_of_getElem? (i := 2) rfl)) (hw _ (List.mem_of_getElem? (i := 32) rfl)) (by decide) (own_req l Z a0 hw [] b1 n1 (1 : Int32) (9223372036854775807 : Int64) (cs &&& (3 : Int32)) (((sr &&& (2147483647 : Int32)) % (7 : Int32)) + (1 : Int32)) (0 : Int32) (0 : Int32) (0 : Int32) T3.heap n0 (Nat.le_trans (Nat.le_trans Z0 E1.1) K3.1) E5 q3_0 q3_1 q3_2 q3_3 q3_4 q3_5 q3_6 ge1) (by decide) (by decide) e4 E5 (g := (mkF m 42 #[.val (.int cs), .val (.int sr), .val (.int fl), .val (.long n1), .second, .val (.long n2), .second, .val (.ref b1), .val (.int (own_b ((0 : Int32) = (own_tot (0 : Int32) (cs &&& (3 : Int32)))))), .unset] [(.long n1), (.ref b1)])) rfl (by rw [hml]; rfl) own_pd2 rfl rfl (by show 2 * 0 + _ ≤ _; exact Nat.le_of_eq rfl) (hb hby at_42) (by decide) (by decide)
    obtain ⟨rfl, N6q, K6, q6_0, q6_1, q6_2, q6_3, q6_4, q6_5, q6_6⟩ := hQ6
    have N6 := Fr.app N4 N6q
    refine own_st st6 ?_
    show own_G p e below s _ _ _ (T6.setTop (mkF m 45 #[.val (.int cs), .val (.int sr), .val (.int fl), .val (.long n1), .second, .val (.long n2), .second, .val (.ref b1), .val (.int (own_b ((0 : Int32) = (own_tot (0 : Int32) (cs &&& (3 : Int32)))))), .unset] []))
    refine own_st (fun zt zk => XS.aload X6.here hx rfl (hb hby at_45) rfl rfl zk) ?_
    show own_G p e below s _ _ _ (T6.setTop (mkF m 47 #[.val (.int cs), .val (.int sr), .val (.int fl), .val (.long n1), .second, .val (.long n2), .second, .val (.ref b1), .val (.int (own_b ((0 : Int32) = (own_tot (0 : Int32) (cs &&& (3 : Int32)))))), .unset] [(.ref b1)]))
    have E8 : Exa Z T6.heap b1 "com/example/quorumproof/quorumproof/proof/Client" := (E5.keep K6)
    obtain ⟨_, T7, L7, X7, hQ7, st7⟩ := own_callV X6 hx hZ (C := "com/example/quorumproof/quorumproof/proof/Client") (y := (⟨"com/example/quorumproof/quorumproof/proof/Client", "attempt", "()I"⟩ : MethodName)) (z := (⟨"com/example/quorumproof/quorumproof/proof/Client", "attempt", "()I"⟩ : MethodName)) (a := b1) (argsL := []) (rest := []) 0 hown (hw _ (List.mem_of_getElem? (i := 36) rfl)) (hw _ (List.mem_of_getElem? (i := 37) rfl)) (own_nf hZ (hw _ (List.mem_of_getElem? (i := 39) rfl))) (hw _ (List.mem_of_getElem? (i := 39) rfl)) (hw _ (List.mem_of_getElem? (i := 38) rfl)) (hw _ (List.mem_of_getElem? (i := 2) rfl)) (hw _ (List.mem_of_getElem? (i := 40) rfl)) (by decide) (own_g_attempt l Z a0 hw [] b1 ((0 : Int32) + (1 : Int32)) T6.heap n0 (Nat.le_trans (Nat.le_trans (Nat.le_trans Z0 E1.1) K3.1) K6.1) q6_5) (by decide) (by decide) rfl E8 (g := (mkF m 47 #[.val (.int cs), .val (.int sr), .val (.int fl), .val (.long n1), .second, .val (.long n2), .second, .val (.ref b1), .val (.int (own_b ((0 : Int32) = (own_tot (0 : Int32) (cs &&& (3 : Int32)))))), .unset] [(.ref b1)])) rfl (by rw [hml]; rfl) own_pd3 rfl rfl (by show 2 * 0 + _ ≤ _; exact Nat.le_of_eq rfl) (hb hby at_47) (by decide) (by decide)
    obtain ⟨rfl, N7q, e7⟩ := hQ7
    have N7 := Fr.app N6 N7q
    refine own_st st7 ?_
    show own_G p e below s _ _ _ (T7.setTop (mkF m 50 #[.val (.int cs), .val (.int sr), .val (.int fl), .val (.long n1), .second, .val (.long n2), .second, .val (.ref b1), .val (.int (own_b ((0 : Int32) = (own_tot (0 : Int32) (cs &&& (3 : Int32)))))), .unset] [(.int ((0 : Int32) + (1 : Int32)))]))
    refine own_st (fun zt zk => XS.iconst X7.here hx rfl (hb hby at_50) zk) ?_
    show own_G p e below s _ _ _ (T7.setTop (mkF m 51 #[.val (.int cs), .val (.int sr), .val (.int fl), .val (.long n1), .second, .val (.long n2), .second, .val (.ref b1), .val (.int (own_b ((0 : Int32) = (own_tot (0 : Int32) (cs &&& (3 : Int32)))))), .unset] [(.int (1 : Int32)), (.int ((0 : Int32) + (1 : Int32)))]))
    have hc51_9 : ((0 : Int32) + (1 : Int32)) = (1 : Int32) := (by decide)
    refine own_st (fun zt zk => XS.icmpNo X7.here hx rfl (hb hby at_51) rfl (teq hc51_9).2 zk) ?_
    show own_G p e below s _ _ _ (T7.setTop (mkF m 54 #[.val (.int cs), .val (.int sr), .val (.int fl), .val (.long n1), .second, .val (.long n2), .second, .val (.ref b1), .val (.int (own_b ((0 : Int32) = (own_tot (0 : Int32) (cs &&& (3 : Int32)))))), .unset] []))
    refine own_st (fun zt zk => XS.aload X7.here hx rfl (hb hby at_54) rfl rfl zk) ?_
    show own_G p e below s _ _ _ (T7.setTop (mkF m 56 #[.val (.int cs), .val (.int sr), .val (.int fl), .val (.long n1), .second, .val (.long n2), .second, .val (.ref b1), .val (.int (own_b ((0 : Int32) = (own_tot (0 : Int32) (cs &&& (3 : Int32)))))), .unset] [(.ref b1)]))
    obtain ⟨_, T10, L10, X10, hQ10, st10⟩ := own_callV X7 hx hZ (C := "com/example/quorumproof/quorumproof/proof/Client") (y := (⟨"com/example/quorumproof/quorumproof/proof/Client", "retryAt", "()J"⟩ : MethodName)) (z := (⟨"com/example/quorumproof/quorumproof/proof/Client", "retryAt", "()J"⟩ : MethodName)) (a := b1) (argsL := []) (rest := []) 0 hown (hw _ (List.mem_of_getElem? (i := 41) rfl)) (hw _ (List.mem_of_getElem? (i := 42) rfl)) (own_nf hZ (hw _ (List.mem_of_getElem? (i := 44) rfl))) (hw _ (List.mem_of_getElem? (i := 44) rfl)) (hw _ (List.mem_of_getElem? (i := 43) rfl)) (hw _ (List.mem_of_getElem? (i := 2) rfl)) (hw _ (List.mem_of_getElem? (i := 45) rfl)) (by decide) (own_g_retryAt l Z a0 hw [] b1 (n1 + (500 : Int64)) T6.heap n0 (Nat.le_trans (Nat.le_trans (Nat.le_trans Z0 E1.1) K3.1) K6.1) q6_1) (by decide) (by decide) e7 E8 (g := (mkF m 56 #[.val (.int cs), .val (.int sr), .val (.int fl), .val (.long n1), .second, .val (.long n2), .second, .val (.ref b1), .val (.int (own_b ((0 : Int32) = (own_tot (0 : Int32) (cs &&& (3 : Int32)))))), .unset] [(.ref b1)])) rfl (by rw [hml]; rfl) own_pd4 rfl rfl (by show 2 * 0 + _ ≤ _; exact Nat.le_of_eq rfl) (hb hby at_56) (by decide) (by decide)
    obtain ⟨rfl, N10q, e10⟩ := hQ10
    have N10 := Fr.app N7 N10q
    refine own_st st10 ?_
    show own_G p e below s _ _ _ (T10.setTop (mkF m 59 #[.val (.int cs), .val (.int sr), .val (.int fl), .val (.long n1), .second, .val (.long n2), .second, .val (.ref b1), .val (.int (own_b ((0 : Int32) = (own_tot (0 : Int32) (cs &&& (3 : Int32)))))), .unset] [(.long (n1 + (500 : Int64)))]))
    refine own_st (fun zt zk => XS.lloadN X10.here hx rfl (hb hby at_59) rfl zk) ?_
    show own_G p e below s _ _ _ (T10.setTop (mkF m 60 #[.val (.int cs), .val (.int sr), .val (.int fl), .val (.long n1), .second, .val (.long n2), .second, .val (.ref b1), .val (.int (own_b ((0 : Int32) = (own_tot (0 : Int32) (cs &&& (3 : Int32)))))), .unset] [(.long n1), (.long (n1 + (500 : Int64)))]))
    refine own_st (X10.ldc2Long hx hown (mvT hZ (hw _ (List.mem_of_getElem? (i := 46) rfl))) (g := (mkF m 60 #[.val (.int cs), .val (.int sr), .val (.int fl), .val (.long n1), .second, .val (.long n2), .second, .val (.ref b1), .val (.int (own_b ((0 : Int32) = (own_tot (0 : Int32) (cs &&& (3 : Int32)))))), .unset] [(.long n1), (.long (n1 + (500 : Int64)))])) rfl (hb hby at_60)) ?_
    show own_G p e below s _ _ _ (T10.setTop (mkF m 63 #[.val (.int cs), .val (.int sr), .val (.int fl), .val (.long n1), .second, .val (.long n2), .second, .val (.ref b1), .val (.int (own_b ((0 : Int32) = (own_tot (0 : Int32) (cs &&& (3 : Int32)))))), .unset] [(.long (500 : Int64)), (.long n1), (.long (n1 + (500 : Int64)))]))
    refine own_st (fun zt zk => XS.ladd X10.here hx rfl (hb hby at_63) rfl zk) ?_
    show own_G p e below s _ _ _ (T10.setTop (mkF m 64 #[.val (.int cs), .val (.int sr), .val (.int fl), .val (.long n1), .second, .val (.long n2), .second, .val (.ref b1), .val (.int (own_b ((0 : Int32) = (own_tot (0 : Int32) (cs &&& (3 : Int32)))))), .unset] [(.long (n1 + (500 : Int64))), (.long (n1 + (500 : Int64)))]))
    refine own_st (fun zt zk => XS.lcmp X10.here hx rfl (hb hby at_64) rfl zk) ?_
    show own_G p e below s _ _ _ (T10.setTop (mkF m 65 #[.val (.int cs), .val (.int sr), .val (.int fl), .val (.long n1), .second, .val (.long n2), .second, .val (.ref b1), .val (.int (own_b ((0 : Int32) = (own_tot (0 : Int32) (cs &&& (3 : Int32)))))), .unset] [(.int (lcmpW (n1 + (500 : Int64)) (n1 + (500 : Int64))))]))
    refine own_st (fun zt zk => XS.ifNo X10.here hx rfl (hb hby at_65) rfl ((if0 _ _).trans (teq ((lw_eq (n1 + (500 : Int64)) (n1 + (500 : Int64))).mpr (rfl : (n1 + (500 : Int64)) = (n1 + (500 : Int64))))).2) zk) ?_
    show own_G p e below s _ _ _ (T10.setTop (mkF m 68 #[.val (.int cs), .val (.int sr), .val (.int fl), .val (.long n1), .second, .val (.long n2), .second, .val (.ref b1), .val (.int (own_b ((0 : Int32) = (own_tot (0 : Int32) (cs &&& (3 : Int32)))))), .unset] []))
    refine own_st (fun zt zk => XS.aload X10.here hx rfl (hb hby at_68) rfl rfl zk) ?_
    show own_G p e below s _ _ _ (T10.setTop (mkF m 70 #[.val (.int cs), .val (.int sr), .val (.int fl), .val (.long n1), .second, .val (.long n2), .second, .val (.ref b1), .val (.int (own_b ((0 : Int32) = (own_tot (0 : Int32) (cs &&& (3 : Int32)))))), .unset] [(.ref b1)]))
    obtain ⟨_, T11, L11, X11, hQ11, st11⟩ := own_callV X10 hx hZ (C := "com/example/quorumproof/quorumproof/proof/Client") (y := (⟨"com/example/quorumproof/quorumproof/proof/Client", "target", "()I"⟩ : MethodName)) (z := (⟨"com/example/quorumproof/quorumproof/proof/Client", "target", "()I"⟩ : MethodName)) (a := b1) (argsL := []) (rest := []) 0 hown (hw _ (List.mem_of_getElem? (i := 47) rfl)) (hw _ (List.mem_of_getElem? (i := 48) rfl)) (own_nf hZ (hw _ (List.mem_of_getElem? (i := 50) rfl))) (hw _ (List.mem_of_getElem? (i := 50) rfl)) (hw _ (List.mem_of_getElem? (i := 49) rfl)) (hw _ (List.mem_of_getElem? (i := 2) rfl)) (hw _ (List.mem_of_getElem? (i := 51) rfl)) (by decide) (own_g_target l Z a0 hw [] b1 (1 : Int32) T6.heap n0 (Nat.le_trans (Nat.le_trans (Nat.le_trans Z0 E1.1) K3.1) K6.1) q6_0) (by decide) (by decide) e10 E8 (g := (mkF m 70 #[.val (.int cs), .val (.int sr), .val (.int fl), .val (.long n1), .second, .val (.long n2), .second, .val (.ref b1), .val (.int (own_b ((0 : Int32) = (own_tot (0 : Int32) (cs &&& (3 : Int32)))))), .unset] [(.ref b1)])) rfl (by rw [hml]; rfl) own_pd3 rfl rfl (by show 2 * 0 + _ ≤ _; exact Nat.le_of_eq rfl) (hb hby at_70) (by decide) (by decide)
    obtain ⟨rfl, N11q, e11⟩ := hQ11
    have N11 := Fr.app N10 N11q
    refine own_st st11 ?_
    show own_G p e below s _ _ _ (T11.setTop (mkF m 73 #[.val (.int cs), .val (.int sr), .val (.int fl), .val (.long n1), .second, .val (.long n2), .second, .val (.ref b1), .val (.int (own_b ((0 : Int32) = (own_tot (0 : Int32) (cs &&& (3 : Int32)))))), .unset] [(.int (1 : Int32))]))
    refine own_st (fun zt zk => XS.iconst X11.here hx rfl (hb hby at_73) zk) ?_
    show own_G p e below s _ _ _ (T11.setTop (mkF m 74 #[.val (.int cs), .val (.int sr), .val (.int fl), .val (.long n1), .second, .val (.long n2), .second, .val (.ref b1), .val (.int (own_b ((0 : Int32) = (own_tot (0 : Int32) (cs &&& (3 : Int32)))))), .unset] [(.int (1 : Int32)), (.int (1 : Int32))]))
    refine own_st (fun zt zk => XS.icmpNo X11.here hx rfl (hb hby at_74) rfl (teq (by decide : (1 : Int32) = (1 : Int32))).2 zk) ?_
    show own_G p e below s _ _ _ (T11.setTop (mkF m 77 #[.val (.int cs), .val (.int sr), .val (.int fl), .val (.long n1), .second, .val (.long n2), .second, .val (.ref b1), .val (.int (own_b ((0 : Int32) = (own_tot (0 : Int32) (cs &&& (3 : Int32)))))), .unset] []))
    refine own_st (fun zt zk => XS.iconst X11.here hx rfl (hb hby at_77) zk) ?_
    show own_G p e below s _ _ _ (T11.setTop (mkF m 78 #[.val (.int cs), .val (.int sr), .val (.int fl), .val (.long n1), .second, .val (.long n2), .second, .val (.ref b1), .val (.int (own_b ((0 : Int32) = (own_tot (0 : Int32) (cs &&& (3 : Int32)))))), .unset] [(.int (1 : Int32))]))
    refine own_st (fun zt zk => XS.goto X11.here hx rfl (pc0 := 78) (pc' := 82) rfl (hb hby at_78) (by decide) (by decide) zk) ?_
    show own_G p e below s _ _ _ (T11.setTop (mkF m 82 #[.val (.int cs), .val (.int sr), .val (.int fl), .val (.long n1), .second, .val (.long n2), .second, .val (.ref b1), .val (.int (own_b ((0 : Int32) = (own_tot (0 : Int32) (cs &&& (3 : Int32)))))), .unset] [(.int (1 : Int32))]))
    refine own_st (fun zt zk => XS.istore X11.here hx rfl (hb hby at_82) rfl (l' := #[.val (.int cs), .val (.int sr), .val (.int fl), .val (.long n1), .second, .val (.long n2), .second, .val (.ref b1), .val (.int (own_b ((0 : Int32) = (own_tot (0 : Int32) (cs &&& (3 : Int32)))))), .val (.int (1 : Int32))]) rfl zk) ?_
    show own_G p e below s _ _ _ (T11.setTop (mkF m 84 #[.val (.int cs), .val (.int sr), .val (.int fl), .val (.long n1), .second, .val (.long n2), .second, .val (.ref b1), .val (.int (own_b ((0 : Int32) = (own_tot (0 : Int32) (cs &&& (3 : Int32)))))), .val (.int (1 : Int32))] []))
    refine own_st (fun zt zk => XS.aload X11.here hx rfl (hb hby at_84) rfl rfl zk) ?_
    show own_G p e below s _ _ _ (T11.setTop (mkF m 86 #[.val (.int cs), .val (.int sr), .val (.int fl), .val (.long n1), .second, .val (.long n2), .second, .val (.ref b1), .val (.int (own_b ((0 : Int32) = (own_tot (0 : Int32) (cs &&& (3 : Int32)))))), .val (.int (1 : Int32))] [(.ref b1)]))
    refine own_st (fun zt zk => XS.lload X11.here hx rfl (hb hby at_86) rfl zk) ?_
    show own_G p e below s _ _ _ (T11.setTop (mkF m 88 #[.val (.int cs), .val (.int sr), .val (.int fl), .val (.long n1), .second, .val (.long n2), .second, .val (.ref b1), .val (.int (own_b ((0 : Int32) = (own_tot (0 : Int32) (cs &&& (3 : Int32)))))), .val (.int (1 : Int32))] [(.long n2), (.ref b1)]))
    obtain ⟨_, T12, L12, X12, hQ12, st12⟩ := own_callV X11 hx hZ (C := "com/example/quorumproof/quorumproof/proof/Client") (y := (⟨"com/example/quorumproof/quorumproof/proof/Client", "request", "(J)V"⟩ : MethodName)) (z := (⟨"com/example/quorumproof/quorumproof/proof/Client", "request", "(J)V"⟩ : MethodName)) (a := b1) (argsL := [(.long n2)]) (rest := []) 0 hown (hw _ (List.mem_of_getElem? (i := 28) rfl)) (hw _ (List.mem_of_getElem? (i := 29) rfl)) (own_nf hZ (hw _ (List.mem_of_getElem? (i := 31) rfl))) (hw _ (List.mem_of_getElem? (i := 31) rfl)) (hw _ (List.mem_of_getElem? (i := 30) rfl)) (hw _ (List.mem_of_getElem? (i := 2) rfl)) (hw _ (List.mem_of_getElem? (i := 32) rfl)) (by decide) (own_req l Z a0 hw [] b1 n2 (1 : Int32) (n1 + (500 : Int64)) (cs &&& (3 : Int32)) (((sr &&& (2147483647 : Int32)) % (7 : Int32)) + (1 : Int32)) (0 : Int32) ((0 : Int32) + (1 : Int32)) (0 : Int32) T6.heap n0 (Nat.le_trans (Nat.le_trans (Nat.le_trans Z0 E1.1) K3.1) K6.1) E8 q6_0 q6_1 q6_2 q6_3 q6_4 q6_5 q6_6 ge1) (by decide) (by decide) e11 E8 (g := (mkF m 88 #[.val (.int cs), .val (.int sr), .val (.int fl), .val (.long n1), .second, .val (.long n2), .second, .val (.ref b1), .val (.int (own_b ((0 : Int32) = (own_tot (0 : Int32) (cs &&& (3 : Int32)))))), .val (.int (1 : Int32))] [(.long n2), (.ref b1)])) rfl (by rw [hml]; rfl) own_pd2 rfl rfl (by show 2 * 0 + _ ≤ _; exact Nat.le_of_eq rfl) (hb hby at_88) (by decide) (by decide)
    obtain ⟨rfl, N12q, K12, q12_0, q12_1, q12_2, q12_3, q12_4, q12_5, q12_6⟩ := hQ12
    have N12 := Fr.app N11 N12q
    refine own_st st12 ?_
    show own_G p e below s _ _ _ (T12.setTop (mkF m 91 #[.val (.int cs), .val (.int sr), .val (.int fl), .val (.long n1), .second, .val (.long n2), .second, .val (.ref b1), .val (.int (own_b ((0 : Int32) = (own_tot (0 : Int32) (cs &&& (3 : Int32)))))), .val (.int (1 : Int32))] []))
    refine own_st (fun zt zk => XS.iload X12.here hx rfl (hb hby at_91) rfl zk) ?_
    show own_G p e below s _ _ _ (T12.setTop (mkF m 93 #[.val (.int cs), .val (.int sr), .val (.int fl), .val (.long n1), .second, .val (.long n2), .second, .val (.ref b1), .val (.int (own_b ((0 : Int32) = (own_tot (0 : Int32) (cs &&& (3 : Int32)))))), .val (.int (1 : Int32))] [(.int (1 : Int32))]))
    refine own_st (fun zt zk => XS.ifNo X12.here hx rfl (hb hby at_93) rfl ((if0 _ _).trans (feq (by decide : ¬ ((1 : Int32) = (0 : Int32)))).1) zk) ?_
    show own_G p e below s _ _ _ (T12.setTop (mkF m 96 #[.val (.int cs), .val (.int sr), .val (.int fl), .val (.long n1), .second, .val (.long n2), .second, .val (.ref b1), .val (.int (own_b ((0 : Int32) = (own_tot (0 : Int32) (cs &&& (3 : Int32)))))), .val (.int (1 : Int32))] []))
    refine own_st (fun zt zk => XS.aload X12.here hx rfl (hb hby at_96) rfl rfl zk) ?_
    show own_G p e below s _ _ _ (T12.setTop (mkF m 98 #[.val (.int cs), .val (.int sr), .val (.int fl), .val (.long n1), .second, .val (.long n2), .second, .val (.ref b1), .val (.int (own_b ((0 : Int32) = (own_tot (0 : Int32) (cs &&& (3 : Int32)))))), .val (.int (1 : Int32))] [(.ref b1)]))
    have E14 : Exa Z T12.heap b1 "com/example/quorumproof/quorumproof/proof/Client" := (E8.keep K12)
    obtain ⟨_, T13, L13, X13, hQ13, st13⟩ := own_callV X12 hx hZ (C := "com/example/quorumproof/quorumproof/proof/Client") (y := (⟨"com/example/quorumproof/quorumproof/proof/Client", "attempt", "()I"⟩ : MethodName)) (z := (⟨"com/example/quorumproof/quorumproof/proof/Client", "attempt", "()I"⟩ : MethodName)) (a := b1) (argsL := []) (rest := []) 0 hown (hw _ (List.mem_of_getElem? (i := 36) rfl)) (hw _ (List.mem_of_getElem? (i := 37) rfl)) (own_nf hZ (hw _ (List.mem_of_getElem? (i := 39) rfl))) (hw _ (List.mem_of_getElem? (i := 39) rfl)) (hw _ (List.mem_of_getElem? (i := 38) rfl)) (hw _ (List.mem_of_getElem? (i := 2) rfl)) (hw _ (List.mem_of_getElem? (i := 40) rfl)) (by decide) (own_g_attempt l Z a0 hw [] b1 (((0 : Int32) + (1 : Int32)) + (1 : Int32)) T12.heap n0 (Nat.le_trans (Nat.le_trans (Nat.le_trans (Nat.le_trans Z0 E1.1) K3.1) K6.1) K12.1) q12_5) (by decide) (by decide) rfl E14 (g := (mkF m 98 #[.val (.int cs), .val (.int sr), .val (.int fl), .val (.long n1), .second, .val (.long n2), .second, .val (.ref b1), .val (.int (own_b ((0 : Int32) = (own_tot (0 : Int32) (cs &&& (3 : Int32)))))), .val (.int (1 : Int32))] [(.ref b1)])) rfl (by rw [hml]; rfl) own_pd3 rfl rfl (by show 2 * 0 + _ ≤ _; exact Nat.le_of_eq rfl) (hb hby at_98) (by decide) (by decide)
    obtain ⟨rfl, N13q, e13⟩ := hQ13
    have N13 := Fr.app N12 N13q
    refine own_st st13 ?_
    show own_G p e below s _ _ _ (T13.setTop (mkF m 101 #[.val (.int cs), .val (.int sr), .val (.int fl), .val (.long n1), .second, .val (.long n2), .second, .val (.ref b1), .val (.int (own_b ((0 : Int32) = (own_tot (0 : Int32) (cs &&& (3 : Int32)))))), .val (.int (1 : Int32))] [(.int (((0 : Int32) + (1 : Int32)) + (1 : Int32)))]))
    refine own_st (fun zt zk => XS.iconst X13.here hx rfl (hb hby at_101) zk) ?_
    show own_G p e below s _ _ _ (T13.setTop (mkF m 102 #[.val (.int cs), .val (.int sr), .val (.int fl), .val (.long n1), .second, .val (.long n2), .second, .val (.ref b1), .val (.int (own_b ((0 : Int32) = (own_tot (0 : Int32) (cs &&& (3 : Int32)))))), .val (.int (1 : Int32))] [(.int (2 : Int32)), (.int (((0 : Int32) + (1 : Int32)) + (1 : Int32)))]))
    have hc102_15 : (((0 : Int32) + (1 : Int32)) + (1 : Int32)) = (2 : Int32) := (by decide)
    refine own_st (fun zt zk => XS.icmpNo X13.here hx rfl (hb hby at_102) rfl (teq hc102_15).2 zk) ?_
    show own_G p e below s _ _ _ (T13.setTop (mkF m 105 #[.val (.int cs), .val (.int sr), .val (.int fl), .val (.long n1), .second, .val (.long n2), .second, .val (.ref b1), .val (.int (own_b ((0 : Int32) = (own_tot (0 : Int32) (cs &&& (3 : Int32)))))), .val (.int (1 : Int32))] []))
    refine own_st (fun zt zk => XS.aload X13.here hx rfl (hb hby at_105) rfl rfl zk) ?_
    show own_G p e below s _ _ _ (T13.setTop (mkF m 107 #[.val (.int cs), .val (.int sr), .val (.int fl), .val (.long n1), .second, .val (.long n2), .second, .val (.ref b1), .val (.int (own_b ((0 : Int32) = (own_tot (0 : Int32) (cs &&& (3 : Int32)))))), .val (.int (1 : Int32))] [(.ref b1)]))
    obtain ⟨_, T16, L16, X16, hQ16, st16⟩ := own_callV X13 hx hZ (C := "com/example/quorumproof/quorumproof/proof/Client") (y := (⟨"com/example/quorumproof/quorumproof/proof/Client", "retryAt", "()J"⟩ : MethodName)) (z := (⟨"com/example/quorumproof/quorumproof/proof/Client", "retryAt", "()J"⟩ : MethodName)) (a := b1) (argsL := []) (rest := []) 0 hown (hw _ (List.mem_of_getElem? (i := 41) rfl)) (hw _ (List.mem_of_getElem? (i := 42) rfl)) (own_nf hZ (hw _ (List.mem_of_getElem? (i := 44) rfl))) (hw _ (List.mem_of_getElem? (i := 44) rfl)) (hw _ (List.mem_of_getElem? (i := 43) rfl)) (hw _ (List.mem_of_getElem? (i := 2) rfl)) (hw _ (List.mem_of_getElem? (i := 45) rfl)) (by decide) (own_g_retryAt l Z a0 hw [] b1 (n2 + (500 : Int64)) T12.heap n0 (Nat.le_trans (Nat.le_trans (Nat.le_trans (Nat.le_trans Z0 E1.1) K3.1) K6.1) K12.1) q12_1) (by decide) (by decide) e13 E14 (g := (mkF m 107 #[.val (.int cs), .val (.int sr), .val (.int fl), .val (.long n1), .second, .val (.long n2), .second, .val (.ref b1), .val (.int (own_b ((0 : Int32) = (own_tot (0 : Int32) (cs &&& (3 : Int32)))))), .val (.int (1 : Int32))] [(.ref b1)])) rfl (by rw [hml]; rfl) own_pd4 rfl rfl (by show 2 * 0 + _ ≤ _; exact Nat.le_of_eq rfl) (hb hby at_107) (by decide) (by decide)
    obtain ⟨rfl, N16q, e16⟩ := hQ16
    have N16 := Fr.app N13 N16q
    refine own_st st16 ?_
    show own_G p e below s _ _ _ (T16.setTop (mkF m 110 #[.val (.int cs), .val (.int sr), .val (.int fl), .val (.long n1), .second, .val (.long n2), .second, .val (.ref b1), .val (.int (own_b ((0 : Int32) = (own_tot (0 : Int32) (cs &&& (3 : Int32)))))), .val (.int (1 : Int32))] [(.long (n2 + (500 : Int64)))]))
    refine own_st (fun zt zk => XS.lload X16.here hx rfl (hb hby at_110) rfl zk) ?_
    show own_G p e below s _ _ _ (T16.setTop (mkF m 112 #[.val (.int cs), .val (.int sr), .val (.int fl), .val (.long n1), .second, .val (.long n2), .second, .val (.ref b1), .val (.int (own_b ((0 : Int32) = (own_tot (0 : Int32) (cs &&& (3 : Int32)))))), .val (.int (1 : Int32))] [(.long n2), (.long (n2 + (500 : Int64)))]))
    refine own_st (X16.ldc2Long hx hown (mvT hZ (hw _ (List.mem_of_getElem? (i := 46) rfl))) (g := (mkF m 112 #[.val (.int cs), .val (.int sr), .val (.int fl), .val (.long n1), .second, .val (.long n2), .second, .val (.ref b1), .val (.int (own_b ((0 : Int32) = (own_tot (0 : Int32) (cs &&& (3 : Int32)))))), .val (.int (1 : Int32))] [(.long n2), (.long (n2 + (500 : Int64)))])) rfl (hb hby at_112)) ?_
    show own_G p e below s _ _ _ (T16.setTop (mkF m 115 #[.val (.int cs), .val (.int sr), .val (.int fl), .val (.long n1), .second, .val (.long n2), .second, .val (.ref b1), .val (.int (own_b ((0 : Int32) = (own_tot (0 : Int32) (cs &&& (3 : Int32)))))), .val (.int (1 : Int32))] [(.long (500 : Int64)), (.long n2), (.long (n2 + (500 : Int64)))]))
    refine own_st (fun zt zk => XS.ladd X16.here hx rfl (hb hby at_115) rfl zk) ?_
    show own_G p e below s _ _ _ (T16.setTop (mkF m 116 #[.val (.int cs), .val (.int sr), .val (.int fl), .val (.long n1), .second, .val (.long n2), .second, .val (.ref b1), .val (.int (own_b ((0 : Int32) = (own_tot (0 : Int32) (cs &&& (3 : Int32)))))), .val (.int (1 : Int32))] [(.long (n2 + (500 : Int64))), (.long (n2 + (500 : Int64)))]))
    refine own_st (fun zt zk => XS.lcmp X16.here hx rfl (hb hby at_116) rfl zk) ?_
    show own_G p e below s _ _ _ (T16.setTop (mkF m 117 #[.val (.int cs), .val (.int sr), .val (.int fl), .val (.long n1), .second, .val (.long n2), .second, .val (.ref b1), .val (.int (own_b ((0 : Int32) = (own_tot (0 : Int32) (cs &&& (3 : Int32)))))), .val (.int (1 : Int32))] [(.int (lcmpW (n2 + (500 : Int64)) (n2 + (500 : Int64))))]))
    refine own_st (fun zt zk => XS.ifNo X16.here hx rfl (hb hby at_117) rfl ((if0 _ _).trans (teq ((lw_eq (n2 + (500 : Int64)) (n2 + (500 : Int64))).mpr (rfl : (n2 + (500 : Int64)) = (n2 + (500 : Int64))))).2) zk) ?_
    show own_G p e below s _ _ _ (T16.setTop (mkF m 120 #[.val (.int cs), .val (.int sr), .val (.int fl), .val (.long n1), .second, .val (.long n2), .second, .val (.ref b1), .val (.int (own_b ((0 : Int32) = (own_tot (0 : Int32) (cs &&& (3 : Int32)))))), .val (.int (1 : Int32))] []))
    refine own_st (fun zt zk => XS.aload X16.here hx rfl (hb hby at_120) rfl rfl zk) ?_
    show own_G p e below s _ _ _ (T16.setTop (mkF m 122 #[.val (.int cs), .val (.int sr), .val (.int fl), .val (.long n1), .second, .val (.long n2), .second, .val (.ref b1), .val (.int (own_b ((0 : Int32) = (own_tot (0 : Int32) (cs &&& (3 : Int32)))))), .val (.int (1 : Int32))] [(.ref b1)]))
    obtain ⟨_, T17, L17, X17, hQ17, st17⟩ := own_callV X16 hx hZ (C := "com/example/quorumproof/quorumproof/proof/Client") (y := (⟨"com/example/quorumproof/quorumproof/proof/Client", "finished", "()Z"⟩ : MethodName)) (z := (⟨"com/example/quorumproof/quorumproof/proof/Client", "finished", "()Z"⟩ : MethodName)) (a := b1) (argsL := []) (rest := []) 0 hown (hw _ (List.mem_of_getElem? (i := 21) rfl)) (hw _ (List.mem_of_getElem? (i := 22) rfl)) (own_nf hZ (hw _ (List.mem_of_getElem? (i := 24) rfl))) (hw _ (List.mem_of_getElem? (i := 24) rfl)) (hw _ (List.mem_of_getElem? (i := 23) rfl)) (hw _ (List.mem_of_getElem? (i := 2) rfl)) (hw _ (List.mem_of_getElem? (i := 25) rfl)) (by decide) (own_fin l Z a0 hw [] b1 (0 : Int32) (cs &&& (3 : Int32)) (0 : Int32) T12.heap n0 (Nat.le_trans (Nat.le_trans (Nat.le_trans (Nat.le_trans Z0 E1.1) K3.1) K6.1) K12.1) q12_4 q12_2 q12_6) (by decide) (by decide) e16 E14 (g := (mkF m 122 #[.val (.int cs), .val (.int sr), .val (.int fl), .val (.long n1), .second, .val (.long n2), .second, .val (.ref b1), .val (.int (own_b ((0 : Int32) = (own_tot (0 : Int32) (cs &&& (3 : Int32)))))), .val (.int (1 : Int32))] [(.ref b1)])) rfl (by rw [hml]; rfl) own_pd1 rfl rfl (by show 2 * 0 + _ ≤ _; exact Nat.le_of_eq rfl) (hb hby at_122) (by decide) (by decide)
    obtain ⟨rfl, N17q, e17⟩ := hQ17
    have N17 := Fr.app N16 N17q
    refine own_st st17 ?_
    show own_G p e below s _ _ _ (T17.setTop (mkF m 125 #[.val (.int cs), .val (.int sr), .val (.int fl), .val (.long n1), .second, .val (.long n2), .second, .val (.ref b1), .val (.int (own_b ((0 : Int32) = (own_tot (0 : Int32) (cs &&& (3 : Int32)))))), .val (.int (1 : Int32))] [(.int (own_b ((0 : Int32) = (own_tot (0 : Int32) (cs &&& (3 : Int32))))))]))
    refine own_st (fun zt zk => XS.iload X17.here hx rfl (hb hby at_125) rfl zk) ?_
    show own_G p e below s _ _ _ (T17.setTop (mkF m 127 #[.val (.int cs), .val (.int sr), .val (.int fl), .val (.long n1), .second, .val (.long n2), .second, .val (.ref b1), .val (.int (own_b ((0 : Int32) = (own_tot (0 : Int32) (cs &&& (3 : Int32)))))), .val (.int (1 : Int32))] [(.int (own_b ((0 : Int32) = (own_tot (0 : Int32) (cs &&& (3 : Int32)))))), (.int (own_b ((0 : Int32) = (own_tot (0 : Int32) (cs &&& (3 : Int32))))))]))
    refine own_st (fun zt zk => XS.icmpNo X17.here hx rfl (hb hby at_127) rfl (teq (rfl : (own_b ((0 : Int32) = (own_tot (0 : Int32) (cs &&& (3 : Int32))))) = (own_b ((0 : Int32) = (own_tot (0 : Int32) (cs &&& (3 : Int32))))))).2 zk) ?_
    show own_G p e below s _ _ _ (T17.setTop (mkF m 130 #[.val (.int cs), .val (.int sr), .val (.int fl), .val (.long n1), .second, .val (.long n2), .second, .val (.ref b1), .val (.int (own_b ((0 : Int32) = (own_tot (0 : Int32) (cs &&& (3 : Int32)))))), .val (.int (1 : Int32))] []))
    refine own_st (fun zt zk => XS.iconst X17.here hx rfl (hb hby at_130) zk) ?_
    show own_G p e below s _ _ _ (T17.setTop (mkF m 131 #[.val (.int cs), .val (.int sr), .val (.int fl), .val (.long n1), .second, .val (.long n2), .second, .val (.ref b1), .val (.int (own_b ((0 : Int32) = (own_tot (0 : Int32) (cs &&& (3 : Int32)))))), .val (.int (1 : Int32))] [(.int (1 : Int32))]))
    refine own_st (fun zt zk => XS.goto X17.here hx rfl (pc0 := 131) (pc' := 135) rfl (hb hby at_131) (by decide) (by decide) zk) ?_
    show own_G p e below s _ _ _ (T17.setTop (mkF m 135 #[.val (.int cs), .val (.int sr), .val (.int fl), .val (.long n1), .second, .val (.long n2), .second, .val (.ref b1), .val (.int (own_b ((0 : Int32) = (own_tot (0 : Int32) (cs &&& (3 : Int32)))))), .val (.int (1 : Int32))] [(.int (1 : Int32))]))
    refine own_st (fun zt zk => XS.istore X17.here hx rfl (hb hby at_135) rfl (l' := #[.val (.int cs), .val (.int sr), .val (.int fl), .val (.long n1), .second, .val (.long n2), .second, .val (.ref b1), .val (.int (own_b ((0 : Int32) = (own_tot (0 : Int32) (cs &&& (3 : Int32)))))), .val (.int (1 : Int32))]) rfl zk) ?_
    show own_G p e below s _ _ _ (T17.setTop (mkF m 137 #[.val (.int cs), .val (.int sr), .val (.int fl), .val (.long n1), .second, .val (.long n2), .second, .val (.ref b1), .val (.int (own_b ((0 : Int32) = (own_tot (0 : Int32) (cs &&& (3 : Int32)))))), .val (.int (1 : Int32))] []))
    refine own_st (fun zt zk => XS.iload X17.here hx rfl (hb hby at_137) rfl zk) ?_
    show own_G p e below s _ _ _ (T17.setTop (mkF m 139 #[.val (.int cs), .val (.int sr), .val (.int fl), .val (.long n1), .second, .val (.long n2), .second, .val (.ref b1), .val (.int (own_b ((0 : Int32) = (own_tot (0 : Int32) (cs &&& (3 : Int32)))))), .val (.int (1 : Int32))] [(.int (1 : Int32))]))
    refine own_retZ X17 hx hlk hret (by decide) (hb hby at_139) (by decide) (by decide) ?_
    show Q_own_law Z cs sr fl n1 n2 h0 n0 (some (.int (1 : Int32))) T17.heap _
    rw [e17]
    exact ⟨rfl, N17⟩
  · refine own_st (fun zt zk => XS.ifNo X1.here hx rfl (hb hby at_19) rfl ((if0 _ _).trans (feq hc19_2).1) zk) ?_
    show own_G p e below s _ _ _ (T1.setTop (mkF m 22 #[.val (.int cs), .val (.int sr), .val (.int fl), .val (.long n1), .second, .val (.long n2), .second, .unset, .unset, .unset] [(.int (((sr &&& (2147483647 : Int32)) % (7 : Int32)) + (1 : Int32))), (.int (cs &&& (3 : Int32))), (.ref b1), (.ref b1)]))
    refine own_st (fun zt zk => XS.iconst X1.here hx rfl (hb hby at_22) zk) ?_
    show own_G p e below s _ _ _ (T1.setTop (mkF m 23 #[.val (.int cs), .val (.int sr), .val (.int fl), .val (.long n1), .second, .val (.long n2), .second, .unset, .unset, .unset] [(.int (1 : Int32)), (.int (((sr &&& (2147483647 : Int32)) % (7 : Int32)) + (1 : Int32))), (.int (cs &&& (3 : Int32))), (.ref b1), (.ref b1)]))
    refine own_st (fun zt zk => XS.goto X1.here hx rfl (pc0 := 23) (pc' := 27) rfl (hb hby at_23) (by decide) (by decide) zk) ?_
    show own_G p e below s _ _ _ (T1.setTop (mkF m 27 #[.val (.int cs), .val (.int sr), .val (.int fl), .val (.long n1), .second, .val (.long n2), .second, .unset, .unset, .unset] [(.int (1 : Int32)), (.int (((sr &&& (2147483647 : Int32)) % (7 : Int32)) + (1 : Int32))), (.int (cs &&& (3 : Int32))), (.ref b1), (.ref b1)]))
    obtain ⟨_, T18, L18, X18, hQ18, st18⟩ := own_callI X1 hx hZ (y := (⟨"com/example/quorumproof/quorumproof/proof/Client", "<init>", "(IIZ)V"⟩ : MethodName)) (a := b1) (argsL := [(.int (cs &&& (3 : Int32))), (.int (((sr &&& (2147483647 : Int32)) % (7 : Int32)) + (1 : Int32))), (.int (1 : Int32))]) (rest := [(.ref b1)]) 1 rfl hown (hw _ (List.mem_of_getElem? (i := 4) rfl)) (hw _ (List.mem_of_getElem? (i := 5) rfl)) (hw _ (List.mem_of_getElem? (i := 2) rfl)) (hw _ (List.mem_of_getElem? (i := 6) rfl)) (by decide) (own_ini l Z a0 hw [] b1 (cs &&& (3 : Int32)) (((sr &&& (2147483647 : Int32)) % (7 : Int32)) + (1 : Int32)) (1 : Int32) h1 n0 (Nat.le_trans Z0 E1.1) A1 (D1 (Or.inl (hw _ (List.mem_of_getElem? (i := 11) rfl))) (ty := .int) (by decide)) (D1 (Or.inl (hw _ (List.mem_of_getElem? (i := 14) rfl))) (ty := .long) (by decide)) (D1 (Or.inr (hw _ (List.mem_of_getElem? (i := 16) rfl))) (ty := .int) (by decide)) (D1 (Or.inr (hw _ (List.mem_of_getElem? (i := 18) rfl))) (ty := .int) (by decide)) (D1 (Or.inr (hw _ (List.mem_of_getElem? (i := 20) rfl))) (ty := .boolean) (by decide)) (D1 (Or.inl (hw _ (List.mem_of_getElem? (i := 34) rfl))) (ty := .int) (by decide)) (D1 (Or.inl (hw _ (List.mem_of_getElem? (i := 27) rfl))) (ty := .int) (by decide)) ge1 (by first | assumption | decide | (simp [hc19_2]; done) | omega)) (by decide) (by decide) e1 (g := (mkF m 27 #[.val (.int cs), .val (.int sr), .val (.int fl), .val (.long n1), .second, .val (.long n2), .second, .unset, .unset, .unset] [(.int (1 : Int32)), (.int (((sr &&& (2147483647 : Int32)) % (7 : Int32)) + (1 : Int32))), (.int (cs &&& (3 : Int32))), (.ref b1), (.ref b1)])) rfl (by rw [hml]; rfl) own_pd0 rfl rfl (by show 2 * 0 + _ ≤ _; exact Nat.le_of_eq rfl) (hb hby at_27) (by decide) (by decide)
    obtain ⟨rfl, N18q, K18, q18_0, q18_1, q18_2, q18_3, q18_4, q18_5, q18_6⟩ := hQ18
    have N18 := Fr.app N0 N18q
    refine own_st st18 ?_
    show own_G p e below s _ _ _ (T18.setTop (mkF m 30 #[.val (.int cs), .val (.int sr), .val (.int fl), .val (.long n1), .second, .val (.long n2), .second, .unset, .unset, .unset] [(.ref b1)]))
    refine own_st (fun zt zk => XS.astore X18.here hx rfl (hb hby at_30) rfl rfl (l' := #[.val (.int cs), .val (.int sr), .val (.int fl), .val (.long n1), .second, .val (.long n2), .second, .val (.ref b1), .unset, .unset]) rfl zk) ?_
    show own_G p e below s _ _ _ (T18.setTop (mkF m 32 #[.val (.int cs), .val (.int sr), .val (.int fl), .val (.long n1), .second, .val (.long n2), .second, .val (.ref b1), .unset, .unset] []))
    refine own_st (fun zt zk => XS.aload X18.here hx rfl (hb hby at_32) rfl rfl zk) ?_
    show own_G p e below s _ _ _ (T18.setTop (mkF m 34 #[.val (.int cs), .val (.int sr), .val (.int fl), .val (.long n1), .second, .val (.long n2), .second, .val (.ref b1), .unset, .unset] [(.ref b1)]))
    have E20 : Exa Z T18.heap b1 "com/example/quorumproof/quorumproof/proof/Client" := (A1.keep K18)
    obtain ⟨_, T19, L19, X19, hQ19, st19⟩ := own_callV X18 hx hZ (C := "com/example/quorumproof/quorumproof/proof/Client") (y := (⟨"com/example/quorumproof/quorumproof/proof/Client", "finished", "()Z"⟩ : MethodName)) (z := (⟨"com/example/quorumproof/quorumproof/proof/Client", "finished", "()Z"⟩ : MethodName)) (a := b1) (argsL := []) (rest := []) 0 hown (hw _ (List.mem_of_getElem? (i := 21) rfl)) (hw _ (List.mem_of_getElem? (i := 22) rfl)) (own_nf hZ (hw _ (List.mem_of_getElem? (i := 24) rfl))) (hw _ (List.mem_of_getElem? (i := 24) rfl)) (hw _ (List.mem_of_getElem? (i := 23) rfl)) (hw _ (List.mem_of_getElem? (i := 2) rfl)) (hw _ (List.mem_of_getElem? (i := 25) rfl)) (by decide) (own_fin l Z a0 hw [] b1 (1 : Int32) (cs &&& (3 : Int32)) (0 : Int32) T18.heap n0 (Nat.le_trans (Nat.le_trans Z0 E1.1) K18.1) q18_4 q18_2 q18_6) (by decide) (by decide) rfl E20 (g := (mkF m 34 #[.val (.int cs), .val (.int sr), .val (.int fl), .val (.long n1), .second, .val (.long n2), .second, .val (.ref b1), .unset, .unset] [(.ref b1)])) rfl (by rw [hml]; rfl) own_pd1 rfl rfl (by show 2 * 0 + _ ≤ _; exact Nat.le_of_eq rfl) (hb hby at_34) (by decide) (by decide)
    obtain ⟨rfl, N19q, e19⟩ := hQ19
    have N19 := Fr.app N18 N19q
    refine own_st st19 ?_
    show own_G p e below s _ _ _ (T19.setTop (mkF m 37 #[.val (.int cs), .val (.int sr), .val (.int fl), .val (.long n1), .second, .val (.long n2), .second, .val (.ref b1), .unset, .unset] [(.int (own_b ((0 : Int32) = (own_tot (1 : Int32) (cs &&& (3 : Int32))))))]))
    refine own_st (fun zt zk => XS.istore X19.here hx rfl (hb hby at_37) rfl (l' := #[.val (.int cs), .val (.int sr), .val (.int fl), .val (.long n1), .second, .val (.long n2), .second, .val (.ref b1), .val (.int (own_b ((0 : Int32) = (own_tot (1 : Int32) (cs &&& (3 : Int32)))))), .unset]) rfl zk) ?_
    show own_G p e below s _ _ _ (T19.setTop (mkF m 39 #[.val (.int cs), .val (.int sr), .val (.int fl), .val (.long n1), .second, .val (.long n2), .second, .val (.ref b1), .val (.int (own_b ((0 : Int32) = (own_tot (1 : Int32) (cs &&& (3 : Int32)))))), .unset] []))
    refine own_st (fun zt zk => XS.aload X19.here hx rfl (hb hby at_39) rfl rfl zk) ?_
    show own_G p e below s _ _ _ (T19.setTop (mkF m 41 #[.val (.int cs), .val (.int sr), .val (.int fl), .val (.long n1), .second, .val (.long n2), .second, .val (.ref b1), .val (.int (own_b ((0 : Int32) = (own_tot (1 : Int32) (cs &&& (3 : Int32)))))), .unset] [(.ref b1)]))
    refine own_st (fun zt zk => XS.lloadN X19.here hx rfl (hb hby at_41) rfl zk) ?_
    show own_G p e below s _ _ _ (T19.setTop (mkF m 42 #[.val (.int cs), .val (.int sr), .val (.int fl), .val (.long n1), .second, .val (.long n2), .second, .val (.ref b1), .val (.int (own_b ((0 : Int32) = (own_tot (1 : Int32) (cs &&& (3 : Int32)))))), .unset] [(.long n1), (.ref b1)]))
    obtain ⟨_, T21, L21, X21, hQ21, st21⟩ := own_callV X19 hx hZ (C := "com/example/quorumproof/quorumproof/proof/Client") (y := (⟨"com/example/quorumproof/quorumproof/proof/Client", "request", "(J)V"⟩ : MethodName)) (z := (⟨"com/example/quorumproof/quorumproof/proof/Client", "request", "(J)V"⟩ : MethodName)) (a := b1) (argsL := [(.long n1)]) (rest := []) 0 hown (hw _ (List.mem_of_getElem? (i := 28) rfl)) (hw _ (List.mem_of_getElem? (i := 29) rfl)) (own_nf hZ (hw _ (List.mem_of_getElem? (i := 31) rfl))) (hw _ (List.mem_of_getElem? (i := 31) rfl)) (hw _ (List.mem_of_getElem? (i := 30) rfl)) (hw _ (List.mem_of_getElem? (i := 2) rfl)) (hw _ (List.mem_of_getElem? (i := 32) rfl)) (by decide) (own_req l Z a0 hw [] b1 n1 (1 : Int32) (9223372036854775807 : Int64) (cs &&& (3 : Int32)) (((sr &&& (2147483647 : Int32)) % (7 : Int32)) + (1 : Int32)) (1 : Int32) (0 : Int32) (0 : Int32) T18.heap n0 (Nat.le_trans (Nat.le_trans Z0 E1.1) K18.1) E20 q18_0 q18_1 q18_2 q18_3 q18_4 q18_5 q18_6 ge1) (by decide) (by decide) e19 E20 (g := (mkF m 42 #[.val (.int cs), .val (.int sr), .val (.int fl), .val (.long n1), .second, .val (.long n2), .second, .val (.ref b1), .val (.int (own_b ((0 : Int32) = (own_tot (1 : Int32) (cs &&& (3 : Int32)))))), .unset] [(.long n1), (.ref b1)])) rfl (by rw [hml]; rfl) own_pd2 rfl rfl (by show 2 * 0 + _ ≤ _; exact Nat.le_of_eq rfl) (hb hby at_42) (by decide) (by decide)
    obtain ⟨rfl, N21q, K21, q21_0, q21_1, q21_2, q21_3, q21_4, q21_5, q21_6⟩ := hQ21
    have N21 := Fr.app N19 N21q
    refine own_st st21 ?_
    show own_G p e below s _ _ _ (T21.setTop (mkF m 45 #[.val (.int cs), .val (.int sr), .val (.int fl), .val (.long n1), .second, .val (.long n2), .second, .val (.ref b1), .val (.int (own_b ((0 : Int32) = (own_tot (1 : Int32) (cs &&& (3 : Int32)))))), .unset] []))
    refine own_st (fun zt zk => XS.aload X21.here hx rfl (hb hby at_45) rfl rfl zk) ?_
    show own_G p e below s _ _ _ (T21.setTop (mkF m 47 #[.val (.int cs), .val (.int sr), .val (.int fl), .val (.long n1), .second, .val (.long n2), .second, .val (.ref b1), .val (.int (own_b ((0 : Int32) = (own_tot (1 : Int32) (cs &&& (3 : Int32)))))), .unset] [(.ref b1)]))
    have E23 : Exa Z T21.heap b1 "com/example/quorumproof/quorumproof/proof/Client" := (E20.keep K21)
    obtain ⟨_, T22, L22, X22, hQ22, st22⟩ := own_callV X21 hx hZ (C := "com/example/quorumproof/quorumproof/proof/Client") (y := (⟨"com/example/quorumproof/quorumproof/proof/Client", "attempt", "()I"⟩ : MethodName)) (z := (⟨"com/example/quorumproof/quorumproof/proof/Client", "attempt", "()I"⟩ : MethodName)) (a := b1) (argsL := []) (rest := []) 0 hown (hw _ (List.mem_of_getElem? (i := 36) rfl)) (hw _ (List.mem_of_getElem? (i := 37) rfl)) (own_nf hZ (hw _ (List.mem_of_getElem? (i := 39) rfl))) (hw _ (List.mem_of_getElem? (i := 39) rfl)) (hw _ (List.mem_of_getElem? (i := 38) rfl)) (hw _ (List.mem_of_getElem? (i := 2) rfl)) (hw _ (List.mem_of_getElem? (i := 40) rfl)) (by decide) (own_g_attempt l Z a0 hw [] b1 ((0 : Int32) + (1 : Int32)) T21.heap n0 (Nat.le_trans (Nat.le_trans (Nat.le_trans Z0 E1.1) K18.1) K21.1) q21_5) (by decide) (by decide) rfl E23 (g := (mkF m 47 #[.val (.int cs), .val (.int sr), .val (.int fl), .val (.long n1), .second, .val (.long n2), .second, .val (.ref b1), .val (.int (own_b ((0 : Int32) = (own_tot (1 : Int32) (cs &&& (3 : Int32)))))), .unset] [(.ref b1)])) rfl (by rw [hml]; rfl) own_pd3 rfl rfl (by show 2 * 0 + _ ≤ _; exact Nat.le_of_eq rfl) (hb hby at_47) (by decide) (by decide)
    obtain ⟨rfl, N22q, e22⟩ := hQ22
    have N22 := Fr.app N21 N22q
    refine own_st st22 ?_
    show own_G p e below s _ _ _ (T22.setTop (mkF m 50 #[.val (.int cs), .val (.int sr), .val (.int fl), .val (.long n1), .second, .val (.long n2), .second, .val (.ref b1), .val (.int (own_b ((0 : Int32) = (own_tot (1 : Int32) (cs &&& (3 : Int32)))))), .unset] [(.int ((0 : Int32) + (1 : Int32)))]))
    refine own_st (fun zt zk => XS.iconst X22.here hx rfl (hb hby at_50) zk) ?_
    show own_G p e below s _ _ _ (T22.setTop (mkF m 51 #[.val (.int cs), .val (.int sr), .val (.int fl), .val (.long n1), .second, .val (.long n2), .second, .val (.ref b1), .val (.int (own_b ((0 : Int32) = (own_tot (1 : Int32) (cs &&& (3 : Int32)))))), .unset] [(.int (1 : Int32)), (.int ((0 : Int32) + (1 : Int32)))]))
    have hc51_24 : ((0 : Int32) + (1 : Int32)) = (1 : Int32) := (by decide)
    refine own_st (fun zt zk => XS.icmpNo X22.here hx rfl (hb hby at_51) rfl (teq hc51_24).2 zk) ?_
    show own_G p e below s _ _ _ (T22.setTop (mkF m 54 #[.val (.int cs), .val (.int sr), .val (.int fl), .val (.long n1), .second, .val (.long n2), .second, .val (.ref b1), .val (.int (own_b ((0 : Int32) = (own_tot (1 : Int32) (cs &&& (3 : Int32)))))), .unset] []))
    refine own_st (fun zt zk => XS.aload X22.here hx rfl (hb hby at_54) rfl rfl zk) ?_
    show own_G p e below s _ _ _ (T22.setTop (mkF m 56 #[.val (.int cs), .val (.int sr), .val (.int fl), .val (.long n1), .second, .val (.long n2), .second, .val (.ref b1), .val (.int (own_b ((0 : Int32) = (own_tot (1 : Int32) (cs &&& (3 : Int32)))))), .unset] [(.ref b1)]))
    obtain ⟨_, T25, L25, X25, hQ25, st25⟩ := own_callV X22 hx hZ (C := "com/example/quorumproof/quorumproof/proof/Client") (y := (⟨"com/example/quorumproof/quorumproof/proof/Client", "retryAt", "()J"⟩ : MethodName)) (z := (⟨"com/example/quorumproof/quorumproof/proof/Client", "retryAt", "()J"⟩ : MethodName)) (a := b1) (argsL := []) (rest := []) 0 hown (hw _ (List.mem_of_getElem? (i := 41) rfl)) (hw _ (List.mem_of_getElem? (i := 42) rfl)) (own_nf hZ (hw _ (List.mem_of_getElem? (i := 44) rfl))) (hw _ (List.mem_of_getElem? (i := 44) rfl)) (hw _ (List.mem_of_getElem? (i := 43) rfl)) (hw _ (List.mem_of_getElem? (i := 2) rfl)) (hw _ (List.mem_of_getElem? (i := 45) rfl)) (by decide) (own_g_retryAt l Z a0 hw [] b1 (n1 + (500 : Int64)) T21.heap n0 (Nat.le_trans (Nat.le_trans (Nat.le_trans Z0 E1.1) K18.1) K21.1) q21_1) (by decide) (by decide) e22 E23 (g := (mkF m 56 #[.val (.int cs), .val (.int sr), .val (.int fl), .val (.long n1), .second, .val (.long n2), .second, .val (.ref b1), .val (.int (own_b ((0 : Int32) = (own_tot (1 : Int32) (cs &&& (3 : Int32)))))), .unset] [(.ref b1)])) rfl (by rw [hml]; rfl) own_pd4 rfl rfl (by show 2 * 0 + _ ≤ _; exact Nat.le_of_eq rfl) (hb hby at_56) (by decide) (by decide)
    obtain ⟨rfl, N25q, e25⟩ := hQ25
    have N25 := Fr.app N22 N25q
    refine own_st st25 ?_
    show own_G p e below s _ _ _ (T25.setTop (mkF m 59 #[.val (.int cs), .val (.int sr), .val (.int fl), .val (.long n1), .second, .val (.long n2), .second, .val (.ref b1), .val (.int (own_b ((0 : Int32) = (own_tot (1 : Int32) (cs &&& (3 : Int32)))))), .unset] [(.long (n1 + (500 : Int64)))]))
    refine own_st (fun zt zk => XS.lloadN X25.here hx rfl (hb hby at_59) rfl zk) ?_
    show own_G p e below s _ _ _ (T25.setTop (mkF m 60 #[.val (.int cs), .val (.int sr), .val (.int fl), .val (.long n1), .second, .val (.long n2), .second, .val (.ref b1), .val (.int (own_b ((0 : Int32) = (own_tot (1 : Int32) (cs &&& (3 : Int32)))))), .unset] [(.long n1), (.long (n1 + (500 : Int64)))]))
    refine own_st (X25.ldc2Long hx hown (mvT hZ (hw _ (List.mem_of_getElem? (i := 46) rfl))) (g := (mkF m 60 #[.val (.int cs), .val (.int sr), .val (.int fl), .val (.long n1), .second, .val (.long n2), .second, .val (.ref b1), .val (.int (own_b ((0 : Int32) = (own_tot (1 : Int32) (cs &&& (3 : Int32)))))), .unset] [(.long n1), (.long (n1 + (500 : Int64)))])) rfl (hb hby at_60)) ?_
    show own_G p e below s _ _ _ (T25.setTop (mkF m 63 #[.val (.int cs), .val (.int sr), .val (.int fl), .val (.long n1), .second, .val (.long n2), .second, .val (.ref b1), .val (.int (own_b ((0 : Int32) = (own_tot (1 : Int32) (cs &&& (3 : Int32)))))), .unset] [(.long (500 : Int64)), (.long n1), (.long (n1 + (500 : Int64)))]))
    refine own_st (fun zt zk => XS.ladd X25.here hx rfl (hb hby at_63) rfl zk) ?_
    show own_G p e below s _ _ _ (T25.setTop (mkF m 64 #[.val (.int cs), .val (.int sr), .val (.int fl), .val (.long n1), .second, .val (.long n2), .second, .val (.ref b1), .val (.int (own_b ((0 : Int32) = (own_tot (1 : Int32) (cs &&& (3 : Int32)))))), .unset] [(.long (n1 + (500 : Int64))), (.long (n1 + (500 : Int64)))]))
    refine own_st (fun zt zk => XS.lcmp X25.here hx rfl (hb hby at_64) rfl zk) ?_
    show own_G p e below s _ _ _ (T25.setTop (mkF m 65 #[.val (.int cs), .val (.int sr), .val (.int fl), .val (.long n1), .second, .val (.long n2), .second, .val (.ref b1), .val (.int (own_b ((0 : Int32) = (own_tot (1 : Int32) (cs &&& (3 : Int32)))))), .unset] [(.int (lcmpW (n1 + (500 : Int64)) (n1 + (500 : Int64))))]))
    refine own_st (fun zt zk => XS.ifNo X25.here hx rfl (hb hby at_65) rfl ((if0 _ _).trans (teq ((lw_eq (n1 + (500 : Int64)) (n1 + (500 : Int64))).mpr (rfl : (n1 + (500 : Int64)) = (n1 + (500 : Int64))))).2) zk) ?_
    show own_G p e below s _ _ _ (T25.setTop (mkF m 68 #[.val (.int cs), .val (.int sr), .val (.int fl), .val (.long n1), .second, .val (.long n2), .second, .val (.ref b1), .val (.int (own_b ((0 : Int32) = (own_tot (1 : Int32) (cs &&& (3 : Int32)))))), .unset] []))
    refine own_st (fun zt zk => XS.aload X25.here hx rfl (hb hby at_68) rfl rfl zk) ?_
    show own_G p e below s _ _ _ (T25.setTop (mkF m 70 #[.val (.int cs), .val (.int sr), .val (.int fl), .val (.long n1), .second, .val (.long n2), .second, .val (.ref b1), .val (.int (own_b ((0 : Int32) = (own_tot (1 : Int32) (cs &&& (3 : Int32)))))), .unset] [(.ref b1)]))
    obtain ⟨_, T26, L26, X26, hQ26, st26⟩ := own_callV X25 hx hZ (C := "com/example/quorumproof/quorumproof/proof/Client") (y := (⟨"com/example/quorumproof/quorumproof/proof/Client", "target", "()I"⟩ : MethodName)) (z := (⟨"com/example/quorumproof/quorumproof/proof/Client", "target", "()I"⟩ : MethodName)) (a := b1) (argsL := []) (rest := []) 0 hown (hw _ (List.mem_of_getElem? (i := 47) rfl)) (hw _ (List.mem_of_getElem? (i := 48) rfl)) (own_nf hZ (hw _ (List.mem_of_getElem? (i := 50) rfl))) (hw _ (List.mem_of_getElem? (i := 50) rfl)) (hw _ (List.mem_of_getElem? (i := 49) rfl)) (hw _ (List.mem_of_getElem? (i := 2) rfl)) (hw _ (List.mem_of_getElem? (i := 51) rfl)) (by decide) (own_g_target l Z a0 hw [] b1 (1 : Int32) T21.heap n0 (Nat.le_trans (Nat.le_trans (Nat.le_trans Z0 E1.1) K18.1) K21.1) q21_0) (by decide) (by decide) e25 E23 (g := (mkF m 70 #[.val (.int cs), .val (.int sr), .val (.int fl), .val (.long n1), .second, .val (.long n2), .second, .val (.ref b1), .val (.int (own_b ((0 : Int32) = (own_tot (1 : Int32) (cs &&& (3 : Int32)))))), .unset] [(.ref b1)])) rfl (by rw [hml]; rfl) own_pd3 rfl rfl (by show 2 * 0 + _ ≤ _; exact Nat.le_of_eq rfl) (hb hby at_70) (by decide) (by decide)
    obtain ⟨rfl, N26q, e26⟩ := hQ26
    have N26 := Fr.app N25 N26q
    refine own_st st26 ?_
    show own_G p e below s _ _ _ (T26.setTop (mkF m 73 #[.val (.int cs), .val (.int sr), .val (.int fl), .val (.long n1), .second, .val (.long n2), .second, .val (.ref b1), .val (.int (own_b ((0 : Int32) = (own_tot (1 : Int32) (cs &&& (3 : Int32)))))), .unset] [(.int (1 : Int32))]))
    refine own_st (fun zt zk => XS.iconst X26.here hx rfl (hb hby at_73) zk) ?_
    show own_G p e below s _ _ _ (T26.setTop (mkF m 74 #[.val (.int cs), .val (.int sr), .val (.int fl), .val (.long n1), .second, .val (.long n2), .second, .val (.ref b1), .val (.int (own_b ((0 : Int32) = (own_tot (1 : Int32) (cs &&& (3 : Int32)))))), .unset] [(.int (1 : Int32)), (.int (1 : Int32))]))
    refine own_st (fun zt zk => XS.icmpNo X26.here hx rfl (hb hby at_74) rfl (teq (by decide : (1 : Int32) = (1 : Int32))).2 zk) ?_
    show own_G p e below s _ _ _ (T26.setTop (mkF m 77 #[.val (.int cs), .val (.int sr), .val (.int fl), .val (.long n1), .second, .val (.long n2), .second, .val (.ref b1), .val (.int (own_b ((0 : Int32) = (own_tot (1 : Int32) (cs &&& (3 : Int32)))))), .unset] []))
    refine own_st (fun zt zk => XS.iconst X26.here hx rfl (hb hby at_77) zk) ?_
    show own_G p e below s _ _ _ (T26.setTop (mkF m 78 #[.val (.int cs), .val (.int sr), .val (.int fl), .val (.long n1), .second, .val (.long n2), .second, .val (.ref b1), .val (.int (own_b ((0 : Int32) = (own_tot (1 : Int32) (cs &&& (3 : Int32)))))), .unset] [(.int (1 : Int32))]))
    refine own_st (fun zt zk => XS.goto X26.here hx rfl (pc0 := 78) (pc' := 82) rfl (hb hby at_78) (by decide) (by decide) zk) ?_
    show own_G p e below s _ _ _ (T26.setTop (mkF m 82 #[.val (.int cs), .val (.int sr), .val (.int fl), .val (.long n1), .second, .val (.long n2), .second, .val (.ref b1), .val (.int (own_b ((0 : Int32) = (own_tot (1 : Int32) (cs &&& (3 : Int32)))))), .unset] [(.int (1 : Int32))]))
    refine own_st (fun zt zk => XS.istore X26.here hx rfl (hb hby at_82) rfl (l' := #[.val (.int cs), .val (.int sr), .val (.int fl), .val (.long n1), .second, .val (.long n2), .second, .val (.ref b1), .val (.int (own_b ((0 : Int32) = (own_tot (1 : Int32) (cs &&& (3 : Int32)))))), .val (.int (1 : Int32))]) rfl zk) ?_
    show own_G p e below s _ _ _ (T26.setTop (mkF m 84 #[.val (.int cs), .val (.int sr), .val (.int fl), .val (.long n1), .second, .val (.long n2), .second, .val (.ref b1), .val (.int (own_b ((0 : Int32) = (own_tot (1 : Int32) (cs &&& (3 : Int32)))))), .val (.int (1 : Int32))] []))
    refine own_st (fun zt zk => XS.aload X26.here hx rfl (hb hby at_84) rfl rfl zk) ?_
    show own_G p e below s _ _ _ (T26.setTop (mkF m 86 #[.val (.int cs), .val (.int sr), .val (.int fl), .val (.long n1), .second, .val (.long n2), .second, .val (.ref b1), .val (.int (own_b ((0 : Int32) = (own_tot (1 : Int32) (cs &&& (3 : Int32)))))), .val (.int (1 : Int32))] [(.ref b1)]))
    refine own_st (fun zt zk => XS.lload X26.here hx rfl (hb hby at_86) rfl zk) ?_
    show own_G p e below s _ _ _ (T26.setTop (mkF m 88 #[.val (.int cs), .val (.int sr), .val (.int fl), .val (.long n1), .second, .val (.long n2), .second, .val (.ref b1), .val (.int (own_b ((0 : Int32) = (own_tot (1 : Int32) (cs &&& (3 : Int32)))))), .val (.int (1 : Int32))] [(.long n2), (.ref b1)]))
    obtain ⟨_, T27, L27, X27, hQ27, st27⟩ := own_callV X26 hx hZ (C := "com/example/quorumproof/quorumproof/proof/Client") (y := (⟨"com/example/quorumproof/quorumproof/proof/Client", "request", "(J)V"⟩ : MethodName)) (z := (⟨"com/example/quorumproof/quorumproof/proof/Client", "request", "(J)V"⟩ : MethodName)) (a := b1) (argsL := [(.long n2)]) (rest := []) 0 hown (hw _ (List.mem_of_getElem? (i := 28) rfl)) (hw _ (List.mem_of_getElem? (i := 29) rfl)) (own_nf hZ (hw _ (List.mem_of_getElem? (i := 31) rfl))) (hw _ (List.mem_of_getElem? (i := 31) rfl)) (hw _ (List.mem_of_getElem? (i := 30) rfl)) (hw _ (List.mem_of_getElem? (i := 2) rfl)) (hw _ (List.mem_of_getElem? (i := 32) rfl)) (by decide) (own_req l Z a0 hw [] b1 n2 (1 : Int32) (n1 + (500 : Int64)) (cs &&& (3 : Int32)) (((sr &&& (2147483647 : Int32)) % (7 : Int32)) + (1 : Int32)) (1 : Int32) ((0 : Int32) + (1 : Int32)) (0 : Int32) T21.heap n0 (Nat.le_trans (Nat.le_trans (Nat.le_trans Z0 E1.1) K18.1) K21.1) E23 q21_0 q21_1 q21_2 q21_3 q21_4 q21_5 q21_6 ge1) (by decide) (by decide) e26 E23 (g := (mkF m 88 #[.val (.int cs), .val (.int sr), .val (.int fl), .val (.long n1), .second, .val (.long n2), .second, .val (.ref b1), .val (.int (own_b ((0 : Int32) = (own_tot (1 : Int32) (cs &&& (3 : Int32)))))), .val (.int (1 : Int32))] [(.long n2), (.ref b1)])) rfl (by rw [hml]; rfl) own_pd2 rfl rfl (by show 2 * 0 + _ ≤ _; exact Nat.le_of_eq rfl) (hb hby at_88) (by decide) (by decide)
    obtain ⟨rfl, N27q, K27, q27_0, q27_1, q27_2, q27_3, q27_4, q27_5, q27_6⟩ := hQ27
    have N27 := Fr.app N26 N27q
    refine own_st st27 ?_
    show own_G p e below s _ _ _ (T27.setTop (mkF m 91 #[.val (.int cs), .val (.int sr), .val (.int fl), .val (.long n1), .second, .val (.long n2), .second, .val (.ref b1), .val (.int (own_b ((0 : Int32) = (own_tot (1 : Int32) (cs &&& (3 : Int32)))))), .val (.int (1 : Int32))] []))
    refine own_st (fun zt zk => XS.iload X27.here hx rfl (hb hby at_91) rfl zk) ?_
    show own_G p e below s _ _ _ (T27.setTop (mkF m 93 #[.val (.int cs), .val (.int sr), .val (.int fl), .val (.long n1), .second, .val (.long n2), .second, .val (.ref b1), .val (.int (own_b ((0 : Int32) = (own_tot (1 : Int32) (cs &&& (3 : Int32)))))), .val (.int (1 : Int32))] [(.int (1 : Int32))]))
    refine own_st (fun zt zk => XS.ifNo X27.here hx rfl (hb hby at_93) rfl ((if0 _ _).trans (feq (by decide : ¬ ((1 : Int32) = (0 : Int32)))).1) zk) ?_
    show own_G p e below s _ _ _ (T27.setTop (mkF m 96 #[.val (.int cs), .val (.int sr), .val (.int fl), .val (.long n1), .second, .val (.long n2), .second, .val (.ref b1), .val (.int (own_b ((0 : Int32) = (own_tot (1 : Int32) (cs &&& (3 : Int32)))))), .val (.int (1 : Int32))] []))
    refine own_st (fun zt zk => XS.aload X27.here hx rfl (hb hby at_96) rfl rfl zk) ?_
    show own_G p e below s _ _ _ (T27.setTop (mkF m 98 #[.val (.int cs), .val (.int sr), .val (.int fl), .val (.long n1), .second, .val (.long n2), .second, .val (.ref b1), .val (.int (own_b ((0 : Int32) = (own_tot (1 : Int32) (cs &&& (3 : Int32)))))), .val (.int (1 : Int32))] [(.ref b1)]))
    have E29 : Exa Z T27.heap b1 "com/example/quorumproof/quorumproof/proof/Client" := (E23.keep K27)
    obtain ⟨_, T28, L28, X28, hQ28, st28⟩ := own_callV X27 hx hZ (C := "com/example/quorumproof/quorumproof/proof/Client") (y := (⟨"com/example/quorumproof/quorumproof/proof/Client", "attempt", "()I"⟩ : MethodName)) (z := (⟨"com/example/quorumproof/quorumproof/proof/Client", "attempt", "()I"⟩ : MethodName)) (a := b1) (argsL := []) (rest := []) 0 hown (hw _ (List.mem_of_getElem? (i := 36) rfl)) (hw _ (List.mem_of_getElem? (i := 37) rfl)) (own_nf hZ (hw _ (List.mem_of_getElem? (i := 39) rfl))) (hw _ (List.mem_of_getElem? (i := 39) rfl)) (hw _ (List.mem_of_getElem? (i := 38) rfl)) (hw _ (List.mem_of_getElem? (i := 2) rfl)) (hw _ (List.mem_of_getElem? (i := 40) rfl)) (by decide) (own_g_attempt l Z a0 hw [] b1 (((0 : Int32) + (1 : Int32)) + (1 : Int32)) T27.heap n0 (Nat.le_trans (Nat.le_trans (Nat.le_trans (Nat.le_trans Z0 E1.1) K18.1) K21.1) K27.1) q27_5) (by decide) (by decide) rfl E29 (g := (mkF m 98 #[.val (.int cs), .val (.int sr), .val (.int fl), .val (.long n1), .second, .val (.long n2), .second, .val (.ref b1), .val (.int (own_b ((0 : Int32) = (own_tot (1 : Int32) (cs &&& (3 : Int32)))))), .val (.int (1 : Int32))] [(.ref b1)])) rfl (by rw [hml]; rfl) own_pd3 rfl rfl (by show 2 * 0 + _ ≤ _; exact Nat.le_of_eq rfl) (hb hby at_98) (by decide) (by decide)
    obtain ⟨rfl, N28q, e28⟩ := hQ28
    have N28 := Fr.app N27 N28q
    refine own_st st28 ?_
    show own_G p e below s _ _ _ (T28.setTop (mkF m 101 #[.val (.int cs), .val (.int sr), .val (.int fl), .val (.long n1), .second, .val (.long n2), .second, .val (.ref b1), .val (.int (own_b ((0 : Int32) = (own_tot (1 : Int32) (cs &&& (3 : Int32)))))), .val (.int (1 : Int32))] [(.int (((0 : Int32) + (1 : Int32)) + (1 : Int32)))]))
    refine own_st (fun zt zk => XS.iconst X28.here hx rfl (hb hby at_101) zk) ?_
    show own_G p e below s _ _ _ (T28.setTop (mkF m 102 #[.val (.int cs), .val (.int sr), .val (.int fl), .val (.long n1), .second, .val (.long n2), .second, .val (.ref b1), .val (.int (own_b ((0 : Int32) = (own_tot (1 : Int32) (cs &&& (3 : Int32)))))), .val (.int (1 : Int32))] [(.int (2 : Int32)), (.int (((0 : Int32) + (1 : Int32)) + (1 : Int32)))]))
    have hc102_30 : (((0 : Int32) + (1 : Int32)) + (1 : Int32)) = (2 : Int32) := (by decide)
    refine own_st (fun zt zk => XS.icmpNo X28.here hx rfl (hb hby at_102) rfl (teq hc102_30).2 zk) ?_
    show own_G p e below s _ _ _ (T28.setTop (mkF m 105 #[.val (.int cs), .val (.int sr), .val (.int fl), .val (.long n1), .second, .val (.long n2), .second, .val (.ref b1), .val (.int (own_b ((0 : Int32) = (own_tot (1 : Int32) (cs &&& (3 : Int32)))))), .val (.int (1 : Int32))] []))
    refine own_st (fun zt zk => XS.aload X28.here hx rfl (hb hby at_105) rfl rfl zk) ?_
    show own_G p e below s _ _ _ (T28.setTop (mkF m 107 #[.val (.int cs), .val (.int sr), .val (.int fl), .val (.long n1), .second, .val (.long n2), .second, .val (.ref b1), .val (.int (own_b ((0 : Int32) = (own_tot (1 : Int32) (cs &&& (3 : Int32)))))), .val (.int (1 : Int32))] [(.ref b1)]))
    obtain ⟨_, T31, L31, X31, hQ31, st31⟩ := own_callV X28 hx hZ (C := "com/example/quorumproof/quorumproof/proof/Client") (y := (⟨"com/example/quorumproof/quorumproof/proof/Client", "retryAt", "()J"⟩ : MethodName)) (z := (⟨"com/example/quorumproof/quorumproof/proof/Client", "retryAt", "()J"⟩ : MethodName)) (a := b1) (argsL := []) (rest := []) 0 hown (hw _ (List.mem_of_getElem? (i := 41) rfl)) (hw _ (List.mem_of_getElem? (i := 42) rfl)) (own_nf hZ (hw _ (List.mem_of_getElem? (i := 44) rfl))) (hw _ (List.mem_of_getElem? (i := 44) rfl)) (hw _ (List.mem_of_getElem? (i := 43) rfl)) (hw _ (List.mem_of_getElem? (i := 2) rfl)) (hw _ (List.mem_of_getElem? (i := 45) rfl)) (by decide) (own_g_retryAt l Z a0 hw [] b1 (n2 + (500 : Int64)) T27.heap n0 (Nat.le_trans (Nat.le_trans (Nat.le_trans (Nat.le_trans Z0 E1.1) K18.1) K21.1) K27.1) q27_1) (by decide) (by decide) e28 E29 (g := (mkF m 107 #[.val (.int cs), .val (.int sr), .val (.int fl), .val (.long n1), .second, .val (.long n2), .second, .val (.ref b1), .val (.int (own_b ((0 : Int32) = (own_tot (1 : Int32) (cs &&& (3 : Int32)))))), .val (.int (1 : Int32))] [(.ref b1)])) rfl (by rw [hml]; rfl) own_pd4 rfl rfl (by show 2 * 0 + _ ≤ _; exact Nat.le_of_eq rfl) (hb hby at_107) (by decide) (by decide)
    obtain ⟨rfl, N31q, e31⟩ := hQ31
    have N31 := Fr.app N28 N31q
    refine own_st st31 ?_
    show own_G p e below s _ _ _ (T31.setTop (mkF m 110 #[.val (.int cs), .val (.int sr), .val (.int fl), .val (.long n1), .second, .val (.long n2), .second, .val (.ref b1), .val (.int (own_b ((0 : Int32) = (own_tot (1 : Int32) (cs &&& (3 : Int32)))))), .val (.int (1 : Int32))] [(.long (n2 + (500 : Int64)))]))
    refine own_st (fun zt zk => XS.lload X31.here hx rfl (hb hby at_110) rfl zk) ?_
    show own_G p e below s _ _ _ (T31.setTop (mkF m 112 #[.val (.int cs), .val (.int sr), .val (.int fl), .val (.long n1), .second, .val (.long n2), .second, .val (.ref b1), .val (.int (own_b ((0 : Int32) = (own_tot (1 : Int32) (cs &&& (3 : Int32)))))), .val (.int (1 : Int32))] [(.long n2), (.long (n2 + (500 : Int64)))]))
    refine own_st (X31.ldc2Long hx hown (mvT hZ (hw _ (List.mem_of_getElem? (i := 46) rfl))) (g := (mkF m 112 #[.val (.int cs), .val (.int sr), .val (.int fl), .val (.long n1), .second, .val (.long n2), .second, .val (.ref b1), .val (.int (own_b ((0 : Int32) = (own_tot (1 : Int32) (cs &&& (3 : Int32)))))), .val (.int (1 : Int32))] [(.long n2), (.long (n2 + (500 : Int64)))])) rfl (hb hby at_112)) ?_
    show own_G p e below s _ _ _ (T31.setTop (mkF m 115 #[.val (.int cs), .val (.int sr), .val (.int fl), .val (.long n1), .second, .val (.long n2), .second, .val (.ref b1), .val (.int (own_b ((0 : Int32) = (own_tot (1 : Int32) (cs &&& (3 : Int32)))))), .val (.int (1 : Int32))] [(.long (500 : Int64)), (.long n2), (.long (n2 + (500 : Int64)))]))
    refine own_st (fun zt zk => XS.ladd X31.here hx rfl (hb hby at_115) rfl zk) ?_
    show own_G p e below s _ _ _ (T31.setTop (mkF m 116 #[.val (.int cs), .val (.int sr), .val (.int fl), .val (.long n1), .second, .val (.long n2), .second, .val (.ref b1), .val (.int (own_b ((0 : Int32) = (own_tot (1 : Int32) (cs &&& (3 : Int32)))))), .val (.int (1 : Int32))] [(.long (n2 + (500 : Int64))), (.long (n2 + (500 : Int64)))]))
    refine own_st (fun zt zk => XS.lcmp X31.here hx rfl (hb hby at_116) rfl zk) ?_
    show own_G p e below s _ _ _ (T31.setTop (mkF m 117 #[.val (.int cs), .val (.int sr), .val (.int fl), .val (.long n1), .second, .val (.long n2), .second, .val (.ref b1), .val (.int (own_b ((0 : Int32) = (own_tot (1 : Int32) (cs &&& (3 : Int32)))))), .val (.int (1 : Int32))] [(.int (lcmpW (n2 + (500 : Int64)) (n2 + (500 : Int64))))]))
    refine own_st (fun zt zk => XS.ifNo X31.here hx rfl (hb hby at_117) rfl ((if0 _ _).trans (teq ((lw_eq (n2 + (500 : Int64)) (n2 + (500 : Int64))).mpr (rfl : (n2 + (500 : Int64)) = (n2 + (500 : Int64))))).2) zk) ?_
    show own_G p e below s _ _ _ (T31.setTop (mkF m 120 #[.val (.int cs), .val (.int sr), .val (.int fl), .val (.long n1), .second, .val (.long n2), .second, .val (.ref b1), .val (.int (own_b ((0 : Int32) = (own_tot (1 : Int32) (cs &&& (3 : Int32)))))), .val (.int (1 : Int32))] []))
    refine own_st (fun zt zk => XS.aload X31.here hx rfl (hb hby at_120) rfl rfl zk) ?_
    show own_G p e below s _ _ _ (T31.setTop (mkF m 122 #[.val (.int cs), .val (.int sr), .val (.int fl), .val (.long n1), .second, .val (.long n2), .second, .val (.ref b1), .val (.int (own_b ((0 : Int32) = (own_tot (1 : Int32) (cs &&& (3 : Int32)))))), .val (.int (1 : Int32))] [(.ref b1)]))
    obtain ⟨_, T32, L32, X32, hQ32, st32⟩ := own_callV X31 hx hZ (C := "com/example/quorumproof/quorumproof/proof/Client") (y := (⟨"com/example/quorumproof/quorumproof/proof/Client", "finished", "()Z"⟩ : MethodName)) (z := (⟨"com/example/quorumproof/quorumproof/proof/Client", "finished", "()Z"⟩ : MethodName)) (a := b1) (argsL := []) (rest := []) 0 hown (hw _ (List.mem_of_getElem? (i := 21) rfl)) (hw _ (List.mem_of_getElem? (i := 22) rfl)) (own_nf hZ (hw _ (List.mem_of_getElem? (i := 24) rfl))) (hw _ (List.mem_of_getElem? (i := 24) rfl)) (hw _ (List.mem_of_getElem? (i := 23) rfl)) (hw _ (List.mem_of_getElem? (i := 2) rfl)) (hw _ (List.mem_of_getElem? (i := 25) rfl)) (by decide) (own_fin l Z a0 hw [] b1 (1 : Int32) (cs &&& (3 : Int32)) (0 : Int32) T27.heap n0 (Nat.le_trans (Nat.le_trans (Nat.le_trans (Nat.le_trans Z0 E1.1) K18.1) K21.1) K27.1) q27_4 q27_2 q27_6) (by decide) (by decide) e31 E29 (g := (mkF m 122 #[.val (.int cs), .val (.int sr), .val (.int fl), .val (.long n1), .second, .val (.long n2), .second, .val (.ref b1), .val (.int (own_b ((0 : Int32) = (own_tot (1 : Int32) (cs &&& (3 : Int32)))))), .val (.int (1 : Int32))] [(.ref b1)])) rfl (by rw [hml]; rfl) own_pd1 rfl rfl (by show 2 * 0 + _ ≤ _; exact Nat.le_of_eq rfl) (hb hby at_122) (by decide) (by decide)
    obtain ⟨rfl, N32q, e32⟩ := hQ32
    have N32 := Fr.app N31 N32q
    refine own_st st32 ?_
    show own_G p e below s _ _ _ (T32.setTop (mkF m 125 #[.val (.int cs), .val (.int sr), .val (.int fl), .val (.long n1), .second, .val (.long n2), .second, .val (.ref b1), .val (.int (own_b ((0 : Int32) = (own_tot (1 : Int32) (cs &&& (3 : Int32)))))), .val (.int (1 : Int32))] [(.int (own_b ((0 : Int32) = (own_tot (1 : Int32) (cs &&& (3 : Int32))))))]))
    refine own_st (fun zt zk => XS.iload X32.here hx rfl (hb hby at_125) rfl zk) ?_
    show own_G p e below s _ _ _ (T32.setTop (mkF m 127 #[.val (.int cs), .val (.int sr), .val (.int fl), .val (.long n1), .second, .val (.long n2), .second, .val (.ref b1), .val (.int (own_b ((0 : Int32) = (own_tot (1 : Int32) (cs &&& (3 : Int32)))))), .val (.int (1 : Int32))] [(.int (own_b ((0 : Int32) = (own_tot (1 : Int32) (cs &&& (3 : Int32)))))), (.int (own_b ((0 : Int32) = (own_tot (1 : Int32) (cs &&& (3 : Int32))))))]))
    refine own_st (fun zt zk => XS.icmpNo X32.here hx rfl (hb hby at_127) rfl (teq (rfl : (own_b ((0 : Int32) = (own_tot (1 : Int32) (cs &&& (3 : Int32))))) = (own_b ((0 : Int32) = (own_tot (1 : Int32) (cs &&& (3 : Int32))))))).2 zk) ?_
    show own_G p e below s _ _ _ (T32.setTop (mkF m 130 #[.val (.int cs), .val (.int sr), .val (.int fl), .val (.long n1), .second, .val (.long n2), .second, .val (.ref b1), .val (.int (own_b ((0 : Int32) = (own_tot (1 : Int32) (cs &&& (3 : Int32)))))), .val (.int (1 : Int32))] []))
    refine own_st (fun zt zk => XS.iconst X32.here hx rfl (hb hby at_130) zk) ?_
    show own_G p e below s _ _ _ (T32.setTop (mkF m 131 #[.val (.int cs), .val (.int sr), .val (.int fl), .val (.long n1), .second, .val (.long n2), .second, .val (.ref b1), .val (.int (own_b ((0 : Int32) = (own_tot (1 : Int32) (cs &&& (3 : Int32)))))), .val (.int (1 : Int32))] [(.int (1 : Int32))]))
    refine own_st (fun zt zk => XS.goto X32.here hx rfl (pc0 := 131) (pc' := 135) rfl (hb hby at_131) (by decide) (by decide) zk) ?_
    show own_G p e below s _ _ _ (T32.setTop (mkF m 135 #[.val (.int cs), .val (.int sr), .val (.int fl), .val (.long n1), .second, .val (.long n2), .second, .val (.ref b1), .val (.int (own_b ((0 : Int32) = (own_tot (1 : Int32) (cs &&& (3 : Int32)))))), .val (.int (1 : Int32))] [(.int (1 : Int32))]))
    refine own_st (fun zt zk => XS.istore X32.here hx rfl (hb hby at_135) rfl (l' := #[.val (.int cs), .val (.int sr), .val (.int fl), .val (.long n1), .second, .val (.long n2), .second, .val (.ref b1), .val (.int (own_b ((0 : Int32) = (own_tot (1 : Int32) (cs &&& (3 : Int32)))))), .val (.int (1 : Int32))]) rfl zk) ?_
    show own_G p e below s _ _ _ (T32.setTop (mkF m 137 #[.val (.int cs), .val (.int sr), .val (.int fl), .val (.long n1), .second, .val (.long n2), .second, .val (.ref b1), .val (.int (own_b ((0 : Int32) = (own_tot (1 : Int32) (cs &&& (3 : Int32)))))), .val (.int (1 : Int32))] []))
    refine own_st (fun zt zk => XS.iload X32.here hx rfl (hb hby at_137) rfl zk) ?_
    show own_G p e below s _ _ _ (T32.setTop (mkF m 139 #[.val (.int cs), .val (.int sr), .val (.int fl), .val (.long n1), .second, .val (.long n2), .second, .val (.ref b1), .val (.int (own_b ((0 : Int32) = (own_tot (1 : Int32) (cs &&& (3 : Int32)))))), .val (.int (1 : Int32))] [(.int (1 : Int32))]))
    refine own_retZ X32 hx hlk hret (by decide) (hb hby at_139) (by decide) (by decide) ?_
    show Q_own_law Z cs sr fl n1 n2 h0 n0 (some (.int (1 : Int32))) T32.heap _
    rw [e32]
    exact ⟨rfl, N32⟩
set_option maxRecDepth 65536 in
set_option maxHeartbeats 40000000 in
theorem comes_1 {Post : Tables → Env → Array Value → State → Outcome → State → Prop} (hpost : ∀ tb e args s v u, (limb_1_1.after args s (.returned v) u = true ∧ limb_1_2.after args s (.returned v) u = true ∧ True) → FrameEnd s (.returned v) u (Jvm.fieldLocs frame_1_writes args s ++ Jvm.arrayLocs frame_1_arrays args s ++ Jvm.staticLocs frame_1_statics s) 16 128 → Post tb e args s (.returned v) u) :
    ArmFor flags0 classFile x code maxLocals ret World_1 tables_1 room_1 Calls_1 rest_1 Pre_1 Post := by
  intro l hfl _ _ p e ha hc hk s m args below hf hA hF happ hP
  obtain ⟨hcalls, hrest, hpre⟩ := hP
  obtain ⟨-, -, -, hnamed, -, -, -, hat⟩ := (Spec.applies_iff hf).mp happ
  obtain ⟨hg, hn⟩ := and_e (Cond.before_iff.mp (show (Jvm.Cond.and given_1 narrow_1).before args s = true from hpre))
  obtain ⟨k1, k2⟩ := and_e hg
  obtain ⟨j0, i0⟩ := and_e k2
  obtain ⟨j1, i1⟩ := and_e i0
  obtain ⟨j2, i2⟩ := and_e i1
  obtain ⟨j3, i3⟩ := and_e i2
  obtain ⟨w0, w1, w2, w3, w4, rfl⟩ : ∃ w0 w1 w2 w3 w4 : Value, args = #[w0, w1, w2, w3, w4] := by
    have hs : args.size = 5 := by simpa [Cond.value, given_1] using k1
    obtain ⟨L⟩ := args
    match L, hs with
    | [w0, w1, w2, w3, w4], _ => exact ⟨w0, w1, w2, w3, w4, rfl⟩
  have hw := fun d (hd : d ∈ tables_1) => atoms_spec (ws := Jvm.Cond.code x code maxLocals ret :: tables_1) hat d (List.mem_cons_of_mem _ hd)
  have hfit : Fit s := fun {y c} hc i hi => by
    obtain ⟨ha, rfl⟩ := Array.getElem?_eq_some_iff.mp hc
    have q := List.all_eq_true.mp ((Array.all_eq_true_iff_forall_mem.mp hF) _ (Array.getElem_mem ha)) i (List.mem_range.mpr hi)
    simpa [Array.getElem?_eq_getElem hi] using q
  obtain ⟨y0, z0⟩ := is_v j0
  obtain rfl : w0 = (.int y0) := Option.some.inj z0
  obtain ⟨y1, z1⟩ := is_v j1
  obtain rfl : w1 = (.int y1) := Option.some.inj z1
  obtain ⟨y2, z2⟩ := is_v j2
  obtain rfl : w2 = (.int y2) := Option.some.inj z2
  obtain ⟨y3, z3⟩ := isL_v j3
  obtain rfl : w3 = (.long y3) := Option.some.inj z3
  obtain ⟨y4, z4⟩ := isL_v i3
  obtain rfl : w4 = (.long y4) := Option.some.inj z4
  obtain ⟨n, o, h1, h2, h3, _, L, rfl, ⟨rfl, N⟩, hq⟩ := own_law l s _ hw tables_1 y0 y1 y2 y3 y4 s.heap s.heap.size (Nat.le_refl _)  p e ha hc hk s m _ below hf ((Spec.applies_iff_loose hf).mp happ).1 ⟨rfl, State.Warmed39.refl s, rfl⟩ trivial
  refine ⟨n, _, h1, h2, h3, hpost _ _ _ _ _ _ ⟨Cond.after_iff.mpr rfl, Cond.after_iff.mpr (eq_i res_at (Term.int_eval (1)) rfl), trivial⟩ ⟨hq.1, hq.2.1, (hq.2.2.sift fun y hy => Or.inr (N y hy)).mono (by decide) (by decide)⟩⟩
theorem main_1_1 : Claimed_1_1 := comes_1 fun _ _ _ _ _ _ h hF => ⟨h.1, hF⟩
theorem main_1_2 : Claimed_1_2 := comes_1 fun _ _ _ _ _ _ h hF => ⟨h.2.1, hF⟩
end Jvm.Pilot.@@N@@
namespace Jvm.Pilot.@@N@@
open Jvm Jvm.ClassFile Sem Op Lib Jvm.Free Jvm.Stand Jvm.Pilot.@@N@@.Jvm.D
/-! MADE BY PROGRAM (witnessworld.py) out of the Statement's table words and the real class files: 9 classes; the members and pool entries that the words name. The judged class is class 1, her method 1. -/
namespace start1
open Jvm.ClassFile
def u (s : String) : CpInfo := .utf8 (stringToUtf16 s)
/-- a pool by its gaps: so many unusable entries, then the entry; so many at the end -/
def gap : Nat → List CpInfo → List CpInfo
  | 0, r => r
  | n + 1, r => .unusable :: gap n r
def poolList (es : List (Nat × CpInfo)) (last : Nat) : List CpInfo := es.foldr (fun e r => gap e.1 (e.2 :: r)) (gap last [])
def pool (es : List (Nat × CpInfo)) (last : Nat) : Array CpInfo := ⟨poolList es last⟩
def fileOf (pool : Array CpInfo) (this : Nat) (attrs : Array Attribute := #[]) (ms : Array MethodInfo := #[]) (fl : Nat := 33) (sup : Nat := 0) (ifs : Array Nat := #[]) (fds : Array FieldInfo := #[]) : ClassFile where
  minorVersion := 0
  majorVersion := 65
  constantPool := pool
  accessFlags := fl
  thisClass := this
  superClass := sup
  interfaces := ifs
  fields := fds
  methods := ms
  attributes := attrs
def plain (name : String) (sup : Option ClassId) : Class where
  name := name
  kind := .ordinary
  loader := none
  accessFlags := 33
  super := sup
  interfaces := #[]
  cf := none
  fields := #[]
  methods := #[]
  instanceTypes := #[]
  staticTypes := #[]
  resolved := #[]
  callSites := []
  init := .initialized
  statics := none
  mirror := none

def pool0 : Array CpInfo := pool [(5, u "<init>"), (0, u "()V"), (1, .class_ 10), (1, u "java/lang/Object")] 113

def k0c0 : Code := { maxStack := 0, maxLocals := 1, code := object_method_1_code, exceptionTable := #[], attributes := #[] }
def k0m0 : Method := { name := "<init>", desc := "()V", sig := { parameters := [], returnType := none }, accessFlags := 1, code := some k0c0 }
/-- java/lang/Object -/
def k0 : Class := { plain "java/lang/Object" none with
  accessFlags := 33
  interfaces := #[]
  cf := some (fileOf pool0 8 #[] #[{ accessFlags := 1, nameIndex := 5, descriptorIndex := 6, attributes := #[] }] 33 0 #[] #[])
  fields := #[]
  methods := #[k0m0]
  instanceTypes := #[]
  staticTypes := #[]
  resolved := Array.replicate 124 none
  statics := none }

def pool1 : Array CpInfo := pool [(2, .class_ 4), (1, u "java/lang/Object"), (0, u "<init>"), (0, u "()V"), (0, .class_ 8), (0, u "com/example/quorumproof/quorumproof/proof/Client"), (0, .integer 2147483647), (0, .methodref 7 11), (0, .nameAndType 5 12), (0, u "(IIZ)V"), (0, .methodref 7 14), (0, .nameAndType 15 16), (0, u "finished"), (0, u "()Z"), (0, .methodref 7 18), (0, .nameAndType 19 20), (0, u "request"), (0, u "(J)V"), (0, .methodref 7 22), (0, .nameAndType 23 24), (0, u "attempt"), (0, u "()I"), (0, .methodref 7 26), (0, .nameAndType 27 28), (0, u "retryAt"), (0, u "()J"), (0, .long 500), (1, .methodref 7 32), (0, .nameAndType 33 24), (0, u "target"), (0, .class_ 35), (0, u "com/example/quorumproof/quorumproof/proof/ClientRequestPinLaw"), (2, u "law"), (0, u "(IIIJJ)Z")] 3

def k1m0 : Method := { name := "<init>", desc := "()V", sig := { parameters := [], returnType := none }, accessFlags := 2, code := none }
def k1c1 : Code := { maxStack := 6, maxLocals := 10, code := code, exceptionTable := #[], attributes := #[] }
def k1m1 : Method := { name := "law", desc := "(IIIJJ)Z", sig := { parameters := [.int, .int, .int, .long, .long], returnType := some .boolean }, accessFlags := 9, code := some k1c1 }
/-- com/example/quorumproof/quorumproof/proof/ClientRequestPinLaw -/
def k1 : Class := { plain "com/example/quorumproof/quorumproof/proof/ClientRequestPinLaw" (some 0) with
  accessFlags := 49
  interfaces := #[]
  cf := some (fileOf pool1 34 #[] #[{ accessFlags := 2, nameIndex := 5, descriptorIndex := 6, attributes := #[] }, { accessFlags := 9, nameIndex := 38, descriptorIndex := 39, attributes := #[] }] 49 2 #[] #[])
  fields := #[]
  methods := #[k1m0, k1m1]
  instanceTypes := #[]
  staticTypes := #[]
  resolved := Array.replicate 43 none
  statics := none }

def pool2 : Array CpInfo := pool [(1, .methodref 2 3), (0, .class_ 4), (0, .nameAndType 5 6), (0, u "java/lang/Object"), (0, u "<init>"), (0, u "()V"), (0, .fieldref 8 9), (0, .class_ 10), (0, .nameAndType 11 12), (0, u "com/example/quorumproof/quorumproof/proof/Client"), (0, u "target"), (0, u "I"), (2, .long 9223372036854775807), (1, .fieldref 8 18), (0, .nameAndType 19 20), (0, u "retryAt"), (0, u "J"), (0, .fieldref 8 22), (0, .nameAndType 23 12), (0, u "commands"), (0, .fieldref 8 25), (0, .nameAndType 26 12), (0, u "servers"), (0, .fieldref 8 28), (0, .nameAndType 29 30), (0, u "sessions"), (0, u "Z"), (0, .fieldref 8 32), (0, .nameAndType 33 12), (0, u "call"), (2, u "finished"), (0, u "()Z"), (7, .class_ 46), (0, u "com/example/quorumproof/quorumproof/proof/Client$Command"), (3, .class_ 51), (0, u "com/example/quorumproof/quorumproof/proof/Client$Open"), (3, .class_ 56), (0, u "com/example/quorumproof/quorumproof/proof/Client$Close"), (2, u "session"), (3, .fieldref 8 64), (0, .nameAndType 65 12), (0, u "attempt"), (2, .long 500), (2, .class_ 73), (1, u "com/example/quorumproof/quorumproof/proof/Client$Call"), (1, u "()I"), (15, u "(IIZ)V"), (4, u "()J"), (0, u "request"), (0, u "(J)V")] 14

def k2c0 : Code := { maxStack := 3, maxLocals := 4, code := prog_37_method_1_code, exceptionTable := #[], attributes := #[] }
def k2m0 : Method := { name := "<init>", desc := "(IIZ)V", sig := { parameters := [.int, .int, .boolean], returnType := none }, accessFlags := 0, code := some k2c0 }
def k2c1 : Code := { maxStack := 2, maxLocals := 2, code := prog_37_method_2_code, exceptionTable := #[], attributes := #[] }
def k2m1 : Method := { name := "finished", desc := "()Z", sig := { parameters := [], returnType := some .boolean }, accessFlags := 0, code := some k2c1 }
def k2c2 : Code := { maxStack := 1, maxLocals := 1, code := prog_37_method_4_code, exceptionTable := #[], attributes := #[] }
def k2m2 : Method := { name := "target", desc := "()I", sig := { parameters := [], returnType := some .int }, accessFlags := 0, code := some k2c2 }
def k2c3 : Code := { maxStack := 1, maxLocals := 1, code := prog_37_method_5_code, exceptionTable := #[], attributes := #[] }
def k2m3 : Method := { name := "attempt", desc := "()I", sig := { parameters := [], returnType := some .int }, accessFlags := 0, code := some k2c3 }
def k2c4 : Code := { maxStack := 2, maxLocals := 1, code := prog_37_method_6_code, exceptionTable := #[], attributes := #[] }
def k2m4 : Method := { name := "retryAt", desc := "()J", sig := { parameters := [], returnType := some .long }, accessFlags := 0, code := some k2c4 }
def k2c5 : Code := { maxStack := 5, maxLocals := 3, code := prog_37_method_7_code, exceptionTable := #[], attributes := #[] }
def k2m5 : Method := { name := "request", desc := "(J)V", sig := { parameters := [.long], returnType := none }, accessFlags := 0, code := some k2c5 }
/-- com/example/quorumproof/quorumproof/proof/Client -/
def k2 : Class := { plain "com/example/quorumproof/quorumproof/proof/Client" (some 0) with
  accessFlags := 48
  interfaces := #[]
  cf := some (fileOf pool2 8 #[.nestMembers #[55, 45, 50, 71]] #[{ accessFlags := 0, nameIndex := 5, descriptorIndex := 91, attributes := #[] }, { accessFlags := 0, nameIndex := 36, descriptorIndex := 37, attributes := #[] }, { accessFlags := 0, nameIndex := 11, descriptorIndex := 75, attributes := #[] }, { accessFlags := 0, nameIndex := 65, descriptorIndex := 75, attributes := #[] }, { accessFlags := 0, nameIndex := 19, descriptorIndex := 96, attributes := #[] }, { accessFlags := 0, nameIndex := 97, descriptorIndex := 98, attributes := #[] }] 48 2 #[] #[{ accessFlags := 18, nameIndex := 23, descriptorIndex := 12, attributes := #[] }, { accessFlags := 18, nameIndex := 26, descriptorIndex := 12, attributes := #[] }, { accessFlags := 18, nameIndex := 29, descriptorIndex := 30, attributes := #[] }, { accessFlags := 2, nameIndex := 33, descriptorIndex := 12, attributes := #[] }, { accessFlags := 2, nameIndex := 59, descriptorIndex := 12, attributes := #[] }, { accessFlags := 2, nameIndex := 11, descriptorIndex := 12, attributes := #[] }, { accessFlags := 2, nameIndex := 65, descriptorIndex := 12, attributes := #[] }, { accessFlags := 2, nameIndex := 19, descriptorIndex := 20, attributes := #[] }])
  fields := #[{ name := "commands", type := .int, accessFlags := 18, slot := 0, constantValue := 0 }, { name := "servers", type := .int, accessFlags := 18, slot := 1, constantValue := 0 }, { name := "sessions", type := .boolean, accessFlags := 18, slot := 2, constantValue := 0 }, { name := "call", type := .int, accessFlags := 2, slot := 3, constantValue := 0 }, { name := "session", type := .int, accessFlags := 2, slot := 4, constantValue := 0 }, { name := "target", type := .int, accessFlags := 2, slot := 5, constantValue := 0 }, { name := "attempt", type := .int, accessFlags := 2, slot := 6, constantValue := 0 }, { name := "retryAt", type := .long, accessFlags := 2, slot := 7, constantValue := 0 }]
  methods := #[k2m0, k2m1, k2m2, k2m3, k2m4, k2m5]
  instanceTypes := #[.int, .int, .boolean, .int, .int, .int, .int, .long]
  staticTypes := #[]
  resolved := Array.replicate 113 none
  statics := none }

def pool3 : Array CpInfo := pool [(1, u "java/lang/Cloneable"), (0, .class_ 1), (0, u "java/lang/Object"), (0, .class_ 3)] 3

/-- java/lang/Cloneable -/
def k3 : Class := { plain "java/lang/Cloneable" (some 0) with
  accessFlags := 1537
  interfaces := #[]
  cf := some (fileOf pool3 2 #[] #[] 1537 4 #[] #[])
  fields := #[]
  methods := #[]
  instanceTypes := #[]
  staticTypes := #[]
  resolved := Array.replicate 8 none
  statics := none }

def pool4 : Array CpInfo := pool [(1, u "java/io/Serializable"), (0, .class_ 1), (0, u "java/lang/Object"), (0, .class_ 3)] 3

/-- java/io/Serializable -/
def k4 : Class := { plain "java/io/Serializable" (some 0) with
  accessFlags := 1537
  interfaces := #[]
  cf := some (fileOf pool4 2 #[] #[] 1537 4 #[] #[])
  fields := #[]
  methods := #[]
  instanceTypes := #[]
  staticTypes := #[]
  resolved := Array.replicate 8 none
  statics := none }

/-- the primitive byte -/
def k5 : Class := { plain "byte" none with kind := .primitive 'B', accessFlags := 0x411 }
/-- [B -/
def k6 : Class := { plain "[B" (some 0) with kind := .array 5 .byte, interfaces := #[3, 4], accessFlags := 1041 }

/-- the primitive int -/
def k7 : Class := { plain "int" none with kind := .primitive 'I', accessFlags := 0x411 }
/-- [I -/
def k8 : Class := { plain "[I" (some 0) with kind := .array 7 .int, interfaces := #[3, 4], accessFlags := 1041 }

def heap : Heap := #[]
def classes : Array Class := #[k0, k1, k2, k3, k4, k5, k6, k7, k8]
def interned : List (Array UInt16 × Addr) := []
def slotsUsed : Nat := 0
def theMethod : MethodId := ⟨1, 1⟩
def args0 : Array Value := #[.int 5, .int 7, .int 9, .long 4, .long 6]
def aboutOver (below : List Frame) : State where
  vm := { classes := classes, interned := interned.toArray }
  heap := heap
  slotsUsed := slotsUsed
  threads := #[{ frames := .invoking theMethod args0 :: below }]
def below0 : List Frame := [.native { method := ⟨0, 0⟩, args := #[] }]
def about1 : State := aboutOver below0
def p0 : Program := .bare "" "" ""
def e0 : Env := launch0.env 0 0 0
theorem w_frames : about1.frames = Frame.invoking theMethod args0 :: below0 := rfl
set_option maxRecDepth 65536 in
theorem w_args : argsFit about1.vm theMethod args0 = true := by decide +kernel
set_option maxRecDepth 65536 in
theorem w_heap : heapFits about1 = true := by decide +kernel
set_option maxRecDepth 65536 in
theorem w_runnable : about1.curStatus? = some .runnable := by decide +kernel
set_option maxRecDepth 65536 in
theorem w_alone : about1.alone = true := by decide +kernel
set_option maxRecDepth 65536 in
theorem w_named : about1.methodNamed? x = some theMethod := by decide +kernel
set_option maxRecDepth 65536 in
theorem w_hears : about1.hears theMethod below0 = true := by decide +kernel
set_option maxRecDepth 65536 in
theorem w_ripe : about1.ripe theMethod args0 below0 = true := by decide +kernel
theorem w_running : about1.status = .running := rfl
set_option maxRecDepth 65536 in
theorem w_room : about1.hasRoom e0.platform room_1 = true :=
  launch0.hasRoom_least _ room_1 (by decide +kernel) (by decide +kernel) (by decide +kernel) (by decide +kernel) (by decide +kernel) (by decide +kernel)
theorem allAtoms_all (ts : List Jvm.Cond) (a : Array Jvm.Value) (st : Jvm.State) : (allAtoms ts).before a st = ts.all (fun c => c.before a st) := by
  induction ts with
  | nil => rfl
  | cons c t ih =>
    show (Jvm.Cond.and c (allAtoms t)).before a st = _
    rw [Jvm.Cond.before_and, ih, List.all_cons]
def words1 : List Jvm.Cond := Jvm.Cond.code x code maxLocals ret :: tables_1
/-- a 'code' word, met by the world's own term for the bytes: nothing is compared byte by byte -/
theorem code_word {y : MethodName} {bytes : ByteArray} {mx : Nat} {rt : Option FieldType} {a : Array Value} {s : State} {m : MethodId} {meth : Method} {c : Code} (h1 : s.methodNamed? y = some m) (h2 : s.vm.method? m = some meth) (h3 : meth.code = some c) (h4 : c.code = bytes)
    (h5 : (c.maxLocals == mx && c.exceptionTable.isEmpty && decide (c.maxStack ≤ mostOperands) && decide (meth.sig.returnType = rt) && !meth.locks && decide (parseMethodDescriptor y.desc = some meth.sig)) = true) : (Jvm.Cond.code y bytes mx rt).before a s = true := by
  simp only [Bool.and_eq_true, beq_iff_eq, Bool.not_eq_true', decide_eq_true_eq] at h5
  obtain ⟨⟨⟨⟨⟨g1, g2⟩, g3⟩, g4⟩, g5⟩, g6⟩ := h5
  simp [Cond.before, Cond.holds, Cond.value, h1, h2, h3, h4, g1, g2, g3, g4, g5, g6]
def isCode : Jvm.Cond → Bool
  | .code _ _ _ _ => true
  | _ => false
theorem all_split {L : List Jvm.Cond} {P : Jvm.Cond → Bool} (h1 : L.all (fun c => isCode c || P c) = true) (h2 : ∀ c ∈ L.filter isCode, P c = true) : L.all P = true := by
  refine List.all_eq_true.mpr fun c hc => ?_
  have h := List.all_eq_true.mp h1 c hc
  rcases Bool.eq_false_or_eq_true (isCode c) with hi | hi
  · exact h2 c (List.mem_filter.mpr ⟨hc, hi⟩)
  · simpa [hi] using h
set_option maxRecDepth 65536 in
theorem w_c0 : (Jvm.Cond.code x code maxLocals ret).before args0 about1 = true := code_word (m := ⟨1, 1⟩) (meth := k1m1) (c := k1c1) (by decide +kernel) rfl rfl rfl (by decide +kernel)
set_option maxRecDepth 65536 in
theorem w_c1 : (Jvm.Cond.code ({ cls := "com/example/quorumproof/quorumproof/proof/Client", name := "<init>", desc := "(IIZ)V" } : Jvm.MethodName) prog_37_method_1_code (4 : Nat) (Option.none : Option Jvm.ClassFile.FieldType)).before args0 about1 = true := code_word (m := ⟨2, 0⟩) (meth := k2m0) (c := k2c0) (by decide +kernel) rfl rfl rfl (by decide +kernel)
set_option maxRecDepth 65536 in
theorem w_c2 : (Jvm.Cond.code ({ cls := "java/lang/Object", name := "<init>", desc := "()V" } : Jvm.MethodName) object_method_1_code (1 : Nat) (Option.none : Option Jvm.ClassFile.FieldType)).before args0 about1 = true := code_word (m := ⟨0, 0⟩) (meth := k0m0) (c := k0c0) (by decide +kernel) rfl rfl rfl (by decide +kernel)
set_option maxRecDepth 65536 in
theorem w_c3 : (Jvm.Cond.code ({ cls := "com/example/quorumproof/quorumproof/proof/Client", name := "finished", desc := "()Z" } : Jvm.MethodName) prog_37_method_2_code (2 : Nat) (Option.some Jvm.ClassFile.FieldType.boolean)).before args0 about1 = true := code_word (m := ⟨2, 1⟩) (meth := k2m1) (c := k2c1) (by decide +kernel) rfl rfl rfl (by decide +kernel)
set_option maxRecDepth 65536 in
theorem w_c4 : (Jvm.Cond.code ({ cls := "com/example/quorumproof/quorumproof/proof/Client", name := "request", desc := "(J)V" } : Jvm.MethodName) prog_37_method_7_code (3 : Nat) (Option.none : Option Jvm.ClassFile.FieldType)).before args0 about1 = true := code_word (m := ⟨2, 5⟩) (meth := k2m5) (c := k2c5) (by decide +kernel) rfl rfl rfl (by decide +kernel)
set_option maxRecDepth 65536 in
theorem w_c5 : (Jvm.Cond.code ({ cls := "com/example/quorumproof/quorumproof/proof/Client", name := "attempt", desc := "()I" } : Jvm.MethodName) prog_37_method_5_code (1 : Nat) (Option.some Jvm.ClassFile.FieldType.int)).before args0 about1 = true := code_word (m := ⟨2, 3⟩) (meth := k2m3) (c := k2c3) (by decide +kernel) rfl rfl rfl (by decide +kernel)
set_option maxRecDepth 65536 in
theorem w_c6 : (Jvm.Cond.code ({ cls := "com/example/quorumproof/quorumproof/proof/Client", name := "retryAt", desc := "()J" } : Jvm.MethodName) prog_37_method_6_code (1 : Nat) (Option.some Jvm.ClassFile.FieldType.long)).before args0 about1 = true := code_word (m := ⟨2, 4⟩) (meth := k2m4) (c := k2c4) (by decide +kernel) rfl rfl rfl (by decide +kernel)
set_option maxRecDepth 65536 in
theorem w_c7 : (Jvm.Cond.code ({ cls := "com/example/quorumproof/quorumproof/proof/Client", name := "target", desc := "()I" } : Jvm.MethodName) prog_37_method_4_code (1 : Nat) (Option.some Jvm.ClassFile.FieldType.int)).before args0 about1 = true := code_word (m := ⟨2, 2⟩) (meth := k2m2) (c := k2c2) (by decide +kernel) rfl rfl rfl (by decide +kernel)
def codes1 : List Jvm.Cond := [Jvm.Cond.code x code maxLocals ret, Jvm.Cond.code ({ cls := "com/example/quorumproof/quorumproof/proof/Client", name := "<init>", desc := "(IIZ)V" } : Jvm.MethodName) prog_37_method_1_code (4 : Nat) (Option.none : Option Jvm.ClassFile.FieldType), Jvm.Cond.code ({ cls := "java/lang/Object", name := "<init>", desc := "()V" } : Jvm.MethodName) object_method_1_code (1 : Nat) (Option.none : Option Jvm.ClassFile.FieldType), Jvm.Cond.code ({ cls := "com/example/quorumproof/quorumproof/proof/Client", name := "finished", desc := "()Z" } : Jvm.MethodName) prog_37_method_2_code (2 : Nat) (Option.some Jvm.ClassFile.FieldType.boolean), Jvm.Cond.code ({ cls := "com/example/quorumproof/quorumproof/proof/Client", name := "request", desc := "(J)V" } : Jvm.MethodName) prog_37_method_7_code (3 : Nat) (Option.none : Option Jvm.ClassFile.FieldType), Jvm.Cond.code ({ cls := "com/example/quorumproof/quorumproof/proof/Client", name := "attempt", desc := "()I" } : Jvm.MethodName) prog_37_method_5_code (1 : Nat) (Option.some Jvm.ClassFile.FieldType.int), Jvm.Cond.code ({ cls := "com/example/quorumproof/quorumproof/proof/Client", name := "retryAt", desc := "()J" } : Jvm.MethodName) prog_37_method_6_code (1 : Nat) (Option.some Jvm.ClassFile.FieldType.long), Jvm.Cond.code ({ cls := "com/example/quorumproof/quorumproof/proof/Client", name := "target", desc := "()I" } : Jvm.MethodName) prog_37_method_4_code (1 : Nat) (Option.some Jvm.ClassFile.FieldType.int)]
set_option maxRecDepth 65536 in
theorem codes_eq : words1.filter isCode = codes1 := rfl
theorem w_codes : ∀ c ∈ words1.filter isCode, c.before args0 about1 = true := by
  rw [codes_eq]
  intro c hc
  simp only [codes1, List.mem_cons, List.not_mem_nil, or_false] at hc
  rcases hc with rfl | rfl | rfl | rfl | rfl | rfl | rfl | rfl
  · exact w_c0
  · exact w_c1
  · exact w_c2
  · exact w_c3
  · exact w_c4
  · exact w_c5
  · exact w_c6
  · exact w_c7
set_option maxRecDepth 65536 in
theorem w_t1 : (words1.take 24).all (fun c => isCode c || c.before args0 about1) = true := by decide +kernel
set_option maxRecDepth 65536 in
theorem w_t2 : ((words1.drop 24).take 24).all (fun c => isCode c || c.before args0 about1) = true := by decide +kernel
set_option maxRecDepth 65536 in
theorem w_t3 : ((words1.drop 24).drop 24).all (fun c => isCode c || c.before args0 about1) = true := by decide +kernel
theorem w_tables : (allAtoms (Jvm.Cond.code x code maxLocals ret :: tables_1)).before args0 about1 = true := by
  rw [allAtoms_all]
  show words1.all (fun c => c.before args0 about1) = true
  refine all_split ?_ w_codes
  rw [← List.take_append_drop 24 words1, List.all_append, w_t1, ← List.take_append_drop 24 (words1.drop 24), List.all_append, w_t2, w_t3]
  rfl
set_option maxRecDepth 65536 in
theorem w_case : (Jvm.Cond.and given_1 narrow_1).before args0 about1 = true := by decide +kernel
theorem w_applies : (headSpec (Jvm.Cond.code x code maxLocals ret :: tables_1) room_1).applies x e0.platform about1 = true :=
  (Spec.applies_iff w_frames).mpr ⟨w_running, w_runnable, w_alone, w_named, w_hears, w_ripe, w_room, w_tables⟩
theorem atStart : AtStart classFile x code maxLocals ret World_1 tables_1 room_1 Calls_1 rest_1 Pre_1 launch0 p0 e0 about1 theMethod args0 below0 :=
  ⟨lists_1, trivial, launch0.admits_env _ _ _, launch0.least_env, fairChoices_fair.cas, fairChoices_fair.clock, w_frames, w_args, w_heap, w_applies, trivial, trivial, w_case⟩
end start1
theorem witness_1 : WitnessClaimed_1 := ⟨start1.p0, start1.e0, start1.about1, start1.theMethod, start1.args0, start1.below0, start1.atStart⟩
end Jvm.Pilot.@@N@@
