import JvmDerived
import JvmDerived.Pilot.@@N@@Statement
import JvmDerived.Pilot.@@N@@Code
set_option linter.unusedVariables false
set_option linter.unusedSimpArgs false
namespace Jvm.Pilot.@@N@@
open Jvm Jvm.ClassFile Sem Op Lib Jvm.Free Jvm.Stand Jvm.LawKit Jvm.RoadKit Bundle Jvm.Pilot.@@N@@.Jvm.D
section OwnKit
variable {p : Program} {l : Launch} {e : Env} {R : Room} {s : State} {m : MethodId} {args : Array Value} {below : List Frame} {meth : Method} {c : Code} {T : State} {locs : List Loc} {cells slots : Nat} {Z : State} {a0 : Array Value} {h : Heap}
/-- the walk from A ends well: it returns, what it returns and leaves is as Q says -/
def own_G (p : Program) (e : Env) (below : List Frame) (s : State) (Q : Option Value → Heap → List Loc → Prop) (ce sl : Nat) (A : State) : Prop :=
  ∃ s₂ o, Steps p.tables e below A s₂ ∧ s₂.status = .running ∧ Ended s₂ below o ∧ ∃ v L, o = .returned v ∧ Q v s₂.heap L ∧ FrameEnd s o s₂ L ce sl
theorem own_st {Q : Option Value → Heap → List Loc → Prop} {ce sl : Nat} {A B : State} (k : ∀ t, Steps p.tables e below B t → Steps p.tables e below A t) (g : own_G p e below s Q ce sl B) : own_G p e below s Q ce sl A := by
  obtain ⟨s₂, o, h1, h2⟩ := g
  exact ⟨s₂, o, k _ h1, h2⟩
theorem own_ret {Q : Option Value → Heap → List Loc → Prop} {ce sl : Nat} (X : Stand p l e R s m args below meth c T locs cells slots) (hx : p.tables.exec = Jvm.exec) (hlk : meth.locks = false) {pc : Nat} {Ls : Array Slot} {w : Value} {t : FieldType} {i : Instr} {rest : List Value} (hret : meth.sig.returnType = some t) (hn : narrow t w = w)
    (hi : (i = .ireturn ∧ (t = .int ∨ t = .boolean ∨ t = .byte ∨ t = .char ∨ t = .short) ∧ ∃ z, w = .int z) ∨ (i = .lreturn ∧ t = .long ∧ ∃ z, w = .long z) ∨ (i = .dreturn ∧ t = .double ∧ ∃ z, w = .double z) ∨ (i = .freturn ∧ t = .float ∧ ∃ z, w = .float z) ∨ (i = .areturn ∧ t.isReference = true ∧ w.isRef = true))
    (hd : decode c.code pc = .ok (i, 1)) (hc : cells ≤ ce) (hs : slots ≤ sl) (hQ : Q (some w) T.heap locs) : own_G p e below s Q ce sl (T.setTop (mkF m pc Ls (w :: rest))) := by
  obtain ⟨fs, hr, hrun, hended, hW, hsame⟩ := X.leave (v := some w) (fun q => by rw [hret] at q; cases q) hlk
  exact ⟨_, _, retOut X hx hret hn hi hd hr, hrun, hended, _, _, rfl, hQ, ⟨_, rfl⟩, hW, hsame.mono hc hs⟩
theorem own_retI {Q : Option Value → Heap → List Loc → Prop} {ce sl : Nat} (X : Stand p l e R s m args below meth c T locs cells slots) (hx : p.tables.exec = Jvm.exec) (hlk : meth.locks = false) {pc : Nat} {Ls : Array Slot} {z : Int32} {rest : List Value} (hret : meth.sig.returnType = some .int)
    (hd : decode c.code pc = .ok (.ireturn, 1)) (hc : cells ≤ ce) (hs : slots ≤ sl) (hQ : Q (some (.int z)) T.heap locs) : own_G p e below s Q ce sl (T.setTop (mkF m pc Ls (.int z :: rest))) :=
  own_ret X hx hlk hret rfl (Or.inl ⟨rfl, Or.inl rfl, z, rfl⟩) hd hc hs hQ
theorem own_retZ {Q : Option Value → Heap → List Loc → Prop} {ce sl : Nat} (X : Stand p l e R s m args below meth c T locs cells slots) (hx : p.tables.exec = Jvm.exec) (hlk : meth.locks = false) {pc : Nat} {Ls : Array Slot} {z : Int32} {rest : List Value} (hret : meth.sig.returnType = some .boolean) (hn : z = 0 ∨ z = 1)
    (hd : decode c.code pc = .ok (.ireturn, 1)) (hc : cells ≤ ce) (hs : slots ≤ sl) (hQ : Q (some (.int z)) T.heap locs) : own_G p e below s Q ce sl (T.setTop (mkF m pc Ls (.int z :: rest))) :=
  own_ret X hx hlk hret (by rcases hn with rfl | rfl <;> rfl) (Or.inl ⟨rfl, Or.inr (Or.inl rfl), z, rfl⟩) hd hc hs hQ
theorem own_retJ {Q : Option Value → Heap → List Loc → Prop} {ce sl : Nat} (X : Stand p l e R s m args below meth c T locs cells slots) (hx : p.tables.exec = Jvm.exec) (hlk : meth.locks = false) {pc : Nat} {Ls : Array Slot} {z : Int64} {rest : List Value} (hret : meth.sig.returnType = some .long)
    (hd : decode c.code pc = .ok (.lreturn, 1)) (hc : cells ≤ ce) (hs : slots ≤ sl) (hQ : Q (some (.long z)) T.heap locs) : own_G p e below s Q ce sl (T.setTop (mkF m pc Ls (.long z :: rest))) :=
  own_ret X hx hlk hret rfl (Or.inr (Or.inl ⟨rfl, rfl, z, rfl⟩)) hd hc hs hQ
theorem own_retA {Q : Option Value → Heap → List Loc → Prop} {ce sl : Nat} (X : Stand p l e R s m args below meth c T locs cells slots) (hx : p.tables.exec = Jvm.exec) (hlk : meth.locks = false) {pc : Nat} {Ls : Array Slot} {w : Value} {t : FieldType} {rest : List Value} (hret : meth.sig.returnType = some t) (ht : t.isReference = true) (hw : w.isRef = true)
    (hd : decode c.code pc = .ok (.areturn, 1)) (hc : cells ≤ ce) (hs : slots ≤ sl) (hQ : Q (some w) T.heap locs) : own_G p e below s Q ce sl (T.setTop (mkF m pc Ls (w :: rest))) :=
  own_ret X hx hlk hret (by cases w <;> first | rfl | (cases t <;> first | rfl | cases ht)) (Or.inr (Or.inr (Or.inr (Or.inr ⟨rfl, ht, hw⟩)))) hd hc hs hQ
theorem own_retV {Q : Option Value → Heap → List Loc → Prop} {ce sl : Nat} (X : Stand p l e R s m args below meth c T locs cells slots) (hx : p.tables.exec = Jvm.exec) (hlk : meth.locks = false) {pc : Nat} {Ls : Array Slot} (hret : meth.sig.returnType = none)
    (hd : decode c.code pc = .ok (.return_, 1)) (hc : cells ≤ ce) (hs : slots ≤ sl) (hQ : Q none T.heap locs) : own_G p e below s Q ce sl (T.setTop (mkF m pc Ls [])) := by
  obtain ⟨fs, hr, hrun, hended, hW, hsame⟩ := X.leave (v := none) (fun _ => rfl) hlk
  exact ⟨_, _, X.returnOut hx hret hd hr, hrun, hended, _, _, rfl, hQ, ⟨_, rfl⟩, hW, hsame.mono hc hs⟩
/-- a contract out of the walk of its body -/
theorem own_met {y : MethodName} {bytes : ByteArray} {maxL : Nat} {ret : Option FieldType} {ws : List Jvm.Cond} {rm : Room} {as' : Array Value} {h0 : Heap} {Q : Option Value → Heap → List Loc → Prop} {ce sl : Nat} (hp : plainFor y = true)
    (body : ∀ (p : Program) (e : Env) (s : State) (m : MethodId) (below : List Frame) (meth : Method) (c : Code) (T : State), p.tables.exec = Jvm.exec → c.code = bytes → c.maxLocals = maxL → s.vm.findClass y.cls = some m.cls → meth.name = y.name → meth.sig.returnType = ret → meth.locks = false → Z.Warmed39 s.vm → T.heap = h0 →
      Stand p l e rm s m as' below meth c T [] 0 0 → own_G p e below s Q ce sl (T.setTop (entryFrame m as' maxL))) :
    MetFree l y (head1 (Jvm.Cond.code y bytes maxL ret :: ws) rm) (fun a U => a = as' ∧ Z.Warmed39 U.vm ∧ U.heap = h0) (fun _ _ _ _ _ => True) (fun _ U o U' => ∃ v L, o = .returned v ∧ Q v U'.heap L ∧ FrameEnd U o U' L ce sl) := by
  refine MetFree.of_bodySF hp hisR ?_
  intro p e s m args below meth c s₁ Bd hml0 hP hK
  obtain ⟨rfl, hZ, hh⟩ := hP
  exact body p e s m below meth c s₁ Bd.exec Bd.bytes hml0 (findClass_of_methodNamed Bd.named) (name_of_methodNamed Bd.named Bd.method).1 Bd.returns Bd.notSynchronized hZ (by rw [← hh, Bd.state]; rfl) (Stand.of_body Bd)
theorem own_callS (X : Stand p l e R s m args below meth c T locs cells slots) (hx : p.tables.exec = Jvm.exec) (hZ : Z.Warmed39 s.vm) {own : String} {index : Nat} {y : MethodName} {bytes : ByteArray} {maxL : Nat} {ret : Option FieldType} {rm : Room} {Q : Option Value → Heap → List Loc → Prop} {argsL rest : List Value} (W : Nat)
    (hown : s.vm.findClass own = some m.cls) (wl : (Jvm.Cond.methodLink own index y).before a0 Z = true) (wst : (Jvm.Cond.static y).before a0 Z = true) (wz : (Jvm.Cond.initialized y.cls).before a0 Z = true) (wc : (Jvm.Cond.code y bytes maxL ret).before a0 Z = true) (hy : y.cls ≠ "java/lang/invoke/MethodHandle" ∧ y.cls ≠ "java/lang/invoke/VarHandle")
    (hM : MetFree l y (head1 [Jvm.Cond.code y bytes maxL ret] rm) (fun a U => a = argsL.toArray ∧ Z.Warmed39 U.vm ∧ U.heap = h) (fun _ _ _ _ _ => True) (fun _ U o U' => ∃ v L, o = .returned v ∧ Q v U'.heap L ∧ FrameEnd U o U' L rm.cells rm.slots))
    (hf : rm.frames + 1 ≤ R.frames) (hl : W + (maxL + 11) + rm.locals ≤ R.locals) (eT : T.heap = h) {g : JFrame} (hg : g.method = m) (hsize : g.locals.size = c.maxLocals) {ps : List FieldType} {r : Option FieldType} (hpd : parseMethodDescriptor y.desc = some ⟨ps, r⟩) (hlen : argsL.length = ps.length)
    (hstack : g.stack = argsL.reverse ++ rest) (hW : 2 * g.monitorRoom + (rest.map fun v => v.category).sum ≤ W) (hdg : decode c.code g.pc = .ok (.invokestatic index, 3)) (hc : cells + rm.cells ≤ R.cells) (hs : slots + rm.slots ≤ R.slots) :
    ∃ v T' L, Stand p l e R s m args below meth c T' (locs ++ L) (cells + rm.cells) (slots + rm.slots) ∧ Q v T'.heap L ∧ ∀ t, Steps p.tables e below (T'.setTop { g with pc := g.pc + 3, stack := v.toList ++ rest }) t → Steps p.tables e below (T.setTop g) t := by
  obtain ⟨v, _, ⟨T', L', k', n'⟩, -, X', ⟨L, hQ, l1, y1, z1⟩, st⟩ := Jvm.LawKit.callS X hx (y := y) hown (mvT hZ wl) (mvT hZ wst) (mvT hZ wz) (mvT hZ wc) hy (backOf (W := W) hM hZ wc wz hf hl) hg hsize (lenOf hpd hlen) hstack hW hdg (fun _ _ => ⟨rfl, eT, hc, hs⟩)
  dsimp only [Pt.U, Pt.locs, Pt.cells, Pt.slots] at X' l1 y1 z1 st hQ
  subst l1 y1 z1
  exact ⟨v, T', L, X', hQ, st⟩
theorem own_callI (X : Stand p l e R s m args below meth c T locs cells slots) (hx : p.tables.exec = Jvm.exec) (hZ : Z.Warmed39 s.vm) {own : String} {index : Nat} {y : MethodName} {bytes : ByteArray} {maxL : Nat} {rm : Room} {Q : Option Value → Heap → List Loc → Prop} {a : Addr} {argsL rest : List Value} (W : Nat)
    (hy1 : y.name = "<init>") (hown : s.vm.findClass own = some m.cls) (wl : (Jvm.Cond.methodLink own index y).before a0 Z = true) (wi : (Jvm.Cond.instanceMethod y).before a0 Z = true) (wz : (Jvm.Cond.initialized y.cls).before a0 Z = true) (wc : (Jvm.Cond.code y bytes maxL none).before a0 Z = true) (hy : y.cls ≠ "java/lang/invoke/MethodHandle" ∧ y.cls ≠ "java/lang/invoke/VarHandle")
    (hM : MetFree l y (head1 [Jvm.Cond.code y bytes maxL none] rm) (fun b U => b = (Value.ref a :: argsL).toArray ∧ Z.Warmed39 U.vm ∧ U.heap = h) (fun _ _ _ _ _ => True) (fun _ U o U' => ∃ v L, o = .returned v ∧ Q v U'.heap L ∧ FrameEnd U o U' L rm.cells rm.slots))
    (hf : rm.frames + 1 ≤ R.frames) (hl : W + (maxL + 11) + rm.locals ≤ R.locals) (eT : T.heap = h) {g : JFrame} (hg : g.method = m) (hsize : g.locals.size = c.maxLocals) {ps : List FieldType} {r : Option FieldType} (hpd : parseMethodDescriptor y.desc = some ⟨ps, r⟩) (hlen : argsL.length = ps.length)
    (hstack : g.stack = argsL.reverse ++ .ref a :: rest) (hW : 2 * g.monitorRoom + (rest.map fun v => v.category).sum ≤ W) (hdg : decode c.code g.pc = .ok (.invokespecial index, 3)) (hc : cells + rm.cells ≤ R.cells) (hs : slots + rm.slots ≤ R.slots) :
    ∃ v T' L, Stand p l e R s m args below meth c T' (locs ++ L) (cells + rm.cells) (slots + rm.slots) ∧ Q v T'.heap L ∧ ∀ t, Steps p.tables e below (T'.setTop { g with pc := g.pc + 3, stack := v.toList ++ rest }) t → Steps p.tables e below (T.setTop g) t := by
  obtain ⟨v, _, ⟨T', L', k', n'⟩, -, X', ⟨L, hQ, l1, y1, z1⟩, st⟩ := X.specialBack hx (y := y) hy1 hown (mvT hZ wl) (mvT hZ wi) (mvT hZ wc) hy (backOf (W := W) hM hZ wc wz hf hl) hg hsize (Steps.refl _) (a := a) (lenOf hpd hlen) hstack hW hdg (fun _ _ => ⟨rfl, eT, hc, hs⟩)
  dsimp only [Pt.U, Pt.locs, Pt.cells, Pt.slots] at X' l1 y1 z1 st hQ
  subst l1 y1 z1
  exact ⟨v, T', L, X', hQ, fun t k => st.trans k⟩
theorem own_callV (X : Stand p l e R s m args below meth c T locs cells slots) (hx : p.tables.exec = Jvm.exec) (hZ : Z.Warmed39 s.vm) {own C : String} {index : Nat} {y z : MethodName} {bytes : ByteArray} {maxL : Nat} {ret : Option FieldType} {rm : Room} {Q : Option Value → Heap → List Loc → Prop} {a : Addr} {argsL rest : List Value} (W : Nat)
    (hown : s.vm.findClass own = some m.cls) (wl : (Jvm.Cond.methodLink own index y).before a0 Z = true) (wd : (Jvm.Cond.declares y).before a0 Z = true) (hnf : NotFace s y) (wsel : (Jvm.Cond.selects C y z).before a0 Z = true) (wi : (Jvm.Cond.instanceMethod z).before a0 Z = true) (wz : (Jvm.Cond.initialized z.cls).before a0 Z = true) (wc : (Jvm.Cond.code z bytes maxL ret).before a0 Z = true) (hy : y.cls ≠ "java/lang/invoke/MethodHandle" ∧ y.cls ≠ "java/lang/invoke/VarHandle")
    (hM : MetFree l z (head1 [Jvm.Cond.code z bytes maxL ret] rm) (fun b U => b = (Value.ref a :: argsL).toArray ∧ Z.Warmed39 U.vm ∧ U.heap = h) (fun _ _ _ _ _ => True) (fun _ U o U' => ∃ v L, o = .returned v ∧ Q v U'.heap L ∧ FrameEnd U o U' L rm.cells rm.slots))
    (hf : rm.frames + 1 ≤ R.frames) (hl : W + (maxL + 11) + rm.locals ≤ R.locals) (eT : T.heap = h) (E : Exa Z h a C) {g : JFrame} (hg : g.method = m) (hsize : g.locals.size = c.maxLocals) {ps : List FieldType} {r : Option FieldType} (hpd : parseMethodDescriptor y.desc = some ⟨ps, r⟩) (hlen : argsL.length = ps.length)
    (hstack : g.stack = argsL.reverse ++ .ref a :: rest) (hW : 2 * g.monitorRoom + (rest.map fun v => v.category).sum ≤ W) (hdg : decode c.code g.pc = .ok (.invokevirtual index, 3)) (hc : cells + rm.cells ≤ R.cells) (hs : slots + rm.slots ≤ R.slots) :
    ∃ v T' L, Stand p l e R s m args below meth c T' (locs ++ L) (cells + rm.cells) (slots + rm.slots) ∧ Q v T'.heap L ∧ ∀ t, Steps p.tables e below (T'.setTop { g with pc := g.pc + 3, stack := v.toList ++ rest }) t → Steps p.tables e below (T.setTop g) t := by
  obtain ⟨cq, kq, qa, qb, qc⟩ := isOf hZ eT E
  obtain ⟨v, _, ⟨T', L', k', n'⟩, -, X', ⟨L, hQ, l1, y1, z1⟩, st⟩ := X.virtualBack hx (y := y) (z := z) hown (mvT hZ wl) (mvT hZ wd) hnf (mvT hZ wsel) (mvT hZ wi) hy (backOf (W := W) hM hZ wc wz hf hl) qa qc hg hsize (Steps.refl _) (lenOf hpd hlen) hstack hW hdg (fun _ _ => ⟨rfl, eT, hc, hs⟩)
  dsimp only [Pt.U, Pt.locs, Pt.cells, Pt.slots] at X' l1 y1 z1 st hQ
  subst l1 y1 z1
  exact ⟨v, T', L, X', hQ, fun t k => st.trans k⟩
theorem own_nf {y : MethodName} {C : String} (hZ : Z.Warmed39 s.vm) (w : (Jvm.Cond.selects C y y).before a0 Z = true) : NotFace s y := notFace_of_selects (args := #[]) (mvT hZ w)
theorem own_selP {y y0 : MethodName} {C : String} (hZ : Z.Warmed39 s.vm) (w0 : (Jvm.Cond.selects C y0 y0).before a0 Z = true) (hc : y0.cls = y.cls) (wp : (Jvm.Cond.privateMethod y).before a0 Z = true) (wi : (Jvm.Cond.instanceMethod y).before a0 Z = true) (hy : y.cls ≠ "java/lang/invoke/MethodHandle" ∧ y.cls ≠ "java/lang/invoke/VarHandle") :
    (Jvm.Cond.selects y.cls y y).before args s = true := by
  obtain ⟨c2, r2, m2, q1, q2, q3, q4, kP, hkP, hkPi⟩ := Cond.selects_spec (mvT (args := args) hZ w0)
  exact selects_self_of_private (hc ▸ findClass_of_methodNamed q3) hkP hkPi (Cond.privateMethod_at (mvP hZ wp (args := #[]))) (mvT hZ wi) hy
theorem own_callP (X : Stand p l e R s m args below meth c T locs cells slots) (hx : p.tables.exec = Jvm.exec) (hZ : Z.Warmed39 s.vm) {own C C0 : String} {index : Nat} {y y0 : MethodName} {bytes : ByteArray} {maxL : Nat} {ret : Option FieldType} {rm : Room} {Q : Option Value → Heap → List Loc → Prop} {a : Addr} {argsL rest : List Value} (W : Nat)
    (hown : s.vm.findClass own = some m.cls) (wl : (Jvm.Cond.methodLink own index y).before a0 Z = true) (w0 : (Jvm.Cond.selects C0 y0 y0).before a0 Z = true) (hc0 : y0.cls = y.cls) (wp : (Jvm.Cond.privateMethod y).before a0 Z = true) (wi : (Jvm.Cond.instanceMethod y).before a0 Z = true) (wz : (Jvm.Cond.initialized y.cls).before a0 Z = true) (wc : (Jvm.Cond.code y bytes maxL ret).before a0 Z = true) (hy : y.cls ≠ "java/lang/invoke/MethodHandle" ∧ y.cls ≠ "java/lang/invoke/VarHandle")
    (hM : MetFree l y (head1 [Jvm.Cond.code y bytes maxL ret] rm) (fun b U => b = (Value.ref a :: argsL).toArray ∧ Z.Warmed39 U.vm ∧ U.heap = h) (fun _ _ _ _ _ => True) (fun _ U o U' => ∃ v L, o = .returned v ∧ Q v U'.heap L ∧ FrameEnd U o U' L rm.cells rm.slots))
    (hf : rm.frames + 1 ≤ R.frames) (hl : W + (maxL + 11) + rm.locals ≤ R.locals) (eT : T.heap = h) (E : Exa Z h a C) {g : JFrame} (hg : g.method = m) (hsize : g.locals.size = c.maxLocals) {ps : List FieldType} {r : Option FieldType} (hpd : parseMethodDescriptor y.desc = some ⟨ps, r⟩) (hlen : argsL.length = ps.length)
    (hstack : g.stack = argsL.reverse ++ .ref a :: rest) (hW : 2 * g.monitorRoom + (rest.map fun v => v.category).sum ≤ W) (hdg : decode c.code g.pc = .ok (.invokevirtual index, 3)) (hc : cells + rm.cells ≤ R.cells) (hs : slots + rm.slots ≤ R.slots) :
    ∃ v T' L, Stand p l e R s m args below meth c T' (locs ++ L) (cells + rm.cells) (slots + rm.slots) ∧ Q v T'.heap L ∧ ∀ t, Steps p.tables e below (T'.setTop { g with pc := g.pc + 3, stack := v.toList ++ rest }) t → Steps p.tables e below (T.setTop g) t := by
  obtain ⟨cq, q1, q2⟩ := E.cell
  obtain ⟨v, _, ⟨T', L', k', n'⟩, -, X', ⟨L, hQ, l1, y1, z1⟩, st⟩ := X.privateBack hx (y := y) hown (mvT hZ wl) (mvT hZ wi) (own_selP hZ w0 hc0 wp wi hy) (Cond.privateMethod_at (mvP hZ wp (args := #[]))) (mvT hZ wc) hy (backOf (W := W) hM hZ wc wz hf hl) hg hsize (Steps.refl _) (a := a) (by rw [eT]; exact q1) q2 (lenOf hpd hlen) hstack hW hdg (fun _ _ => ⟨rfl, eT, hc, hs⟩)
  dsimp only [Pt.U, Pt.locs, Pt.cells, Pt.slots] at X' l1 y1 z1 st hQ
  subst l1 y1 z1
  exact ⟨v, T', L, X', hQ, fun t k => st.trans k⟩
theorem own_callF (X : Stand p l e R s m args below meth c T locs cells slots) (hx : p.tables.exec = Jvm.exec) (hZ : Z.Warmed39 s.vm) {own C : String} {index count : Nat} {xi y : MethodName} {bytes : ByteArray} {maxL : Nat} {ret : Option FieldType} {rm : Room} {Q : Option Value → Heap → List Loc → Prop} {a : Addr} {argsL rest : List Value} (W : Nat)
    (hown : s.vm.findClass own = some m.cls) (wl : (Jvm.Cond.methodLink own index xi).before a0 Z = true) (wd : (Jvm.Cond.declares xi).before a0 Z = true) (wf : (Jvm.Cond.interfaceMethod xi.cls xi.cls xi.name xi.desc).before args s = true) (wsel : (Jvm.Cond.selects C xi y).before a0 Z = true) (wi : (Jvm.Cond.instanceMethod y).before a0 Z = true) (wp : (Jvm.Cond.publicMethod y).before a0 Z = true) (wu : (Jvm.Cond.unhidden C xi.name xi.desc).before a0 Z = true) (wk : (Jvm.Cond.castable C xi.cls).before a0 Z = true) (wz : (Jvm.Cond.initialized y.cls).before a0 Z = true) (wc : (Jvm.Cond.code y bytes maxL ret).before a0 Z = true) (hy : xi.cls ≠ "java/lang/invoke/MethodHandle" ∧ xi.cls ≠ "java/lang/invoke/VarHandle")
    (hM : MetFree l y (head1 [Jvm.Cond.code y bytes maxL ret] rm) (fun b U => b = (Value.ref a :: argsL).toArray ∧ Z.Warmed39 U.vm ∧ U.heap = h) (fun _ _ _ _ _ => True) (fun _ U o U' => ∃ v L, o = .returned v ∧ Q v U'.heap L ∧ FrameEnd U o U' L rm.cells rm.slots))
    (hf : rm.frames + 1 ≤ R.frames) (hl : W + (maxL + 11) + rm.locals ≤ R.locals) (eT : T.heap = h) (E : Exa Z h a C) {g : JFrame} (hg : g.method = m) (hsize : g.locals.size = c.maxLocals) {ps : List FieldType} {r : Option FieldType} (hpd : parseMethodDescriptor xi.desc = some ⟨ps, r⟩) (hlen : argsL.length = ps.length)
    (hstack : g.stack = argsL.reverse ++ .ref a :: rest) (hW : 2 * g.monitorRoom + (rest.map fun v => v.category).sum ≤ W) (hdg : decode c.code g.pc = .ok (.invokeinterface index count, 5)) (hc : cells + rm.cells ≤ R.cells) (hs : slots + rm.slots ≤ R.slots) :
    ∃ v T' L, Stand p l e R s m args below meth c T' (locs ++ L) (cells + rm.cells) (slots + rm.slots) ∧ Q v T'.heap L ∧ ∀ t, Steps p.tables e below (T'.setTop { g with pc := g.pc + 5, stack := v.toList ++ rest }) t → Steps p.tables e below (T.setTop g) t := by
  obtain ⟨cq, kq, qa, qb, qc⟩ := isOf hZ eT E
  obtain ⟨v, _, ⟨T', L', k', n'⟩, -, X', ⟨L, hQ, l1, y1, z1⟩, st⟩ := X.interfaceBack hx (xi := xi) (y := y) hown (mvT hZ wl) (mvT hZ wd) wf (mvT hZ wsel) (mvT hZ wi) (mvT hZ wp) (mvT hZ wu) (mvT hZ wk) hy (backOf (W := W) hM hZ wc wz hf hl) qa qb qc hg hsize (Steps.refl _) (lenOf hpd hlen) hstack hW hdg (fun _ _ => ⟨rfl, eT, hc, hs⟩)
  dsimp only [Pt.U, Pt.locs, Pt.cells, Pt.slots] at X' l1 y1 z1 st hQ
  subst l1 y1 z1
  exact ⟨v, T', L, X', hQ, fun t k => st.trans k⟩
/-- a truth as Java's int -/
def own_b (P : Prop) [Decidable P] : Int32 := if P then 1 else 0
theorem own_b1 {P : Prop} [Decidable P] (h : P) : own_b P = 1 := if_pos h
theorem own_b0 {P : Prop} [Decidable P] (h : ¬ P) : own_b P = 0 := if_neg h
theorem own_b01 (P : Prop) [Decidable P] : own_b P = 0 ∨ own_b P = 1 := by
  by_cases h : P
  · exact Or.inr (own_b1 h)
  · exact Or.inl (own_b0 h)
theorem own_bn {P : Prop} [Decidable P] (h : P) : ¬ own_b P = 0 := by rw [own_b1 h]; decide
theorem own_narZ {z : Int32} (h : z = 0 ∨ z = 1) : narrow .boolean (.int z) = .int z := by rcases h with rfl | rfl <;> rfl
theorem own_fitZ {z : Int32} (h : z = 0 ∨ z = 1) : fits .boolean (.int z) = true := by rcases h with rfl | rfl <;> rfl
end OwnKit
def own_mini (x y : Int32) : Int32 := if y < x then y else x
def own_maxi (x y : Int32) : Int32 := if x < y then y else x
def own_pos (x : Int32) : Int32 := if (x &&& (2147483647 : Int32)) = (0 : Int32) then 1 else x &&& (2147483647 : Int32)
theorem own_pos1 (x : Int32) : 1 ≤ (own_pos x).toInt := by
  have h1 := c_mask x 2147483647 31 (by decide) (by decide)
  unfold own_pos
  split
  · decide
  · rename_i h
    have h2 : (x &&& (2147483647 : Int32)).toInt ≠ (0 : Int32).toInt := fun q => h (Int32.toInt_inj.mp q)
    have h3 : (0 : Int32).toInt = 0 := by decide
    omega
theorem own_mini_eq (x y : Int32) : (own_mini x y).toInt = if y.toInt < x.toInt then y.toInt else x.toInt := by
  unfold own_mini; simp only [Int32.lt_iff_toInt_lt]; split <;> rfl
theorem own_maxi_eq (x y : Int32) : (own_maxi x y).toInt = if x.toInt < y.toInt then y.toInt else x.toInt := by
  unfold own_maxi; simp only [Int32.lt_iff_toInt_lt]; split <;> rfl
theorem own_lo1 (x y : Int32) : ¬ (own_mini (own_pos x) (own_pos y) < (1 : Int32)) := by
  have h1 := own_pos1 x
  have h2 := own_pos1 y
  have i1 : (1 : Int32).toInt = 1 := by decide
  rw [Int32.lt_iff_toInt_lt, own_mini_eq]
  split <;> omega
theorem own_lohi (x y : Int32) : ¬ (own_maxi x y < own_mini x y) := by
  rw [Int32.lt_iff_toInt_lt, own_mini_eq, own_maxi_eq]
  split <;> split <;> omega
theorem own_ov (l1 m1 l2 m2 : Int32) (h1 : ¬ (m1 < l1)) (h2 : ¬ (m2 < l2)) : (own_mini m1 m2 < own_maxi l1 l2) ↔ ¬ (¬ (m2 < l1) ∧ ¬ (m1 < l2)) := by
  simp only [Int32.lt_iff_toInt_lt, own_mini_eq, own_maxi_eq] at *
  split <;> split <;> omega
theorem own_pn0 : plainFor (⟨"java/lang/Record", "<init>", "()V"⟩ : MethodName) = true := plainFor_of_name (by first | (simp [plainName, overriddenIn]; done) | decide +kernel)
theorem dd_jdk_30m1_0 : decode jdk_30_method_1_code 0 = .ok (.aload_n 0, 1) := by decide +kernel
theorem dd_jdk_30m1_1 : decode jdk_30_method_1_code 1 = .ok (.invokespecial 1, 3) := by decide +kernel
theorem dd_jdk_30m1_4 : decode jdk_30_method_1_code 4 = .ok (.return_, 1) := by decide +kernel
theorem ef_own_rec (m : MethodId) (z0 : Addr) : entryFrame m #[(.ref z0)] 1 = mkF m 0 #[.val (.ref z0)] [] := by first | (simp [entryFrame, mkF, argsToLocals, Value.category]; done) | rfl
def Q_own_rec (Z : State) (a : Addr) (h0 : Heap) (n0 : Nat) (zv : Option Value) (zh : Heap) (zL : List Loc) : Prop := zv = none ∧ Fr n0 zL ∧ zh = h0
set_option maxRecDepth 65536 in
set_option maxHeartbeats 40000000 in
theorem own_rec (l : Launch) (Z : State) (a0 : Array Value) (hw : ∀ d ∈ tables_1, d.before a0 Z = true) (ws : List Jvm.Cond) (a : Addr) (h0 : Heap) (n0 : Nat) (Z0 : n0 ≤ h0.size)  :
    MetFree l (⟨"java/lang/Record", "<init>", "()V"⟩ : MethodName) (head1 (Jvm.Cond.code (⟨"java/lang/Record", "<init>", "()V"⟩ : MethodName) jdk_30_method_1_code 1 none :: ws) ({ frames := 1, cells := 0, slots := 0, locals := 12 } : Room)) (fun za zU => za = #[(.ref a)] ∧ Z.Warmed39 zU.vm ∧ zU.heap = h0) (fun _ _ _ _ _ => True) (fun _ zU zo zU' => ∃ zv zL, zo = .returned zv ∧ Q_own_rec Z a h0 n0 zv zU'.heap zL ∧ FrameEnd zU zo zU' zL ({ frames := 1, cells := 0, slots := 0, locals := 12 } : Room).cells ({ frames := 1, cells := 0, slots := 0, locals := 12 } : Room).slots) := by
  refine own_met (y := (⟨"java/lang/Record", "<init>", "()V"⟩ : MethodName)) own_pn0 ?_
  intro p e s m below meth c T0 hx hby hml hown hnm hret hlk hZ e0 X0
  have N0 := Fr.nil n0
  refine own_st (fun zt zk => castTop (ef_own_rec m a) zk) ?_
  show own_G p e below s _ _ _ (T0.setTop (mkF m 0 #[.val (.ref a)] []))
  refine own_st (fun zt zk => XS.aloadN X0.here hx rfl (hb hby dd_jdk_30m1_0) rfl rfl zk) ?_
  show own_G p e below s _ _ _ (T0.setTop (mkF m 1 #[.val (.ref a)] [(.ref a)]))
  obtain ⟨T1, X1, e1, st1⟩ := initO X0 hx hZ hown (hw _ (List.mem_of_getElem? (i := 23) rfl)) (hw _ (List.mem_of_getElem? (i := 24) rfl)) (hw _ (List.mem_of_getElem? (i := 25) rfl)) e0 (g := (mkF m 1 #[.val (.ref a)] [(.ref a)])) rfl (by rw [hml]; rfl) rfl (hb hby dd_jdk_30m1_1) (by decide) (W := 0) (by show 2 * 0 + _ ≤ _; exact Nat.le_of_eq rfl) (by decide)
  refine own_st st1 ?_
  show own_G p e below s _ _ _ (T1.setTop (mkF m 4 #[.val (.ref a)] []))
  refine own_retV X1 hx hlk hret (hb hby dd_jdk_30m1_4) (by decide) (by decide) ?_
  show Q_own_rec Z a h0 n0 none T1.heap _
  rw [e1]
  exact ⟨rfl, N0, rfl⟩
theorem own_pn1 : plainFor (⟨"java/lang/Math", "min", "(II)I"⟩ : MethodName) = true := Jvm.Free.JP.mathPlain rfl (by decide +kernel)
theorem dd_jdk_29m69_0 : decode jdk_29_method_69_code 0 = .ok (.iload_n 0, 1) := by decide +kernel
theorem dd_jdk_29m69_1 : decode jdk_29_method_69_code 1 = .ok (.iload_n 1, 1) := by decide +kernel
theorem dd_jdk_29m69_2 : decode jdk_29_method_69_code 2 = .ok (.if_icmp .gt 7, 3) := by decide +kernel
theorem dd_jdk_29m69_9 : decode jdk_29_method_69_code 9 = .ok (.iload_n 1, 1) := by decide +kernel
theorem dd_jdk_29m69_10 : decode jdk_29_method_69_code 10 = .ok (.ireturn, 1) := by decide +kernel
theorem dd_jdk_29m69_5 : decode jdk_29_method_69_code 5 = .ok (.iload_n 0, 1) := by decide +kernel
theorem dd_jdk_29m69_6 : decode jdk_29_method_69_code 6 = .ok (.goto 4, 3) := by decide +kernel
theorem ef_own_cmin (m : MethodId) (z0 : Int32) (z1 : Int32) : entryFrame m #[(.int z0), (.int z1)] 2 = mkF m 0 #[.val (.int z0), .val (.int z1)] [] := by first | (simp [entryFrame, mkF, argsToLocals, Value.category]; done) | rfl
def Q_own_cmin (Z : State) (x : Int32) (y : Int32) (h0 : Heap) (n0 : Nat) (zv : Option Value) (zh : Heap) (zL : List Loc) : Prop := zv = some (.int (own_mini x y)) ∧ Fr n0 zL ∧ zh = h0
set_option maxRecDepth 65536 in
set_option maxHeartbeats 40000000 in
theorem own_cmin (l : Launch) (Z : State) (a0 : Array Value) (hw : ∀ d ∈ tables_1, d.before a0 Z = true) (ws : List Jvm.Cond) (x : Int32) (y : Int32) (h0 : Heap) (n0 : Nat) (Z0 : n0 ≤ h0.size)  :
    MetFree l (⟨"java/lang/Math", "min", "(II)I"⟩ : MethodName) (head1 (Jvm.Cond.code (⟨"java/lang/Math", "min", "(II)I"⟩ : MethodName) jdk_29_method_69_code 2 (some .int) :: ws) ({ frames := 0, cells := 0, slots := 0, locals := 0 } : Room)) (fun za zU => za = #[(.int x), (.int y)] ∧ Z.Warmed39 zU.vm ∧ zU.heap = h0) (fun _ _ _ _ _ => True) (fun _ zU zo zU' => ∃ zv zL, zo = .returned zv ∧ Q_own_cmin Z x y h0 n0 zv zU'.heap zL ∧ FrameEnd zU zo zU' zL ({ frames := 0, cells := 0, slots := 0, locals := 0 } : Room).cells ({ frames := 0, cells := 0, slots := 0, locals := 0 } : Room).slots) := by
  refine own_met (y := (⟨"java/lang/Math", "min", "(II)I"⟩ : MethodName)) own_pn1 ?_
  intro p e s m below meth c T0 hx hby hml hown hnm hret hlk hZ e0 X0
  have N0 := Fr.nil n0
  refine own_st (fun zt zk => castTop (ef_own_cmin m x y) zk) ?_
  show own_G p e below s _ _ _ (T0.setTop (mkF m 0 #[.val (.int x), .val (.int y)] []))
  refine own_st (fun zt zk => XS.iloadN X0.here hx rfl (hb hby dd_jdk_29m69_0) rfl zk) ?_
  show own_G p e below s _ _ _ (T0.setTop (mkF m 1 #[.val (.int x), .val (.int y)] [(.int x)]))
  refine own_st (fun zt zk => XS.iloadN X0.here hx rfl (hb hby dd_jdk_29m69_1) rfl zk) ?_
  show own_G p e below s _ _ _ (T0.setTop (mkF m 2 #[.val (.int x), .val (.int y)] [(.int y), (.int x)]))
  by_cases hc2_1 : y < x
  · refine own_st (fun zt zk => XS.icmpYes X0.here hx rfl (pc0 := 2) (pc' := 9) rfl (hb hby dd_jdk_29m69_2) rfl (tlt hc2_1).2.2.1 (by decide) (by decide) zk) ?_
    show own_G p e below s _ _ _ (T0.setTop (mkF m 9 #[.val (.int x), .val (.int y)] []))
    refine own_st (fun zt zk => XS.iloadN X0.here hx rfl (hb hby dd_jdk_29m69_9) rfl zk) ?_
    show own_G p e below s _ _ _ (T0.setTop (mkF m 10 #[.val (.int x), .val (.int y)] [(.int y)]))
    refine own_retI X0 hx hlk hret (hb hby dd_jdk_29m69_10) (by decide) (by decide) ?_
    show Q_own_cmin Z x y h0 n0 (some (.int y)) T0.heap _
    rw [e0]
    exact ⟨(by simp [own_mini, hc2_1]), N0, rfl⟩
  · refine own_st (fun zt zk => XS.icmpNo X0.here hx rfl (hb hby dd_jdk_29m69_2) rfl (flt hc2_1).2.2.1 zk) ?_
    show own_G p e below s _ _ _ (T0.setTop (mkF m 5 #[.val (.int x), .val (.int y)] []))
    refine own_st (fun zt zk => XS.iloadN X0.here hx rfl (hb hby dd_jdk_29m69_5) rfl zk) ?_
    show own_G p e below s _ _ _ (T0.setTop (mkF m 6 #[.val (.int x), .val (.int y)] [(.int x)]))
    refine own_st (fun zt zk => XS.goto X0.here hx rfl (pc0 := 6) (pc' := 10) rfl (hb hby dd_jdk_29m69_6) (by decide) (by decide) zk) ?_
    show own_G p e below s _ _ _ (T0.setTop (mkF m 10 #[.val (.int x), .val (.int y)] [(.int x)]))
    refine own_retI X0 hx hlk hret (hb hby dd_jdk_29m69_10) (by decide) (by decide) ?_
    show Q_own_cmin Z x y h0 n0 (some (.int x)) T0.heap _
    rw [e0]
    exact ⟨(by simp [own_mini, hc2_1]), N0, rfl⟩
theorem own_pn2 : plainFor (⟨"java/lang/Math", "max", "(II)I"⟩ : MethodName) = true := Jvm.Free.JP.mathPlain rfl (by decide +kernel)
theorem dd_jdk_29m65_0 : decode jdk_29_method_65_code 0 = .ok (.iload_n 0, 1) := by decide +kernel
theorem dd_jdk_29m65_1 : decode jdk_29_method_65_code 1 = .ok (.iload_n 1, 1) := by decide +kernel
theorem dd_jdk_29m65_2 : decode jdk_29_method_65_code 2 = .ok (.if_icmp .lt 7, 3) := by decide +kernel
theorem dd_jdk_29m65_9 : decode jdk_29_method_65_code 9 = .ok (.iload_n 1, 1) := by decide +kernel
theorem dd_jdk_29m65_10 : decode jdk_29_method_65_code 10 = .ok (.ireturn, 1) := by decide +kernel
theorem dd_jdk_29m65_5 : decode jdk_29_method_65_code 5 = .ok (.iload_n 0, 1) := by decide +kernel
theorem dd_jdk_29m65_6 : decode jdk_29_method_65_code 6 = .ok (.goto 4, 3) := by decide +kernel
theorem ef_own_cmax (m : MethodId) (z0 : Int32) (z1 : Int32) : entryFrame m #[(.int z0), (.int z1)] 2 = mkF m 0 #[.val (.int z0), .val (.int z1)] [] := by first | (simp [entryFrame, mkF, argsToLocals, Value.category]; done) | rfl
def Q_own_cmax (Z : State) (x : Int32) (y : Int32) (h0 : Heap) (n0 : Nat) (zv : Option Value) (zh : Heap) (zL : List Loc) : Prop := zv = some (.int (own_maxi x y)) ∧ Fr n0 zL ∧ zh = h0
set_option maxRecDepth 65536 in
set_option maxHeartbeats 40000000 in
theorem own_cmax (l : Launch) (Z : State) (a0 : Array Value) (hw : ∀ d ∈ tables_1, d.before a0 Z = true) (ws : List Jvm.Cond) (x : Int32) (y : Int32) (h0 : Heap) (n0 : Nat) (Z0 : n0 ≤ h0.size)  :
    MetFree l (⟨"java/lang/Math", "max", "(II)I"⟩ : MethodName) (head1 (Jvm.Cond.code (⟨"java/lang/Math", "max", "(II)I"⟩ : MethodName) jdk_29_method_65_code 2 (some .int) :: ws) ({ frames := 0, cells := 0, slots := 0, locals := 0 } : Room)) (fun za zU => za = #[(.int x), (.int y)] ∧ Z.Warmed39 zU.vm ∧ zU.heap = h0) (fun _ _ _ _ _ => True) (fun _ zU zo zU' => ∃ zv zL, zo = .returned zv ∧ Q_own_cmax Z x y h0 n0 zv zU'.heap zL ∧ FrameEnd zU zo zU' zL ({ frames := 0, cells := 0, slots := 0, locals := 0 } : Room).cells ({ frames := 0, cells := 0, slots := 0, locals := 0 } : Room).slots) := by
  refine own_met (y := (⟨"java/lang/Math", "max", "(II)I"⟩ : MethodName)) own_pn2 ?_
  intro p e s m below meth c T0 hx hby hml hown hnm hret hlk hZ e0 X0
  have N0 := Fr.nil n0
  refine own_st (fun zt zk => castTop (ef_own_cmax m x y) zk) ?_
  show own_G p e below s _ _ _ (T0.setTop (mkF m 0 #[.val (.int x), .val (.int y)] []))
  refine own_st (fun zt zk => XS.iloadN X0.here hx rfl (hb hby dd_jdk_29m65_0) rfl zk) ?_
  show own_G p e below s _ _ _ (T0.setTop (mkF m 1 #[.val (.int x), .val (.int y)] [(.int x)]))
  refine own_st (fun zt zk => XS.iloadN X0.here hx rfl (hb hby dd_jdk_29m65_1) rfl zk) ?_
  show own_G p e below s _ _ _ (T0.setTop (mkF m 2 #[.val (.int x), .val (.int y)] [(.int y), (.int x)]))
  by_cases hc2_1 : x < y
  · refine own_st (fun zt zk => XS.icmpYes X0.here hx rfl (pc0 := 2) (pc' := 9) rfl (hb hby dd_jdk_29m65_2) rfl (tlt hc2_1).1 (by decide) (by decide) zk) ?_
    show own_G p e below s _ _ _ (T0.setTop (mkF m 9 #[.val (.int x), .val (.int y)] []))
    refine own_st (fun zt zk => XS.iloadN X0.here hx rfl (hb hby dd_jdk_29m65_9) rfl zk) ?_
    show own_G p e below s _ _ _ (T0.setTop (mkF m 10 #[.val (.int x), .val (.int y)] [(.int y)]))
    refine own_retI X0 hx hlk hret (hb hby dd_jdk_29m65_10) (by decide) (by decide) ?_
    show Q_own_cmax Z x y h0 n0 (some (.int y)) T0.heap _
    rw [e0]
    exact ⟨(by simp [own_maxi, hc2_1]), N0, rfl⟩
  · refine own_st (fun zt zk => XS.icmpNo X0.here hx rfl (hb hby dd_jdk_29m65_2) rfl (flt hc2_1).1 zk) ?_
    show own_G p e below s _ _ _ (T0.setTop (mkF m 5 #[.val (.int x), .val (.int y)] []))
    refine own_st (fun zt zk => XS.iloadN X0.here hx rfl (hb hby dd_jdk_29m65_5) rfl zk) ?_
    show own_G p e below s _ _ _ (T0.setTop (mkF m 6 #[.val (.int x), .val (.int y)] [(.int x)]))
    refine own_st (fun zt zk => XS.goto X0.here hx rfl (pc0 := 6) (pc' := 10) rfl (hb hby dd_jdk_29m65_6) (by decide) (by decide) zk) ?_
    show own_G p e below s _ _ _ (T0.setTop (mkF m 10 #[.val (.int x), .val (.int y)] [(.int x)]))
    refine own_retI X0 hx hlk hret (hb hby dd_jdk_29m65_10) (by decide) (by decide) ?_
    show Q_own_cmax Z x y h0 n0 (some (.int x)) T0.heap _
    rw [e0]
    exact ⟨(by simp [own_maxi, hc2_1]), N0, rfl⟩
theorem own_pn3 : plainFor (⟨"com/example/outfall/outfall/rules/RangeOverlapsPinLaw", "pos", "(I)I"⟩ : MethodName) = true := plainFor_of_name (by first | (simp [plainName, overriddenIn]; done) | decide +kernel)
theorem dd_method_2_0 : decode method_2_code 0 = .ok (.iload_n 0, 1) := by decide +kernel
theorem dd_method_2_1 : decode method_2_code 1 = .ok (.ldc 7, 2) := by decide +kernel
theorem dd_method_2_3 : decode method_2_code 3 = .ok (.iand, 1) := by decide +kernel
theorem dd_method_2_4 : decode method_2_code 4 = .ok (.istore_n 1, 1) := by decide +kernel
theorem dd_method_2_5 : decode method_2_code 5 = .ok (.iload_n 1, 1) := by decide +kernel
theorem dd_method_2_6 : decode method_2_code 6 = .ok (.ifCond .ne 5, 3) := by decide +kernel
theorem dd_method_2_9 : decode method_2_code 9 = .ok (.iconst 1, 1) := by decide +kernel
theorem dd_method_2_10 : decode method_2_code 10 = .ok (.istore_n 1, 1) := by decide +kernel
theorem dd_method_2_11 : decode method_2_code 11 = .ok (.iload_n 1, 1) := by decide +kernel
theorem dd_method_2_12 : decode method_2_code 12 = .ok (.ireturn, 1) := by decide +kernel
theorem ef_own_cpos (m : MethodId) (z0 : Int32) : entryFrame m #[(.int z0)] 2 = mkF m 0 #[.val (.int z0), .unset] [] := by first | (simp [entryFrame, mkF, argsToLocals, Value.category]; done) | rfl
def Q_own_cpos (Z : State) (x : Int32) (h0 : Heap) (n0 : Nat) (zv : Option Value) (zh : Heap) (zL : List Loc) : Prop := zv = some (.int (own_pos x)) ∧ Fr n0 zL ∧ zh = h0
set_option maxRecDepth 65536 in
set_option maxHeartbeats 40000000 in
theorem own_cpos (l : Launch) (Z : State) (a0 : Array Value) (hw : ∀ d ∈ tables_1, d.before a0 Z = true) (ws : List Jvm.Cond) (x : Int32) (h0 : Heap) (n0 : Nat) (Z0 : n0 ≤ h0.size)  :
    MetFree l (⟨"com/example/outfall/outfall/rules/RangeOverlapsPinLaw", "pos", "(I)I"⟩ : MethodName) (head1 (Jvm.Cond.code (⟨"com/example/outfall/outfall/rules/RangeOverlapsPinLaw", "pos", "(I)I"⟩ : MethodName) method_2_code 2 (some .int) :: ws) ({ frames := 0, cells := 0, slots := 0, locals := 0 } : Room)) (fun za zU => za = #[(.int x)] ∧ Z.Warmed39 zU.vm ∧ zU.heap = h0) (fun _ _ _ _ _ => True) (fun _ zU zo zU' => ∃ zv zL, zo = .returned zv ∧ Q_own_cpos Z x h0 n0 zv zU'.heap zL ∧ FrameEnd zU zo zU' zL ({ frames := 0, cells := 0, slots := 0, locals := 0 } : Room).cells ({ frames := 0, cells := 0, slots := 0, locals := 0 } : Room).slots) := by
  refine own_met (y := (⟨"com/example/outfall/outfall/rules/RangeOverlapsPinLaw", "pos", "(I)I"⟩ : MethodName)) own_pn3 ?_
  intro p e s m below meth c T0 hx hby hml hown hnm hret hlk hZ e0 X0
  have N0 := Fr.nil n0
  refine own_st (fun zt zk => castTop (ef_own_cpos m x) zk) ?_
  show own_G p e below s _ _ _ (T0.setTop (mkF m 0 #[.val (.int x), .unset] []))
  refine own_st (fun zt zk => XS.iloadN X0.here hx rfl (hb hby dd_method_2_0) rfl zk) ?_
  show own_G p e below s _ _ _ (T0.setTop (mkF m 1 #[.val (.int x), .unset] [(.int x)]))
  refine own_st (X0.ldcInt hx hown (mvT hZ (hw _ (List.mem_of_getElem? (i := 4) rfl))) (g := (mkF m 1 #[.val (.int x), .unset] [(.int x)])) rfl (hb hby dd_method_2_1)) ?_
  show own_G p e below s _ _ _ (T0.setTop (mkF m 3 #[.val (.int x), .unset] [(.int (2147483647 : Int32)), (.int x)]))
  refine own_st (fun zt zk => XS.iand X0.here hx rfl (hb hby dd_method_2_3) rfl zk) ?_
  show own_G p e below s _ _ _ (T0.setTop (mkF m 4 #[.val (.int x), .unset] [(.int (x &&& (2147483647 : Int32)))]))
  refine own_st (fun zt zk => XS.istoreN X0.here hx rfl (hb hby dd_method_2_4) rfl (l' := #[.val (.int x), .val (.int (x &&& (2147483647 : Int32)))]) rfl zk) ?_
  show own_G p e below s _ _ _ (T0.setTop (mkF m 5 #[.val (.int x), .val (.int (x &&& (2147483647 : Int32)))] []))
  refine own_st (fun zt zk => XS.iloadN X0.here hx rfl (hb hby dd_method_2_5) rfl zk) ?_
  show own_G p e below s _ _ _ (T0.setTop (mkF m 6 #[.val (.int x), .val (.int (x &&& (2147483647 : Int32)))] [(.int (x &&& (2147483647 : Int32)))]))
  by_cases hc6_1 : (x &&& (2147483647 : Int32)) = (0 : Int32)
  · refine own_st (fun zt zk => XS.ifNo X0.here hx rfl (hb hby dd_method_2_6) rfl ((if0 _ _).trans (teq hc6_1).2) zk) ?_
    show own_G p e below s _ _ _ (T0.setTop (mkF m 9 #[.val (.int x), .val (.int (x &&& (2147483647 : Int32)))] []))
    refine own_st (fun zt zk => XS.iconst X0.here hx rfl (hb hby dd_method_2_9) zk) ?_
    show own_G p e below s _ _ _ (T0.setTop (mkF m 10 #[.val (.int x), .val (.int (x &&& (2147483647 : Int32)))] [(.int (1 : Int32))]))
    refine own_st (fun zt zk => XS.istoreN X0.here hx rfl (hb hby dd_method_2_10) rfl (l' := #[.val (.int x), .val (.int (1 : Int32))]) rfl zk) ?_
    show own_G p e below s _ _ _ (T0.setTop (mkF m 11 #[.val (.int x), .val (.int (1 : Int32))] []))
    refine own_st (fun zt zk => XS.iloadN X0.here hx rfl (hb hby dd_method_2_11) rfl zk) ?_
    show own_G p e below s _ _ _ (T0.setTop (mkF m 12 #[.val (.int x), .val (.int (1 : Int32))] [(.int (1 : Int32))]))
    refine own_retI X0 hx hlk hret (hb hby dd_method_2_12) (by decide) (by decide) ?_
    show Q_own_cpos Z x h0 n0 (some (.int (1 : Int32))) T0.heap _
    rw [e0]
    exact ⟨(by simp [own_pos, hc6_1]), N0, rfl⟩
  · refine own_st (fun zt zk => XS.ifYes X0.here hx rfl (pc0 := 6) (pc' := 11) rfl (hb hby dd_method_2_6) rfl ((if0 _ _).trans (feq hc6_1).2) (by decide) (by decide) zk) ?_
    show own_G p e below s _ _ _ (T0.setTop (mkF m 11 #[.val (.int x), .val (.int (x &&& (2147483647 : Int32)))] []))
    refine own_st (fun zt zk => XS.iloadN X0.here hx rfl (hb hby dd_method_2_11) rfl zk) ?_
    show own_G p e below s _ _ _ (T0.setTop (mkF m 12 #[.val (.int x), .val (.int (x &&& (2147483647 : Int32)))] [(.int (x &&& (2147483647 : Int32)))]))
    refine own_retI X0 hx hlk hret (hb hby dd_method_2_12) (by decide) (by decide) ?_
    show Q_own_cpos Z x h0 n0 (some (.int (x &&& (2147483647 : Int32)))) T0.heap _
    rw [e0]
    exact ⟨(by simp [own_pos, hc6_1]), N0, rfl⟩
theorem own_pn4 : plainFor (⟨"com/example/outfall/outfall/rules/PumpingSchedule$Range", "<init>", "(II)V"⟩ : MethodName) = true := plainFor_of_name (by first | (simp [plainName, overriddenIn]; done) | decide +kernel)
theorem dd_prog_38m1_0 : decode prog_38_method_1_code 0 = .ok (.aload_n 0, 1) := by decide +kernel
theorem dd_prog_38m1_1 : decode prog_38_method_1_code 1 = .ok (.invokespecial 1, 3) := by decide +kernel
theorem own_pd0 : parseMethodDescriptor "()V" = some ⟨[], none⟩ := by decide +kernel
theorem dd_prog_38m1_4 : decode prog_38_method_1_code 4 = .ok (.iload_n 1, 1) := by decide +kernel
theorem dd_prog_38m1_5 : decode prog_38_method_1_code 5 = .ok (.iconst 1, 1) := by decide +kernel
theorem dd_prog_38m1_6 : decode prog_38_method_1_code 6 = .ok (.if_icmp .lt 8, 3) := by decide +kernel
theorem dd_prog_38m1_9 : decode prog_38_method_1_code 9 = .ok (.iload_n 2, 1) := by decide +kernel
theorem dd_prog_38m1_10 : decode prog_38_method_1_code 10 = .ok (.iload_n 1, 1) := by decide +kernel
theorem dd_prog_38m1_11 : decode prog_38_method_1_code 11 = .ok (.if_icmp .ge 18, 3) := by decide +kernel
theorem dd_prog_38m1_29 : decode prog_38_method_1_code 29 = .ok (.aload_n 0, 1) := by decide +kernel
theorem dd_prog_38m1_30 : decode prog_38_method_1_code 30 = .ok (.iload_n 1, 1) := by decide +kernel
theorem dd_prog_38m1_31 : decode prog_38_method_1_code 31 = .ok (.putfield 16, 3) := by decide +kernel
theorem dd_prog_38m1_34 : decode prog_38_method_1_code 34 = .ok (.aload_n 0, 1) := by decide +kernel
theorem dd_prog_38m1_35 : decode prog_38_method_1_code 35 = .ok (.iload_n 2, 1) := by decide +kernel
theorem dd_prog_38m1_36 : decode prog_38_method_1_code 36 = .ok (.putfield 22, 3) := by decide +kernel
theorem dd_prog_38m1_39 : decode prog_38_method_1_code 39 = .ok (.return_, 1) := by decide +kernel
theorem ef_own_ini (m : MethodId) (z0 : Addr) (z1 : Int32) (z2 : Int32) : entryFrame m #[(.ref z0), (.int z1), (.int z2)] 3 = mkF m 0 #[.val (.ref z0), .val (.int z1), .val (.int z2)] [] := by first | (simp [entryFrame, mkF, argsToLocals, Value.category]; done) | rfl
def Q_own_ini (Z : State) (a : Addr) (lo : Int32) (hi : Int32) (h0 : Heap) (n0 : Nat) (zv : Option Value) (zh : Heap) (zL : List Loc) : Prop := zv = none ∧ Fr n0 zL ∧ Keep h0 zh [a] ∧ Fld Z zh a "com/example/outfall/outfall/rules/PumpingSchedule$Range" "least" "I" (.int lo) ∧ Fld Z zh a "com/example/outfall/outfall/rules/PumpingSchedule$Range" "most" "I" (.int hi)
set_option maxRecDepth 65536 in
set_option maxHeartbeats 40000000 in
theorem own_ini (l : Launch) (Z : State) (a0 : Array Value) (hw : ∀ d ∈ tables_1, d.before a0 Z = true) (ws : List Jvm.Cond) (a : Addr) (lo : Int32) (hi : Int32) (h0 : Heap) (n0 : Nat) (Z0 : n0 ≤ h0.size) (p0_ : Exa Z h0 a "com/example/outfall/outfall/rules/PumpingSchedule$Range") (p1_ : Fld Z h0 a "com/example/outfall/outfall/rules/PumpingSchedule$Range" "least" "I" (.int (0 : Int32))) (p2_ : Fld Z h0 a "com/example/outfall/outfall/rules/PumpingSchedule$Range" "most" "I" (.int (0 : Int32))) (p3_ : n0 ≤ a) (p4_ : ¬ (lo < (1 : Int32))) (p5_ : ¬ (hi < lo)) :
    MetFree l (⟨"com/example/outfall/outfall/rules/PumpingSchedule$Range", "<init>", "(II)V"⟩ : MethodName) (head1 (Jvm.Cond.code (⟨"com/example/outfall/outfall/rules/PumpingSchedule$Range", "<init>", "(II)V"⟩ : MethodName) prog_38_method_1_code 3 none :: ws) ({ frames := 2, cells := 0, slots := 0, locals := 24 } : Room)) (fun za zU => za = #[(.ref a), (.int lo), (.int hi)] ∧ Z.Warmed39 zU.vm ∧ zU.heap = h0) (fun _ _ _ _ _ => True) (fun _ zU zo zU' => ∃ zv zL, zo = .returned zv ∧ Q_own_ini Z a lo hi h0 n0 zv zU'.heap zL ∧ FrameEnd zU zo zU' zL ({ frames := 2, cells := 0, slots := 0, locals := 24 } : Room).cells ({ frames := 2, cells := 0, slots := 0, locals := 24 } : Room).slots) := by
  refine own_met (y := (⟨"com/example/outfall/outfall/rules/PumpingSchedule$Range", "<init>", "(II)V"⟩ : MethodName)) own_pn4 ?_
  intro p e s m below meth c T0 hx hby hml hown hnm hret hlk hZ e0 X0
  have N0 := Fr.nil n0
  refine own_st (fun zt zk => castTop (ef_own_ini m a lo hi) zk) ?_
  show own_G p e below s _ _ _ (T0.setTop (mkF m 0 #[.val (.ref a), .val (.int lo), .val (.int hi)] []))
  refine own_st (fun zt zk => XS.aloadN X0.here hx rfl (hb hby dd_prog_38m1_0) rfl rfl zk) ?_
  show own_G p e below s _ _ _ (T0.setTop (mkF m 1 #[.val (.ref a), .val (.int lo), .val (.int hi)] [(.ref a)]))
  obtain ⟨_, T1, L1, X1, hQ1, st1⟩ := own_callI X0 hx hZ (y := (⟨"java/lang/Record", "<init>", "()V"⟩ : MethodName)) (a := a) (argsL := []) (rest := []) 0 rfl hown (hw _ (List.mem_of_getElem? (i := 18) rfl)) (hw _ (List.mem_of_getElem? (i := 19) rfl)) (hw _ (List.mem_of_getElem? (i := 21) rfl)) (hw _ (List.mem_of_getElem? (i := 22) rfl)) (by decide) (own_rec l Z a0 hw [] a h0 n0 Z0 ) (by decide) (by decide) e0 (g := (mkF m 1 #[.val (.ref a), .val (.int lo), .val (.int hi)] [(.ref a)])) rfl (by rw [hml]; rfl) own_pd0 rfl rfl (by show 2 * 0 + _ ≤ _; exact Nat.le_of_eq rfl) (hb hby dd_prog_38m1_1) (by decide) (by decide)
  obtain ⟨rfl, N1q, e1⟩ := hQ1
  have N1 := Fr.app N0 N1q
  refine own_st st1 ?_
  show own_G p e below s _ _ _ (T1.setTop (mkF m 4 #[.val (.ref a), .val (.int lo), .val (.int hi)] []))
  refine own_st (fun zt zk => XS.iloadN X1.here hx rfl (hb hby dd_prog_38m1_4) rfl zk) ?_
  show own_G p e below s _ _ _ (T1.setTop (mkF m 5 #[.val (.ref a), .val (.int lo), .val (.int hi)] [(.int lo)]))
  refine own_st (fun zt zk => XS.iconst X1.here hx rfl (hb hby dd_prog_38m1_5) zk) ?_
  show own_G p e below s _ _ _ (T1.setTop (mkF m 6 #[.val (.ref a), .val (.int lo), .val (.int hi)] [(.int (1 : Int32)), (.int lo)]))
  refine own_st (fun zt zk => XS.icmpNo X1.here hx rfl (hb hby dd_prog_38m1_6) rfl (flt p4_).1 zk) ?_
  show own_G p e below s _ _ _ (T1.setTop (mkF m 9 #[.val (.ref a), .val (.int lo), .val (.int hi)] []))
  refine own_st (fun zt zk => XS.iloadN X1.here hx rfl (hb hby dd_prog_38m1_9) rfl zk) ?_
  show own_G p e below s _ _ _ (T1.setTop (mkF m 10 #[.val (.ref a), .val (.int lo), .val (.int hi)] [(.int hi)]))
  refine own_st (fun zt zk => XS.iloadN X1.here hx rfl (hb hby dd_prog_38m1_10) rfl zk) ?_
  show own_G p e below s _ _ _ (T1.setTop (mkF m 11 #[.val (.ref a), .val (.int lo), .val (.int hi)] [(.int lo), (.int hi)]))
  refine own_st (fun zt zk => XS.icmpYes X1.here hx rfl (pc0 := 11) (pc' := 29) rfl (hb hby dd_prog_38m1_11) rfl (flt p5_).2.1 (by decide) (by decide) zk) ?_
  show own_G p e below s _ _ _ (T1.setTop (mkF m 29 #[.val (.ref a), .val (.int lo), .val (.int hi)] []))
  refine own_st (fun zt zk => XS.aloadN X1.here hx rfl (hb hby dd_prog_38m1_29) rfl rfl zk) ?_
  show own_G p e below s _ _ _ (T1.setTop (mkF m 30 #[.val (.ref a), .val (.int lo), .val (.int hi)] [(.ref a)]))
  refine own_st (fun zt zk => XS.iloadN X1.here hx rfl (hb hby dd_prog_38m1_30) rfl zk) ?_
  show own_G p e below s _ _ _ (T1.setTop (mkF m 31 #[.val (.ref a), .val (.int lo), .val (.int hi)] [(.int lo), (.ref a)]))
  obtain ⟨T2, h2, X2, e2, W2, st2⟩ := putF X1 hx hZ hown (host := "") (Or.inl (hw _ (List.mem_of_getElem? (i := 26) rfl))) Via.refl e1 p1_ p0_ (Or.inr ⟨(hw _ (List.mem_of_getElem? (i := 27) rfl)), rfl, hnm⟩) (hw _ (List.mem_of_getElem? (i := 13) rfl)) (ty := .int) (by decide) rfl rfl (g := (mkF m 31 #[.val (.ref a), .val (.int lo), .val (.int hi)] [(.int lo), (.ref a)])) rfl rfl (hb hby dd_prog_38m1_31)
  refine own_st st2 ?_
  have N2 := Fr.snoc X2 N1 p3_
  show own_G p e below s _ _ _ (T2.setTop (mkF m 34 #[.val (.ref a), .val (.int lo), .val (.int hi)] []))
  refine own_st (fun zt zk => XS.aloadN X2.here hx rfl (hb hby dd_prog_38m1_34) rfl rfl zk) ?_
  show own_G p e below s _ _ _ (T2.setTop (mkF m 35 #[.val (.ref a), .val (.int lo), .val (.int hi)] [(.ref a)]))
  refine own_st (fun zt zk => XS.iloadN X2.here hx rfl (hb hby dd_prog_38m1_35) rfl zk) ?_
  show own_G p e below s _ _ _ (T2.setTop (mkF m 36 #[.val (.ref a), .val (.int lo), .val (.int hi)] [(.int hi), (.ref a)]))
  have F3 : Fld Z h2 a "com/example/outfall/outfall/rules/PumpingSchedule$Range" "most" "I" (.int (0 : Int32)) := (Fld.other W2 p2_ (Or.inr (slot_ne (Or.inr (hw _ (List.mem_of_getElem? (i := 29) rfl))) (Or.inr (hw _ (List.mem_of_getElem? (i := 27) rfl))) (by decide) (t := .int) (t' := .int) (by decide) (by decide))))
  have E4 : Exa Z h2 a "com/example/outfall/outfall/rules/PumpingSchedule$Range" := (p0_.wr W2)
  obtain ⟨T5, h5, X5, e5, W5, st5⟩ := putF X2 hx hZ hown (host := "") (Or.inl (hw _ (List.mem_of_getElem? (i := 28) rfl))) Via.refl e2 F3 E4 (Or.inr ⟨(hw _ (List.mem_of_getElem? (i := 29) rfl)), rfl, hnm⟩) (hw _ (List.mem_of_getElem? (i := 13) rfl)) (ty := .int) (by decide) rfl rfl (g := (mkF m 36 #[.val (.ref a), .val (.int lo), .val (.int hi)] [(.int hi), (.ref a)])) rfl rfl (hb hby dd_prog_38m1_36)
  refine own_st st5 ?_
  have N5 := Fr.snoc X5 N2 p3_
  show own_G p e below s _ _ _ (T5.setTop (mkF m 39 #[.val (.ref a), .val (.int lo), .val (.int hi)] []))
  have F6 : Fld Z h5 a "com/example/outfall/outfall/rules/PumpingSchedule$Range" "least" "I" (.int lo) := (Fld.other W5 (Fld.same W2 p1_) (Or.inr (slot_ne (Or.inr (hw _ (List.mem_of_getElem? (i := 27) rfl))) (Or.inr (hw _ (List.mem_of_getElem? (i := 29) rfl))) (by decide) (t := .int) (t' := .int) (by decide) (by decide))))
  have F7 : Fld Z h5 a "com/example/outfall/outfall/rules/PumpingSchedule$Range" "most" "I" (.int hi) := (Fld.same W5 F3)
  refine own_retV X5 hx hlk hret (hb hby dd_prog_38m1_39) (by decide) (by decide) ?_
  show Q_own_ini Z a lo hi h0 n0 none T5.heap _
  rw [e5]
  exact ⟨rfl, N5, (((Keep.refl _ _).wr W2 (Or.inl (List.mem_of_getElem? (i := 0) rfl))).wr W5 (Or.inl (List.mem_of_getElem? (i := 0) rfl))), F6, F7⟩
theorem own_pn5 : plainFor (⟨"com/example/outfall/outfall/rules/PumpingSchedule$Range", "overlaps", "(Lcom/example/outfall/outfall/rules/PumpingSchedule$Range;)Z"⟩ : MethodName) = true := plainFor_of_name (by first | (simp [plainName, overriddenIn]; done) | decide +kernel)
theorem dd_prog_38m3_0 : decode prog_38_method_3_code 0 = .ok (.aload_n 0, 1) := by decide +kernel
theorem dd_prog_38m3_1 : decode prog_38_method_3_code 1 = .ok (.getfield 16, 3) := by decide +kernel
theorem dd_prog_38m3_4 : decode prog_38_method_3_code 4 = .ok (.aload_n 1, 1) := by decide +kernel
theorem dd_prog_38m3_5 : decode prog_38_method_3_code 5 = .ok (.getfield 22, 3) := by decide +kernel
theorem dd_prog_38m3_8 : decode prog_38_method_3_code 8 = .ok (.if_icmp .gt 18, 3) := by decide +kernel
theorem dd_prog_38m3_26 : decode prog_38_method_3_code 26 = .ok (.iconst 0, 1) := by decide +kernel
theorem dd_prog_38m3_27 : decode prog_38_method_3_code 27 = .ok (.ireturn, 1) := by decide +kernel
theorem dd_prog_38m3_11 : decode prog_38_method_3_code 11 = .ok (.aload_n 1, 1) := by decide +kernel
theorem dd_prog_38m3_12 : decode prog_38_method_3_code 12 = .ok (.getfield 16, 3) := by decide +kernel
theorem dd_prog_38m3_15 : decode prog_38_method_3_code 15 = .ok (.aload_n 0, 1) := by decide +kernel
theorem dd_prog_38m3_16 : decode prog_38_method_3_code 16 = .ok (.getfield 22, 3) := by decide +kernel
theorem dd_prog_38m3_19 : decode prog_38_method_3_code 19 = .ok (.if_icmp .gt 7, 3) := by decide +kernel
theorem dd_prog_38m3_22 : decode prog_38_method_3_code 22 = .ok (.iconst 1, 1) := by decide +kernel
theorem dd_prog_38m3_23 : decode prog_38_method_3_code 23 = .ok (.goto 4, 3) := by decide +kernel
theorem ef_own_covl (m : MethodId) (z0 : Addr) (z1 : Addr) : entryFrame m #[(.ref z0), (.ref z1)] 2 = mkF m 0 #[.val (.ref z0), .val (.ref z1)] [] := by first | (simp [entryFrame, mkF, argsToLocals, Value.category]; done) | rfl
def Q_own_covl (Z : State) (a : Addr) (b : Addr) (l1 : Int32) (m1 : Int32) (l2 : Int32) (m2 : Int32) (h0 : Heap) (n0 : Nat) (zv : Option Value) (zh : Heap) (zL : List Loc) : Prop := zv = some (.int (own_b (¬ (m2 < l1) ∧ ¬ (m1 < l2)))) ∧ Fr n0 zL ∧ zh = h0
set_option maxRecDepth 65536 in
set_option maxHeartbeats 40000000 in
theorem own_covl (l : Launch) (Z : State) (a0 : Array Value) (hw : ∀ d ∈ tables_1, d.before a0 Z = true) (ws : List Jvm.Cond) (a : Addr) (b : Addr) (l1 : Int32) (m1 : Int32) (l2 : Int32) (m2 : Int32) (h0 : Heap) (n0 : Nat) (Z0 : n0 ≤ h0.size) (p0_ : Fld Z h0 a "com/example/outfall/outfall/rules/PumpingSchedule$Range" "least" "I" (.int l1)) (p1_ : Fld Z h0 a "com/example/outfall/outfall/rules/PumpingSchedule$Range" "most" "I" (.int m1)) (p2_ : Fld Z h0 b "com/example/outfall/outfall/rules/PumpingSchedule$Range" "least" "I" (.int l2)) (p3_ : Fld Z h0 b "com/example/outfall/outfall/rules/PumpingSchedule$Range" "most" "I" (.int m2)) :
    MetFree l (⟨"com/example/outfall/outfall/rules/PumpingSchedule$Range", "overlaps", "(Lcom/example/outfall/outfall/rules/PumpingSchedule$Range;)Z"⟩ : MethodName) (head1 (Jvm.Cond.code (⟨"com/example/outfall/outfall/rules/PumpingSchedule$Range", "overlaps", "(Lcom/example/outfall/outfall/rules/PumpingSchedule$Range;)Z"⟩ : MethodName) prog_38_method_3_code 2 (some .boolean) :: ws) ({ frames := 0, cells := 0, slots := 0, locals := 0 } : Room)) (fun za zU => za = #[(.ref a), (.ref b)] ∧ Z.Warmed39 zU.vm ∧ zU.heap = h0) (fun _ _ _ _ _ => True) (fun _ zU zo zU' => ∃ zv zL, zo = .returned zv ∧ Q_own_covl Z a b l1 m1 l2 m2 h0 n0 zv zU'.heap zL ∧ FrameEnd zU zo zU' zL ({ frames := 0, cells := 0, slots := 0, locals := 0 } : Room).cells ({ frames := 0, cells := 0, slots := 0, locals := 0 } : Room).slots) := by
  refine own_met (y := (⟨"com/example/outfall/outfall/rules/PumpingSchedule$Range", "overlaps", "(Lcom/example/outfall/outfall/rules/PumpingSchedule$Range;)Z"⟩ : MethodName)) own_pn5 ?_
  intro p e s m below meth c T0 hx hby hml hown hnm hret hlk hZ e0 X0
  have N0 := Fr.nil n0
  refine own_st (fun zt zk => castTop (ef_own_covl m a b) zk) ?_
  show own_G p e below s _ _ _ (T0.setTop (mkF m 0 #[.val (.ref a), .val (.ref b)] []))
  refine own_st (fun zt zk => XS.aloadN X0.here hx rfl (hb hby dd_prog_38m3_0) rfl rfl zk) ?_
  show own_G p e below s _ _ _ (T0.setTop (mkF m 1 #[.val (.ref a), .val (.ref b)] [(.ref a)]))
  obtain ⟨T1, X1, e1, st1⟩ := getF X0 hx hZ hown (host := "") (Or.inl (hw _ (List.mem_of_getElem? (i := 26) rfl))) Via.refl e0 p0_ (g := (mkF m 1 #[.val (.ref a), .val (.ref b)] [(.ref a)])) rfl rfl (hb hby dd_prog_38m3_1)
  refine own_st st1 ?_
  show own_G p e below s _ _ _ (T1.setTop (mkF m 4 #[.val (.ref a), .val (.ref b)] [(.int l1)]))
  refine own_st (fun zt zk => XS.aloadN X1.here hx rfl (hb hby dd_prog_38m3_4) rfl rfl zk) ?_
  show own_G p e below s _ _ _ (T1.setTop (mkF m 5 #[.val (.ref a), .val (.ref b)] [(.ref b), (.int l1)]))
  obtain ⟨T2, X2, e2, st2⟩ := getF X1 hx hZ hown (host := "") (Or.inl (hw _ (List.mem_of_getElem? (i := 28) rfl))) Via.refl e1 p3_ (g := (mkF m 5 #[.val (.ref a), .val (.ref b)] [(.ref b), (.int l1)])) rfl rfl (hb hby dd_prog_38m3_5)
  refine own_st st2 ?_
  show own_G p e below s _ _ _ (T2.setTop (mkF m 8 #[.val (.ref a), .val (.ref b)] [(.int m2), (.int l1)]))
  by_cases hc8_3 : m2 < l1
  · refine own_st (fun zt zk => XS.icmpYes X2.here hx rfl (pc0 := 8) (pc' := 26) rfl (hb hby dd_prog_38m3_8) rfl (tlt hc8_3).2.2.1 (by decide) (by decide) zk) ?_
    show own_G p e below s _ _ _ (T2.setTop (mkF m 26 #[.val (.ref a), .val (.ref b)] []))
    refine own_st (fun zt zk => XS.iconst X2.here hx rfl (hb hby dd_prog_38m3_26) zk) ?_
    show own_G p e below s _ _ _ (T2.setTop (mkF m 27 #[.val (.ref a), .val (.ref b)] [(.int (0 : Int32))]))
    refine own_retZ X2 hx hlk hret (by decide) (hb hby dd_prog_38m3_27) (by decide) (by decide) ?_
    show Q_own_covl Z a b l1 m1 l2 m2 h0 n0 (some (.int (0 : Int32))) T2.heap _
    rw [e2]
    exact ⟨(by simp [own_b, hc8_3]), N0, rfl⟩
  · refine own_st (fun zt zk => XS.icmpNo X2.here hx rfl (hb hby dd_prog_38m3_8) rfl (flt hc8_3).2.2.1 zk) ?_
    show own_G p e below s _ _ _ (T2.setTop (mkF m 11 #[.val (.ref a), .val (.ref b)] []))
    refine own_st (fun zt zk => XS.aloadN X2.here hx rfl (hb hby dd_prog_38m3_11) rfl rfl zk) ?_
    show own_G p e below s _ _ _ (T2.setTop (mkF m 12 #[.val (.ref a), .val (.ref b)] [(.ref b)]))
    obtain ⟨T4, X4, e4, st4⟩ := getF X2 hx hZ hown (host := "") (Or.inl (hw _ (List.mem_of_getElem? (i := 26) rfl))) Via.refl e2 p2_ (g := (mkF m 12 #[.val (.ref a), .val (.ref b)] [(.ref b)])) rfl rfl (hb hby dd_prog_38m3_12)
    refine own_st st4 ?_
    show own_G p e below s _ _ _ (T4.setTop (mkF m 15 #[.val (.ref a), .val (.ref b)] [(.int l2)]))
    refine own_st (fun zt zk => XS.aloadN X4.here hx rfl (hb hby dd_prog_38m3_15) rfl rfl zk) ?_
    show own_G p e below s _ _ _ (T4.setTop (mkF m 16 #[.val (.ref a), .val (.ref b)] [(.ref a), (.int l2)]))
    obtain ⟨T5, X5, e5, st5⟩ := getF X4 hx hZ hown (host := "") (Or.inl (hw _ (List.mem_of_getElem? (i := 28) rfl))) Via.refl e4 p1_ (g := (mkF m 16 #[.val (.ref a), .val (.ref b)] [(.ref a), (.int l2)])) rfl rfl (hb hby dd_prog_38m3_16)
    refine own_st st5 ?_
    show own_G p e below s _ _ _ (T5.setTop (mkF m 19 #[.val (.ref a), .val (.ref b)] [(.int m1), (.int l2)]))
    by_cases hc19_6 : m1 < l2
    · refine own_st (fun zt zk => XS.icmpYes X5.here hx rfl (pc0 := 19) (pc' := 26) rfl (hb hby dd_prog_38m3_19) rfl (tlt hc19_6).2.2.1 (by decide) (by decide) zk) ?_
      show own_G p e below s _ _ _ (T5.setTop (mkF m 26 #[.val (.ref a), .val (.ref b)] []))
      refine own_st (fun zt zk => XS.iconst X5.here hx rfl (hb hby dd_prog_38m3_26) zk) ?_
      show own_G p e below s _ _ _ (T5.setTop (mkF m 27 #[.val (.ref a), .val (.ref b)] [(.int (0 : Int32))]))
      refine own_retZ X5 hx hlk hret (by decide) (hb hby dd_prog_38m3_27) (by decide) (by decide) ?_
      show Q_own_covl Z a b l1 m1 l2 m2 h0 n0 (some (.int (0 : Int32))) T5.heap _
      rw [e5]
      exact ⟨(by simp [own_b, hc8_3, hc19_6]), N0, rfl⟩
    · refine own_st (fun zt zk => XS.icmpNo X5.here hx rfl (hb hby dd_prog_38m3_19) rfl (flt hc19_6).2.2.1 zk) ?_
      show own_G p e below s _ _ _ (T5.setTop (mkF m 22 #[.val (.ref a), .val (.ref b)] []))
      refine own_st (fun zt zk => XS.iconst X5.here hx rfl (hb hby dd_prog_38m3_22) zk) ?_
      show own_G p e below s _ _ _ (T5.setTop (mkF m 23 #[.val (.ref a), .val (.ref b)] [(.int (1 : Int32))]))
      refine own_st (fun zt zk => XS.goto X5.here hx rfl (pc0 := 23) (pc' := 27) rfl (hb hby dd_prog_38m3_23) (by decide) (by decide) zk) ?_
      show own_G p e below s _ _ _ (T5.setTop (mkF m 27 #[.val (.ref a), .val (.ref b)] [(.int (1 : Int32))]))
      refine own_retZ X5 hx hlk hret (by decide) (hb hby dd_prog_38m3_27) (by decide) (by decide) ?_
      show Q_own_covl Z a b l1 m1 l2 m2 h0 n0 (some (.int (1 : Int32))) T5.heap _
      rw [e5]
      exact ⟨(by simp [own_b, hc8_3, hc19_6]), N0, rfl⟩
theorem own_pn6 : plainFor (⟨"com/example/outfall/outfall/rules/RangeOverlapsPinLaw", "law", "(IIII)Z"⟩ : MethodName) = true := plainFor_of_name (by first | (simp [plainName, overriddenIn]; done) | decide +kernel)
theorem own_pd1 : parseMethodDescriptor "(I)I" = some ⟨[.int], some .int⟩ := by decide +kernel
theorem own_pd2 : parseMethodDescriptor "(II)I" = some ⟨[.int, .int], some .int⟩ := by decide +kernel
theorem own_pd3 : parseMethodDescriptor "(II)V" = some ⟨[.int, .int], none⟩ := by decide +kernel
theorem own_pd4 : parseMethodDescriptor "(Lcom/example/outfall/outfall/rules/PumpingSchedule$Range;)Z" = some ⟨[(.object "com/example/outfall/outfall/rules/PumpingSchedule$Range")], some .boolean⟩ := by decide +kernel
theorem ef_own_law (m : MethodId) (z0 : Int32) (z1 : Int32) (z2 : Int32) (z3 : Int32) : entryFrame m #[(.int z0), (.int z1), (.int z2), (.int z3)] maxLocals = mkF m 0 #[.val (.int z0), .val (.int z1), .val (.int z2), .val (.int z3), .unset, .unset, .unset, .unset, .unset, .unset, .unset, .unset, .unset, .unset, .unset] [] := by first | (simp [entryFrame, mkF, argsToLocals, Value.category, maxLocals]; done) | rfl
def Q_own_law (Z : State) (a : Int32) (b : Int32) (c1 : Int32) (d : Int32) (h0 : Heap) (n0 : Nat) (zv : Option Value) (zh : Heap) (zL : List Loc) : Prop := zv = some (.int (1 : Int32)) ∧ Fr n0 zL
set_option maxRecDepth 65536 in
set_option maxHeartbeats 40000000 in
theorem own_law (l : Launch) (Z : State) (a0 : Array Value) (hw : ∀ d ∈ tables_1, d.before a0 Z = true) (ws : List Jvm.Cond) (a : Int32) (b : Int32) (c1 : Int32) (d : Int32) (h0 : Heap) (n0 : Nat) (Z0 : n0 ≤ h0.size)  :
    MetFree l x (head1 (Jvm.Cond.code x code maxLocals ret :: ws) room_1) (fun za zU => za = #[(.int a), (.int b), (.int c1), (.int d)] ∧ Z.Warmed39 zU.vm ∧ zU.heap = h0) (fun _ _ _ _ _ => True) (fun _ zU zo zU' => ∃ zv zL, zo = .returned zv ∧ Q_own_law Z a b c1 d h0 n0 zv zU'.heap zL ∧ FrameEnd zU zo zU' zL 2 4) := by
  refine own_met (y := x) own_pn6 ?_
  intro p e s m below meth c T0 hx hby hml hown hnm hret hlk hZ e0 X0
  have N0 := Fr.nil n0
  refine own_st (fun zt zk => castTop (ef_own_law m a b c1 d) zk) ?_
  show own_G p e below s _ _ _ (T0.setTop (mkF m 0 #[.val (.int a), .val (.int b), .val (.int c1), .val (.int d), .unset, .unset, .unset, .unset, .unset, .unset, .unset, .unset, .unset, .unset, .unset] []))
  refine own_st (fun zt zk => XS.iloadN X0.here hx rfl (hb hby at_0) rfl zk) ?_
  show own_G p e below s _ _ _ (T0.setTop (mkF m 1 #[.val (.int a), .val (.int b), .val (.int c1), .val (.int d), .unset, .unset, .unset, .unset, .unset, .unset, .unset, .unset, .unset, .unset, .unset] [(.int a)]))
  obtain ⟨_, T1, L1, X1, hQ1, st1⟩ := own_callS X0 hx hZ (y := (⟨"com/example/outfall/outfall/rules/RangeOverlapsPinLaw", "pos", "(I)I"⟩ : MethodName)) (argsL := [(.int a)]) (rest := []) 0 hown (hw _ (List.mem_of_getElem? (i := 0) rfl)) (hw _ (List.mem_of_getElem? (i := 1) rfl)) (hw _ (List.mem_of_getElem? (i := 2) rfl)) (hw _ (List.mem_of_getElem? (i := 3) rfl)) (by decide) (own_cpos l Z a0 hw [] a h0 n0 Z0 ) (by decide) (by decide) e0 (g := (mkF m 1 #[.val (.int a), .val (.int b), .val (.int c1), .val (.int d), .unset, .unset, .unset, .unset, .unset, .unset, .unset, .unset, .unset, .unset, .unset] [(.int a)])) rfl (by rw [hml]; rfl) own_pd1 rfl rfl (by show 2 * 0 + _ ≤ _; exact Nat.le_of_eq rfl) (hb hby at_1) (by decide) (by decide)
  obtain ⟨rfl, N1q, e1⟩ := hQ1
  have N1 := Fr.app N0 N1q
  refine own_st st1 ?_
  show own_G p e below s _ _ _ (T1.setTop (mkF m 4 #[.val (.int a), .val (.int b), .val (.int c1), .val (.int d), .unset, .unset, .unset, .unset, .unset, .unset, .unset, .unset, .unset, .unset, .unset] [(.int (own_pos a))]))
  refine own_st (fun zt zk => XS.istore X1.here hx rfl (hb hby at_4) rfl (l' := #[.val (.int a), .val (.int b), .val (.int c1), .val (.int d), .val (.int (own_pos a)), .unset, .unset, .unset, .unset, .unset, .unset, .unset, .unset, .unset, .unset]) rfl zk) ?_
  show own_G p e below s _ _ _ (T1.setTop (mkF m 6 #[.val (.int a), .val (.int b), .val (.int c1), .val (.int d), .val (.int (own_pos a)), .unset, .unset, .unset, .unset, .unset, .unset, .unset, .unset, .unset, .unset] []))
  refine own_st (fun zt zk => XS.iloadN X1.here hx rfl (hb hby at_6) rfl zk) ?_
  show own_G p e below s _ _ _ (T1.setTop (mkF m 7 #[.val (.int a), .val (.int b), .val (.int c1), .val (.int d), .val (.int (own_pos a)), .unset, .unset, .unset, .unset, .unset, .unset, .unset, .unset, .unset, .unset] [(.int b)]))
  obtain ⟨_, T2, L2, X2, hQ2, st2⟩ := own_callS X1 hx hZ (y := (⟨"com/example/outfall/outfall/rules/RangeOverlapsPinLaw", "pos", "(I)I"⟩ : MethodName)) (argsL := [(.int b)]) (rest := []) 0 hown (hw _ (List.mem_of_getElem? (i := 0) rfl)) (hw _ (List.mem_of_getElem? (i := 1) rfl)) (hw _ (List.mem_of_getElem? (i := 2) rfl)) (hw _ (List.mem_of_getElem? (i := 3) rfl)) (by decide) (own_cpos l Z a0 hw [] b h0 n0 Z0 ) (by decide) (by decide) e1 (g := (mkF m 7 #[.val (.int a), .val (.int b), .val (.int c1), .val (.int d), .val (.int (own_pos a)), .unset, .unset, .unset, .unset, .unset, .unset, .unset, .unset, .unset, .unset] [(.int b)])) rfl (by rw [hml]; rfl) own_pd1 rfl rfl (by show 2 * 0 + _ ≤ _; exact Nat.le_of_eq rfl) (hb hby at_7) (by decide) (by decide)
  obtain ⟨rfl, N2q, e2⟩ := hQ2
  have N2 := Fr.app N1 N2q
  refine own_st st2 ?_
  show own_G p e below s _ _ _ (T2.setTop (mkF m 10 #[.val (.int a), .val (.int b), .val (.int c1), .val (.int d), .val (.int (own_pos a)), .unset, .unset, .unset, .unset, .unset, .unset, .unset, .unset, .unset, .unset] [(.int (own_pos b))]))
  refine own_st (fun zt zk => XS.istore X2.here hx rfl (hb hby at_10) rfl (l' := #[.val (.int a), .val (.int b), .val (.int c1), .val (.int d), .val (.int (own_pos a)), .val (.int (own_pos b)), .unset, .unset, .unset, .unset, .unset, .unset, .unset, .unset, .unset]) rfl zk) ?_
  show own_G p e below s _ _ _ (T2.setTop (mkF m 12 #[.val (.int a), .val (.int b), .val (.int c1), .val (.int d), .val (.int (own_pos a)), .val (.int (own_pos b)), .unset, .unset, .unset, .unset, .unset, .unset, .unset, .unset, .unset] []))
  refine own_st (fun zt zk => XS.iloadN X2.here hx rfl (hb hby at_12) rfl zk) ?_
  show own_G p e below s _ _ _ (T2.setTop (mkF m 13 #[.val (.int a), .val (.int b), .val (.int c1), .val (.int d), .val (.int (own_pos a)), .val (.int (own_pos b)), .unset, .unset, .unset, .unset, .unset, .unset, .unset, .unset, .unset] [(.int c1)]))
  obtain ⟨_, T3, L3, X3, hQ3, st3⟩ := own_callS X2 hx hZ (y := (⟨"com/example/outfall/outfall/rules/RangeOverlapsPinLaw", "pos", "(I)I"⟩ : MethodName)) (argsL := [(.int c1)]) (rest := []) 0 hown (hw _ (List.mem_of_getElem? (i := 0) rfl)) (hw _ (List.mem_of_getElem? (i := 1) rfl)) (hw _ (List.mem_of_getElem? (i := 2) rfl)) (hw _ (List.mem_of_getElem? (i := 3) rfl)) (by decide) (own_cpos l Z a0 hw [] c1 h0 n0 Z0 ) (by decide) (by decide) e2 (g := (mkF m 13 #[.val (.int a), .val (.int b), .val (.int c1), .val (.int d), .val (.int (own_pos a)), .val (.int (own_pos b)), .unset, .unset, .unset, .unset, .unset, .unset, .unset, .unset, .unset] [(.int c1)])) rfl (by rw [hml]; rfl) own_pd1 rfl rfl (by show 2 * 0 + _ ≤ _; exact Nat.le_of_eq rfl) (hb hby at_13) (by decide) (by decide)
  obtain ⟨rfl, N3q, e3⟩ := hQ3
  have N3 := Fr.app N2 N3q
  refine own_st st3 ?_
  show own_G p e below s _ _ _ (T3.setTop (mkF m 16 #[.val (.int a), .val (.int b), .val (.int c1), .val (.int d), .val (.int (own_pos a)), .val (.int (own_pos b)), .unset, .unset, .unset, .unset, .unset, .unset, .unset, .unset, .unset] [(.int (own_pos c1))]))
  refine own_st (fun zt zk => XS.istore X3.here hx rfl (hb hby at_16) rfl (l' := #[.val (.int a), .val (.int b), .val (.int c1), .val (.int d), .val (.int (own_pos a)), .val (.int (own_pos b)), .val (.int (own_pos c1)), .unset, .unset, .unset, .unset, .unset, .unset, .unset, .unset]) rfl zk) ?_
  show own_G p e below s _ _ _ (T3.setTop (mkF m 18 #[.val (.int a), .val (.int b), .val (.int c1), .val (.int d), .val (.int (own_pos a)), .val (.int (own_pos b)), .val (.int (own_pos c1)), .unset, .unset, .unset, .unset, .unset, .unset, .unset, .unset] []))
  refine own_st (fun zt zk => XS.iloadN X3.here hx rfl (hb hby at_18) rfl zk) ?_
  show own_G p e below s _ _ _ (T3.setTop (mkF m 19 #[.val (.int a), .val (.int b), .val (.int c1), .val (.int d), .val (.int (own_pos a)), .val (.int (own_pos b)), .val (.int (own_pos c1)), .unset, .unset, .unset, .unset, .unset, .unset, .unset, .unset] [(.int d)]))
  obtain ⟨_, T4, L4, X4, hQ4, st4⟩ := own_callS X3 hx hZ (y := (⟨"com/example/outfall/outfall/rules/RangeOverlapsPinLaw", "pos", "(I)I"⟩ : MethodName)) (argsL := [(.int d)]) (rest := []) 0 hown (hw _ (List.mem_of_getElem? (i := 0) rfl)) (hw _ (List.mem_of_getElem? (i := 1) rfl)) (hw _ (List.mem_of_getElem? (i := 2) rfl)) (hw _ (List.mem_of_getElem? (i := 3) rfl)) (by decide) (own_cpos l Z a0 hw [] d h0 n0 Z0 ) (by decide) (by decide) e3 (g := (mkF m 19 #[.val (.int a), .val (.int b), .val (.int c1), .val (.int d), .val (.int (own_pos a)), .val (.int (own_pos b)), .val (.int (own_pos c1)), .unset, .unset, .unset, .unset, .unset, .unset, .unset, .unset] [(.int d)])) rfl (by rw [hml]; rfl) own_pd1 rfl rfl (by show 2 * 0 + _ ≤ _; exact Nat.le_of_eq rfl) (hb hby at_19) (by decide) (by decide)
  obtain ⟨rfl, N4q, e4⟩ := hQ4
  have N4 := Fr.app N3 N4q
  refine own_st st4 ?_
  show own_G p e below s _ _ _ (T4.setTop (mkF m 22 #[.val (.int a), .val (.int b), .val (.int c1), .val (.int d), .val (.int (own_pos a)), .val (.int (own_pos b)), .val (.int (own_pos c1)), .unset, .unset, .unset, .unset, .unset, .unset, .unset, .unset] [(.int (own_pos d))]))
  refine own_st (fun zt zk => XS.istore X4.here hx rfl (hb hby at_22) rfl (l' := #[.val (.int a), .val (.int b), .val (.int c1), .val (.int d), .val (.int (own_pos a)), .val (.int (own_pos b)), .val (.int (own_pos c1)), .val (.int (own_pos d)), .unset, .unset, .unset, .unset, .unset, .unset, .unset]) rfl zk) ?_
  show own_G p e below s _ _ _ (T4.setTop (mkF m 24 #[.val (.int a), .val (.int b), .val (.int c1), .val (.int d), .val (.int (own_pos a)), .val (.int (own_pos b)), .val (.int (own_pos c1)), .val (.int (own_pos d)), .unset, .unset, .unset, .unset, .unset, .unset, .unset] []))
  refine own_st (fun zt zk => XS.iload X4.here hx rfl (hb hby at_24) rfl zk) ?_
  show own_G p e below s _ _ _ (T4.setTop (mkF m 26 #[.val (.int a), .val (.int b), .val (.int c1), .val (.int d), .val (.int (own_pos a)), .val (.int (own_pos b)), .val (.int (own_pos c1)), .val (.int (own_pos d)), .unset, .unset, .unset, .unset, .unset, .unset, .unset] [(.int (own_pos a))]))
  refine own_st (fun zt zk => XS.iload X4.here hx rfl (hb hby at_26) rfl zk) ?_
  show own_G p e below s _ _ _ (T4.setTop (mkF m 28 #[.val (.int a), .val (.int b), .val (.int c1), .val (.int d), .val (.int (own_pos a)), .val (.int (own_pos b)), .val (.int (own_pos c1)), .val (.int (own_pos d)), .unset, .unset, .unset, .unset, .unset, .unset, .unset] [(.int (own_pos b)), (.int (own_pos a))]))
  obtain ⟨_, T5, L5, X5, hQ5, st5⟩ := own_callS X4 hx hZ (y := (⟨"java/lang/Math", "min", "(II)I"⟩ : MethodName)) (argsL := [(.int (own_pos a)), (.int (own_pos b))]) (rest := []) 0 hown (hw _ (List.mem_of_getElem? (i := 5) rfl)) (hw _ (List.mem_of_getElem? (i := 6) rfl)) (hw _ (List.mem_of_getElem? (i := 7) rfl)) (hw _ (List.mem_of_getElem? (i := 8) rfl)) (by decide) (own_cmin l Z a0 hw [] (own_pos a) (own_pos b) h0 n0 Z0 ) (by decide) (by decide) e4 (g := (mkF m 28 #[.val (.int a), .val (.int b), .val (.int c1), .val (.int d), .val (.int (own_pos a)), .val (.int (own_pos b)), .val (.int (own_pos c1)), .val (.int (own_pos d)), .unset, .unset, .unset, .unset, .unset, .unset, .unset] [(.int (own_pos b)), (.int (own_pos a))])) rfl (by rw [hml]; rfl) own_pd2 rfl rfl (by show 2 * 0 + _ ≤ _; exact Nat.le_of_eq rfl) (hb hby at_28) (by decide) (by decide)
  obtain ⟨rfl, N5q, e5⟩ := hQ5
  have N5 := Fr.app N4 N5q
  refine own_st st5 ?_
  show own_G p e below s _ _ _ (T5.setTop (mkF m 31 #[.val (.int a), .val (.int b), .val (.int c1), .val (.int d), .val (.int (own_pos a)), .val (.int (own_pos b)), .val (.int (own_pos c1)), .val (.int (own_pos d)), .unset, .unset, .unset, .unset, .unset, .unset, .unset] [(.int (own_mini (own_pos a) (own_pos b)))]))
  refine own_st (fun zt zk => XS.istore X5.here hx rfl (hb hby at_31) rfl (l' := #[.val (.int a), .val (.int b), .val (.int c1), .val (.int d), .val (.int (own_pos a)), .val (.int (own_pos b)), .val (.int (own_pos c1)), .val (.int (own_pos d)), .val (.int (own_mini (own_pos a) (own_pos b))), .unset, .unset, .unset, .unset, .unset, .unset]) rfl zk) ?_
  show own_G p e below s _ _ _ (T5.setTop (mkF m 33 #[.val (.int a), .val (.int b), .val (.int c1), .val (.int d), .val (.int (own_pos a)), .val (.int (own_pos b)), .val (.int (own_pos c1)), .val (.int (own_pos d)), .val (.int (own_mini (own_pos a) (own_pos b))), .unset, .unset, .unset, .unset, .unset, .unset] []))
  refine own_st (fun zt zk => XS.iload X5.here hx rfl (hb hby at_33) rfl zk) ?_
  show own_G p e below s _ _ _ (T5.setTop (mkF m 35 #[.val (.int a), .val (.int b), .val (.int c1), .val (.int d), .val (.int (own_pos a)), .val (.int (own_pos b)), .val (.int (own_pos c1)), .val (.int (own_pos d)), .val (.int (own_mini (own_pos a) (own_pos b))), .unset, .unset, .unset, .unset, .unset, .unset] [(.int (own_pos a))]))
  refine own_st (fun zt zk => XS.iload X5.here hx rfl (hb hby at_35) rfl zk) ?_
  show own_G p e below s _ _ _ (T5.setTop (mkF m 37 #[.val (.int a), .val (.int b), .val (.int c1), .val (.int d), .val (.int (own_pos a)), .val (.int (own_pos b)), .val (.int (own_pos c1)), .val (.int (own_pos d)), .val (.int (own_mini (own_pos a) (own_pos b))), .unset, .unset, .unset, .unset, .unset, .unset] [(.int (own_pos b)), (.int (own_pos a))]))
  obtain ⟨_, T6, L6, X6, hQ6, st6⟩ := own_callS X5 hx hZ (y := (⟨"java/lang/Math", "max", "(II)I"⟩ : MethodName)) (argsL := [(.int (own_pos a)), (.int (own_pos b))]) (rest := []) 0 hown (hw _ (List.mem_of_getElem? (i := 9) rfl)) (hw _ (List.mem_of_getElem? (i := 10) rfl)) (hw _ (List.mem_of_getElem? (i := 7) rfl)) (hw _ (List.mem_of_getElem? (i := 11) rfl)) (by decide) (own_cmax l Z a0 hw [] (own_pos a) (own_pos b) h0 n0 Z0 ) (by decide) (by decide) e5 (g := (mkF m 37 #[.val (.int a), .val (.int b), .val (.int c1), .val (.int d), .val (.int (own_pos a)), .val (.int (own_pos b)), .val (.int (own_pos c1)), .val (.int (own_pos d)), .val (.int (own_mini (own_pos a) (own_pos b))), .unset, .unset, .unset, .unset, .unset, .unset] [(.int (own_pos b)), (.int (own_pos a))])) rfl (by rw [hml]; rfl) own_pd2 rfl rfl (by show 2 * 0 + _ ≤ _; exact Nat.le_of_eq rfl) (hb hby at_37) (by decide) (by decide)
  obtain ⟨rfl, N6q, e6⟩ := hQ6
  have N6 := Fr.app N5 N6q
  refine own_st st6 ?_
  show own_G p e below s _ _ _ (T6.setTop (mkF m 40 #[.val (.int a), .val (.int b), .val (.int c1), .val (.int d), .val (.int (own_pos a)), .val (.int (own_pos b)), .val (.int (own_pos c1)), .val (.int (own_pos d)), .val (.int (own_mini (own_pos a) (own_pos b))), .unset, .unset, .unset, .unset, .unset, .unset] [(.int (own_maxi (own_pos a) (own_pos b)))]))
  refine own_st (fun zt zk => XS.istore X6.here hx rfl (hb hby at_40) rfl (l' := #[.val (.int a), .val (.int b), .val (.int c1), .val (.int d), .val (.int (own_pos a)), .val (.int (own_pos b)), .val (.int (own_pos c1)), .val (.int (own_pos d)), .val (.int (own_mini (own_pos a) (own_pos b))), .val (.int (own_maxi (own_pos a) (own_pos b))), .unset, .unset, .unset, .unset, .unset]) rfl zk) ?_
  show own_G p e below s _ _ _ (T6.setTop (mkF m 42 #[.val (.int a), .val (.int b), .val (.int c1), .val (.int d), .val (.int (own_pos a)), .val (.int (own_pos b)), .val (.int (own_pos c1)), .val (.int (own_pos d)), .val (.int (own_mini (own_pos a) (own_pos b))), .val (.int (own_maxi (own_pos a) (own_pos b))), .unset, .unset, .unset, .unset, .unset] []))
  refine own_st (fun zt zk => XS.iload X6.here hx rfl (hb hby at_42) rfl zk) ?_
  show own_G p e below s _ _ _ (T6.setTop (mkF m 44 #[.val (.int a), .val (.int b), .val (.int c1), .val (.int d), .val (.int (own_pos a)), .val (.int (own_pos b)), .val (.int (own_pos c1)), .val (.int (own_pos d)), .val (.int (own_mini (own_pos a) (own_pos b))), .val (.int (own_maxi (own_pos a) (own_pos b))), .unset, .unset, .unset, .unset, .unset] [(.int (own_pos c1))]))
  refine own_st (fun zt zk => XS.iload X6.here hx rfl (hb hby at_44) rfl zk) ?_
  show own_G p e below s _ _ _ (T6.setTop (mkF m 46 #[.val (.int a), .val (.int b), .val (.int c1), .val (.int d), .val (.int (own_pos a)), .val (.int (own_pos b)), .val (.int (own_pos c1)), .val (.int (own_pos d)), .val (.int (own_mini (own_pos a) (own_pos b))), .val (.int (own_maxi (own_pos a) (own_pos b))), .unset, .unset, .unset, .unset, .unset] [(.int (own_pos d)), (.int (own_pos c1))]))
  obtain ⟨_, T7, L7, X7, hQ7, st7⟩ := own_callS X6 hx hZ (y := (⟨"java/lang/Math", "min", "(II)I"⟩ : MethodName)) (argsL := [(.int (own_pos c1)), (.int (own_pos d))]) (rest := []) 0 hown (hw _ (List.mem_of_getElem? (i := 5) rfl)) (hw _ (List.mem_of_getElem? (i := 6) rfl)) (hw _ (List.mem_of_getElem? (i := 7) rfl)) (hw _ (List.mem_of_getElem? (i := 8) rfl)) (by decide) (own_cmin l Z a0 hw [] (own_pos c1) (own_pos d) h0 n0 Z0 ) (by decide) (by decide) e6 (g := (mkF m 46 #[.val (.int a), .val (.int b), .val (.int c1), .val (.int d), .val (.int (own_pos a)), .val (.int (own_pos b)), .val (.int (own_pos c1)), .val (.int (own_pos d)), .val (.int (own_mini (own_pos a) (own_pos b))), .val (.int (own_maxi (own_pos a) (own_pos b))), .unset, .unset, .unset, .unset, .unset] [(.int (own_pos d)), (.int (own_pos c1))])) rfl (by rw [hml]; rfl) own_pd2 rfl rfl (by show 2 * 0 + _ ≤ _; exact Nat.le_of_eq rfl) (hb hby at_46) (by decide) (by decide)
  obtain ⟨rfl, N7q, e7⟩ := hQ7
  have N7 := Fr.app N6 N7q
  refine own_st st7 ?_
  show own_G p e below s _ _ _ (T7.setTop (mkF m 49 #[.val (.int a), .val (.int b), .val (.int c1), .val (.int d), .val (.int (own_pos a)), .val (.int (own_pos b)), .val (.int (own_pos c1)), .val (.int (own_pos d)), .val (.int (own_mini (own_pos a) (own_pos b))), .val (.int (own_maxi (own_pos a) (own_pos b))), .unset, .unset, .unset, .unset, .unset] [(.int (own_mini (own_pos c1) (own_pos d)))]))
  refine own_st (fun zt zk => XS.istore X7.here hx rfl (hb hby at_49) rfl (l' := #[.val (.int a), .val (.int b), .val (.int c1), .val (.int d), .val (.int (own_pos a)), .val (.int (own_pos b)), .val (.int (own_pos c1)), .val (.int (own_pos d)), .val (.int (own_mini (own_pos a) (own_pos b))), .val (.int (own_maxi (own_pos a) (own_pos b))), .val (.int (own_mini (own_pos c1) (own_pos d))), .unset, .unset, .unset, .unset]) rfl zk) ?_
  show own_G p e below s _ _ _ (T7.setTop (mkF m 51 #[.val (.int a), .val (.int b), .val (.int c1), .val (.int d), .val (.int (own_pos a)), .val (.int (own_pos b)), .val (.int (own_pos c1)), .val (.int (own_pos d)), .val (.int (own_mini (own_pos a) (own_pos b))), .val (.int (own_maxi (own_pos a) (own_pos b))), .val (.int (own_mini (own_pos c1) (own_pos d))), .unset, .unset, .unset, .unset] []))
  refine own_st (fun zt zk => XS.iload X7.here hx rfl (hb hby at_51) rfl zk) ?_
  show own_G p e below s _ _ _ (T7.setTop (mkF m 53 #[.val (.int a), .val (.int b), .val (.int c1), .val (.int d), .val (.int (own_pos a)), .val (.int (own_pos b)), .val (.int (own_pos c1)), .val (.int (own_pos d)), .val (.int (own_mini (own_pos a) (own_pos b))), .val (.int (own_maxi (own_pos a) (own_pos b))), .val (.int (own_mini (own_pos c1) (own_pos d))), .unset, .unset, .unset, .unset] [(.int (own_pos c1))]))
  refine own_st (fun zt zk => XS.iload X7.here hx rfl (hb hby at_53) rfl zk) ?_
  show own_G p e below s _ _ _ (T7.setTop (mkF m 55 #[.val (.int a), .val (.int b), .val (.int c1), .val (.int d), .val (.int (own_pos a)), .val (.int (own_pos b)), .val (.int (own_pos c1)), .val (.int (own_pos d)), .val (.int (own_mini (own_pos a) (own_pos b))), .val (.int (own_maxi (own_pos a) (own_pos b))), .val (.int (own_mini (own_pos c1) (own_pos d))), .unset, .unset, .unset, .unset] [(.int (own_pos d)), (.int (own_pos c1))]))
  obtain ⟨_, T8, L8, X8, hQ8, st8⟩ := own_callS X7 hx hZ (y := (⟨"java/lang/Math", "max", "(II)I"⟩ : MethodName)) (argsL := [(.int (own_pos c1)), (.int (own_pos d))]) (rest := []) 0 hown (hw _ (List.mem_of_getElem? (i := 9) rfl)) (hw _ (List.mem_of_getElem? (i := 10) rfl)) (hw _ (List.mem_of_getElem? (i := 7) rfl)) (hw _ (List.mem_of_getElem? (i := 11) rfl)) (by decide) (own_cmax l Z a0 hw [] (own_pos c1) (own_pos d) h0 n0 Z0 ) (by decide) (by decide) e7 (g := (mkF m 55 #[.val (.int a), .val (.int b), .val (.int c1), .val (.int d), .val (.int (own_pos a)), .val (.int (own_pos b)), .val (.int (own_pos c1)), .val (.int (own_pos d)), .val (.int (own_mini (own_pos a) (own_pos b))), .val (.int (own_maxi (own_pos a) (own_pos b))), .val (.int (own_mini (own_pos c1) (own_pos d))), .unset, .unset, .unset, .unset] [(.int (own_pos d)), (.int (own_pos c1))])) rfl (by rw [hml]; rfl) own_pd2 rfl rfl (by show 2 * 0 + _ ≤ _; exact Nat.le_of_eq rfl) (hb hby at_55) (by decide) (by decide)
  obtain ⟨rfl, N8q, e8⟩ := hQ8
  have N8 := Fr.app N7 N8q
  refine own_st st8 ?_
  show own_G p e below s _ _ _ (T8.setTop (mkF m 58 #[.val (.int a), .val (.int b), .val (.int c1), .val (.int d), .val (.int (own_pos a)), .val (.int (own_pos b)), .val (.int (own_pos c1)), .val (.int (own_pos d)), .val (.int (own_mini (own_pos a) (own_pos b))), .val (.int (own_maxi (own_pos a) (own_pos b))), .val (.int (own_mini (own_pos c1) (own_pos d))), .unset, .unset, .unset, .unset] [(.int (own_maxi (own_pos c1) (own_pos d)))]))
  refine own_st (fun zt zk => XS.istore X8.here hx rfl (hb hby at_58) rfl (l' := #[.val (.int a), .val (.int b), .val (.int c1), .val (.int d), .val (.int (own_pos a)), .val (.int (own_pos b)), .val (.int (own_pos c1)), .val (.int (own_pos d)), .val (.int (own_mini (own_pos a) (own_pos b))), .val (.int (own_maxi (own_pos a) (own_pos b))), .val (.int (own_mini (own_pos c1) (own_pos d))), .val (.int (own_maxi (own_pos c1) (own_pos d))), .unset, .unset, .unset]) rfl zk) ?_
  show own_G p e below s _ _ _ (T8.setTop (mkF m 60 #[.val (.int a), .val (.int b), .val (.int c1), .val (.int d), .val (.int (own_pos a)), .val (.int (own_pos b)), .val (.int (own_pos c1)), .val (.int (own_pos d)), .val (.int (own_mini (own_pos a) (own_pos b))), .val (.int (own_maxi (own_pos a) (own_pos b))), .val (.int (own_mini (own_pos c1) (own_pos d))), .val (.int (own_maxi (own_pos c1) (own_pos d))), .unset, .unset, .unset] []))
  have f1 := own_lo1 a b
  have f2 := own_lohi (own_pos a) (own_pos b)
  have f3 := own_lo1 c1 d
  have f4 := own_lohi (own_pos c1) (own_pos d)
  obtain ⟨l1, q_l1⟩ : ∃ z, z = (own_mini (own_pos a) (own_pos b)) := ⟨_, rfl⟩
  rw [← q_l1]
  show own_G p e below s _ _ _ (T8.setTop (mkF m 60 #[.val (.int a), .val (.int b), .val (.int c1), .val (.int d), .val (.int (own_pos a)), .val (.int (own_pos b)), .val (.int (own_pos c1)), .val (.int (own_pos d)), .val (.int l1), .val (.int (own_maxi (own_pos a) (own_pos b))), .val (.int (own_mini (own_pos c1) (own_pos d))), .val (.int (own_maxi (own_pos c1) (own_pos d))), .unset, .unset, .unset] []))
  obtain ⟨m1, q_m1⟩ : ∃ z, z = (own_maxi (own_pos a) (own_pos b)) := ⟨_, rfl⟩
  rw [← q_m1]
  show own_G p e below s _ _ _ (T8.setTop (mkF m 60 #[.val (.int a), .val (.int b), .val (.int c1), .val (.int d), .val (.int (own_pos a)), .val (.int (own_pos b)), .val (.int (own_pos c1)), .val (.int (own_pos d)), .val (.int l1), .val (.int m1), .val (.int (own_mini (own_pos c1) (own_pos d))), .val (.int (own_maxi (own_pos c1) (own_pos d))), .unset, .unset, .unset] []))
  obtain ⟨l2, q_l2⟩ : ∃ z, z = (own_mini (own_pos c1) (own_pos d)) := ⟨_, rfl⟩
  rw [← q_l2]
  show own_G p e below s _ _ _ (T8.setTop (mkF m 60 #[.val (.int a), .val (.int b), .val (.int c1), .val (.int d), .val (.int (own_pos a)), .val (.int (own_pos b)), .val (.int (own_pos c1)), .val (.int (own_pos d)), .val (.int l1), .val (.int m1), .val (.int l2), .val (.int (own_maxi (own_pos c1) (own_pos d))), .unset, .unset, .unset] []))
  obtain ⟨m2, q_m2⟩ : ∃ z, z = (own_maxi (own_pos c1) (own_pos d)) := ⟨_, rfl⟩
  rw [← q_m2]
  show own_G p e below s _ _ _ (T8.setTop (mkF m 60 #[.val (.int a), .val (.int b), .val (.int c1), .val (.int d), .val (.int (own_pos a)), .val (.int (own_pos b)), .val (.int (own_pos c1)), .val (.int (own_pos d)), .val (.int l1), .val (.int m1), .val (.int l2), .val (.int m2), .unset, .unset, .unset] []))
  rw [← q_l1] at f1
  rw [← q_l1, ← q_m1] at f2
  rw [← q_l2] at f3
  rw [← q_l2, ← q_m2] at f4
  have fo := own_ov l1 m1 l2 m2 f2 f4
  obtain ⟨T9, h9, X9, e9, E9, A9, D9, -, st9⟩ := newO X8 hx hZ hown (hw _ (List.mem_of_getElem? (i := 12) rfl)) (hw _ (List.mem_of_getElem? (i := 13) rfl)) (hw _ (List.mem_of_getElem? (i := 14) rfl)) e8 (g := (mkF m 60 #[.val (.int a), .val (.int b), .val (.int c1), .val (.int d), .val (.int (own_pos a)), .val (.int (own_pos b)), .val (.int (own_pos c1)), .val (.int (own_pos d)), .val (.int l1), .val (.int m1), .val (.int l2), .val (.int m2), .unset, .unset, .unset] [])) rfl (hb hby at_60) (by decide) (by decide)
  obtain ⟨b9, g9⟩ : ∃ z, z = h0.size := ⟨_, rfl⟩
  rw [← g9] at A9 D9 st9
  have ge9 : n0 ≤ b9 := Nat.le_trans Z0 (Nat.le_of_eq g9.symm)
  have sz9 : h0.size ≤ b9 := Nat.le_trans (Nat.le_refl h0.size) (Nat.le_of_eq g9.symm)
  refine own_st st9 ?_
  show own_G p e below s _ _ _ (T9.setTop (mkF m 63 #[.val (.int a), .val (.int b), .val (.int c1), .val (.int d), .val (.int (own_pos a)), .val (.int (own_pos b)), .val (.int (own_pos c1)), .val (.int (own_pos d)), .val (.int l1), .val (.int m1), .val (.int l2), .val (.int m2), .unset, .unset, .unset] [(.ref b9)]))
  refine own_st (fun zt zk => XS.dup X9.here hx rfl (hb hby at_63) rfl rfl zk) ?_
  show own_G p e below s _ _ _ (T9.setTop (mkF m 64 #[.val (.int a), .val (.int b), .val (.int c1), .val (.int d), .val (.int (own_pos a)), .val (.int (own_pos b)), .val (.int (own_pos c1)), .val (.int (own_pos d)), .val (.int l1), .val (.int m1), .val (.int l2), .val (.int m2), .unset, .unset, .unset] [(.ref b9), (.ref b9)]))
  refine own_st (fun zt zk => XS.iload X9.here hx rfl (hb hby at_64) rfl zk) ?_
  show own_G p e below s _ _ _ (T9.setTop (mkF m 66 #[.val (.int a), .val (.int b), .val (.int c1), .val (.int d), .val (.int (own_pos a)), .val (.int (own_pos b)), .val (.int (own_pos c1)), .val (.int (own_pos d)), .val (.int l1), .val (.int m1), .val (.int l2), .val (.int m2), .unset, .unset, .unset] [(.int l1), (.ref b9), (.ref b9)]))
  refine own_st (fun zt zk => XS.iload X9.here hx rfl (hb hby at_66) rfl zk) ?_
  show own_G p e below s _ _ _ (T9.setTop (mkF m 68 #[.val (.int a), .val (.int b), .val (.int c1), .val (.int d), .val (.int (own_pos a)), .val (.int (own_pos b)), .val (.int (own_pos c1)), .val (.int (own_pos d)), .val (.int l1), .val (.int m1), .val (.int l2), .val (.int m2), .unset, .unset, .unset] [(.int m1), (.int l1), (.ref b9), (.ref b9)]))
  obtain ⟨_, T10, L10, X10, hQ10, st10⟩ := own_callI X9 hx hZ (y := (⟨"com/example/outfall/outfall/rules/PumpingSchedule$Range", "<init>", "(II)V"⟩ : MethodName)) (a := b9) (argsL := [(.int l1), (.int m1)]) (rest := [(.ref b9)]) 1 rfl hown (hw _ (List.mem_of_getElem? (i := 15) rfl)) (hw _ (List.mem_of_getElem? (i := 16) rfl)) (hw _ (List.mem_of_getElem? (i := 14) rfl)) (hw _ (List.mem_of_getElem? (i := 17) rfl)) (by decide) (own_ini l Z a0 hw [] b9 l1 m1 h9 n0 (Nat.le_trans Z0 E9.1) A9 (D9 (Or.inr (hw _ (List.mem_of_getElem? (i := 27) rfl))) (ty := .int) (by decide)) (D9 (Or.inr (hw _ (List.mem_of_getElem? (i := 29) rfl))) (ty := .int) (by decide)) ge9 f1 f2) (by decide) (by decide) e9 (g := (mkF m 68 #[.val (.int a), .val (.int b), .val (.int c1), .val (.int d), .val (.int (own_pos a)), .val (.int (own_pos b)), .val (.int (own_pos c1)), .val (.int (own_pos d)), .val (.int l1), .val (.int m1), .val (.int l2), .val (.int m2), .unset, .unset, .unset] [(.int m1), (.int l1), (.ref b9), (.ref b9)])) rfl (by rw [hml]; rfl) own_pd3 rfl rfl (by show 2 * 0 + _ ≤ _; exact Nat.le_of_eq rfl) (hb hby at_68) (by decide) (by decide)
  obtain ⟨rfl, N10q, K10, q10_0, q10_1⟩ := hQ10
  have N10 := Fr.app N8 N10q
  refine own_st st10 ?_
  show own_G p e below s _ _ _ (T10.setTop (mkF m 71 #[.val (.int a), .val (.int b), .val (.int c1), .val (.int d), .val (.int (own_pos a)), .val (.int (own_pos b)), .val (.int (own_pos c1)), .val (.int (own_pos d)), .val (.int l1), .val (.int m1), .val (.int l2), .val (.int m2), .unset, .unset, .unset] [(.ref b9)]))
  refine own_st (fun zt zk => XS.astore X10.here hx rfl (hb hby at_71) rfl rfl (l' := #[.val (.int a), .val (.int b), .val (.int c1), .val (.int d), .val (.int (own_pos a)), .val (.int (own_pos b)), .val (.int (own_pos c1)), .val (.int (own_pos d)), .val (.int l1), .val (.int m1), .val (.int l2), .val (.int m2), .val (.ref b9), .unset, .unset]) rfl zk) ?_
  show own_G p e below s _ _ _ (T10.setTop (mkF m 73 #[.val (.int a), .val (.int b), .val (.int c1), .val (.int d), .val (.int (own_pos a)), .val (.int (own_pos b)), .val (.int (own_pos c1)), .val (.int (own_pos d)), .val (.int l1), .val (.int m1), .val (.int l2), .val (.int m2), .val (.ref b9), .unset, .unset] []))
  have E12 : Exa Z T10.heap b9 "com/example/outfall/outfall/rules/PumpingSchedule$Range" := (A9.keep K10)
  obtain ⟨T11, h11, X11, e11, E11, A11, D11, -, st11⟩ := newO X10 hx hZ hown (hw _ (List.mem_of_getElem? (i := 12) rfl)) (hw _ (List.mem_of_getElem? (i := 13) rfl)) (hw _ (List.mem_of_getElem? (i := 14) rfl)) rfl (g := (mkF m 73 #[.val (.int a), .val (.int b), .val (.int c1), .val (.int d), .val (.int (own_pos a)), .val (.int (own_pos b)), .val (.int (own_pos c1)), .val (.int (own_pos d)), .val (.int l1), .val (.int m1), .val (.int l2), .val (.int m2), .val (.ref b9), .unset, .unset] [])) rfl (hb hby at_73) (by decide) (by decide)
  obtain ⟨b11, g11⟩ : ∃ z, z = T10.heap.size := ⟨_, rfl⟩
  rw [← g11] at A11 D11 st11
  have ne11_b9 : b9 ≠ b11 := by rw [g11]; exact Nat.ne_of_lt E12.lt
  have ge11 : n0 ≤ b11 := Nat.le_trans (Nat.le_trans (Nat.le_trans Z0 E9.1) K10.1) (Nat.le_of_eq g11.symm)
  have sz11 : h0.size ≤ b11 := Nat.le_trans (Nat.le_trans (Nat.le_trans (Nat.le_refl h0.size) E9.1) K10.1) (Nat.le_of_eq g11.symm)
  refine own_st st11 ?_
  show own_G p e below s _ _ _ (T11.setTop (mkF m 76 #[.val (.int a), .val (.int b), .val (.int c1), .val (.int d), .val (.int (own_pos a)), .val (.int (own_pos b)), .val (.int (own_pos c1)), .val (.int (own_pos d)), .val (.int l1), .val (.int m1), .val (.int l2), .val (.int m2), .val (.ref b9), .unset, .unset] [(.ref b11)]))
  refine own_st (fun zt zk => XS.dup X11.here hx rfl (hb hby at_76) rfl rfl zk) ?_
  show own_G p e below s _ _ _ (T11.setTop (mkF m 77 #[.val (.int a), .val (.int b), .val (.int c1), .val (.int d), .val (.int (own_pos a)), .val (.int (own_pos b)), .val (.int (own_pos c1)), .val (.int (own_pos d)), .val (.int l1), .val (.int m1), .val (.int l2), .val (.int m2), .val (.ref b9), .unset, .unset] [(.ref b11), (.ref b11)]))
  refine own_st (fun zt zk => XS.iload X11.here hx rfl (hb hby at_77) rfl zk) ?_
  show own_G p e below s _ _ _ (T11.setTop (mkF m 79 #[.val (.int a), .val (.int b), .val (.int c1), .val (.int d), .val (.int (own_pos a)), .val (.int (own_pos b)), .val (.int (own_pos c1)), .val (.int (own_pos d)), .val (.int l1), .val (.int m1), .val (.int l2), .val (.int m2), .val (.ref b9), .unset, .unset] [(.int l2), (.ref b11), (.ref b11)]))
  refine own_st (fun zt zk => XS.iload X11.here hx rfl (hb hby at_79) rfl zk) ?_
  show own_G p e below s _ _ _ (T11.setTop (mkF m 81 #[.val (.int a), .val (.int b), .val (.int c1), .val (.int d), .val (.int (own_pos a)), .val (.int (own_pos b)), .val (.int (own_pos c1)), .val (.int (own_pos d)), .val (.int l1), .val (.int m1), .val (.int l2), .val (.int m2), .val (.ref b9), .unset, .unset] [(.int m2), (.int l2), (.ref b11), (.ref b11)]))
  obtain ⟨_, T13, L13, X13, hQ13, st13⟩ := own_callI X11 hx hZ (y := (⟨"com/example/outfall/outfall/rules/PumpingSchedule$Range", "<init>", "(II)V"⟩ : MethodName)) (a := b11) (argsL := [(.int l2), (.int m2)]) (rest := [(.ref b11)]) 1 rfl hown (hw _ (List.mem_of_getElem? (i := 15) rfl)) (hw _ (List.mem_of_getElem? (i := 16) rfl)) (hw _ (List.mem_of_getElem? (i := 14) rfl)) (hw _ (List.mem_of_getElem? (i := 17) rfl)) (by decide) (own_ini l Z a0 hw [] b11 l2 m2 h11 n0 (Nat.le_trans (Nat.le_trans (Nat.le_trans Z0 E9.1) K10.1) E11.1) A11 (D11 (Or.inr (hw _ (List.mem_of_getElem? (i := 27) rfl))) (ty := .int) (by decide)) (D11 (Or.inr (hw _ (List.mem_of_getElem? (i := 29) rfl))) (ty := .int) (by decide)) ge11 f3 f4) (by decide) (by decide) e11 (g := (mkF m 81 #[.val (.int a), .val (.int b), .val (.int c1), .val (.int d), .val (.int (own_pos a)), .val (.int (own_pos b)), .val (.int (own_pos c1)), .val (.int (own_pos d)), .val (.int l1), .val (.int m1), .val (.int l2), .val (.int m2), .val (.ref b9), .unset, .unset] [(.int m2), (.int l2), (.ref b11), (.ref b11)])) rfl (by rw [hml]; rfl) own_pd3 rfl rfl (by show 2 * 0 + _ ≤ _; exact Nat.le_of_eq rfl) (hb hby at_81) (by decide) (by decide)
  obtain ⟨rfl, N13q, K13, q13_0, q13_1⟩ := hQ13
  have N13 := Fr.app N10 N13q
  refine own_st st13 ?_
  show own_G p e below s _ _ _ (T13.setTop (mkF m 84 #[.val (.int a), .val (.int b), .val (.int c1), .val (.int d), .val (.int (own_pos a)), .val (.int (own_pos b)), .val (.int (own_pos c1)), .val (.int (own_pos d)), .val (.int l1), .val (.int m1), .val (.int l2), .val (.int m2), .val (.ref b9), .unset, .unset] [(.ref b11)]))
  refine own_st (fun zt zk => XS.astore X13.here hx rfl (hb hby at_84) rfl rfl (l' := #[.val (.int a), .val (.int b), .val (.int c1), .val (.int d), .val (.int (own_pos a)), .val (.int (own_pos b)), .val (.int (own_pos c1)), .val (.int (own_pos d)), .val (.int l1), .val (.int m1), .val (.int l2), .val (.int m2), .val (.ref b9), .val (.ref b11), .unset]) rfl zk) ?_
  show own_G p e below s _ _ _ (T13.setTop (mkF m 86 #[.val (.int a), .val (.int b), .val (.int c1), .val (.int d), .val (.int (own_pos a)), .val (.int (own_pos b)), .val (.int (own_pos c1)), .val (.int (own_pos d)), .val (.int l1), .val (.int m1), .val (.int l2), .val (.int m2), .val (.ref b9), .val (.ref b11), .unset] []))
  refine own_st (fun zt zk => XS.iload X13.here hx rfl (hb hby at_86) rfl zk) ?_
  show own_G p e below s _ _ _ (T13.setTop (mkF m 88 #[.val (.int a), .val (.int b), .val (.int c1), .val (.int d), .val (.int (own_pos a)), .val (.int (own_pos b)), .val (.int (own_pos c1)), .val (.int (own_pos d)), .val (.int l1), .val (.int m1), .val (.int l2), .val (.int m2), .val (.ref b9), .val (.ref b11), .unset] [(.int l1)]))
  refine own_st (fun zt zk => XS.iload X13.here hx rfl (hb hby at_88) rfl zk) ?_
  show own_G p e below s _ _ _ (T13.setTop (mkF m 90 #[.val (.int a), .val (.int b), .val (.int c1), .val (.int d), .val (.int (own_pos a)), .val (.int (own_pos b)), .val (.int (own_pos c1)), .val (.int (own_pos d)), .val (.int l1), .val (.int m1), .val (.int l2), .val (.int m2), .val (.ref b9), .val (.ref b11), .unset] [(.int l2), (.int l1)]))
  obtain ⟨_, T14, L14, X14, hQ14, st14⟩ := own_callS X13 hx hZ (y := (⟨"java/lang/Math", "max", "(II)I"⟩ : MethodName)) (argsL := [(.int l1), (.int l2)]) (rest := []) 0 hown (hw _ (List.mem_of_getElem? (i := 9) rfl)) (hw _ (List.mem_of_getElem? (i := 10) rfl)) (hw _ (List.mem_of_getElem? (i := 7) rfl)) (hw _ (List.mem_of_getElem? (i := 11) rfl)) (by decide) (own_cmax l Z a0 hw [] l1 l2 T13.heap n0 (Nat.le_trans (Nat.le_trans (Nat.le_trans (Nat.le_trans Z0 E9.1) K10.1) E11.1) K13.1) ) (by decide) (by decide) rfl (g := (mkF m 90 #[.val (.int a), .val (.int b), .val (.int c1), .val (.int d), .val (.int (own_pos a)), .val (.int (own_pos b)), .val (.int (own_pos c1)), .val (.int (own_pos d)), .val (.int l1), .val (.int m1), .val (.int l2), .val (.int m2), .val (.ref b9), .val (.ref b11), .unset] [(.int l2), (.int l1)])) rfl (by rw [hml]; rfl) own_pd2 rfl rfl (by show 2 * 0 + _ ≤ _; exact Nat.le_of_eq rfl) (hb hby at_90) (by decide) (by decide)
  obtain ⟨rfl, N14q, e14⟩ := hQ14
  have N14 := Fr.app N13 N14q
  refine own_st st14 ?_
  show own_G p e below s _ _ _ (T14.setTop (mkF m 93 #[.val (.int a), .val (.int b), .val (.int c1), .val (.int d), .val (.int (own_pos a)), .val (.int (own_pos b)), .val (.int (own_pos c1)), .val (.int (own_pos d)), .val (.int l1), .val (.int m1), .val (.int l2), .val (.int m2), .val (.ref b9), .val (.ref b11), .unset] [(.int (own_maxi l1 l2))]))
  refine own_st (fun zt zk => XS.iload X14.here hx rfl (hb hby at_93) rfl zk) ?_
  show own_G p e below s _ _ _ (T14.setTop (mkF m 95 #[.val (.int a), .val (.int b), .val (.int c1), .val (.int d), .val (.int (own_pos a)), .val (.int (own_pos b)), .val (.int (own_pos c1)), .val (.int (own_pos d)), .val (.int l1), .val (.int m1), .val (.int l2), .val (.int m2), .val (.ref b9), .val (.ref b11), .unset] [(.int m1), (.int (own_maxi l1 l2))]))
  refine own_st (fun zt zk => XS.iload X14.here hx rfl (hb hby at_95) rfl zk) ?_
  show own_G p e below s _ _ _ (T14.setTop (mkF m 97 #[.val (.int a), .val (.int b), .val (.int c1), .val (.int d), .val (.int (own_pos a)), .val (.int (own_pos b)), .val (.int (own_pos c1)), .val (.int (own_pos d)), .val (.int l1), .val (.int m1), .val (.int l2), .val (.int m2), .val (.ref b9), .val (.ref b11), .unset] [(.int m2), (.int m1), (.int (own_maxi l1 l2))]))
  obtain ⟨_, T15, L15, X15, hQ15, st15⟩ := own_callS X14 hx hZ (y := (⟨"java/lang/Math", "min", "(II)I"⟩ : MethodName)) (argsL := [(.int m1), (.int m2)]) (rest := [(.int (own_maxi l1 l2))]) 1 hown (hw _ (List.mem_of_getElem? (i := 5) rfl)) (hw _ (List.mem_of_getElem? (i := 6) rfl)) (hw _ (List.mem_of_getElem? (i := 7) rfl)) (hw _ (List.mem_of_getElem? (i := 8) rfl)) (by decide) (own_cmin l Z a0 hw [] m1 m2 T13.heap n0 (Nat.le_trans (Nat.le_trans (Nat.le_trans (Nat.le_trans Z0 E9.1) K10.1) E11.1) K13.1) ) (by decide) (by decide) e14 (g := (mkF m 97 #[.val (.int a), .val (.int b), .val (.int c1), .val (.int d), .val (.int (own_pos a)), .val (.int (own_pos b)), .val (.int (own_pos c1)), .val (.int (own_pos d)), .val (.int l1), .val (.int m1), .val (.int l2), .val (.int m2), .val (.ref b9), .val (.ref b11), .unset] [(.int m2), (.int m1), (.int (own_maxi l1 l2))])) rfl (by rw [hml]; rfl) own_pd2 rfl rfl (by show 2 * 0 + _ ≤ _; exact Nat.le_of_eq rfl) (hb hby at_97) (by decide) (by decide)
  obtain ⟨rfl, N15q, e15⟩ := hQ15
  have N15 := Fr.app N14 N15q
  refine own_st st15 ?_
  show own_G p e below s _ _ _ (T15.setTop (mkF m 100 #[.val (.int a), .val (.int b), .val (.int c1), .val (.int d), .val (.int (own_pos a)), .val (.int (own_pos b)), .val (.int (own_pos c1)), .val (.int (own_pos d)), .val (.int l1), .val (.int m1), .val (.int l2), .val (.int m2), .val (.ref b9), .val (.ref b11), .unset] [(.int (own_mini m1 m2)), (.int (own_maxi l1 l2))]))
  by_cases hc100_16 : (own_mini m1 m2) < (own_maxi l1 l2)
  · refine own_st (fun zt zk => XS.icmpYes X15.here hx rfl (pc0 := 100) (pc' := 107) rfl (hb hby at_100) rfl (tlt hc100_16).2.2.1 (by decide) (by decide) zk) ?_
    show own_G p e below s _ _ _ (T15.setTop (mkF m 107 #[.val (.int a), .val (.int b), .val (.int c1), .val (.int d), .val (.int (own_pos a)), .val (.int (own_pos b)), .val (.int (own_pos c1)), .val (.int (own_pos d)), .val (.int l1), .val (.int m1), .val (.int l2), .val (.int m2), .val (.ref b9), .val (.ref b11), .unset] []))
    refine own_st (fun zt zk => XS.iconst X15.here hx rfl (hb hby at_107) zk) ?_
    show own_G p e below s _ _ _ (T15.setTop (mkF m 108 #[.val (.int a), .val (.int b), .val (.int c1), .val (.int d), .val (.int (own_pos a)), .val (.int (own_pos b)), .val (.int (own_pos c1)), .val (.int (own_pos d)), .val (.int l1), .val (.int m1), .val (.int l2), .val (.int m2), .val (.ref b9), .val (.ref b11), .unset] [(.int (0 : Int32))]))
    refine own_st (fun zt zk => XS.istore X15.here hx rfl (hb hby at_108) rfl (l' := #[.val (.int a), .val (.int b), .val (.int c1), .val (.int d), .val (.int (own_pos a)), .val (.int (own_pos b)), .val (.int (own_pos c1)), .val (.int (own_pos d)), .val (.int l1), .val (.int m1), .val (.int l2), .val (.int m2), .val (.ref b9), .val (.ref b11), .val (.int (0 : Int32))]) rfl zk) ?_
    show own_G p e below s _ _ _ (T15.setTop (mkF m 110 #[.val (.int a), .val (.int b), .val (.int c1), .val (.int d), .val (.int (own_pos a)), .val (.int (own_pos b)), .val (.int (own_pos c1)), .val (.int (own_pos d)), .val (.int l1), .val (.int m1), .val (.int l2), .val (.int m2), .val (.ref b9), .val (.ref b11), .val (.int (0 : Int32))] []))
    refine own_st (fun zt zk => XS.aload X15.here hx rfl (hb hby at_110) rfl rfl zk) ?_
    show own_G p e below s _ _ _ (T15.setTop (mkF m 112 #[.val (.int a), .val (.int b), .val (.int c1), .val (.int d), .val (.int (own_pos a)), .val (.int (own_pos b)), .val (.int (own_pos c1)), .val (.int (own_pos d)), .val (.int l1), .val (.int m1), .val (.int l2), .val (.int m2), .val (.ref b9), .val (.ref b11), .val (.int (0 : Int32))] [(.ref b9)]))
    refine own_st (fun zt zk => XS.aload X15.here hx rfl (hb hby at_112) rfl rfl zk) ?_
    show own_G p e below s _ _ _ (T15.setTop (mkF m 114 #[.val (.int a), .val (.int b), .val (.int c1), .val (.int d), .val (.int (own_pos a)), .val (.int (own_pos b)), .val (.int (own_pos c1)), .val (.int (own_pos d)), .val (.int l1), .val (.int m1), .val (.int l2), .val (.int m2), .val (.ref b9), .val (.ref b11), .val (.int (0 : Int32))] [(.ref b11), (.ref b9)]))
    have F18 : Fld Z T13.heap b9 "com/example/outfall/outfall/rules/PumpingSchedule$Range" "least" "I" (.int l1) := ((q10_0.ext E11).keep K13 (ninS ne11_b9 nin0))
    have F19 : Fld Z T13.heap b9 "com/example/outfall/outfall/rules/PumpingSchedule$Range" "most" "I" (.int m1) := ((q10_1.ext E11).keep K13 (ninS ne11_b9 nin0))
    have E20 : Exa Z T13.heap b9 "com/example/outfall/outfall/rules/PumpingSchedule$Range" := ((E12.ext E11).keep K13)
    obtain ⟨_, T17, L17, X17, hQ17, st17⟩ := own_callV X15 hx hZ (C := "com/example/outfall/outfall/rules/PumpingSchedule$Range") (y := (⟨"com/example/outfall/outfall/rules/PumpingSchedule$Range", "overlaps", "(Lcom/example/outfall/outfall/rules/PumpingSchedule$Range;)Z"⟩ : MethodName)) (z := (⟨"com/example/outfall/outfall/rules/PumpingSchedule$Range", "overlaps", "(Lcom/example/outfall/outfall/rules/PumpingSchedule$Range;)Z"⟩ : MethodName)) (a := b9) (argsL := [(.ref b11)]) (rest := []) 0 hown (hw _ (List.mem_of_getElem? (i := 30) rfl)) (hw _ (List.mem_of_getElem? (i := 31) rfl)) (own_nf hZ (hw _ (List.mem_of_getElem? (i := 33) rfl))) (hw _ (List.mem_of_getElem? (i := 33) rfl)) (hw _ (List.mem_of_getElem? (i := 32) rfl)) (hw _ (List.mem_of_getElem? (i := 14) rfl)) (hw _ (List.mem_of_getElem? (i := 34) rfl)) (by decide) (own_covl l Z a0 hw [] b9 b11 l1 m1 l2 m2 T13.heap n0 (Nat.le_trans (Nat.le_trans (Nat.le_trans (Nat.le_trans Z0 E9.1) K10.1) E11.1) K13.1) F18 F19 q13_0 q13_1) (by decide) (by decide) e15 E20 (g := (mkF m 114 #[.val (.int a), .val (.int b), .val (.int c1), .val (.int d), .val (.int (own_pos a)), .val (.int (own_pos b)), .val (.int (own_pos c1)), .val (.int (own_pos d)), .val (.int l1), .val (.int m1), .val (.int l2), .val (.int m2), .val (.ref b9), .val (.ref b11), .val (.int (0 : Int32))] [(.ref b11), (.ref b9)])) rfl (by rw [hml]; rfl) own_pd4 rfl rfl (by show 2 * 0 + _ ≤ _; exact Nat.le_of_eq rfl) (hb hby at_114) (by decide) (by decide)
    obtain ⟨rfl, N17q, e17⟩ := hQ17
    have N17 := Fr.app N15 N17q
    refine own_st st17 ?_
    show own_G p e below s _ _ _ (T17.setTop (mkF m 117 #[.val (.int a), .val (.int b), .val (.int c1), .val (.int d), .val (.int (own_pos a)), .val (.int (own_pos b)), .val (.int (own_pos c1)), .val (.int (own_pos d)), .val (.int l1), .val (.int m1), .val (.int l2), .val (.int m2), .val (.ref b9), .val (.ref b11), .val (.int (0 : Int32))] [(.int (own_b (¬ (m2 < l1) ∧ ¬ (m1 < l2))))]))
    refine own_st (fun zt zk => XS.iload X17.here hx rfl (hb hby at_117) rfl zk) ?_
    show own_G p e below s _ _ _ (T17.setTop (mkF m 119 #[.val (.int a), .val (.int b), .val (.int c1), .val (.int d), .val (.int (own_pos a)), .val (.int (own_pos b)), .val (.int (own_pos c1)), .val (.int (own_pos d)), .val (.int l1), .val (.int m1), .val (.int l2), .val (.int m2), .val (.ref b9), .val (.ref b11), .val (.int (0 : Int32))] [(.int (0 : Int32)), (.int (own_b (¬ (m2 < l1) ∧ ¬ (m1 < l2))))]))
    have hc119_21 : ¬ ((¬ (m2 < l1) ∧ ¬ (m1 < l2))) := fo.mp hc100_16
    refine own_st (fun zt zk => XS.icmpNo X17.here hx rfl (hb hby at_119) rfl (teq (own_b0 hc119_21)).2 zk) ?_
    show own_G p e below s _ _ _ (T17.setTop (mkF m 122 #[.val (.int a), .val (.int b), .val (.int c1), .val (.int d), .val (.int (own_pos a)), .val (.int (own_pos b)), .val (.int (own_pos c1)), .val (.int (own_pos d)), .val (.int l1), .val (.int m1), .val (.int l2), .val (.int m2), .val (.ref b9), .val (.ref b11), .val (.int (0 : Int32))] []))
    refine own_st (fun zt zk => XS.iconst X17.here hx rfl (hb hby at_122) zk) ?_
    show own_G p e below s _ _ _ (T17.setTop (mkF m 123 #[.val (.int a), .val (.int b), .val (.int c1), .val (.int d), .val (.int (own_pos a)), .val (.int (own_pos b)), .val (.int (own_pos c1)), .val (.int (own_pos d)), .val (.int l1), .val (.int m1), .val (.int l2), .val (.int m2), .val (.ref b9), .val (.ref b11), .val (.int (0 : Int32))] [(.int (1 : Int32))]))
    refine own_st (fun zt zk => XS.goto X17.here hx rfl (pc0 := 123) (pc' := 127) rfl (hb hby at_123) (by decide) (by decide) zk) ?_
    show own_G p e below s _ _ _ (T17.setTop (mkF m 127 #[.val (.int a), .val (.int b), .val (.int c1), .val (.int d), .val (.int (own_pos a)), .val (.int (own_pos b)), .val (.int (own_pos c1)), .val (.int (own_pos d)), .val (.int l1), .val (.int m1), .val (.int l2), .val (.int m2), .val (.ref b9), .val (.ref b11), .val (.int (0 : Int32))] [(.int (1 : Int32))]))
    refine own_retZ X17 hx hlk hret (by decide) (hb hby at_127) (by decide) (by decide) ?_
    show Q_own_law Z a b c1 d h0 n0 (some (.int (1 : Int32))) T17.heap _
    rw [e17]
    exact ⟨rfl, N17⟩
  · refine own_st (fun zt zk => XS.icmpNo X15.here hx rfl (hb hby at_100) rfl (flt hc100_16).2.2.1 zk) ?_
    show own_G p e below s _ _ _ (T15.setTop (mkF m 103 #[.val (.int a), .val (.int b), .val (.int c1), .val (.int d), .val (.int (own_pos a)), .val (.int (own_pos b)), .val (.int (own_pos c1)), .val (.int (own_pos d)), .val (.int l1), .val (.int m1), .val (.int l2), .val (.int m2), .val (.ref b9), .val (.ref b11), .unset] []))
    refine own_st (fun zt zk => XS.iconst X15.here hx rfl (hb hby at_103) zk) ?_
    show own_G p e below s _ _ _ (T15.setTop (mkF m 104 #[.val (.int a), .val (.int b), .val (.int c1), .val (.int d), .val (.int (own_pos a)), .val (.int (own_pos b)), .val (.int (own_pos c1)), .val (.int (own_pos d)), .val (.int l1), .val (.int m1), .val (.int l2), .val (.int m2), .val (.ref b9), .val (.ref b11), .unset] [(.int (1 : Int32))]))
    refine own_st (fun zt zk => XS.goto X15.here hx rfl (pc0 := 104) (pc' := 108) rfl (hb hby at_104) (by decide) (by decide) zk) ?_
    show own_G p e below s _ _ _ (T15.setTop (mkF m 108 #[.val (.int a), .val (.int b), .val (.int c1), .val (.int d), .val (.int (own_pos a)), .val (.int (own_pos b)), .val (.int (own_pos c1)), .val (.int (own_pos d)), .val (.int l1), .val (.int m1), .val (.int l2), .val (.int m2), .val (.ref b9), .val (.ref b11), .unset] [(.int (1 : Int32))]))
    refine own_st (fun zt zk => XS.istore X15.here hx rfl (hb hby at_108) rfl (l' := #[.val (.int a), .val (.int b), .val (.int c1), .val (.int d), .val (.int (own_pos a)), .val (.int (own_pos b)), .val (.int (own_pos c1)), .val (.int (own_pos d)), .val (.int l1), .val (.int m1), .val (.int l2), .val (.int m2), .val (.ref b9), .val (.ref b11), .val (.int (1 : Int32))]) rfl zk) ?_
    show own_G p e below s _ _ _ (T15.setTop (mkF m 110 #[.val (.int a), .val (.int b), .val (.int c1), .val (.int d), .val (.int (own_pos a)), .val (.int (own_pos b)), .val (.int (own_pos c1)), .val (.int (own_pos d)), .val (.int l1), .val (.int m1), .val (.int l2), .val (.int m2), .val (.ref b9), .val (.ref b11), .val (.int (1 : Int32))] []))
    refine own_st (fun zt zk => XS.aload X15.here hx rfl (hb hby at_110) rfl rfl zk) ?_
    show own_G p e below s _ _ _ (T15.setTop (mkF m 112 #[.val (.int a), .val (.int b), .val (.int c1), .val (.int d), .val (.int (own_pos a)), .val (.int (own_pos b)), .val (.int (own_pos c1)), .val (.int (own_pos d)), .val (.int l1), .val (.int m1), .val (.int l2), .val (.int m2), .val (.ref b9), .val (.ref b11), .val (.int (1 : Int32))] [(.ref b9)]))
    refine own_st (fun zt zk => XS.aload X15.here hx rfl (hb hby at_112) rfl rfl zk) ?_
    show own_G p e below s _ _ _ (T15.setTop (mkF m 114 #[.val (.int a), .val (.int b), .val (.int c1), .val (.int d), .val (.int (own_pos a)), .val (.int (own_pos b)), .val (.int (own_pos c1)), .val (.int (own_pos d)), .val (.int l1), .val (.int m1), .val (.int l2), .val (.int m2), .val (.ref b9), .val (.ref b11), .val (.int (1 : Int32))] [(.ref b11), (.ref b9)]))
    have F23 : Fld Z T13.heap b9 "com/example/outfall/outfall/rules/PumpingSchedule$Range" "least" "I" (.int l1) := ((q10_0.ext E11).keep K13 (ninS ne11_b9 nin0))
    have F24 : Fld Z T13.heap b9 "com/example/outfall/outfall/rules/PumpingSchedule$Range" "most" "I" (.int m1) := ((q10_1.ext E11).keep K13 (ninS ne11_b9 nin0))
    have E25 : Exa Z T13.heap b9 "com/example/outfall/outfall/rules/PumpingSchedule$Range" := ((E12.ext E11).keep K13)
    obtain ⟨_, T22, L22, X22, hQ22, st22⟩ := own_callV X15 hx hZ (C := "com/example/outfall/outfall/rules/PumpingSchedule$Range") (y := (⟨"com/example/outfall/outfall/rules/PumpingSchedule$Range", "overlaps", "(Lcom/example/outfall/outfall/rules/PumpingSchedule$Range;)Z"⟩ : MethodName)) (z := (⟨"com/example/outfall/outfall/rules/PumpingSchedule$Range", "overlaps", "(Lcom/example/outfall/outfall/rules/PumpingSchedule$Range;)Z"⟩ : MethodName)) (a := b9) (argsL := [(.ref b11)]) (rest := []) 0 hown (hw _ (List.mem_of_getElem? (i := 30) rfl)) (hw _ (List.mem_of_getElem? (i := 31) rfl)) (own_nf hZ (hw _ (List.mem_of_getElem? (i := 33) rfl))) (hw _ (List.mem_of_getElem? (i := 33) rfl)) (hw _ (List.mem_of_getElem? (i := 32) rfl)) (hw _ (List.mem_of_getElem? (i := 14) rfl)) (hw _ (List.mem_of_getElem? (i := 34) rfl)) (by decide) (own_covl l Z a0 hw [] b9 b11 l1 m1 l2 m2 T13.heap n0 (Nat.le_trans (Nat.le_trans (Nat.le_trans (Nat.le_trans Z0 E9.1) K10.1) E11.1) K13.1) F23 F24 q13_0 q13_1) (by decide) (by decide) e15 E25 (g := (mkF m 114 #[.val (.int a), .val (.int b), .val (.int c1), .val (.int d), .val (.int (own_pos a)), .val (.int (own_pos b)), .val (.int (own_pos c1)), .val (.int (own_pos d)), .val (.int l1), .val (.int m1), .val (.int l2), .val (.int m2), .val (.ref b9), .val (.ref b11), .val (.int (1 : Int32))] [(.ref b11), (.ref b9)])) rfl (by rw [hml]; rfl) own_pd4 rfl rfl (by show 2 * 0 + _ ≤ _; exact Nat.le_of_eq rfl) (hb hby at_114) (by decide) (by decide)
    obtain ⟨rfl, N22q, e22⟩ := hQ22
    have N22 := Fr.app N15 N22q
    refine own_st st22 ?_
    show own_G p e below s _ _ _ (T22.setTop (mkF m 117 #[.val (.int a), .val (.int b), .val (.int c1), .val (.int d), .val (.int (own_pos a)), .val (.int (own_pos b)), .val (.int (own_pos c1)), .val (.int (own_pos d)), .val (.int l1), .val (.int m1), .val (.int l2), .val (.int m2), .val (.ref b9), .val (.ref b11), .val (.int (1 : Int32))] [(.int (own_b (¬ (m2 < l1) ∧ ¬ (m1 < l2))))]))
    refine own_st (fun zt zk => XS.iload X22.here hx rfl (hb hby at_117) rfl zk) ?_
    show own_G p e below s _ _ _ (T22.setTop (mkF m 119 #[.val (.int a), .val (.int b), .val (.int c1), .val (.int d), .val (.int (own_pos a)), .val (.int (own_pos b)), .val (.int (own_pos c1)), .val (.int (own_pos d)), .val (.int l1), .val (.int m1), .val (.int l2), .val (.int m2), .val (.ref b9), .val (.ref b11), .val (.int (1 : Int32))] [(.int (1 : Int32)), (.int (own_b (¬ (m2 < l1) ∧ ¬ (m1 < l2))))]))
    have hc119_26 : (own_b (¬ (m2 < l1) ∧ ¬ (m1 < l2))) = (1 : Int32) := own_b1 (Classical.not_not.mp (mt fo.mpr hc100_16))
    refine own_st (fun zt zk => XS.icmpNo X22.here hx rfl (hb hby at_119) rfl (teq hc119_26).2 zk) ?_
    show own_G p e below s _ _ _ (T22.setTop (mkF m 122 #[.val (.int a), .val (.int b), .val (.int c1), .val (.int d), .val (.int (own_pos a)), .val (.int (own_pos b)), .val (.int (own_pos c1)), .val (.int (own_pos d)), .val (.int l1), .val (.int m1), .val (.int l2), .val (.int m2), .val (.ref b9), .val (.ref b11), .val (.int (1 : Int32))] []))
    refine own_st (fun zt zk => XS.iconst X22.here hx rfl (hb hby at_122) zk) ?_
    show own_G p e below s _ _ _ (T22.setTop (mkF m 123 #[.val (.int a), .val (.int b), .val (.int c1), .val (.int d), .val (.int (own_pos a)), .val (.int (own_pos b)), .val (.int (own_pos c1)), .val (.int (own_pos d)), .val (.int l1), .val (.int m1), .val (.int l2), .val (.int m2), .val (.ref b9), .val (.ref b11), .val (.int (1 : Int32))] [(.int (1 : Int32))]))
    refine own_st (fun zt zk => XS.goto X22.here hx rfl (pc0 := 123) (pc' := 127) rfl (hb hby at_123) (by decide) (by decide) zk) ?_
    show own_G p e below s _ _ _ (T22.setTop (mkF m 127 #[.val (.int a), .val (.int b), .val (.int c1), .val (.int d), .val (.int (own_pos a)), .val (.int (own_pos b)), .val (.int (own_pos c1)), .val (.int (own_pos d)), .val (.int l1), .val (.int m1), .val (.int l2), .val (.int m2), .val (.ref b9), .val (.ref b11), .val (.int (1 : Int32))] [(.int (1 : Int32))]))
    refine own_retZ X22 hx hlk hret (by decide) (hb hby at_127) (by decide) (by decide) ?_
    show Q_own_law Z a b c1 d h0 n0 (some (.int (1 : Int32))) T22.heap _
    rw [e22]
    exact ⟨rfl, N22⟩
set_option maxRecDepth 65536 in
set_option maxHeartbeats 40000000 in
theorem comes_1 {Post : Tables → Env → Array Value → State → Outcome → State → Prop} (hpost : ∀ tb e args s v u, (limb_1_1.after args s (.returned v) u = true ∧ limb_1_2.after args s (.returned v) u = true ∧ True) → FrameEnd s (.returned v) u (Jvm.fieldLocs frame_1_writes args s ++ Jvm.arrayLocs frame_1_arrays args s ++ Jvm.staticLocs frame_1_statics s) 16 128 → Post tb e args s (.returned v) u) :
    ArmFor flags0 classFile x code maxLocals ret World_1 tables_1 room_1 Calls_1 rest_1 Pre_1 Post := by
  intro l hfl _ _ p e ha hc hk s m args below hf hA hF happ hP
  obtain ⟨hcalls, hrest, hpre⟩ := hP
  obtain ⟨-, -, -, hnamed, -, -, -, hat⟩ := (Spec.applies_iff hf).mp happ
  obtain ⟨hg, hn⟩ := and_e (Cond.before_iff.mp (show (Jvm.Cond.and given_1 narrow_1).before args s = true from hpre))
  obtain ⟨k1, k2⟩ := and_e hg
  obtain ⟨j0, i0⟩ := and_e k2
  obtain ⟨j1, i1⟩ := and_e i0
  obtain ⟨j2, i2⟩ := and_e i1
  obtain ⟨w0, w1, w2, w3, rfl⟩ : ∃ w0 w1 w2 w3 : Value, args = #[w0, w1, w2, w3] := by
    have hs : args.size = 4 := by simpa [Cond.value, given_1] using k1
    obtain ⟨L⟩ := args
    match L, hs with
    | [w0, w1, w2, w3], _ => exact ⟨w0, w1, w2, w3, rfl⟩
  have hw := fun d (hd : d ∈ tables_1) => atoms_spec (ws := Jvm.Cond.code x code maxLocals ret :: tables_1) hat d (List.mem_cons_of_mem _ hd)
  have hfit : Fit s := fun {y c} hc i hi => by
    obtain ⟨ha, rfl⟩ := Array.getElem?_eq_some_iff.mp hc
    have q := List.all_eq_true.mp ((Array.all_eq_true_iff_forall_mem.mp hF) _ (Array.getElem_mem ha)) i (List.mem_range.mpr hi)
    simpa [Array.getElem?_eq_getElem hi] using q
  obtain ⟨y0, z0⟩ := is_v j0
  obtain rfl : w0 = (.int y0) := Option.some.inj z0
  obtain ⟨y1, z1⟩ := is_v j1
  obtain rfl : w1 = (.int y1) := Option.some.inj z1
  obtain ⟨y2, z2⟩ := is_v j2
  obtain rfl : w2 = (.int y2) := Option.some.inj z2
  obtain ⟨y3, z3⟩ := is_v i2
  obtain rfl : w3 = (.int y3) := Option.some.inj z3
  obtain ⟨n, o, h1, h2, h3, _, L, rfl, ⟨rfl, N⟩, hq⟩ := own_law l s _ hw tables_1 y0 y1 y2 y3 s.heap s.heap.size (Nat.le_refl _)  p e ha hc hk s m _ below hf ((Spec.applies_iff_loose hf).mp happ).1 ⟨rfl, State.Warmed39.refl s, rfl⟩ trivial
  refine ⟨n, _, h1, h2, h3, hpost _ _ _ _ _ _ ⟨Cond.after_iff.mpr rfl, Cond.after_iff.mpr (eq_i res_at (Term.int_eval (1)) rfl), trivial⟩ ⟨hq.1, hq.2.1, (hq.2.2.sift fun y hy => Or.inr (N y hy)).mono (by decide) (by decide)⟩⟩
theorem main_1_1 : Claimed_1_1 := comes_1 fun _ _ _ _ _ _ h hF => ⟨h.1, hF⟩
theorem main_1_2 : Claimed_1_2 := comes_1 fun _ _ _ _ _ _ h hF => ⟨h.2.1, hF⟩
end Jvm.Pilot.@@N@@
namespace Jvm.Pilot.@@N@@
open Jvm Jvm.ClassFile Sem Op Lib Jvm.Free Jvm.Stand Jvm.Pilot.@@N@@.Jvm.D
/-! MADE BY PROGRAM (witnessworld.py) out of the Statement's table words and the real class files: 11 classes; the members and pool entries that the words name. The judged class is class 1, her method 2. -/
namespace start1
open Jvm.ClassFile
def u (s : String) : CpInfo := .utf8 (stringToUtf16 s)
/-- a pool by its gaps: so many unusable entries, then the entry; so many at the end -/
def gap : Nat → List CpInfo → List CpInfo
  | 0, r => r
  | n + 1, r => .unusable :: gap n r
def poolList (es : List (Nat × CpInfo)) (last : Nat) : List CpInfo := es.foldr (fun e r => gap e.1 (e.2 :: r)) (gap last [])
def pool (es : List (Nat × CpInfo)) (last : Nat) : Array CpInfo := ⟨poolList es last⟩
def fileOf (pool : Array CpInfo) (this : Nat) (attrs : Array Attribute := #[]) (ms : Array MethodInfo := #[]) (fl : Nat := 33) (sup : Nat := 0) (ifs : Array Nat := #[]) (fds : Array FieldInfo := #[]) : ClassFile where
  minorVersion := 0
  majorVersion := 65
  constantPool := pool
  accessFlags := fl
  thisClass := this
  superClass := sup
  interfaces := ifs
  fields := fds
  methods := ms
  attributes := attrs
def plain (name : String) (sup : Option ClassId) : Class where
  name := name
  kind := .ordinary
  loader := none
  accessFlags := 33
  super := sup
  interfaces := #[]
  cf := none
  fields := #[]
  methods := #[]
  instanceTypes := #[]
  staticTypes := #[]
  resolved := #[]
  callSites := []
  init := .initialized
  statics := none
  mirror := none

def pool0 : Array CpInfo := pool [(5, u "<init>"), (0, u "()V"), (1, .class_ 10), (1, u "java/lang/Object")] 113

def k0c0 : Code := { maxStack := 0, maxLocals := 1, code := object_method_1_code, exceptionTable := #[], attributes := #[] }
def k0m0 : Method := { name := "<init>", desc := "()V", sig := { parameters := [], returnType := none }, accessFlags := 1, code := some k0c0 }
/-- java/lang/Object -/
def k0 : Class := { plain "java/lang/Object" none with
  accessFlags := 33
  interfaces := #[]
  cf := some (fileOf pool0 8 #[] #[{ accessFlags := 1, nameIndex := 5, descriptorIndex := 6, attributes := #[] }] 33 0 #[] #[])
  fields := #[]
  methods := #[k0m0]
  instanceTypes := #[]
  staticTypes := #[]
  resolved := Array.replicate 124 none
  statics := none }

def pool1 : Array CpInfo := pool [(2, .class_ 4), (1, u "java/lang/Object"), (0, u "<init>"), (0, u "()V"), (0, .integer 2147483647), (0, .methodref 9 10), (0, .class_ 11), (0, .nameAndType 12 13), (0, u "com/example/outfall/outfall/rules/RangeOverlapsPinLaw"), (0, u "pos"), (0, u "(I)I"), (0, .methodref 15 16), (0, .class_ 17), (0, .nameAndType 18 19), (0, u "java/lang/Math"), (0, u "min"), (0, u "(II)I"), (0, .methodref 15 21), (0, .nameAndType 22 19), (0, u "max"), (0, .class_ 24), (0, u "com/example/outfall/outfall/rules/PumpingSchedule$Range"), (0, .methodref 23 26), (0, .nameAndType 5 27), (0, u "(II)V"), (0, .methodref 23 29), (0, .nameAndType 30 31), (0, u "overlaps"), (0, u "(Lcom/example/outfall/outfall/rules/PumpingSchedule$Range;)Z"), (3, u "law"), (0, u "(IIII)Z")] 6

def k1m0 : Method := { name := "<init>", desc := "()V", sig := { parameters := [], returnType := none }, accessFlags := 2, code := none }
def k1c1 : Code := { maxStack := 2, maxLocals := 2, code := method_2_code, exceptionTable := #[], attributes := #[] }
def k1m1 : Method := { name := "pos", desc := "(I)I", sig := { parameters := [.int], returnType := some .int }, accessFlags := 10, code := some k1c1 }
def k1c2 : Code := { maxStack := 4, maxLocals := 15, code := code, exceptionTable := #[], attributes := #[] }
def k1m2 : Method := { name := "law", desc := "(IIII)Z", sig := { parameters := [.int, .int, .int, .int], returnType := some .boolean }, accessFlags := 9, code := some k1c2 }
/-- com/example/outfall/outfall/rules/RangeOverlapsPinLaw -/
def k1 : Class := { plain "com/example/outfall/outfall/rules/RangeOverlapsPinLaw" (some 0) with
  accessFlags := 49
  interfaces := #[]
  cf := some (fileOf pool1 9 #[] #[{ accessFlags := 2, nameIndex := 5, descriptorIndex := 6, attributes := #[] }, { accessFlags := 10, nameIndex := 12, descriptorIndex := 13, attributes := #[] }, { accessFlags := 9, nameIndex := 35, descriptorIndex := 36, attributes := #[] }] 49 2 #[] #[])
  fields := #[]
  methods := #[k1m0, k1m1, k1m2]
  instanceTypes := #[]
  staticTypes := #[]
  resolved := Array.replicate 43 none
  statics := none }

def pool2 : Array CpInfo := pool [(1, .class_ 2), (0, u "java/lang/Math"), (1, .class_ 6), (1, u "java/lang/Object"), (0, u "<init>"), (0, u "()V"), (89, .class_ 100), (1, u "java/lang/Math$RandomNumberGeneratorHolder"), (71, u "negativeZeroFloatBits"), (0, u "J"), (2, u "negativeZeroDoubleBits"), (21, u "max"), (2, u "min"), (43, u "$assertionsDisabled"), (0, u "Z"), (88, u "(II)I"), (2, u "twoToTheDoubleScaleDown"), (0, u "D"), (4, u "twoToTheDoubleScaleUp"), (9, u "E"), (3, u "PI"), (2, u "TAU"), (2, u "DEGREES_TO_RADIANS"), (0, u "RADIANS_TO_DEGREES")] 94

def k2m0 : Method := { name := "<init>", desc := "()V", sig := { parameters := [], returnType := none }, accessFlags := 2, code := none }
def k2c1 : Code := { maxStack := 2, maxLocals := 2, code := jdk_29_method_65_code, exceptionTable := #[], attributes := #[] }
def k2m1 : Method := { name := "max", desc := "(II)I", sig := { parameters := [.int, .int], returnType := some .int }, accessFlags := 9, code := some k2c1 }
def k2c2 : Code := { maxStack := 2, maxLocals := 2, code := jdk_29_method_69_code, exceptionTable := #[], attributes := #[] }
def k2m2 : Method := { name := "min", desc := "(II)I", sig := { parameters := [.int, .int], returnType := some .int }, accessFlags := 9, code := some k2c2 }
/-- java/lang/Math -/
def k2 : Class := { plain "java/lang/Math" (some 0) with
  accessFlags := 49
  interfaces := #[]
  cf := some (fileOf pool2 1 #[.nestMembers #[98]] #[{ accessFlags := 2, nameIndex := 7, descriptorIndex := 8, attributes := #[] }, { accessFlags := 9, nameIndex := 198, descriptorIndex := 335, attributes := #[] }, { accessFlags := 9, nameIndex := 201, descriptorIndex := 335, attributes := #[] }] 49 4 #[] #[{ accessFlags := 25, nameIndex := 354, descriptorIndex := 339, attributes := #[] }, { accessFlags := 25, nameIndex := 358, descriptorIndex := 339, attributes := #[] }, { accessFlags := 25, nameIndex := 361, descriptorIndex := 339, attributes := #[] }, { accessFlags := 26, nameIndex := 364, descriptorIndex := 339, attributes := #[] }, { accessFlags := 26, nameIndex := 365, descriptorIndex := 339, attributes := #[] }, { accessFlags := 26, nameIndex := 172, descriptorIndex := 173, attributes := #[] }, { accessFlags := 26, nameIndex := 176, descriptorIndex := 173, attributes := #[] }, { accessFlags := 8, nameIndex := 344, descriptorIndex := 339, attributes := #[] }, { accessFlags := 8, nameIndex := 338, descriptorIndex := 339, attributes := #[] }, { accessFlags := 4120, nameIndex := 245, descriptorIndex := 246, attributes := #[] }])
  fields := #[{ name := "E", type := .double, accessFlags := 25, slot := 0, constantValue := 0 }, { name := "PI", type := .double, accessFlags := 25, slot := 1, constantValue := 0 }, { name := "TAU", type := .double, accessFlags := 25, slot := 2, constantValue := 0 }, { name := "DEGREES_TO_RADIANS", type := .double, accessFlags := 26, slot := 3, constantValue := 0 }, { name := "RADIANS_TO_DEGREES", type := .double, accessFlags := 26, slot := 4, constantValue := 0 }, { name := "negativeZeroFloatBits", type := .long, accessFlags := 26, slot := 5, constantValue := 0 }, { name := "negativeZeroDoubleBits", type := .long, accessFlags := 26, slot := 6, constantValue := 0 }, { name := "twoToTheDoubleScaleUp", type := .double, accessFlags := 8, slot := 7, constantValue := 0 }, { name := "twoToTheDoubleScaleDown", type := .double, accessFlags := 8, slot := 8, constantValue := 0 }, { name := "$assertionsDisabled", type := .boolean, accessFlags := 4120, slot := 9, constantValue := 0 }]
  methods := #[k2m0, k2m1, k2m2]
  instanceTypes := #[]
  staticTypes := #[.double, .double, .double, .double, .double, .long, .long, .double, .double, .boolean]
  resolved := Array.replicate 460 none
  statics := none }

def pool3 : Array CpInfo := pool [(1, .methodref 2 3), (0, .class_ 4), (0, .nameAndType 5 6), (0, u "java/lang/Object"), (0, u "<init>"), (0, u "()V"), (0, .class_ 8), (0, u "java/lang/Record")] 13

def k3c0 : Code := { maxStack := 1, maxLocals := 1, code := jdk_30_method_1_code, exceptionTable := #[], attributes := #[] }
def k3m0 : Method := { name := "<init>", desc := "()V", sig := { parameters := [], returnType := none }, accessFlags := 4, code := some k3c0 }
/-- java/lang/Record -/
def k3 : Class := { plain "java/lang/Record" (some 0) with
  accessFlags := 1057
  interfaces := #[]
  cf := some (fileOf pool3 7 #[] #[{ accessFlags := 4, nameIndex := 5, descriptorIndex := 6, attributes := #[] }] 1057 2 #[] #[])
  fields := #[]
  methods := #[k3m0]
  instanceTypes := #[]
  staticTypes := #[]
  resolved := Array.replicate 22 none
  statics := none }

def pool4 : Array CpInfo := pool [(1, .methodref 2 3), (0, .class_ 4), (0, .nameAndType 5 6), (0, u "java/lang/Record"), (0, u "<init>"), (0, u "()V"), (9, .fieldref 17 18), (0, .class_ 19), (0, .nameAndType 20 21), (0, u "com/example/outfall/outfall/rules/PumpingSchedule$Range"), (0, u "least"), (0, u "I"), (0, .fieldref 17 23), (0, .nameAndType 24 21), (0, u "most"), (17, u "(II)V"), (2, u "ANY"), (0, u "Lcom/example/outfall/outfall/rules/PumpingSchedule$Range;"), (6, u "overlaps"), (0, u "(Lcom/example/outfall/outfall/rules/PumpingSchedule$Range;)Z"), (7, .class_ 63), (0, u "com/example/outfall/outfall/rules/PumpingSchedule")] 28

def k4c0 : Code := { maxStack := 4, maxLocals := 3, code := prog_38_method_1_code, exceptionTable := #[], attributes := #[] }
def k4m0 : Method := { name := "<init>", desc := "(II)V", sig := { parameters := [.int, .int], returnType := none }, accessFlags := 1, code := some k4c0 }
def k4c1 : Code := { maxStack := 2, maxLocals := 2, code := prog_38_method_3_code, exceptionTable := #[], attributes := #[] }
def k4m1 : Method := { name := "overlaps", desc := "(Lcom/example/outfall/outfall/rules/PumpingSchedule$Range;)Z", sig := { parameters := [(.object "com/example/outfall/outfall/rules/PumpingSchedule$Range")], returnType := some .boolean }, accessFlags := 0, code := some k4c1 }
/-- com/example/outfall/outfall/rules/PumpingSchedule$Range -/
def k4 : Class := { plain "com/example/outfall/outfall/rules/PumpingSchedule$Range" (some 3) with
  accessFlags := 49
  interfaces := #[]
  cf := some (fileOf pool4 17 #[.nestHost 62] #[{ accessFlags := 1, nameIndex := 5, descriptorIndex := 42, attributes := #[] }, { accessFlags := 0, nameIndex := 53, descriptorIndex := 54, attributes := #[] }] 49 2 #[] #[{ accessFlags := 18, nameIndex := 20, descriptorIndex := 21, attributes := #[] }, { accessFlags := 18, nameIndex := 24, descriptorIndex := 21, attributes := #[] }, { accessFlags := 25, nameIndex := 45, descriptorIndex := 46, attributes := #[] }])
  fields := #[{ name := "least", type := .int, accessFlags := 18, slot := 0, constantValue := 0 }, { name := "most", type := .int, accessFlags := 18, slot := 1, constantValue := 0 }, { name := "ANY", type := (.object "com/example/outfall/outfall/rules/PumpingSchedule$Range"), accessFlags := 25, slot := 0, constantValue := 0 }]
  methods := #[k4m0, k4m1]
  instanceTypes := #[.int, .int]
  staticTypes := #[(.object "com/example/outfall/outfall/rules/PumpingSchedule$Range")]
  resolved := Array.replicate 92 none
  statics := none }

def pool5 : Array CpInfo := pool [(1, u "java/lang/Cloneable"), (0, .class_ 1), (0, u "java/lang/Object"), (0, .class_ 3)] 3

/-- java/lang/Cloneable -/
def k5 : Class := { plain "java/lang/Cloneable" (some 0) with
  accessFlags := 1537
  interfaces := #[]
  cf := some (fileOf pool5 2 #[] #[] 1537 4 #[] #[])
  fields := #[]
  methods := #[]
  instanceTypes := #[]
  staticTypes := #[]
  resolved := Array.replicate 8 none
  statics := none }

def pool6 : Array CpInfo := pool [(1, u "java/io/Serializable"), (0, .class_ 1), (0, u "java/lang/Object"), (0, .class_ 3)] 3

/-- java/io/Serializable -/
def k6 : Class := { plain "java/io/Serializable" (some 0) with
  accessFlags := 1537
  interfaces := #[]
  cf := some (fileOf pool6 2 #[] #[] 1537 4 #[] #[])
  fields := #[]
  methods := #[]
  instanceTypes := #[]
  staticTypes := #[]
  resolved := Array.replicate 8 none
  statics := none }

/-- the primitive byte -/
def k7 : Class := { plain "byte" none with kind := .primitive 'B', accessFlags := 0x411 }
/-- [B -/
def k8 : Class := { plain "[B" (some 0) with kind := .array 7 .byte, interfaces := #[5, 6], accessFlags := 1041 }

/-- the primitive int -/
def k9 : Class := { plain "int" none with kind := .primitive 'I', accessFlags := 0x411 }
/-- [I -/
def k10 : Class := { plain "[I" (some 0) with kind := .array 9 .int, interfaces := #[5, 6], accessFlags := 1041 }

def heap : Heap := #[]
def classes : Array Class := #[k0, k1, k2, k3, k4, k5, k6, k7, k8, k9, k10]
def interned : List (Array UInt16 × Addr) := []
def slotsUsed : Nat := 0
def theMethod : MethodId := ⟨1, 2⟩
def args0 : Array Value := #[.int 5, .int 7, .int 9, .int 4]
def aboutOver (below : List Frame) : State where
  vm := { classes := classes, interned := interned.toArray }
  heap := heap
  slotsUsed := slotsUsed
  threads := #[{ frames := .invoking theMethod args0 :: below }]
def below0 : List Frame := [.native { method := ⟨0, 0⟩, args := #[] }]
def about1 : State := aboutOver below0
def p0 : Program := .bare "" "" ""
def e0 : Env := launch0.env 0 0 0
theorem w_frames : about1.frames = Frame.invoking theMethod args0 :: below0 := rfl
set_option maxRecDepth 65536 in
theorem w_args : argsFit about1.vm theMethod args0 = true := by decide +kernel
set_option maxRecDepth 65536 in
theorem w_heap : heapFits about1 = true := by decide +kernel
set_option maxRecDepth 65536 in
theorem w_runnable : about1.curStatus? = some .runnable := by decide +kernel
set_option maxRecDepth 65536 in
theorem w_alone : about1.alone = true := by decide +kernel
set_option maxRecDepth 65536 in
theorem w_named : about1.methodNamed? x = some theMethod := by decide +kernel
set_option maxRecDepth 65536 in
theorem w_hears : about1.hears theMethod below0 = true := by decide +kernel
set_option maxRecDepth 65536 in
theorem w_ripe : about1.ripe theMethod args0 below0 = true := by decide +kernel
theorem w_running : about1.status = .running := rfl
set_option maxRecDepth 65536 in
theorem w_room : about1.hasRoom e0.platform room_1 = true :=
  launch0.hasRoom_least _ room_1 (by decide +kernel) (by decide +kernel) (by decide +kernel) (by decide +kernel) (by decide +kernel) (by decide +kernel)
theorem allAtoms_all (ts : List Jvm.Cond) (a : Array Jvm.Value) (st : Jvm.State) : (allAtoms ts).before a st = ts.all (fun c => c.before a st) := by
  induction ts with
  | nil => rfl
  | cons c t ih =>
    show (Jvm.Cond.and c (allAtoms t)).before a st = _
    rw [Jvm.Cond.before_and, ih, List.all_cons]
def words1 : List Jvm.Cond := Jvm.Cond.code x code maxLocals ret :: tables_1
/-- a 'code' word, met by the world's own term for the bytes: nothing is compared byte by byte -/
theorem code_word {y : MethodName} {bytes : ByteArray} {mx : Nat} {rt : Option FieldType} {a : Array Value} {s : State} {m : MethodId} {meth : Method} {c : Code} (h1 : s.methodNamed? y = some m) (h2 : s.vm.method? m = some meth) (h3 : meth.code = some c) (h4 : c.code = bytes)
    (h5 : (c.maxLocals == mx && c.exceptionTable.isEmpty && decide (c.maxStack ≤ mostOperands) && decide (meth.sig.returnType = rt) && !meth.locks && decide (parseMethodDescriptor y.desc = some meth.sig)) = true) : (Jvm.Cond.code y bytes mx rt).before a s = true := by
  simp only [Bool.and_eq_true, beq_iff_eq, Bool.not_eq_true', decide_eq_true_eq] at h5
  obtain ⟨⟨⟨⟨⟨g1, g2⟩, g3⟩, g4⟩, g5⟩, g6⟩ := h5
  simp [Cond.before, Cond.holds, Cond.value, h1, h2, h3, h4, g1, g2, g3, g4, g5, g6]
def isCode : Jvm.Cond → Bool
  | .code _ _ _ _ => true
  | _ => false
theorem all_split {L : List Jvm.Cond} {P : Jvm.Cond → Bool} (h1 : L.all (fun c => isCode c || P c) = true) (h2 : ∀ c ∈ L.filter isCode, P c = true) : L.all P = true := by
  refine List.all_eq_true.mpr fun c hc => ?_
  have h := List.all_eq_true.mp h1 c hc
  rcases Bool.eq_false_or_eq_true (isCode c) with hi | hi
  · exact h2 c (List.mem_filter.mpr ⟨hc, hi⟩)
  · simpa [hi] using h
set_option maxRecDepth 65536 in
theorem w_c0 : (Jvm.Cond.code x code maxLocals ret).before args0 about1 = true := code_word (m := ⟨1, 2⟩) (meth := k1m2) (c := k1c2) (by decide +kernel) rfl rfl rfl (by decide +kernel)
set_option maxRecDepth 65536 in
theorem w_c1 : (Jvm.Cond.code ({ cls := "com/example/outfall/outfall/rules/RangeOverlapsPinLaw", name := "pos", desc := "(I)I" } : Jvm.MethodName) method_2_code (2 : Nat) (Option.some Jvm.ClassFile.FieldType.int)).before args0 about1 = true := code_word (m := ⟨1, 1⟩) (meth := k1m1) (c := k1c1) (by decide +kernel) rfl rfl rfl (by decide +kernel)
set_option maxRecDepth 65536 in
theorem w_c2 : (Jvm.Cond.code ({ cls := "java/lang/Math", name := "min", desc := "(II)I" } : Jvm.MethodName) jdk_29_method_69_code (2 : Nat) (Option.some Jvm.ClassFile.FieldType.int)).before args0 about1 = true := code_word (m := ⟨2, 2⟩) (meth := k2m2) (c := k2c2) (by decide +kernel) rfl rfl rfl (by decide +kernel)
set_option maxRecDepth 65536 in
theorem w_c3 : (Jvm.Cond.code ({ cls := "java/lang/Math", name := "max", desc := "(II)I" } : Jvm.MethodName) jdk_29_method_65_code (2 : Nat) (Option.some Jvm.ClassFile.FieldType.int)).before args0 about1 = true := code_word (m := ⟨2, 1⟩) (meth := k2m1) (c := k2c1) (by decide +kernel) rfl rfl rfl (by decide +kernel)
set_option maxRecDepth 65536 in
theorem w_c4 : (Jvm.Cond.code ({ cls := "com/example/outfall/outfall/rules/PumpingSchedule$Range", name := "<init>", desc := "(II)V" } : Jvm.MethodName) prog_38_method_1_code (3 : Nat) (Option.none : Option Jvm.ClassFile.FieldType)).before args0 about1 = true := code_word (m := ⟨4, 0⟩) (meth := k4m0) (c := k4c0) (by decide +kernel) rfl rfl rfl (by decide +kernel)
set_option maxRecDepth 65536 in
theorem w_c5 : (Jvm.Cond.code ({ cls := "java/lang/Record", name := "<init>", desc := "()V" } : Jvm.MethodName) jdk_30_method_1_code (1 : Nat) (Option.none : Option Jvm.ClassFile.FieldType)).before args0 about1 = true := code_word (m := ⟨3, 0⟩) (meth := k3m0) (c := k3c0) (by decide +kernel) rfl rfl rfl (by decide +kernel)
set_option maxRecDepth 65536 in
theorem w_c6 : (Jvm.Cond.code ({ cls := "java/lang/Object", name := "<init>", desc := "()V" } : Jvm.MethodName) object_method_1_code (1 : Nat) (Option.none : Option Jvm.ClassFile.FieldType)).before args0 about1 = true := code_word (m := ⟨0, 0⟩) (meth := k0m0) (c := k0c0) (by decide +kernel) rfl rfl rfl (by decide +kernel)
set_option maxRecDepth 65536 in
theorem w_c7 : (Jvm.Cond.code ({ cls := "com/example/outfall/outfall/rules/PumpingSchedule$Range", name := "overlaps", desc := "(Lcom/example/outfall/outfall/rules/PumpingSchedule$Range;)Z" } : Jvm.MethodName) prog_38_method_3_code (2 : Nat) (Option.some Jvm.ClassFile.FieldType.boolean)).before args0 about1 = true := code_word (m := ⟨4, 1⟩) (meth := k4m1) (c := k4c1) (by decide +kernel) rfl rfl rfl (by decide +kernel)
def codes1 : List Jvm.Cond := [Jvm.Cond.code x code maxLocals ret, Jvm.Cond.code ({ cls := "com/example/outfall/outfall/rules/RangeOverlapsPinLaw", name := "pos", desc := "(I)I" } : Jvm.MethodName) method_2_code (2 : Nat) (Option.some Jvm.ClassFile.FieldType.int), Jvm.Cond.code ({ cls := "java/lang/Math", name := "min", desc := "(II)I" } : Jvm.MethodName) jdk_29_method_69_code (2 : Nat) (Option.some Jvm.ClassFile.FieldType.int), Jvm.Cond.code ({ cls := "java/lang/Math", name := "max", desc := "(II)I" } : Jvm.MethodName) jdk_29_method_65_code (2 : Nat) (Option.some Jvm.ClassFile.FieldType.int), Jvm.Cond.code ({ cls := "com/example/outfall/outfall/rules/PumpingSchedule$Range", name := "<init>", desc := "(II)V" } : Jvm.MethodName) prog_38_method_1_code (3 : Nat) (Option.none : Option Jvm.ClassFile.FieldType), Jvm.Cond.code ({ cls := "java/lang/Record", name := "<init>", desc := "()V" } : Jvm.MethodName) jdk_30_method_1_code (1 : Nat) (Option.none : Option Jvm.ClassFile.FieldType), Jvm.Cond.code ({ cls := "java/lang/Object", name := "<init>", desc := "()V" } : Jvm.MethodName) object_method_1_code (1 : Nat) (Option.none : Option Jvm.ClassFile.FieldType), Jvm.Cond.code ({ cls := "com/example/outfall/outfall/rules/PumpingSchedule$Range", name := "overlaps", desc := "(Lcom/example/outfall/outfall/rules/PumpingSchedule$Range;)Z" } : Jvm.MethodName) prog_38_method_3_code (2 : Nat) (Option.some Jvm.ClassFile.FieldType.boolean)]
set_option maxRecDepth 65536 in
theorem codes_eq : words1.filter isCode = codes1 := rfl
theorem w_codes : ∀ c ∈ words1.filter isCode, c.before args0 about1 = true := by
  rw [codes_eq]
  intro c hc
  simp only [codes1, List.mem_cons, List.not_mem_nil, or_false] at hc
  rcases hc with rfl | rfl | rfl | rfl | rfl | rfl | rfl | rfl
  · exact w_c0
  · exact w_c1
  · exact w_c2
  · exact w_c3
  · exact w_c4
  · exact w_c5
  · exact w_c6
  · exact w_c7
set_option maxRecDepth 65536 in
theorem w_t1 : (words1.take 24).all (fun c => isCode c || c.before args0 about1) = true := by decide +kernel
set_option maxRecDepth 65536 in
theorem w_t2 : (words1.drop 24).all (fun c => isCode c || c.before args0 about1) = true := by decide +kernel
theorem w_tables : (allAtoms (Jvm.Cond.code x code maxLocals ret :: tables_1)).before args0 about1 = true := by
  rw [allAtoms_all]
  show words1.all (fun c => c.before args0 about1) = true
  refine all_split ?_ w_codes
  rw [← List.take_append_drop 24 words1, List.all_append, w_t1, w_t2]
  rfl
set_option maxRecDepth 65536 in
theorem w_case : (Jvm.Cond.and given_1 narrow_1).before args0 about1 = true := by decide +kernel
theorem w_applies : (headSpec (Jvm.Cond.code x code maxLocals ret :: tables_1) room_1).applies x e0.platform about1 = true :=
  (Spec.applies_iff w_frames).mpr ⟨w_running, w_runnable, w_alone, w_named, w_hears, w_ripe, w_room, w_tables⟩
theorem atStart : AtStart classFile x code maxLocals ret World_1 tables_1 room_1 Calls_1 rest_1 Pre_1 launch0 p0 e0 about1 theMethod args0 below0 :=
  ⟨lists_1, trivial, launch0.admits_env _ _ _, launch0.least_env, fairChoices_fair.cas, fairChoices_fair.clock, w_frames, w_args, w_heap, w_applies, trivial, trivial, w_case⟩
end start1
theorem witness_1 : WitnessClaimed_1 := ⟨start1.p0, start1.e0, start1.about1, start1.theMethod, start1.args0, start1.below0, start1.atStart⟩
end Jvm.Pilot.@@N@@
