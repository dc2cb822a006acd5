import JvmDerived
import JvmDerived.Pilot.@@N@@Statement
import JvmDerived.Pilot.@@N@@Code
set_option linter.unusedVariables false
set_option linter.unusedSimpArgs false
namespace Jvm.Pilot.@@N@@
open Jvm Jvm.ClassFile Sem Op Lib Jvm.Free Jvm.Stand Jvm.LawKit Jvm.RoadKit Bundle Jvm.Pilot.@@N@@.Jvm.D
section OwnKit
variable {p : Program} {l : Launch} {e : Env} {R : Room} {s : State} {m : MethodId} {args : Array Value} {below : List Frame} {meth : Method} {c : Code} {T : State} {locs : List Loc} {cells slots : Nat} {Z : State} {a0 : Array Value} {h : Heap}
/-- the walk from A ends well: it returns, what it returns and leaves is as Q says -/
def own_G (p : Program) (e : Env) (below : List Frame) (s : State) (Q : Option Value → Heap → List Loc → Prop) (ce sl : Nat) (A : State) : Prop :=
  ∃ s₂ o, Steps p.tables e below A s₂ ∧ s₂.status = .running ∧ Ended s₂ below o ∧ ∃ v L, o = .returned v ∧ Q v s₂.heap L ∧ FrameEnd s o s₂ L ce sl
theorem own_st {Q : Option Value → Heap → List Loc → Prop} {ce sl : Nat} {A B : State} (k : ∀ t, Steps p.tables e below B t → Steps p.tables e below A t) (g : own_G p e below s Q ce sl B) : own_G p e below s Q ce sl A := by
  obtain ⟨s₂, o, h1, h2⟩ := g
  exact ⟨s₂, o, k _ h1, h2⟩
theorem own_ret {Q : Option Value → Heap → List Loc → Prop} {ce sl : Nat} (X : Stand p l e R s m args below meth c T locs cells slots) (hx : p.tables.exec = Jvm.exec) (hlk : meth.locks = false) {pc : Nat} {Ls : Array Slot} {w : Value} {t : FieldType} {i : Instr} {rest : List Value} (hret : meth.sig.returnType = some t) (hn : narrow t w = w)
    (hi : (i = .ireturn ∧ (t = .int ∨ t = .boolean ∨ t = .byte ∨ t = .char ∨ t = .short) ∧ ∃ z, w = .int z) ∨ (i = .lreturn ∧ t = .long ∧ ∃ z, w = .long z) ∨ (i = .dreturn ∧ t = .double ∧ ∃ z, w = .double z) ∨ (i = .freturn ∧ t = .float ∧ ∃ z, w = .float z) ∨ (i = .areturn ∧ t.isReference = true ∧ w.isRef = true))
    (hd : decode c.code pc = .ok (i, 1)) (hc : cells ≤ ce) (hs : slots ≤ sl) (hQ : Q (some w) T.heap locs) : own_G p e below s Q ce sl (T.setTop (mkF m pc Ls (w :: rest))) := by
  obtain ⟨fs, hr, hrun, hended, hW, hsame⟩ := X.leave (v := some w) (fun q => by rw [hret] at q; cases q) hlk
  exact ⟨_, _, retOut X hx hret hn hi hd hr, hrun, hended, _, _, rfl, hQ, ⟨_, rfl⟩, hW, hsame.mono hc hs⟩
theorem own_retI {Q : Option Value → Heap → List Loc → Prop} {ce sl : Nat} (X : Stand p l e R s m args below meth c T locs cells slots) (hx : p.tables.exec = Jvm.exec) (hlk : meth.locks = false) {pc : Nat} {Ls : Array Slot} {z : Int32} {rest : List Value} (hret : meth.sig.returnType = some .int)
    (hd : decode c.code pc = .ok (.ireturn, 1)) (hc : cells ≤ ce) (hs : slots ≤ sl) (hQ : Q (some (.int z)) T.heap locs) : own_G p e below s Q ce sl (T.setTop (mkF m pc Ls (.int z :: rest))) :=
  own_ret X hx hlk hret rfl (Or.inl ⟨rfl, Or.inl rfl, z, rfl⟩) hd hc hs hQ
theorem own_retZ {Q : Option Value → Heap → List Loc → Prop} {ce sl : Nat} (X : Stand p l e R s m args below meth c T locs cells slots) (hx : p.tables.exec = Jvm.exec) (hlk : meth.locks = false) {pc : Nat} {Ls : Array Slot} {z : Int32} {rest : List Value} (hret : meth.sig.returnType = some .boolean) (hn : z = 0 ∨ z = 1)
    (hd : decode c.code pc = .ok (.ireturn, 1)) (hc : cells ≤ ce) (hs : slots ≤ sl) (hQ : Q (some (.int z)) T.heap locs) : own_G p e below s Q ce sl (T.setTop (mkF m pc Ls (.int z :: rest))) :=
  own_ret X hx hlk hret (by rcases hn with rfl | rfl <;> rfl) (Or.inl ⟨rfl, Or.inr (Or.inl rfl), z, rfl⟩) hd hc hs hQ
theorem own_retJ {Q : Option Value → Heap → List Loc → Prop} {ce sl : Nat} (X : Stand p l e R s m args below meth c T locs cells slots) (hx : p.tables.exec = Jvm.exec) (hlk : meth.locks = false) {pc : Nat} {Ls : Array Slot} {z : Int64} {rest : List Value} (hret : meth.sig.returnType = some .long)
    (hd : decode c.code pc = .ok (.lreturn, 1)) (hc : cells ≤ ce) (hs : slots ≤ sl) (hQ : Q (some (.long z)) T.heap locs) : own_G p e below s Q ce sl (T.setTop (mkF m pc Ls (.long z :: rest))) :=
  own_ret X hx hlk hret rfl (Or.inr (Or.inl ⟨rfl, rfl, z, rfl⟩)) hd hc hs hQ
theorem own_retA {Q : Option Value → Heap → List Loc → Prop} {ce sl : Nat} (X : Stand p l e R s m args below meth c T locs cells slots) (hx : p.tables.exec = Jvm.exec) (hlk : meth.locks = false) {pc : Nat} {Ls : Array Slot} {w : Value} {t : FieldType} {rest : List Value} (hret : meth.sig.returnType = some t) (ht : t.isReference = true) (hw : w.isRef = true)
    (hd : decode c.code pc = .ok (.areturn, 1)) (hc : cells ≤ ce) (hs : slots ≤ sl) (hQ : Q (some w) T.heap locs) : own_G p e below s Q ce sl (T.setTop (mkF m pc Ls (w :: rest))) :=
  own_ret X hx hlk hret (by cases w <;> first | rfl | (cases t <;> first | rfl | cases ht)) (Or.inr (Or.inr (Or.inr (Or.inr ⟨rfl, ht, hw⟩)))) hd hc hs hQ
theorem own_retV {Q : Option Value → Heap → List Loc → Prop} {ce sl : Nat} (X : Stand p l e R s m args below meth c T locs cells slots) (hx : p.tables.exec = Jvm.exec) (hlk : meth.locks = false) {pc : Nat} {Ls : Array Slot} (hret : meth.sig.returnType = none)
    (hd : decode c.code pc = .ok (.return_, 1)) (hc : cells ≤ ce) (hs : slots ≤ sl) (hQ : Q none T.heap locs) : own_G p e below s Q ce sl (T.setTop (mkF m pc Ls [])) := by
  obtain ⟨fs, hr, hrun, hended, hW, hsame⟩ := X.leave (v := none) (fun _ => rfl) hlk
  exact ⟨_, _, X.returnOut hx hret hd hr, hrun, hended, _, _, rfl, hQ, ⟨_, rfl⟩, hW, hsame.mono hc hs⟩
/-- a contract out of the walk of its body -/
theorem own_met {y : MethodName} {bytes : ByteArray} {maxL : Nat} {ret : Option FieldType} {ws : List Jvm.Cond} {rm : Room} {as' : Array Value} {h0 : Heap} {Q : Option Value → Heap → List Loc → Prop} {ce sl : Nat} (hp : plainFor y = true)
    (body : ∀ (p : Program) (e : Env) (s : State) (m : MethodId) (below : List Frame) (meth : Method) (c : Code) (T : State), p.tables.exec = Jvm.exec → c.code = bytes → c.maxLocals = maxL → s.vm.findClass y.cls = some m.cls → meth.name = y.name → meth.sig.returnType = ret → meth.locks = false → Z.Warmed39 s.vm → T.heap = h0 →
      Stand p l e rm s m as' below meth c T [] 0 0 → own_G p e below s Q ce sl (T.setTop (entryFrame m as' maxL))) :
    MetFree l y (head1 (Jvm.Cond.code y bytes maxL ret :: ws) rm) (fun a U => a = as' ∧ Z.Warmed39 U.vm ∧ U.heap = h0) (fun _ _ _ _ _ => True) (fun _ U o U' => ∃ v L, o = .returned v ∧ Q v U'.heap L ∧ FrameEnd U o U' L ce sl) := by
  refine MetFree.of_bodySF hp hisR ?_
  intro p e s m args below meth c s₁ Bd hml0 hP hK
  obtain ⟨rfl, hZ, hh⟩ := hP
  exact body p e s m below meth c s₁ Bd.exec Bd.bytes hml0 (findClass_of_methodNamed Bd.named) (name_of_methodNamed Bd.named Bd.method).1 Bd.returns Bd.notSynchronized hZ (by rw [← hh, Bd.state]; rfl) (Stand.of_body Bd)
theorem own_callS (X : Stand p l e R s m args below meth c T locs cells slots) (hx : p.tables.exec = Jvm.exec) (hZ : Z.Warmed39 s.vm) {own : String} {index : Nat} {y : MethodName} {bytes : ByteArray} {maxL : Nat} {ret : Option FieldType} {rm : Room} {Q : Option Value → Heap → List Loc → Prop} {argsL rest : List Value} (W : Nat)
    (hown : s.vm.findClass own = some m.cls) (wl : (Jvm.Cond.methodLink own index y).before a0 Z = true) (wst : (Jvm.Cond.static y).before a0 Z = true) (wz : (Jvm.Cond.initialized y.cls).before a0 Z = true) (wc : (Jvm.Cond.code y bytes maxL ret).before a0 Z = true) (hy : y.cls ≠ "java/lang/invoke/MethodHandle" ∧ y.cls ≠ "java/lang/invoke/VarHandle")
    (hM : MetFree l y (head1 [Jvm.Cond.code y bytes maxL ret] rm) (fun a U => a = argsL.toArray ∧ Z.Warmed39 U.vm ∧ U.heap = h) (fun _ _ _ _ _ => True) (fun _ U o U' => ∃ v L, o = .returned v ∧ Q v U'.heap L ∧ FrameEnd U o U' L rm.cells rm.slots))
    (hf : rm.frames + 1 ≤ R.frames) (hl : W + (maxL + 11) + rm.locals ≤ R.locals) (eT : T.heap = h) {g : JFrame} (hg : g.method = m) (hsize : g.locals.size = c.maxLocals) {ps : List FieldType} {r : Option FieldType} (hpd : parseMethodDescriptor y.desc = some ⟨ps, r⟩) (hlen : argsL.length = ps.length)
    (hstack : g.stack = argsL.reverse ++ rest) (hW : 2 * g.monitorRoom + (rest.map fun v => v.category).sum ≤ W) (hdg : decode c.code g.pc = .ok (.invokestatic index, 3)) (hc : cells + rm.cells ≤ R.cells) (hs : slots + rm.slots ≤ R.slots) :
    ∃ v T' L, Stand p l e R s m args below meth c T' (locs ++ L) (cells + rm.cells) (slots + rm.slots) ∧ Q v T'.heap L ∧ ∀ t, Steps p.tables e below (T'.setTop { g with pc := g.pc + 3, stack := v.toList ++ rest }) t → Steps p.tables e below (T.setTop g) t := by
  obtain ⟨v, _, ⟨T', L', k', n'⟩, -, X', ⟨L, hQ, l1, y1, z1⟩, st⟩ := Jvm.LawKit.callS X hx (y := y) hown (mvT hZ wl) (mvT hZ wst) (mvT hZ wz) (mvT hZ wc) hy (backOf (W := W) hM hZ wc wz hf hl) hg hsize (lenOf hpd hlen) hstack hW hdg (fun _ _ => ⟨rfl, eT, hc, hs⟩)
  dsimp only [Pt.U, Pt.locs, Pt.cells, Pt.slots] at X' l1 y1 z1 st hQ
  subst l1 y1 z1
  exact ⟨v, T', L, X', hQ, st⟩
theorem own_callI (X : Stand p l e R s m args below meth c T locs cells slots) (hx : p.tables.exec = Jvm.exec) (hZ : Z.Warmed39 s.vm) {own : String} {index : Nat} {y : MethodName} {bytes : ByteArray} {maxL : Nat} {rm : Room} {Q : Option Value → Heap → List Loc → Prop} {a : Addr} {argsL rest : List Value} (W : Nat)
    (hy1 : y.name = "<init>") (hown : s.vm.findClass own = some m.cls) (wl : (Jvm.Cond.methodLink own index y).before a0 Z = true) (wi : (Jvm.Cond.instanceMethod y).before a0 Z = true) (wz : (Jvm.Cond.initialized y.cls).before a0 Z = true) (wc : (Jvm.Cond.code y bytes maxL none).before a0 Z = true) (hy : y.cls ≠ "java/lang/invoke/MethodHandle" ∧ y.cls ≠ "java/lang/invoke/VarHandle")
    (hM : MetFree l y (head1 [Jvm.Cond.code y bytes maxL none] rm) (fun b U => b = (Value.ref a :: argsL).toArray ∧ Z.Warmed39 U.vm ∧ U.heap = h) (fun _ _ _ _ _ => True) (fun _ U o U' => ∃ v L, o = .returned v ∧ Q v U'.heap L ∧ FrameEnd U o U' L rm.cells rm.slots))
    (hf : rm.frames + 1 ≤ R.frames) (hl : W + (maxL + 11) + rm.locals ≤ R.locals) (eT : T.heap = h) {g : JFrame} (hg : g.method = m) (hsize : g.locals.size = c.maxLocals) {ps : List FieldType} {r : Option FieldType} (hpd : parseMethodDescriptor y.desc = some ⟨ps, r⟩) (hlen : argsL.length = ps.length)
    (hstack : g.stack = argsL.reverse ++ .ref a :: rest) (hW : 2 * g.monitorRoom + (rest.map fun v => v.category).sum ≤ W) (hdg : decode c.code g.pc = .ok (.invokespecial index, 3)) (hc : cells + rm.cells ≤ R.cells) (hs : slots + rm.slots ≤ R.slots) :
    ∃ v T' L, Stand p l e R s m args below meth c T' (locs ++ L) (cells + rm.cells) (slots + rm.slots) ∧ Q v T'.heap L ∧ ∀ t, Steps p.tables e below (T'.setTop { g with pc := g.pc + 3, stack := v.toList ++ rest }) t → Steps p.tables e below (T.setTop g) t := by
  obtain ⟨v, _, ⟨T', L', k', n'⟩, -, X', ⟨L, hQ, l1, y1, z1⟩, st⟩ := X.specialBack hx (y := y) hy1 hown (mvT hZ wl) (mvT hZ wi) (mvT hZ wc) hy (backOf (W := W) hM hZ wc wz hf hl) hg hsize (Steps.refl _) (a := a) (lenOf hpd hlen) hstack hW hdg (fun _ _ => ⟨rfl, eT, hc, hs⟩)
  dsimp only [Pt.U, Pt.locs, Pt.cells, Pt.slots] at X' l1 y1 z1 st hQ
  subst l1 y1 z1
  exact ⟨v, T', L, X', hQ, fun t k => st.trans k⟩
theorem own_callV (X : Stand p l e R s m args below meth c T locs cells slots) (hx : p.tables.exec = Jvm.exec) (hZ : Z.Warmed39 s.vm) {own C : String} {index : Nat} {y z : MethodName} {bytes : ByteArray} {maxL : Nat} {ret : Option FieldType} {rm : Room} {Q : Option Value → Heap → List Loc → Prop} {a : Addr} {argsL rest : List Value} (W : Nat)
    (hown : s.vm.findClass own = some m.cls) (wl : (Jvm.Cond.methodLink own index y).before a0 Z = true) (wd : (Jvm.Cond.declares y).before a0 Z = true) (hnf : NotFace s y) (wsel : (Jvm.Cond.selects C y z).before a0 Z = true) (wi : (Jvm.Cond.instanceMethod z).before a0 Z = true) (wz : (Jvm.Cond.initialized z.cls).before a0 Z = true) (wc : (Jvm.Cond.code z bytes maxL ret).before a0 Z = true) (hy : y.cls ≠ "java/lang/invoke/MethodHandle" ∧ y.cls ≠ "java/lang/invoke/VarHandle")
    (hM : MetFree l z (head1 [Jvm.Cond.code z bytes maxL ret] rm) (fun b U => b = (Value.ref a :: argsL).toArray ∧ Z.Warmed39 U.vm ∧ U.heap = h) (fun _ _ _ _ _ => True) (fun _ U o U' => ∃ v L, o = .returned v ∧ Q v U'.heap L ∧ FrameEnd U o U' L rm.cells rm.slots))
    (hf : rm.frames + 1 ≤ R.frames) (hl : W + (maxL + 11) + rm.locals ≤ R.locals) (eT : T.heap = h) (E : Exa Z h a C) {g : JFrame} (hg : g.method = m) (hsize : g.locals.size = c.maxLocals) {ps : List FieldType} {r : Option FieldType} (hpd : parseMethodDescriptor y.desc = some ⟨ps, r⟩) (hlen : argsL.length = ps.length)
    (hstack : g.stack = argsL.reverse ++ .ref a :: rest) (hW : 2 * g.monitorRoom + (rest.map fun v => v.category).sum ≤ W) (hdg : decode c.code g.pc = .ok (.invokevirtual index, 3)) (hc : cells + rm.cells ≤ R.cells) (hs : slots + rm.slots ≤ R.slots) :
    ∃ v T' L, Stand p l e R s m args below meth c T' (locs ++ L) (cells + rm.cells) (slots + rm.slots) ∧ Q v T'.heap L ∧ ∀ t, Steps p.tables e below (T'.setTop { g with pc := g.pc + 3, stack := v.toList ++ rest }) t → Steps p.tables e below (T.setTop g) t := by
  obtain ⟨cq, kq, qa, qb, qc⟩ := isOf hZ eT E
  obtain ⟨v, _, ⟨T', L', k', n'⟩, -, X', ⟨L, hQ, l1, y1, z1⟩, st⟩ := X.virtualBack hx (y := y) (z := z) hown (mvT hZ wl) (mvT hZ wd) hnf (mvT hZ wsel) (mvT hZ wi) hy (backOf (W := W) hM hZ wc wz hf hl) qa qc hg hsize (Steps.refl _) (lenOf hpd hlen) hstack hW hdg (fun _ _ => ⟨rfl, eT, hc, hs⟩)
  dsimp only [Pt.U, Pt.locs, Pt.cells, Pt.slots] at X' l1 y1 z1 st hQ
  subst l1 y1 z1
  exact ⟨v, T', L, X', hQ, fun t k => st.trans k⟩
theorem own_nf {y : MethodName} {C : String} (hZ : Z.Warmed39 s.vm) (w : (Jvm.Cond.selects C y y).before a0 Z = true) : NotFace s y := notFace_of_selects (args := #[]) (mvT hZ w)
theorem own_selP {y y0 : MethodName} {C : String} (hZ : Z.Warmed39 s.vm) (w0 : (Jvm.Cond.selects C y0 y0).before a0 Z = true) (hc : y0.cls = y.cls) (wp : (Jvm.Cond.privateMethod y).before a0 Z = true) (wi : (Jvm.Cond.instanceMethod y).before a0 Z = true) (hy : y.cls ≠ "java/lang/invoke/MethodHandle" ∧ y.cls ≠ "java/lang/invoke/VarHandle") :
    (Jvm.Cond.selects y.cls y y).before args s = true := by
  obtain ⟨c2, r2, m2, q1, q2, q3, q4, kP, hkP, hkPi⟩ := Cond.selects_spec (mvT (args := args) hZ w0)
  exact selects_self_of_private (hc ▸ findClass_of_methodNamed q3) hkP hkPi (Cond.privateMethod_at (mvP hZ wp (args := #[]))) (mvT hZ wi) hy
theorem own_callP (X : Stand p l e R s m args below meth c T locs cells slots) (hx : p.tables.exec = Jvm.exec) (hZ : Z.Warmed39 s.vm) {own C C0 : String} {index : Nat} {y y0 : MethodName} {bytes : ByteArray} {maxL : Nat} {ret : Option FieldType} {rm : Room} {Q : Option Value → Heap → List Loc → Prop} {a : Addr} {argsL rest : List Value} (W : Nat)
    (hown : s.vm.findClass own = some m.cls) (wl : (Jvm.Cond.methodLink own index y).before a0 Z = true) (w0 : (Jvm.Cond.selects C0 y0 y0).before a0 Z = true) (hc0 : y0.cls = y.cls) (wp : (Jvm.Cond.privateMethod y).before a0 Z = true) (wi : (Jvm.Cond.instanceMethod y).before a0 Z = true) (wz : (Jvm.Cond.initialized y.cls).before a0 Z = true) (wc : (Jvm.Cond.code y bytes maxL ret).before a0 Z = true) (hy : y.cls ≠ "java/lang/invoke/MethodHandle" ∧ y.cls ≠ "java/lang/invoke/VarHandle")
    (hM : MetFree l y (head1 [Jvm.Cond.code y bytes maxL ret] rm) (fun b U => b = (Value.ref a :: argsL).toArray ∧ Z.Warmed39 U.vm ∧ U.heap = h) (fun _ _ _ _ _ => True) (fun _ U o U' => ∃ v L, o = .returned v ∧ Q v U'.heap L ∧ FrameEnd U o U' L rm.cells rm.slots))
    (hf : rm.frames + 1 ≤ R.frames) (hl : W + (maxL + 11) + rm.locals ≤ R.locals) (eT : T.heap = h) (E : Exa Z h a C) {g : JFrame} (hg : g.method = m) (hsize : g.locals.size = c.maxLocals) {ps : List FieldType} {r : Option FieldType} (hpd : parseMethodDescriptor y.desc = some ⟨ps, r⟩) (hlen : argsL.length = ps.length)
    (hstack : g.stack = argsL.reverse ++ .ref a :: rest) (hW : 2 * g.monitorRoom + (rest.map fun v => v.category).sum ≤ W) (hdg : decode c.code g.pc = .ok (.invokevirtual index, 3)) (hc : cells + rm.cells ≤ R.cells) (hs : slots + rm.slots ≤ R.slots) :
    ∃ v T' L, Stand p l e R s m args below meth c T' (locs ++ L) (cells + rm.cells) (slots + rm.slots) ∧ Q v T'.heap L ∧ ∀ t, Steps p.tables e below (T'.setTop { g with pc := g.pc + 3, stack := v.toList ++ rest }) t → Steps p.tables e below (T.setTop g) t := by
  obtain ⟨cq, q1, q2⟩ := E.cell
  obtain ⟨v, _, ⟨T', L', k', n'⟩, -, X', ⟨L, hQ, l1, y1, z1⟩, st⟩ := X.privateBack hx (y := y) hown (mvT hZ wl) (mvT hZ wi) (own_selP hZ w0 hc0 wp wi hy) (Cond.privateMethod_at (mvP hZ wp (args := #[]))) (mvT hZ wc) hy (backOf (W := W) hM hZ wc wz hf hl) hg hsize (Steps.refl _) (a := a) (by rw [eT]; exact q1) q2 (lenOf hpd hlen) hstack hW hdg (fun _ _ => ⟨rfl, eT, hc, hs⟩)
  dsimp only [Pt.U, Pt.locs, Pt.cells, Pt.slots] at X' l1 y1 z1 st hQ
  subst l1 y1 z1
  exact ⟨v, T', L, X', hQ, fun t k => st.trans k⟩
theorem own_callF (X : Stand p l e R s m args below meth c T locs cells slots) (hx : p.tables.exec = Jvm.exec) (hZ : Z.Warmed39 s.vm) {own C : String} {index count : Nat} {xi y : MethodName} {bytes : ByteArray} {maxL : Nat} {ret : Option FieldType} {rm : Room} {Q : Option Value → Heap → List Loc → Prop} {a : Addr} {argsL rest : List Value} (W : Nat)
    (hown : s.vm.findClass own = some m.cls) (wl : (Jvm.Cond.methodLink own index xi).before a0 Z = true) (wd : (Jvm.Cond.declares xi).before a0 Z = true) (wf : (Jvm.Cond.interfaceMethod xi.cls xi.cls xi.name xi.desc).before args s = true) (wsel : (Jvm.Cond.selects C xi y).before a0 Z = true) (wi : (Jvm.Cond.instanceMethod y).before a0 Z = true) (wp : (Jvm.Cond.publicMethod y).before a0 Z = true) (wu : (Jvm.Cond.unhidden C xi.name xi.desc).before a0 Z = true) (wk : (Jvm.Cond.castable C xi.cls).before a0 Z = true) (wz : (Jvm.Cond.initialized y.cls).before a0 Z = true) (wc : (Jvm.Cond.code y bytes maxL ret).before a0 Z = true) (hy : xi.cls ≠ "java/lang/invoke/MethodHandle" ∧ xi.cls ≠ "java/lang/invoke/VarHandle")
    (hM : MetFree l y (head1 [Jvm.Cond.code y bytes maxL ret] rm) (fun b U => b = (Value.ref a :: argsL).toArray ∧ Z.Warmed39 U.vm ∧ U.heap = h) (fun _ _ _ _ _ => True) (fun _ U o U' => ∃ v L, o = .returned v ∧ Q v U'.heap L ∧ FrameEnd U o U' L rm.cells rm.slots))
    (hf : rm.frames + 1 ≤ R.frames) (hl : W + (maxL + 11) + rm.locals ≤ R.locals) (eT : T.heap = h) (E : Exa Z h a C) {g : JFrame} (hg : g.method = m) (hsize : g.locals.size = c.maxLocals) {ps : List FieldType} {r : Option FieldType} (hpd : parseMethodDescriptor xi.desc = some ⟨ps, r⟩) (hlen : argsL.length = ps.length)
    (hstack : g.stack = argsL.reverse ++ .ref a :: rest) (hW : 2 * g.monitorRoom + (rest.map fun v => v.category).sum ≤ W) (hdg : decode c.code g.pc = .ok (.invokeinterface index count, 5)) (hc : cells + rm.cells ≤ R.cells) (hs : slots + rm.slots ≤ R.slots) :
    ∃ v T' L, Stand p l e R s m args below meth c T' (locs ++ L) (cells + rm.cells) (slots + rm.slots) ∧ Q v T'.heap L ∧ ∀ t, Steps p.tables e below (T'.setTop { g with pc := g.pc + 5, stack := v.toList ++ rest }) t → Steps p.tables e below (T.setTop g) t := by
  obtain ⟨cq, kq, qa, qb, qc⟩ := isOf hZ eT E
  obtain ⟨v, _, ⟨T', L', k', n'⟩, -, X', ⟨L, hQ, l1, y1, z1⟩, st⟩ := X.interfaceBack hx (xi := xi) (y := y) hown (mvT hZ wl) (mvT hZ wd) wf (mvT hZ wsel) (mvT hZ wi) (mvT hZ wp) (mvT hZ wu) (mvT hZ wk) hy (backOf (W := W) hM hZ wc wz hf hl) qa qb qc hg hsize (Steps.refl _) (lenOf hpd hlen) hstack hW hdg (fun _ _ => ⟨rfl, eT, hc, hs⟩)
  dsimp only [Pt.U, Pt.locs, Pt.cells, Pt.slots] at X' l1 y1 z1 st hQ
  subst l1 y1 z1
  exact ⟨v, T', L, X', hQ, fun t k => st.trans k⟩
/-- a truth as Java's int -/
def own_b (P : Prop) [Decidable P] : Int32 := if P then 1 else 0
theorem own_b1 {P : Prop} [Decidable P] (h : P) : own_b P = 1 := if_pos h
theorem own_b0 {P : Prop} [Decidable P] (h : ¬ P) : own_b P = 0 := if_neg h
theorem own_b01 (P : Prop) [Decidable P] : own_b P = 0 ∨ own_b P = 1 := by
  by_cases h : P
  · exact Or.inr (own_b1 h)
  · exact Or.inl (own_b0 h)
theorem own_bn {P : Prop} [Decidable P] (h : P) : ¬ own_b P = 0 := by rw [own_b1 h]; decide
theorem own_narZ {z : Int32} (h : z = 0 ∨ z = 1) : narrow .boolean (.int z) = .int z := by rcases h with rfl | rfl <;> rfl
theorem own_fitZ {z : Int32} (h : z = 0 ∨ z = 1) : fits .boolean (.int z) = true := by rcases h with rfl | rfl <;> rfl
end OwnKit
theorem own_least (a : Int32) : ¬ (a &&& (2147483647 : Int32)) = 0 → 1 ≤ (a &&& (2147483647 : Int32)).toInt := by
  intro h
  have h1 := c_mask a 2147483647 31 (by decide) (by decide)
  have h2 : (a &&& (2147483647 : Int32)).toInt ≠ (0 : Int32).toInt := fun q => h (Int32.toInt_inj.mp q)
  have h3 : (0 : Int32).toInt = 0 := by decide
  omega
theorem own_dv (v : Int32) (hv : 1 ≤ v.toInt) : ((2147483647 : Int32) - v + 1).toInt = 2147483648 - v.toInt := by
  have m : (2147483647 : Int32).toInt = 2147483647 := by decide
  have o : (1 : Int32).toInt = 1 := by decide
  have r1 := rng32 v
  have h2 : ((2147483647 : Int32) - v).toInt = 2147483647 - v.toInt := by
    have h := c_isub 2147483647 v
    have r2 := rng32 ((2147483647 : Int32) - v)
    rw [m] at h
    omega
  have h3 := c_iadd ((2147483647 : Int32) - v) 1
  have r3 := rng32 ((2147483647 : Int32) - v + 1)
  rw [h2, o] at h3
  omega
theorem own_wide (v b : Int32) (hv : 1 ≤ v.toInt) : (2147483647 : Int32) - v + 1 ≠ 0 ∧ v.toInt ≤ (v + ((b &&& (2147483647 : Int32)) % ((2147483647 : Int32) - v + 1))).toInt := by
  have hd := own_dv v hv
  have r1 := rng32 v
  have h1 : 0 ≤ (b &&& (2147483647 : Int32)).toInt := (c_and b 2147483647 (by decide)).1
  refine ⟨fun q => ?_, ?_⟩
  · rw [q, show (0 : Int32).toInt = 0 from by decide] at hd; omega
  · generalize (2147483647 : Int32) - v + 1 = d at *
    have h4 := (c_iremV (b &&& (2147483647 : Int32)) d).1 h1 (by omega)
    generalize (b &&& (2147483647 : Int32)) % d = r at *
    have h5 := c_iadd v r
    have r5 := rng32 (v + r)
    obtain ⟨h6, h7, -⟩ := h4
    clear h1
    omega
theorem own_pn0 : plainFor (⟨"java/lang/Record", "<init>", "()V"⟩ : MethodName) = true := plainFor_of_name (by first | (simp [plainName, overriddenIn]; done) | decide +kernel)
theorem dd_jdk_30m1_0 : decode jdk_30_method_1_code 0 = .ok (.aload_n 0, 1) := by decide +kernel
theorem dd_jdk_30m1_1 : decode jdk_30_method_1_code 1 = .ok (.invokespecial 1, 3) := by decide +kernel
theorem dd_jdk_30m1_4 : decode jdk_30_method_1_code 4 = .ok (.return_, 1) := by decide +kernel
theorem ef_own_rec (m : MethodId) (z0 : Addr) : entryFrame m #[(.ref z0)] 1 = mkF m 0 #[.val (.ref z0)] [] := by first | (simp [entryFrame, mkF, argsToLocals, Value.category]; done) | rfl
def Q_own_rec (Z : State) (a : Addr) (h0 : Heap) (n0 : Nat) (zv : Option Value) (zh : Heap) (zL : List Loc) : Prop := zv = none ∧ Fr n0 zL ∧ zh = h0
set_option maxRecDepth 65536 in
set_option maxHeartbeats 40000000 in
theorem own_rec (l : Launch) (Z : State) (a0 : Array Value) (hw : ∀ d ∈ tables_1, d.before a0 Z = true) (ws : List Jvm.Cond) (a : Addr) (h0 : Heap) (n0 : Nat) (Z0 : n0 ≤ h0.size)  :
    MetFree l (⟨"java/lang/Record", "<init>", "()V"⟩ : MethodName) (head1 (Jvm.Cond.code (⟨"java/lang/Record", "<init>", "()V"⟩ : MethodName) jdk_30_method_1_code 1 none :: ws) ({ frames := 1, cells := 0, slots := 0, locals := 12 } : Room)) (fun za zU => za = #[(.ref a)] ∧ Z.Warmed39 zU.vm ∧ zU.heap = h0) (fun _ _ _ _ _ => True) (fun _ zU zo zU' => ∃ zv zL, zo = .returned zv ∧ Q_own_rec Z a h0 n0 zv zU'.heap zL ∧ FrameEnd zU zo zU' zL ({ frames := 1, cells := 0, slots := 0, locals := 12 } : Room).cells ({ frames := 1, cells := 0, slots := 0, locals := 12 } : Room).slots) := by
  refine own_met (y := (⟨"java/lang/Record", "<init>", "()V"⟩ : MethodName)) own_pn0 ?_
  intro p e s m below meth c T0 hx hby hml hown hnm hret hlk hZ e0 X0
  have N0 := Fr.nil n0
  refine own_st (fun zt zk => castTop (ef_own_rec m a) zk) ?_
  show own_G p e below s _ _ _ (T0.setTop (mkF m 0 #[.val (.ref a)] []))
  refine own_st (fun zt zk => XS.aloadN X0.here hx rfl (hb hby dd_jdk_30m1_0) rfl rfl zk) ?_
  show own_G p e below s _ _ _ (T0.setTop (mkF m 1 #[.val (.ref a)] [(.ref a)]))
  obtain ⟨T1, X1, e1, st1⟩ := initO X0 hx hZ hown (hw _ (List.mem_of_getElem? (i := 12) rfl)) (hw _ (List.mem_of_getElem? (i := 13) rfl)) (hw _ (List.mem_of_getElem? (i := 14) rfl)) e0 (g := (mkF m 1 #[.val (.ref a)] [(.ref a)])) rfl (by rw [hml]; rfl) rfl (hb hby dd_jdk_30m1_1) (by decide) (W := 0) (by show 2 * 0 + _ ≤ _; exact Nat.le_of_eq rfl) (by decide)
  refine own_st st1 ?_
  show own_G p e below s _ _ _ (T1.setTop (mkF m 4 #[.val (.ref a)] []))
  refine own_retV X1 hx hlk hret (hb hby dd_jdk_30m1_4) (by decide) (by decide) ?_
  show Q_own_rec Z a h0 n0 none T1.heap _
  rw [e1]
  exact ⟨rfl, N0, rfl⟩
theorem own_pn1 : plainFor (⟨"com/example/outfall/outfall/rules/PumpingSchedule$Range", "<init>", "(II)V"⟩ : MethodName) = true := plainFor_of_name (by first | (simp [plainName, overriddenIn]; done) | decide +kernel)
theorem dd_prog_38m1_0 : decode prog_38_method_1_code 0 = .ok (.aload_n 0, 1) := by decide +kernel
theorem dd_prog_38m1_1 : decode prog_38_method_1_code 1 = .ok (.invokespecial 1, 3) := by decide +kernel
theorem own_pd0 : parseMethodDescriptor "()V" = some ⟨[], none⟩ := by decide +kernel
theorem dd_prog_38m1_4 : decode prog_38_method_1_code 4 = .ok (.iload_n 1, 1) := by decide +kernel
theorem dd_prog_38m1_5 : decode prog_38_method_1_code 5 = .ok (.iconst 1, 1) := by decide +kernel
theorem dd_prog_38m1_6 : decode prog_38_method_1_code 6 = .ok (.if_icmp .lt 8, 3) := by decide +kernel
theorem dd_prog_38m1_9 : decode prog_38_method_1_code 9 = .ok (.iload_n 2, 1) := by decide +kernel
theorem dd_prog_38m1_10 : decode prog_38_method_1_code 10 = .ok (.iload_n 1, 1) := by decide +kernel
theorem dd_prog_38m1_11 : decode prog_38_method_1_code 11 = .ok (.if_icmp .ge 18, 3) := by decide +kernel
theorem dd_prog_38m1_29 : decode prog_38_method_1_code 29 = .ok (.aload_n 0, 1) := by decide +kernel
theorem dd_prog_38m1_30 : decode prog_38_method_1_code 30 = .ok (.iload_n 1, 1) := by decide +kernel
theorem dd_prog_38m1_31 : decode prog_38_method_1_code 31 = .ok (.putfield 16, 3) := by decide +kernel
theorem dd_prog_38m1_34 : decode prog_38_method_1_code 34 = .ok (.aload_n 0, 1) := by decide +kernel
theorem dd_prog_38m1_35 : decode prog_38_method_1_code 35 = .ok (.iload_n 2, 1) := by decide +kernel
theorem dd_prog_38m1_36 : decode prog_38_method_1_code 36 = .ok (.putfield 22, 3) := by decide +kernel
theorem dd_prog_38m1_39 : decode prog_38_method_1_code 39 = .ok (.return_, 1) := by decide +kernel
theorem ef_own_ini (m : MethodId) (z0 : Addr) (z1 : Int32) (z2 : Int32) : entryFrame m #[(.ref z0), (.int z1), (.int z2)] 3 = mkF m 0 #[.val (.ref z0), .val (.int z1), .val (.int z2)] [] := by first | (simp [entryFrame, mkF, argsToLocals, Value.category]; done) | rfl
def Q_own_ini (Z : State) (a : Addr) (lo : Int32) (hi : Int32) (h0 : Heap) (n0 : Nat) (zv : Option Value) (zh : Heap) (zL : List Loc) : Prop := zv = none ∧ Fr n0 zL ∧ Keep h0 zh [a] ∧ Fld Z zh a "com/example/outfall/outfall/rules/PumpingSchedule$Range" "least" "I" (.int lo) ∧ Fld Z zh a "com/example/outfall/outfall/rules/PumpingSchedule$Range" "most" "I" (.int hi)
set_option maxRecDepth 65536 in
set_option maxHeartbeats 40000000 in
theorem own_ini (l : Launch) (Z : State) (a0 : Array Value) (hw : ∀ d ∈ tables_1, d.before a0 Z = true) (ws : List Jvm.Cond) (a : Addr) (lo : Int32) (hi : Int32) (h0 : Heap) (n0 : Nat) (Z0 : n0 ≤ h0.size) (p0_ : Exa Z h0 a "com/example/outfall/outfall/rules/PumpingSchedule$Range") (p1_ : Fld Z h0 a "com/example/outfall/outfall/rules/PumpingSchedule$Range" "least" "I" (.int (0 : Int32))) (p2_ : Fld Z h0 a "com/example/outfall/outfall/rules/PumpingSchedule$Range" "most" "I" (.int (0 : Int32))) (p3_ : n0 ≤ a) (p4_ : ¬ (lo < (1 : Int32))) (p5_ : ¬ (hi < lo)) :
    MetFree l (⟨"com/example/outfall/outfall/rules/PumpingSchedule$Range", "<init>", "(II)V"⟩ : MethodName) (head1 (Jvm.Cond.code (⟨"com/example/outfall/outfall/rules/PumpingSchedule$Range", "<init>", "(II)V"⟩ : MethodName) prog_38_method_1_code 3 none :: ws) ({ frames := 2, cells := 0, slots := 0, locals := 24 } : Room)) (fun za zU => za = #[(.ref a), (.int lo), (.int hi)] ∧ Z.Warmed39 zU.vm ∧ zU.heap = h0) (fun _ _ _ _ _ => True) (fun _ zU zo zU' => ∃ zv zL, zo = .returned zv ∧ Q_own_ini Z a lo hi h0 n0 zv zU'.heap zL ∧ FrameEnd zU zo zU' zL ({ frames := 2, cells := 0, slots := 0, locals := 24 } : Room).cells ({ frames := 2, cells := 0, slots := 0, locals := 24 } : Room).slots) := by
  refine own_met (y := (⟨"com/example/outfall/outfall/rules/PumpingSchedule$Range", "<init>", "(II)V"⟩ : MethodName)) own_pn1 ?_
  intro p e s m below meth c T0 hx hby hml hown hnm hret hlk hZ e0 X0
  have N0 := Fr.nil n0
  refine own_st (fun zt zk => castTop (ef_own_ini m a lo hi) zk) ?_
  show own_G p e below s _ _ _ (T0.setTop (mkF m 0 #[.val (.ref a), .val (.int lo), .val (.int hi)] []))
  refine own_st (fun zt zk => XS.aloadN X0.here hx rfl (hb hby dd_prog_38m1_0) rfl rfl zk) ?_
  show own_G p e below s _ _ _ (T0.setTop (mkF m 1 #[.val (.ref a), .val (.int lo), .val (.int hi)] [(.ref a)]))
  obtain ⟨_, T1, L1, X1, hQ1, st1⟩ := own_callI X0 hx hZ (y := (⟨"java/lang/Record", "<init>", "()V"⟩ : MethodName)) (a := a) (argsL := []) (rest := []) 0 rfl hown (hw _ (List.mem_of_getElem? (i := 7) rfl)) (hw _ (List.mem_of_getElem? (i := 8) rfl)) (hw _ (List.mem_of_getElem? (i := 10) rfl)) (hw _ (List.mem_of_getElem? (i := 11) rfl)) (by decide) (own_rec l Z a0 hw [] a h0 n0 Z0 ) (by decide) (by decide) e0 (g := (mkF m 1 #[.val (.ref a), .val (.int lo), .val (.int hi)] [(.ref a)])) rfl (by rw [hml]; rfl) own_pd0 rfl rfl (by show 2 * 0 + _ ≤ _; exact Nat.le_of_eq rfl) (hb hby dd_prog_38m1_1) (by decide) (by decide)
  obtain ⟨rfl, N1q, e1⟩ := hQ1
  have N1 := Fr.app N0 N1q
  refine own_st st1 ?_
  show own_G p e below s _ _ _ (T1.setTop (mkF m 4 #[.val (.ref a), .val (.int lo), .val (.int hi)] []))
  refine own_st (fun zt zk => XS.iloadN X1.here hx rfl (hb hby dd_prog_38m1_4) rfl zk) ?_
  show own_G p e below s _ _ _ (T1.setTop (mkF m 5 #[.val (.ref a), .val (.int lo), .val (.int hi)] [(.int lo)]))
  refine own_st (fun zt zk => XS.iconst X1.here hx rfl (hb hby dd_prog_38m1_5) zk) ?_
  show own_G p e below s _ _ _ (T1.setTop (mkF m 6 #[.val (.ref a), .val (.int lo), .val (.int hi)] [(.int (1 : Int32)), (.int lo)]))
  refine own_st (fun zt zk => XS.icmpNo X1.here hx rfl (hb hby dd_prog_38m1_6) rfl (flt p4_).1 zk) ?_
  show own_G p e below s _ _ _ (T1.setTop (mkF m 9 #[.val (.ref a), .val (.int lo), .val (.int hi)] []))
  refine own_st (fun zt zk => XS.iloadN X1.here hx rfl (hb hby dd_prog_38m1_9) rfl zk) ?_
  show own_G p e below s _ _ _ (T1.setTop (mkF m 10 #[.val (.ref a), .val (.int lo), .val (.int hi)] [(.int hi)]))
  refine own_st (fun zt zk => XS.iloadN X1.here hx rfl (hb hby dd_prog_38m1_10) rfl zk) ?_
  show own_G p e below s _ _ _ (T1.setTop (mkF m 11 #[.val (.ref a), .val (.int lo), .val (.int hi)] [(.int lo), (.int hi)]))
  refine own_st (fun zt zk => XS.icmpYes X1.here hx rfl (pc0 := 11) (pc' := 29) rfl (hb hby dd_prog_38m1_11) rfl (flt p5_).2.1 (by decide) (by decide) zk) ?_
  show own_G p e below s _ _ _ (T1.setTop (mkF m 29 #[.val (.ref a), .val (.int lo), .val (.int hi)] []))
  refine own_st (fun zt zk => XS.aloadN X1.here hx rfl (hb hby dd_prog_38m1_29) rfl rfl zk) ?_
  show own_G p e below s _ _ _ (T1.setTop (mkF m 30 #[.val (.ref a), .val (.int lo), .val (.int hi)] [(.ref a)]))
  refine own_st (fun zt zk => XS.iloadN X1.here hx rfl (hb hby dd_prog_38m1_30) rfl zk) ?_
  show own_G p e below s _ _ _ (T1.setTop (mkF m 31 #[.val (.ref a), .val (.int lo), .val (.int hi)] [(.int lo), (.ref a)]))
  obtain ⟨T2, h2, X2, e2, W2, st2⟩ := putF X1 hx hZ hown (host := "") (Or.inl (hw _ (List.mem_of_getElem? (i := 15) rfl))) Via.refl e1 p1_ p0_ (Or.inr ⟨(hw _ (List.mem_of_getElem? (i := 16) rfl)), rfl, hnm⟩) (hw _ (List.mem_of_getElem? (i := 2) rfl)) (ty := .int) (by decide) rfl rfl (g := (mkF m 31 #[.val (.ref a), .val (.int lo), .val (.int hi)] [(.int lo), (.ref a)])) rfl rfl (hb hby dd_prog_38m1_31)
  refine own_st st2 ?_
  have N2 := Fr.snoc X2 N1 p3_
  show own_G p e below s _ _ _ (T2.setTop (mkF m 34 #[.val (.ref a), .val (.int lo), .val (.int hi)] []))
  refine own_st (fun zt zk => XS.aloadN X2.here hx rfl (hb hby dd_prog_38m1_34) rfl rfl zk) ?_
  show own_G p e below s _ _ _ (T2.setTop (mkF m 35 #[.val (.ref a), .val (.int lo), .val (.int hi)] [(.ref a)]))
  refine own_st (fun zt zk => XS.iloadN X2.here hx rfl (hb hby dd_prog_38m1_35) rfl zk) ?_
  show own_G p e below s _ _ _ (T2.setTop (mkF m 36 #[.val (.ref a), .val (.int lo), .val (.int hi)] [(.int hi), (.ref a)]))
  have F3 : Fld Z h2 a "com/example/outfall/outfall/rules/PumpingSchedule$Range" "most" "I" (.int (0 : Int32)) := (Fld.other W2 p2_ (Or.inr (slot_ne (Or.inr (hw _ (List.mem_of_getElem? (i := 18) rfl))) (Or.inr (hw _ (List.mem_of_getElem? (i := 16) rfl))) (by decide) (t := .int) (t' := .int) (by decide) (by decide))))
  have E4 : Exa Z h2 a "com/example/outfall/outfall/rules/PumpingSchedule$Range" := (p0_.wr W2)
  obtain ⟨T5, h5, X5, e5, W5, st5⟩ := putF X2 hx hZ hown (host := "") (Or.inl (hw _ (List.mem_of_getElem? (i := 17) rfl))) Via.refl e2 F3 E4 (Or.inr ⟨(hw _ (List.mem_of_getElem? (i := 18) rfl)), rfl, hnm⟩) (hw _ (List.mem_of_getElem? (i := 2) rfl)) (ty := .int) (by decide) rfl rfl (g := (mkF m 36 #[.val (.ref a), .val (.int lo), .val (.int hi)] [(.int hi), (.ref a)])) rfl rfl (hb hby dd_prog_38m1_36)
  refine own_st st5 ?_
  have N5 := Fr.snoc X5 N2 p3_
  show own_G p e below s _ _ _ (T5.setTop (mkF m 39 #[.val (.ref a), .val (.int lo), .val (.int hi)] []))
  have F6 : Fld Z h5 a "com/example/outfall/outfall/rules/PumpingSchedule$Range" "least" "I" (.int lo) := (Fld.other W5 (Fld.same W2 p1_) (Or.inr (slot_ne (Or.inr (hw _ (List.mem_of_getElem? (i := 16) rfl))) (Or.inr (hw _ (List.mem_of_getElem? (i := 18) rfl))) (by decide) (t := .int) (t' := .int) (by decide) (by decide))))
  have F7 : Fld Z h5 a "com/example/outfall/outfall/rules/PumpingSchedule$Range" "most" "I" (.int hi) := (Fld.same W5 F3)
  refine own_retV X5 hx hlk hret (hb hby dd_prog_38m1_39) (by decide) (by decide) ?_
  show Q_own_ini Z a lo hi h0 n0 none T5.heap _
  rw [e5]
  exact ⟨rfl, N5, (((Keep.refl _ _).wr W2 (Or.inl (List.mem_of_getElem? (i := 0) rfl))).wr W5 (Or.inl (List.mem_of_getElem? (i := 0) rfl))), F6, F7⟩
theorem own_pn2 : plainFor (⟨"com/example/outfall/outfall/rules/PumpingSchedule$Range", "contains", "(I)Z"⟩ : MethodName) = true := plainFor_of_name (by first | (simp [plainName, overriddenIn]; done) | decide +kernel)
theorem dd_prog_38m2_0 : decode prog_38_method_2_code 0 = .ok (.aload_n 0, 1) := by decide +kernel
theorem dd_prog_38m2_1 : decode prog_38_method_2_code 1 = .ok (.getfield 16, 3) := by decide +kernel
theorem dd_prog_38m2_4 : decode prog_38_method_2_code 4 = .ok (.iload_n 1, 1) := by decide +kernel
theorem dd_prog_38m2_5 : decode prog_38_method_2_code 5 = .ok (.if_icmp .gt 15, 3) := by decide +kernel
theorem dd_prog_38m2_20 : decode prog_38_method_2_code 20 = .ok (.iconst 0, 1) := by decide +kernel
theorem dd_prog_38m2_21 : decode prog_38_method_2_code 21 = .ok (.ireturn, 1) := by decide +kernel
theorem dd_prog_38m2_8 : decode prog_38_method_2_code 8 = .ok (.iload_n 1, 1) := by decide +kernel
theorem dd_prog_38m2_9 : decode prog_38_method_2_code 9 = .ok (.aload_n 0, 1) := by decide +kernel
theorem dd_prog_38m2_10 : decode prog_38_method_2_code 10 = .ok (.getfield 22, 3) := by decide +kernel
theorem dd_prog_38m2_13 : decode prog_38_method_2_code 13 = .ok (.if_icmp .gt 7, 3) := by decide +kernel
theorem dd_prog_38m2_16 : decode prog_38_method_2_code 16 = .ok (.iconst 1, 1) := by decide +kernel
theorem dd_prog_38m2_17 : decode prog_38_method_2_code 17 = .ok (.goto 4, 3) := by decide +kernel
theorem ef_own_con (m : MethodId) (z0 : Addr) (z1 : Int32) : entryFrame m #[(.ref z0), (.int z1)] 2 = mkF m 0 #[.val (.ref z0), .val (.int z1)] [] := by first | (simp [entryFrame, mkF, argsToLocals, Value.category]; done) | rfl
def Q_own_con (Z : State) (a : Addr) (x : Int32) (lo : Int32) (hi : Int32) (h0 : Heap) (n0 : Nat) (zv : Option Value) (zh : Heap) (zL : List Loc) : Prop := zv = some (.int (own_b (¬ (x < lo) ∧ ¬ (hi < x)))) ∧ Fr n0 zL ∧ zh = h0
set_option maxRecDepth 65536 in
set_option maxHeartbeats 40000000 in
theorem own_con (l : Launch) (Z : State) (a0 : Array Value) (hw : ∀ d ∈ tables_1, d.before a0 Z = true) (ws : List Jvm.Cond) (a : Addr) (x : Int32) (lo : Int32) (hi : Int32) (h0 : Heap) (n0 : Nat) (Z0 : n0 ≤ h0.size) (p0_ : Fld Z h0 a "com/example/outfall/outfall/rules/PumpingSchedule$Range" "least" "I" (.int lo)) (p1_ : Fld Z h0 a "com/example/outfall/outfall/rules/PumpingSchedule$Range" "most" "I" (.int hi)) :
    MetFree l (⟨"com/example/outfall/outfall/rules/PumpingSchedule$Range", "contains", "(I)Z"⟩ : MethodName) (head1 (Jvm.Cond.code (⟨"com/example/outfall/outfall/rules/PumpingSchedule$Range", "contains", "(I)Z"⟩ : MethodName) prog_38_method_2_code 2 (some .boolean) :: ws) ({ frames := 0, cells := 0, slots := 0, locals := 0 } : Room)) (fun za zU => za = #[(.ref a), (.int x)] ∧ Z.Warmed39 zU.vm ∧ zU.heap = h0) (fun _ _ _ _ _ => True) (fun _ zU zo zU' => ∃ zv zL, zo = .returned zv ∧ Q_own_con Z a x lo hi h0 n0 zv zU'.heap zL ∧ FrameEnd zU zo zU' zL ({ frames := 0, cells := 0, slots := 0, locals := 0 } : Room).cells ({ frames := 0, cells := 0, slots := 0, locals := 0 } : Room).slots) := by
  refine own_met (y := (⟨"com/example/outfall/outfall/rules/PumpingSchedule$Range", "contains", "(I)Z"⟩ : MethodName)) own_pn2 ?_
  intro p e s m below meth c T0 hx hby hml hown hnm hret hlk hZ e0 X0
  have N0 := Fr.nil n0
  refine own_st (fun zt zk => castTop (ef_own_con m a x) zk) ?_
  show own_G p e below s _ _ _ (T0.setTop (mkF m 0 #[.val (.ref a), .val (.int x)] []))
  refine own_st (fun zt zk => XS.aloadN X0.here hx rfl (hb hby dd_prog_38m2_0) rfl rfl zk) ?_
  show own_G p e below s _ _ _ (T0.setTop (mkF m 1 #[.val (.ref a), .val (.int x)] [(.ref a)]))
  obtain ⟨T1, X1, e1, st1⟩ := getF X0 hx hZ hown (host := "") (Or.inl (hw _ (List.mem_of_getElem? (i := 15) rfl))) Via.refl e0 p0_ (g := (mkF m 1 #[.val (.ref a), .val (.int x)] [(.ref a)])) rfl rfl (hb hby dd_prog_38m2_1)
  refine own_st st1 ?_
  show own_G p e below s _ _ _ (T1.setTop (mkF m 4 #[.val (.ref a), .val (.int x)] [(.int lo)]))
  refine own_st (fun zt zk => XS.iloadN X1.here hx rfl (hb hby dd_prog_38m2_4) rfl zk) ?_
  show own_G p e below s _ _ _ (T1.setTop (mkF m 5 #[.val (.ref a), .val (.int x)] [(.int x), (.int lo)]))
  by_cases hc5_2 : x < lo
  · refine own_st (fun zt zk => XS.icmpYes X1.here hx rfl (pc0 := 5) (pc' := 20) rfl (hb hby dd_prog_38m2_5) rfl (tlt hc5_2).2.2.1 (by decide) (by decide) zk) ?_
    show own_G p e below s _ _ _ (T1.setTop (mkF m 20 #[.val (.ref a), .val (.int x)] []))
    refine own_st (fun zt zk => XS.iconst X1.here hx rfl (hb hby dd_prog_38m2_20) zk) ?_
    show own_G p e below s _ _ _ (T1.setTop (mkF m 21 #[.val (.ref a), .val (.int x)] [(.int (0 : Int32))]))
    refine own_retZ X1 hx hlk hret (by decide) (hb hby dd_prog_38m2_21) (by decide) (by decide) ?_
    show Q_own_con Z a x lo hi h0 n0 (some (.int (0 : Int32))) T1.heap _
    rw [e1]
    exact ⟨(by simp [own_b, hc5_2]), N0, rfl⟩
  · refine own_st (fun zt zk => XS.icmpNo X1.here hx rfl (hb hby dd_prog_38m2_5) rfl (flt hc5_2).2.2.1 zk) ?_
    show own_G p e below s _ _ _ (T1.setTop (mkF m 8 #[.val (.ref a), .val (.int x)] []))
    refine own_st (fun zt zk => XS.iloadN X1.here hx rfl (hb hby dd_prog_38m2_8) rfl zk) ?_
    show own_G p e below s _ _ _ (T1.setTop (mkF m 9 #[.val (.ref a), .val (.int x)] [(.int x)]))
    refine own_st (fun zt zk => XS.aloadN X1.here hx rfl (hb hby dd_prog_38m2_9) rfl rfl zk) ?_
    show own_G p e below s _ _ _ (T1.setTop (mkF m 10 #[.val (.ref a), .val (.int x)] [(.ref a), (.int x)]))
    obtain ⟨T3, X3, e3, st3⟩ := getF X1 hx hZ hown (host := "") (Or.inl (hw _ (List.mem_of_getElem? (i := 17) rfl))) Via.refl e1 p1_ (g := (mkF m 10 #[.val (.ref a), .val (.int x)] [(.ref a), (.int x)])) rfl rfl (hb hby dd_prog_38m2_10)
    refine own_st st3 ?_
    show own_G p e below s _ _ _ (T3.setTop (mkF m 13 #[.val (.ref a), .val (.int x)] [(.int hi), (.int x)]))
    by_cases hc13_4 : hi < x
    · refine own_st (fun zt zk => XS.icmpYes X3.here hx rfl (pc0 := 13) (pc' := 20) rfl (hb hby dd_prog_38m2_13) rfl (tlt hc13_4).2.2.1 (by decide) (by decide) zk) ?_
      show own_G p e below s _ _ _ (T3.setTop (mkF m 20 #[.val (.ref a), .val (.int x)] []))
      refine own_st (fun zt zk => XS.iconst X3.here hx rfl (hb hby dd_prog_38m2_20) zk) ?_
      show own_G p e below s _ _ _ (T3.setTop (mkF m 21 #[.val (.ref a), .val (.int x)] [(.int (0 : Int32))]))
      refine own_retZ X3 hx hlk hret (by decide) (hb hby dd_prog_38m2_21) (by decide) (by decide) ?_
      show Q_own_con Z a x lo hi h0 n0 (some (.int (0 : Int32))) T3.heap _
      rw [e3]
      exact ⟨(by simp [own_b, hc5_2, hc13_4]), N0, rfl⟩
    · refine own_st (fun zt zk => XS.icmpNo X3.here hx rfl (hb hby dd_prog_38m2_13) rfl (flt hc13_4).2.2.1 zk) ?_
      show own_G p e below s _ _ _ (T3.setTop (mkF m 16 #[.val (.ref a), .val (.int x)] []))
      refine own_st (fun zt zk => XS.iconst X3.here hx rfl (hb hby dd_prog_38m2_16) zk) ?_
      show own_G p e below s _ _ _ (T3.setTop (mkF m 17 #[.val (.ref a), .val (.int x)] [(.int (1 : Int32))]))
      refine own_st (fun zt zk => XS.goto X3.here hx rfl (pc0 := 17) (pc' := 21) rfl (hb hby dd_prog_38m2_17) (by decide) (by decide) zk) ?_
      show own_G p e below s _ _ _ (T3.setTop (mkF m 21 #[.val (.ref a), .val (.int x)] [(.int (1 : Int32))]))
      refine own_retZ X3 hx hlk hret (by decide) (hb hby dd_prog_38m2_21) (by decide) (by decide) ?_
      show Q_own_con Z a x lo hi h0 n0 (some (.int (1 : Int32))) T3.heap _
      rw [e3]
      exact ⟨(by simp [own_b, hc5_2, hc13_4]), N0, rfl⟩
theorem own_pn3 : plainFor (⟨"com/example/outfall/outfall/rules/RangeContainsPinLaw", "law", "(IIII)Z"⟩ : MethodName) = true := plainFor_of_name (by first | (simp [plainName, overriddenIn]; done) | decide +kernel)
theorem own_pd1 : parseMethodDescriptor "(II)V" = some ⟨[.int, .int], none⟩ := by decide +kernel
theorem own_pd2 : parseMethodDescriptor "(I)Z" = some ⟨[.int], some .boolean⟩ := by decide +kernel
theorem ef_own_law (m : MethodId) (z0 : Int32) (z1 : Int32) (z2 : Int32) (z3 : Int32) : entryFrame m #[(.int z0), (.int z1), (.int z2), (.int z3)] maxLocals = mkF m 0 #[.val (.int z0), .val (.int z1), .val (.int z2), .val (.int z3), .unset, .unset, .unset, .unset, .unset, .unset, .unset, .unset, .unset] [] := by first | (simp [entryFrame, mkF, argsToLocals, Value.category, maxLocals]; done) | rfl
def Q_own_law (Z : State) (a : Int32) (b : Int32) (n : Int32) (k : Int32) (h0 : Heap) (n0 : Nat) (zv : Option Value) (zh : Heap) (zL : List Loc) : Prop := zv = some (.int (1 : Int32)) ∧ Fr n0 zL
set_option maxRecDepth 65536 in
set_option maxHeartbeats 40000000 in
theorem own_law (l : Launch) (Z : State) (a0 : Array Value) (hw : ∀ d ∈ tables_1, d.before a0 Z = true) (ws : List Jvm.Cond) (a : Int32) (b : Int32) (n : Int32) (k : Int32) (h0 : Heap) (n0 : Nat) (Z0 : n0 ≤ h0.size)  :
    MetFree l x (head1 (Jvm.Cond.code x code maxLocals ret :: ws) room_1) (fun za zU => za = #[(.int a), (.int b), (.int n), (.int k)] ∧ Z.Warmed39 zU.vm ∧ zU.heap = h0) (fun _ _ _ _ _ => True) (fun _ zU zo zU' => ∃ zv zL, zo = .returned zv ∧ Q_own_law Z a b n k h0 n0 zv zU'.heap zL ∧ FrameEnd zU zo zU' zL 1 2) := by
  refine own_met (y := x) own_pn3 ?_
  intro p e s m below meth c T0 hx hby hml hown hnm hret hlk hZ e0 X0
  have N0 := Fr.nil n0
  refine own_st (fun zt zk => castTop (ef_own_law m a b n k) zk) ?_
  show own_G p e below s _ _ _ (T0.setTop (mkF m 0 #[.val (.int a), .val (.int b), .val (.int n), .val (.int k), .unset, .unset, .unset, .unset, .unset, .unset, .unset, .unset, .unset] []))
  refine own_st (fun zt zk => XS.iloadN X0.here hx rfl (hb hby at_0) rfl zk) ?_
  show own_G p e below s _ _ _ (T0.setTop (mkF m 1 #[.val (.int a), .val (.int b), .val (.int n), .val (.int k), .unset, .unset, .unset, .unset, .unset, .unset, .unset, .unset, .unset] [(.int a)]))
  refine own_st (X0.ldcInt hx hown (mvT hZ (hw _ (List.mem_of_getElem? (i := 0) rfl))) (g := (mkF m 1 #[.val (.int a), .val (.int b), .val (.int n), .val (.int k), .unset, .unset, .unset, .unset, .unset, .unset, .unset, .unset, .unset] [(.int a)])) rfl (hb hby at_1)) ?_
  show own_G p e below s _ _ _ (T0.setTop (mkF m 3 #[.val (.int a), .val (.int b), .val (.int n), .val (.int k), .unset, .unset, .unset, .unset, .unset, .unset, .unset, .unset, .unset] [(.int (2147483647 : Int32)), (.int a)]))
  refine own_st (fun zt zk => XS.iand X0.here hx rfl (hb hby at_3) rfl zk) ?_
  show own_G p e below s _ _ _ (T0.setTop (mkF m 4 #[.val (.int a), .val (.int b), .val (.int n), .val (.int k), .unset, .unset, .unset, .unset, .unset, .unset, .unset, .unset, .unset] [(.int (a &&& (2147483647 : Int32)))]))
  refine own_st (fun zt zk => XS.istore X0.here hx rfl (hb hby at_4) rfl (l' := #[.val (.int a), .val (.int b), .val (.int n), .val (.int k), .val (.int (a &&& (2147483647 : Int32))), .unset, .unset, .unset, .unset, .unset, .unset, .unset, .unset]) rfl zk) ?_
  show own_G p e below s _ _ _ (T0.setTop (mkF m 6 #[.val (.int a), .val (.int b), .val (.int n), .val (.int k), .val (.int (a &&& (2147483647 : Int32))), .unset, .unset, .unset, .unset, .unset, .unset, .unset, .unset] []))
  have hJ : ∀ (v : Int32) (hv : 1 ≤ v.toInt), own_G p e below s (Q_own_law Z a b n k h0 n0) 1 2 (T0.setTop (mkF m 14 #[.val (.int a), .val (.int b), .val (.int n), .val (.int k), .val (.int v), .unset, .unset, .unset, .unset, .unset, .unset, .unset, .unset] [])) := by
    intro v hv
    refine own_st (fun zt zk => XS.iloadN X0.here hx rfl (hb hby at_14) rfl zk) ?_
    show own_G p e below s _ _ _ (T0.setTop (mkF m 15 #[.val (.int a), .val (.int b), .val (.int n), .val (.int k), .val (.int v), .unset, .unset, .unset, .unset, .unset, .unset, .unset, .unset] [(.int b)]))
    refine own_st (X0.ldcInt hx hown (mvT hZ (hw _ (List.mem_of_getElem? (i := 0) rfl))) (g := (mkF m 15 #[.val (.int a), .val (.int b), .val (.int n), .val (.int k), .val (.int v), .unset, .unset, .unset, .unset, .unset, .unset, .unset, .unset] [(.int b)])) rfl (hb hby at_15)) ?_
    show own_G p e below s _ _ _ (T0.setTop (mkF m 17 #[.val (.int a), .val (.int b), .val (.int n), .val (.int k), .val (.int v), .unset, .unset, .unset, .unset, .unset, .unset, .unset, .unset] [(.int (2147483647 : Int32)), (.int b)]))
    refine own_st (fun zt zk => XS.iand X0.here hx rfl (hb hby at_17) rfl zk) ?_
    show own_G p e below s _ _ _ (T0.setTop (mkF m 18 #[.val (.int a), .val (.int b), .val (.int n), .val (.int k), .val (.int v), .unset, .unset, .unset, .unset, .unset, .unset, .unset, .unset] [(.int (b &&& (2147483647 : Int32)))]))
    refine own_st (X0.ldcInt hx hown (mvT hZ (hw _ (List.mem_of_getElem? (i := 0) rfl))) (g := (mkF m 18 #[.val (.int a), .val (.int b), .val (.int n), .val (.int k), .val (.int v), .unset, .unset, .unset, .unset, .unset, .unset, .unset, .unset] [(.int (b &&& (2147483647 : Int32)))])) rfl (hb hby at_18)) ?_
    show own_G p e below s _ _ _ (T0.setTop (mkF m 20 #[.val (.int a), .val (.int b), .val (.int n), .val (.int k), .val (.int v), .unset, .unset, .unset, .unset, .unset, .unset, .unset, .unset] [(.int (2147483647 : Int32)), (.int (b &&& (2147483647 : Int32)))]))
    refine own_st (fun zt zk => XS.iload X0.here hx rfl (hb hby at_20) rfl zk) ?_
    show own_G p e below s _ _ _ (T0.setTop (mkF m 22 #[.val (.int a), .val (.int b), .val (.int n), .val (.int k), .val (.int v), .unset, .unset, .unset, .unset, .unset, .unset, .unset, .unset] [(.int v), (.int (2147483647 : Int32)), (.int (b &&& (2147483647 : Int32)))]))
    refine own_st (fun zt zk => XS.isub X0.here hx rfl (hb hby at_22) rfl zk) ?_
    show own_G p e below s _ _ _ (T0.setTop (mkF m 23 #[.val (.int a), .val (.int b), .val (.int n), .val (.int k), .val (.int v), .unset, .unset, .unset, .unset, .unset, .unset, .unset, .unset] [(.int ((2147483647 : Int32) - v)), (.int (b &&& (2147483647 : Int32)))]))
    refine own_st (fun zt zk => XS.iconst X0.here hx rfl (hb hby at_23) zk) ?_
    show own_G p e below s _ _ _ (T0.setTop (mkF m 24 #[.val (.int a), .val (.int b), .val (.int n), .val (.int k), .val (.int v), .unset, .unset, .unset, .unset, .unset, .unset, .unset, .unset] [(.int (1 : Int32)), (.int ((2147483647 : Int32) - v)), (.int (b &&& (2147483647 : Int32)))]))
    refine own_st (fun zt zk => XS.iadd X0.here hx rfl (hb hby at_24) rfl zk) ?_
    show own_G p e below s _ _ _ (T0.setTop (mkF m 25 #[.val (.int a), .val (.int b), .val (.int n), .val (.int k), .val (.int v), .unset, .unset, .unset, .unset, .unset, .unset, .unset, .unset] [(.int (((2147483647 : Int32) - v) + (1 : Int32))), (.int (b &&& (2147483647 : Int32)))]))
    refine own_st (fun zt zk => Jvm.RoadKit.iremM X0 hx rfl (hb hby at_25) rfl (own_wide v b hv).1 zk) ?_
    show own_G p e below s _ _ _ (T0.setTop (mkF m 26 #[.val (.int a), .val (.int b), .val (.int n), .val (.int k), .val (.int v), .unset, .unset, .unset, .unset, .unset, .unset, .unset, .unset] [(.int ((b &&& (2147483647 : Int32)) % (((2147483647 : Int32) - v) + (1 : Int32))))]))
    refine own_st (fun zt zk => XS.istore X0.here hx rfl (hb hby at_26) rfl (l' := #[.val (.int a), .val (.int b), .val (.int n), .val (.int k), .val (.int v), .val (.int ((b &&& (2147483647 : Int32)) % (((2147483647 : Int32) - v) + (1 : Int32)))), .unset, .unset, .unset, .unset, .unset, .unset, .unset]) rfl zk) ?_
    show own_G p e below s _ _ _ (T0.setTop (mkF m 28 #[.val (.int a), .val (.int b), .val (.int n), .val (.int k), .val (.int v), .val (.int ((b &&& (2147483647 : Int32)) % (((2147483647 : Int32) - v) + (1 : Int32)))), .unset, .unset, .unset, .unset, .unset, .unset, .unset] []))
    refine own_st (fun zt zk => XS.iload X0.here hx rfl (hb hby at_28) rfl zk) ?_
    show own_G p e below s _ _ _ (T0.setTop (mkF m 30 #[.val (.int a), .val (.int b), .val (.int n), .val (.int k), .val (.int v), .val (.int ((b &&& (2147483647 : Int32)) % (((2147483647 : Int32) - v) + (1 : Int32)))), .unset, .unset, .unset, .unset, .unset, .unset, .unset] [(.int v)]))
    refine own_st (fun zt zk => XS.iload X0.here hx rfl (hb hby at_30) rfl zk) ?_
    show own_G p e below s _ _ _ (T0.setTop (mkF m 32 #[.val (.int a), .val (.int b), .val (.int n), .val (.int k), .val (.int v), .val (.int ((b &&& (2147483647 : Int32)) % (((2147483647 : Int32) - v) + (1 : Int32)))), .unset, .unset, .unset, .unset, .unset, .unset, .unset] [(.int ((b &&& (2147483647 : Int32)) % (((2147483647 : Int32) - v) + (1 : Int32)))), (.int v)]))
    refine own_st (fun zt zk => XS.iadd X0.here hx rfl (hb hby at_32) rfl zk) ?_
    show own_G p e below s _ _ _ (T0.setTop (mkF m 33 #[.val (.int a), .val (.int b), .val (.int n), .val (.int k), .val (.int v), .val (.int ((b &&& (2147483647 : Int32)) % (((2147483647 : Int32) - v) + (1 : Int32)))), .unset, .unset, .unset, .unset, .unset, .unset, .unset] [(.int (v + ((b &&& (2147483647 : Int32)) % (((2147483647 : Int32) - v) + (1 : Int32)))))]))
    refine own_st (fun zt zk => XS.istore X0.here hx rfl (hb hby at_33) rfl (l' := #[.val (.int a), .val (.int b), .val (.int n), .val (.int k), .val (.int v), .val (.int ((b &&& (2147483647 : Int32)) % (((2147483647 : Int32) - v) + (1 : Int32)))), .val (.int (v + ((b &&& (2147483647 : Int32)) % (((2147483647 : Int32) - v) + (1 : Int32))))), .unset, .unset, .unset, .unset, .unset, .unset]) rfl zk) ?_
    show own_G p e below s _ _ _ (T0.setTop (mkF m 35 #[.val (.int a), .val (.int b), .val (.int n), .val (.int k), .val (.int v), .val (.int ((b &&& (2147483647 : Int32)) % (((2147483647 : Int32) - v) + (1 : Int32)))), .val (.int (v + ((b &&& (2147483647 : Int32)) % (((2147483647 : Int32) - v) + (1 : Int32))))), .unset, .unset, .unset, .unset, .unset, .unset] []))
    have hw6 := (own_wide v b hv).2
    obtain ⟨u, q_u⟩ : ∃ z, z = (v + ((b &&& (2147483647 : Int32)) % (((2147483647 : Int32) - v) + (1 : Int32)))) := ⟨_, rfl⟩
    rw [← q_u]
    show own_G p e below s _ _ _ (T0.setTop (mkF m 35 #[.val (.int a), .val (.int b), .val (.int n), .val (.int k), .val (.int v), .val (.int ((b &&& (2147483647 : Int32)) % (((2147483647 : Int32) - v) + (1 : Int32)))), .val (.int u), .unset, .unset, .unset, .unset, .unset, .unset] []))
    rw [← q_u] at hw6
    have i1 : (1 : Int32).toInt = 1 := by decide
    have j0 : (0 : Int64).toInt = 0 := by decide
    have k1 : ¬ (v < (1 : Int32)) := by rw [Int32.lt_iff_toInt_lt]; omega
    have k2 : ¬ (u < v) := by rw [Int32.lt_iff_toInt_lt]; omega
    have a1 := c_isub v 1
    have a2 := c_iadd u 1
    have r1 := rng32 v
    have r2 := rng32 u
    have r3 := rng32 (v - 1)
    have r4 := rng32 (u + 1)
    have r5 := rng32 n
    have b1 := c_lsub n.toInt64 v.toInt64
    have b2 := c_lsub u.toInt64 v.toInt64
    have b3 := rng64 (n.toInt64 - v.toInt64)
    have b4 := rng64 (u.toInt64 - v.toInt64)
    rw [c_i2l, c_i2l] at b1 b2
    obtain ⟨T2, h2, X2, e2, E2, A2, D2, -, st2⟩ := newO X0 hx hZ hown (hw _ (List.mem_of_getElem? (i := 1) rfl)) (hw _ (List.mem_of_getElem? (i := 2) rfl)) (hw _ (List.mem_of_getElem? (i := 3) rfl)) e0 (g := (mkF m 35 #[.val (.int a), .val (.int b), .val (.int n), .val (.int k), .val (.int v), .val (.int ((b &&& (2147483647 : Int32)) % (((2147483647 : Int32) - v) + (1 : Int32)))), .val (.int u), .unset, .unset, .unset, .unset, .unset, .unset] [])) rfl (hb hby at_35) (by decide) (by decide)
    obtain ⟨b2, g2⟩ : ∃ z, z = h0.size := ⟨_, rfl⟩
    rw [← g2] at A2 D2 st2
    have ge2 : n0 ≤ b2 := Nat.le_trans Z0 (Nat.le_of_eq g2.symm)
    have sz2 : h0.size ≤ b2 := Nat.le_trans (Nat.le_refl h0.size) (Nat.le_of_eq g2.symm)
    refine own_st st2 ?_
    show own_G p e below s _ _ _ (T2.setTop (mkF m 38 #[.val (.int a), .val (.int b), .val (.int n), .val (.int k), .val (.int v), .val (.int ((b &&& (2147483647 : Int32)) % (((2147483647 : Int32) - v) + (1 : Int32)))), .val (.int u), .unset, .unset, .unset, .unset, .unset, .unset] [(.ref b2)]))
    refine own_st (fun zt zk => XS.dup X2.here hx rfl (hb hby at_38) rfl rfl zk) ?_
    show own_G p e below s _ _ _ (T2.setTop (mkF m 39 #[.val (.int a), .val (.int b), .val (.int n), .val (.int k), .val (.int v), .val (.int ((b &&& (2147483647 : Int32)) % (((2147483647 : Int32) - v) + (1 : Int32)))), .val (.int u), .unset, .unset, .unset, .unset, .unset, .unset] [(.ref b2), (.ref b2)]))
    refine own_st (fun zt zk => XS.iload X2.here hx rfl (hb hby at_39) rfl zk) ?_
    show own_G p e below s _ _ _ (T2.setTop (mkF m 41 #[.val (.int a), .val (.int b), .val (.int n), .val (.int k), .val (.int v), .val (.int ((b &&& (2147483647 : Int32)) % (((2147483647 : Int32) - v) + (1 : Int32)))), .val (.int u), .unset, .unset, .unset, .unset, .unset, .unset] [(.int v), (.ref b2), (.ref b2)]))
    refine own_st (fun zt zk => XS.iload X2.here hx rfl (hb hby at_41) rfl zk) ?_
    show own_G p e below s _ _ _ (T2.setTop (mkF m 43 #[.val (.int a), .val (.int b), .val (.int n), .val (.int k), .val (.int v), .val (.int ((b &&& (2147483647 : Int32)) % (((2147483647 : Int32) - v) + (1 : Int32)))), .val (.int u), .unset, .unset, .unset, .unset, .unset, .unset] [(.int u), (.int v), (.ref b2), (.ref b2)]))
    obtain ⟨_, T3, L3, X3, hQ3, st3⟩ := own_callI X2 hx hZ (y := (⟨"com/example/outfall/outfall/rules/PumpingSchedule$Range", "<init>", "(II)V"⟩ : MethodName)) (a := b2) (argsL := [(.int v), (.int u)]) (rest := [(.ref b2)]) 1 rfl hown (hw _ (List.mem_of_getElem? (i := 4) rfl)) (hw _ (List.mem_of_getElem? (i := 5) rfl)) (hw _ (List.mem_of_getElem? (i := 3) rfl)) (hw _ (List.mem_of_getElem? (i := 6) rfl)) (by decide) (own_ini l Z a0 hw [] b2 v u h2 n0 (Nat.le_trans Z0 E2.1) A2 (D2 (Or.inr (hw _ (List.mem_of_getElem? (i := 16) rfl))) (ty := .int) (by decide)) (D2 (Or.inr (hw _ (List.mem_of_getElem? (i := 18) rfl))) (ty := .int) (by decide)) ge2 k1 k2) (by decide) (by decide) e2 (g := (mkF m 43 #[.val (.int a), .val (.int b), .val (.int n), .val (.int k), .val (.int v), .val (.int ((b &&& (2147483647 : Int32)) % (((2147483647 : Int32) - v) + (1 : Int32)))), .val (.int u), .unset, .unset, .unset, .unset, .unset, .unset] [(.int u), (.int v), (.ref b2), (.ref b2)])) rfl (by rw [hml]; rfl) own_pd1 rfl rfl (by show 2 * 0 + _ ≤ _; exact Nat.le_of_eq rfl) (hb hby at_43) (by decide) (by decide)
    obtain ⟨rfl, N3q, K3, q3_0, q3_1⟩ := hQ3
    have N3 := Fr.app N0 N3q
    refine own_st st3 ?_
    show own_G p e below s _ _ _ (T3.setTop (mkF m 46 #[.val (.int a), .val (.int b), .val (.int n), .val (.int k), .val (.int v), .val (.int ((b &&& (2147483647 : Int32)) % (((2147483647 : Int32) - v) + (1 : Int32)))), .val (.int u), .unset, .unset, .unset, .unset, .unset, .unset] [(.ref b2)]))
    refine own_st (fun zt zk => XS.astore X3.here hx rfl (hb hby at_46) rfl rfl (l' := #[.val (.int a), .val (.int b), .val (.int n), .val (.int k), .val (.int v), .val (.int ((b &&& (2147483647 : Int32)) % (((2147483647 : Int32) - v) + (1 : Int32)))), .val (.int u), .val (.ref b2), .unset, .unset, .unset, .unset, .unset]) rfl zk) ?_
    show own_G p e below s _ _ _ (T3.setTop (mkF m 48 #[.val (.int a), .val (.int b), .val (.int n), .val (.int k), .val (.int v), .val (.int ((b &&& (2147483647 : Int32)) % (((2147483647 : Int32) - v) + (1 : Int32)))), .val (.int u), .val (.ref b2), .unset, .unset, .unset, .unset, .unset] []))
    refine own_st (fun zt zk => XS.iloadN X3.here hx rfl (hb hby at_48) rfl zk) ?_
    show own_G p e below s _ _ _ (T3.setTop (mkF m 49 #[.val (.int a), .val (.int b), .val (.int n), .val (.int k), .val (.int v), .val (.int ((b &&& (2147483647 : Int32)) % (((2147483647 : Int32) - v) + (1 : Int32)))), .val (.int u), .val (.ref b2), .unset, .unset, .unset, .unset, .unset] [(.int k)]))
    refine own_st (fun zt zk => XS.bipush X3.here hx rfl (hb hby at_49) zk) ?_
    show own_G p e below s _ _ _ (T3.setTop (mkF m 51 #[.val (.int a), .val (.int b), .val (.int n), .val (.int k), .val (.int v), .val (.int ((b &&& (2147483647 : Int32)) % (((2147483647 : Int32) - v) + (1 : Int32)))), .val (.int u), .val (.ref b2), .unset, .unset, .unset, .unset, .unset] [(.int (7 : Int32)), (.int k)]))
    refine own_st (fun zt zk => XS.iand X3.here hx rfl (hb hby at_51) rfl zk) ?_
    show own_G p e below s _ _ _ (T3.setTop (mkF m 52 #[.val (.int a), .val (.int b), .val (.int n), .val (.int k), .val (.int v), .val (.int ((b &&& (2147483647 : Int32)) % (((2147483647 : Int32) - v) + (1 : Int32)))), .val (.int u), .val (.ref b2), .unset, .unset, .unset, .unset, .unset] [(.int (k &&& (7 : Int32)))]))
    refine own_st (fun zt zk => XS.istore X3.here hx rfl (hb hby at_52) rfl (l' := #[.val (.int a), .val (.int b), .val (.int n), .val (.int k), .val (.int v), .val (.int ((b &&& (2147483647 : Int32)) % (((2147483647 : Int32) - v) + (1 : Int32)))), .val (.int u), .val (.ref b2), .val (.int (k &&& (7 : Int32))), .unset, .unset, .unset, .unset]) rfl zk) ?_
    show own_G p e below s _ _ _ (T3.setTop (mkF m 54 #[.val (.int a), .val (.int b), .val (.int n), .val (.int k), .val (.int v), .val (.int ((b &&& (2147483647 : Int32)) % (((2147483647 : Int32) - v) + (1 : Int32)))), .val (.int u), .val (.ref b2), .val (.int (k &&& (7 : Int32))), .unset, .unset, .unset, .unset] []))
    refine own_st (fun zt zk => XS.iload X3.here hx rfl (hb hby at_54) rfl zk) ?_
    show own_G p e below s _ _ _ (T3.setTop (mkF m 56 #[.val (.int a), .val (.int b), .val (.int n), .val (.int k), .val (.int v), .val (.int ((b &&& (2147483647 : Int32)) % (((2147483647 : Int32) - v) + (1 : Int32)))), .val (.int u), .val (.ref b2), .val (.int (k &&& (7 : Int32))), .unset, .unset, .unset, .unset] [(.int (k &&& (7 : Int32)))]))
    by_cases hc56_4 : (k &&& (7 : Int32)) = (0 : Int32)
    · refine own_st (fun zt zk => XS.ifNo X3.here hx rfl (hb hby at_56) rfl ((if0 _ _).trans (teq hc56_4).2) zk) ?_
      show own_G p e below s _ _ _ (T3.setTop (mkF m 59 #[.val (.int a), .val (.int b), .val (.int n), .val (.int k), .val (.int v), .val (.int ((b &&& (2147483647 : Int32)) % (((2147483647 : Int32) - v) + (1 : Int32)))), .val (.int u), .val (.ref b2), .val (.int (k &&& (7 : Int32))), .unset, .unset, .unset, .unset] []))
      refine own_st (fun zt zk => XS.iload X3.here hx rfl (hb hby at_59) rfl zk) ?_
      show own_G p e below s _ _ _ (T3.setTop (mkF m 61 #[.val (.int a), .val (.int b), .val (.int n), .val (.int k), .val (.int v), .val (.int ((b &&& (2147483647 : Int32)) % (((2147483647 : Int32) - v) + (1 : Int32)))), .val (.int u), .val (.ref b2), .val (.int (k &&& (7 : Int32))), .unset, .unset, .unset, .unset] [(.int v)]))
      refine own_st (fun zt zk => XS.istore X3.here hx rfl (hb hby at_61) rfl (l' := #[.val (.int a), .val (.int b), .val (.int n), .val (.int k), .val (.int v), .val (.int ((b &&& (2147483647 : Int32)) % (((2147483647 : Int32) - v) + (1 : Int32)))), .val (.int u), .val (.ref b2), .val (.int (k &&& (7 : Int32))), .val (.int v), .unset, .unset, .unset]) rfl zk) ?_
      show own_G p e below s _ _ _ (T3.setTop (mkF m 63 #[.val (.int a), .val (.int b), .val (.int n), .val (.int k), .val (.int v), .val (.int ((b &&& (2147483647 : Int32)) % (((2147483647 : Int32) - v) + (1 : Int32)))), .val (.int u), .val (.ref b2), .val (.int (k &&& (7 : Int32))), .val (.int v), .unset, .unset, .unset] []))
      refine own_st (fun zt zk => XS.iconst X3.here hx rfl (hb hby at_63) zk) ?_
      show own_G p e below s _ _ _ (T3.setTop (mkF m 64 #[.val (.int a), .val (.int b), .val (.int n), .val (.int k), .val (.int v), .val (.int ((b &&& (2147483647 : Int32)) % (((2147483647 : Int32) - v) + (1 : Int32)))), .val (.int u), .val (.ref b2), .val (.int (k &&& (7 : Int32))), .val (.int v), .unset, .unset, .unset] [(.int (1 : Int32))]))
      refine own_st (fun zt zk => XS.istore X3.here hx rfl (hb hby at_64) rfl (l' := #[.val (.int a), .val (.int b), .val (.int n), .val (.int k), .val (.int v), .val (.int ((b &&& (2147483647 : Int32)) % (((2147483647 : Int32) - v) + (1 : Int32)))), .val (.int u), .val (.ref b2), .val (.int (k &&& (7 : Int32))), .val (.int v), .val (.int (1 : Int32)), .unset, .unset]) rfl zk) ?_
      show own_G p e below s _ _ _ (T3.setTop (mkF m 66 #[.val (.int a), .val (.int b), .val (.int n), .val (.int k), .val (.int v), .val (.int ((b &&& (2147483647 : Int32)) % (((2147483647 : Int32) - v) + (1 : Int32)))), .val (.int u), .val (.ref b2), .val (.int (k &&& (7 : Int32))), .val (.int v), .val (.int (1 : Int32)), .unset, .unset] []))
      refine own_st (fun zt zk => XS.goto X3.here hx rfl (pc0 := 66) (pc' := 159) rfl (hb hby at_66) (by decide) (by decide) zk) ?_
      show own_G p e below s _ _ _ (T3.setTop (mkF m 159 #[.val (.int a), .val (.int b), .val (.int n), .val (.int k), .val (.int v), .val (.int ((b &&& (2147483647 : Int32)) % (((2147483647 : Int32) - v) + (1 : Int32)))), .val (.int u), .val (.ref b2), .val (.int (k &&& (7 : Int32))), .val (.int v), .val (.int (1 : Int32)), .unset, .unset] []))
      refine own_st (fun zt zk => XS.aload X3.here hx rfl (hb hby at_159) rfl rfl zk) ?_
      show own_G p e below s _ _ _ (T3.setTop (mkF m 161 #[.val (.int a), .val (.int b), .val (.int n), .val (.int k), .val (.int v), .val (.int ((b &&& (2147483647 : Int32)) % (((2147483647 : Int32) - v) + (1 : Int32)))), .val (.int u), .val (.ref b2), .val (.int (k &&& (7 : Int32))), .val (.int v), .val (.int (1 : Int32)), .unset, .unset] [(.ref b2)]))
      refine own_st (fun zt zk => XS.iload X3.here hx rfl (hb hby at_161) rfl zk) ?_
      show own_G p e below s _ _ _ (T3.setTop (mkF m 163 #[.val (.int a), .val (.int b), .val (.int n), .val (.int k), .val (.int v), .val (.int ((b &&& (2147483647 : Int32)) % (((2147483647 : Int32) - v) + (1 : Int32)))), .val (.int u), .val (.ref b2), .val (.int (k &&& (7 : Int32))), .val (.int v), .val (.int (1 : Int32)), .unset, .unset] [(.int v), (.ref b2)]))
      have E6 : Exa Z T3.heap b2 "com/example/outfall/outfall/rules/PumpingSchedule$Range" := (A2.keep K3)
      obtain ⟨_, T5, L5, X5, hQ5, st5⟩ := own_callV X3 hx hZ (C := "com/example/outfall/outfall/rules/PumpingSchedule$Range") (y := (⟨"com/example/outfall/outfall/rules/PumpingSchedule$Range", "contains", "(I)Z"⟩ : MethodName)) (z := (⟨"com/example/outfall/outfall/rules/PumpingSchedule$Range", "contains", "(I)Z"⟩ : MethodName)) (a := b2) (argsL := [(.int v)]) (rest := []) 0 hown (hw _ (List.mem_of_getElem? (i := 19) rfl)) (hw _ (List.mem_of_getElem? (i := 20) rfl)) (own_nf hZ (hw _ (List.mem_of_getElem? (i := 22) rfl))) (hw _ (List.mem_of_getElem? (i := 22) rfl)) (hw _ (List.mem_of_getElem? (i := 21) rfl)) (hw _ (List.mem_of_getElem? (i := 3) rfl)) (hw _ (List.mem_of_getElem? (i := 23) rfl)) (by decide) (own_con l Z a0 hw [] b2 v v u T3.heap n0 (Nat.le_trans (Nat.le_trans Z0 E2.1) K3.1) q3_0 q3_1) (by decide) (by decide) rfl E6 (g := (mkF m 163 #[.val (.int a), .val (.int b), .val (.int n), .val (.int k), .val (.int v), .val (.int ((b &&& (2147483647 : Int32)) % (((2147483647 : Int32) - v) + (1 : Int32)))), .val (.int u), .val (.ref b2), .val (.int (k &&& (7 : Int32))), .val (.int v), .val (.int (1 : Int32)), .unset, .unset] [(.int v), (.ref b2)])) rfl (by rw [hml]; rfl) own_pd2 rfl rfl (by show 2 * 0 + _ ≤ _; exact Nat.le_of_eq rfl) (hb hby at_163) (by decide) (by decide)
      obtain ⟨rfl, N5q, e5⟩ := hQ5
      have N5 := Fr.app N3 N5q
      refine own_st st5 ?_
      show own_G p e below s _ _ _ (T5.setTop (mkF m 166 #[.val (.int a), .val (.int b), .val (.int n), .val (.int k), .val (.int v), .val (.int ((b &&& (2147483647 : Int32)) % (((2147483647 : Int32) - v) + (1 : Int32)))), .val (.int u), .val (.ref b2), .val (.int (k &&& (7 : Int32))), .val (.int v), .val (.int (1 : Int32)), .unset, .unset] [(.int (own_b (¬ (v < v) ∧ ¬ (u < v))))]))
      refine own_st (fun zt zk => XS.iload X5.here hx rfl (hb hby at_166) rfl zk) ?_
      show own_G p e below s _ _ _ (T5.setTop (mkF m 168 #[.val (.int a), .val (.int b), .val (.int n), .val (.int k), .val (.int v), .val (.int ((b &&& (2147483647 : Int32)) % (((2147483647 : Int32) - v) + (1 : Int32)))), .val (.int u), .val (.ref b2), .val (.int (k &&& (7 : Int32))), .val (.int v), .val (.int (1 : Int32)), .unset, .unset] [(.int (1 : Int32)), (.int (own_b (¬ (v < v) ∧ ¬ (u < v))))]))
      have hc168_7 : (own_b (¬ (v < v) ∧ ¬ (u < v))) = (1 : Int32) := own_b1 (by simp only [Int32.lt_iff_toInt_lt]; omega)
      refine own_st (fun zt zk => XS.icmpNo X5.here hx rfl (hb hby at_168) rfl (teq hc168_7).2 zk) ?_
      show own_G p e below s _ _ _ (T5.setTop (mkF m 171 #[.val (.int a), .val (.int b), .val (.int n), .val (.int k), .val (.int v), .val (.int ((b &&& (2147483647 : Int32)) % (((2147483647 : Int32) - v) + (1 : Int32)))), .val (.int u), .val (.ref b2), .val (.int (k &&& (7 : Int32))), .val (.int v), .val (.int (1 : Int32)), .unset, .unset] []))
      refine own_st (fun zt zk => XS.iconst X5.here hx rfl (hb hby at_171) zk) ?_
      show own_G p e below s _ _ _ (T5.setTop (mkF m 172 #[.val (.int a), .val (.int b), .val (.int n), .val (.int k), .val (.int v), .val (.int ((b &&& (2147483647 : Int32)) % (((2147483647 : Int32) - v) + (1 : Int32)))), .val (.int u), .val (.ref b2), .val (.int (k &&& (7 : Int32))), .val (.int v), .val (.int (1 : Int32)), .unset, .unset] [(.int (1 : Int32))]))
      refine own_st (fun zt zk => XS.goto X5.here hx rfl (pc0 := 172) (pc' := 176) rfl (hb hby at_172) (by decide) (by decide) zk) ?_
      show own_G p e below s _ _ _ (T5.setTop (mkF m 176 #[.val (.int a), .val (.int b), .val (.int n), .val (.int k), .val (.int v), .val (.int ((b &&& (2147483647 : Int32)) % (((2147483647 : Int32) - v) + (1 : Int32)))), .val (.int u), .val (.ref b2), .val (.int (k &&& (7 : Int32))), .val (.int v), .val (.int (1 : Int32)), .unset, .unset] [(.int (1 : Int32))]))
      refine own_retZ X5 hx hlk hret (by decide) (hb hby at_176) (by decide) (by decide) ?_
      show Q_own_law Z a b n k h0 n0 (some (.int (1 : Int32))) T5.heap _
      rw [e5]
      exact ⟨rfl, N5⟩
    · refine own_st (fun zt zk => XS.ifYes X3.here hx rfl (pc0 := 56) (pc' := 69) rfl (hb hby at_56) rfl ((if0 _ _).trans (feq hc56_4).2) (by decide) (by decide) zk) ?_
      show own_G p e below s _ _ _ (T3.setTop (mkF m 69 #[.val (.int a), .val (.int b), .val (.int n), .val (.int k), .val (.int v), .val (.int ((b &&& (2147483647 : Int32)) % (((2147483647 : Int32) - v) + (1 : Int32)))), .val (.int u), .val (.ref b2), .val (.int (k &&& (7 : Int32))), .unset, .unset, .unset, .unset] []))
      refine own_st (fun zt zk => XS.iload X3.here hx rfl (hb hby at_69) rfl zk) ?_
      show own_G p e below s _ _ _ (T3.setTop (mkF m 71 #[.val (.int a), .val (.int b), .val (.int n), .val (.int k), .val (.int v), .val (.int ((b &&& (2147483647 : Int32)) % (((2147483647 : Int32) - v) + (1 : Int32)))), .val (.int u), .val (.ref b2), .val (.int (k &&& (7 : Int32))), .unset, .unset, .unset, .unset] [(.int (k &&& (7 : Int32)))]))
      refine own_st (fun zt zk => XS.iconst X3.here hx rfl (hb hby at_71) zk) ?_
      show own_G p e below s _ _ _ (T3.setTop (mkF m 72 #[.val (.int a), .val (.int b), .val (.int n), .val (.int k), .val (.int v), .val (.int ((b &&& (2147483647 : Int32)) % (((2147483647 : Int32) - v) + (1 : Int32)))), .val (.int u), .val (.ref b2), .val (.int (k &&& (7 : Int32))), .unset, .unset, .unset, .unset] [(.int (1 : Int32)), (.int (k &&& (7 : Int32)))]))
      by_cases hc72_8 : (k &&& (7 : Int32)) = (1 : Int32)
      · refine own_st (fun zt zk => XS.icmpNo X3.here hx rfl (hb hby at_72) rfl (teq hc72_8).2 zk) ?_
        show own_G p e below s _ _ _ (T3.setTop (mkF m 75 #[.val (.int a), .val (.int b), .val (.int n), .val (.int k), .val (.int v), .val (.int ((b &&& (2147483647 : Int32)) % (((2147483647 : Int32) - v) + (1 : Int32)))), .val (.int u), .val (.ref b2), .val (.int (k &&& (7 : Int32))), .unset, .unset, .unset, .unset] []))
        refine own_st (fun zt zk => XS.iload X3.here hx rfl (hb hby at_75) rfl zk) ?_
        show own_G p e below s _ _ _ (T3.setTop (mkF m 77 #[.val (.int a), .val (.int b), .val (.int n), .val (.int k), .val (.int v), .val (.int ((b &&& (2147483647 : Int32)) % (((2147483647 : Int32) - v) + (1 : Int32)))), .val (.int u), .val (.ref b2), .val (.int (k &&& (7 : Int32))), .unset, .unset, .unset, .unset] [(.int u)]))
        refine own_st (fun zt zk => XS.istore X3.here hx rfl (hb hby at_77) rfl (l' := #[.val (.int a), .val (.int b), .val (.int n), .val (.int k), .val (.int v), .val (.int ((b &&& (2147483647 : Int32)) % (((2147483647 : Int32) - v) + (1 : Int32)))), .val (.int u), .val (.ref b2), .val (.int (k &&& (7 : Int32))), .val (.int u), .unset, .unset, .unset]) rfl zk) ?_
        show own_G p e below s _ _ _ (T3.setTop (mkF m 79 #[.val (.int a), .val (.int b), .val (.int n), .val (.int k), .val (.int v), .val (.int ((b &&& (2147483647 : Int32)) % (((2147483647 : Int32) - v) + (1 : Int32)))), .val (.int u), .val (.ref b2), .val (.int (k &&& (7 : Int32))), .val (.int u), .unset, .unset, .unset] []))
        refine own_st (fun zt zk => XS.iconst X3.here hx rfl (hb hby at_79) zk) ?_
        show own_G p e below s _ _ _ (T3.setTop (mkF m 80 #[.val (.int a), .val (.int b), .val (.int n), .val (.int k), .val (.int v), .val (.int ((b &&& (2147483647 : Int32)) % (((2147483647 : Int32) - v) + (1 : Int32)))), .val (.int u), .val (.ref b2), .val (.int (k &&& (7 : Int32))), .val (.int u), .unset, .unset, .unset] [(.int (1 : Int32))]))
        refine own_st (fun zt zk => XS.istore X3.here hx rfl (hb hby at_80) rfl (l' := #[.val (.int a), .val (.int b), .val (.int n), .val (.int k), .val (.int v), .val (.int ((b &&& (2147483647 : Int32)) % (((2147483647 : Int32) - v) + (1 : Int32)))), .val (.int u), .val (.ref b2), .val (.int (k &&& (7 : Int32))), .val (.int u), .val (.int (1 : Int32)), .unset, .unset]) rfl zk) ?_
        show own_G p e below s _ _ _ (T3.setTop (mkF m 82 #[.val (.int a), .val (.int b), .val (.int n), .val (.int k), .val (.int v), .val (.int ((b &&& (2147483647 : Int32)) % (((2147483647 : Int32) - v) + (1 : Int32)))), .val (.int u), .val (.ref b2), .val (.int (k &&& (7 : Int32))), .val (.int u), .val (.int (1 : Int32)), .unset, .unset] []))
        refine own_st (fun zt zk => XS.goto X3.here hx rfl (pc0 := 82) (pc' := 159) rfl (hb hby at_82) (by decide) (by decide) zk) ?_
        show own_G p e below s _ _ _ (T3.setTop (mkF m 159 #[.val (.int a), .val (.int b), .val (.int n), .val (.int k), .val (.int v), .val (.int ((b &&& (2147483647 : Int32)) % (((2147483647 : Int32) - v) + (1 : Int32)))), .val (.int u), .val (.ref b2), .val (.int (k &&& (7 : Int32))), .val (.int u), .val (.int (1 : Int32)), .unset, .unset] []))
        refine own_st (fun zt zk => XS.aload X3.here hx rfl (hb hby at_159) rfl rfl zk) ?_
        show own_G p e below s _ _ _ (T3.setTop (mkF m 161 #[.val (.int a), .val (.int b), .val (.int n), .val (.int k), .val (.int v), .val (.int ((b &&& (2147483647 : Int32)) % (((2147483647 : Int32) - v) + (1 : Int32)))), .val (.int u), .val (.ref b2), .val (.int (k &&& (7 : Int32))), .val (.int u), .val (.int (1 : Int32)), .unset, .unset] [(.ref b2)]))
        refine own_st (fun zt zk => XS.iload X3.here hx rfl (hb hby at_161) rfl zk) ?_
        show own_G p e below s _ _ _ (T3.setTop (mkF m 163 #[.val (.int a), .val (.int b), .val (.int n), .val (.int k), .val (.int v), .val (.int ((b &&& (2147483647 : Int32)) % (((2147483647 : Int32) - v) + (1 : Int32)))), .val (.int u), .val (.ref b2), .val (.int (k &&& (7 : Int32))), .val (.int u), .val (.int (1 : Int32)), .unset, .unset] [(.int u), (.ref b2)]))
        have E10 : Exa Z T3.heap b2 "com/example/outfall/outfall/rules/PumpingSchedule$Range" := (A2.keep K3)
        obtain ⟨_, T9, L9, X9, hQ9, st9⟩ := own_callV X3 hx hZ (C := "com/example/outfall/outfall/rules/PumpingSchedule$Range") (y := (⟨"com/example/outfall/outfall/rules/PumpingSchedule$Range", "contains", "(I)Z"⟩ : MethodName)) (z := (⟨"com/example/outfall/outfall/rules/PumpingSchedule$Range", "contains", "(I)Z"⟩ : MethodName)) (a := b2) (argsL := [(.int u)]) (rest := []) 0 hown (hw _ (List.mem_of_getElem? (i := 19) rfl)) (hw _ (List.mem_of_getElem? (i := 20) rfl)) (own_nf hZ (hw _ (List.mem_of_getElem? (i := 22) rfl))) (hw _ (List.mem_of_getElem? (i := 22) rfl)) (hw _ (List.mem_of_getElem? (i := 21) rfl)) (hw _ (List.mem_of_getElem? (i := 3) rfl)) (hw _ (List.mem_of_getElem? (i := 23) rfl)) (by decide) (own_con l Z a0 hw [] b2 u v u T3.heap n0 (Nat.le_trans (Nat.le_trans Z0 E2.1) K3.1) q3_0 q3_1) (by decide) (by decide) rfl E10 (g := (mkF m 163 #[.val (.int a), .val (.int b), .val (.int n), .val (.int k), .val (.int v), .val (.int ((b &&& (2147483647 : Int32)) % (((2147483647 : Int32) - v) + (1 : Int32)))), .val (.int u), .val (.ref b2), .val (.int (k &&& (7 : Int32))), .val (.int u), .val (.int (1 : Int32)), .unset, .unset] [(.int u), (.ref b2)])) rfl (by rw [hml]; rfl) own_pd2 rfl rfl (by show 2 * 0 + _ ≤ _; exact Nat.le_of_eq rfl) (hb hby at_163) (by decide) (by decide)
        obtain ⟨rfl, N9q, e9⟩ := hQ9
        have N9 := Fr.app N3 N9q
        refine own_st st9 ?_
        show own_G p e below s _ _ _ (T9.setTop (mkF m 166 #[.val (.int a), .val (.int b), .val (.int n), .val (.int k), .val (.int v), .val (.int ((b &&& (2147483647 : Int32)) % (((2147483647 : Int32) - v) + (1 : Int32)))), .val (.int u), .val (.ref b2), .val (.int (k &&& (7 : Int32))), .val (.int u), .val (.int (1 : Int32)), .unset, .unset] [(.int (own_b (¬ (u < v) ∧ ¬ (u < u))))]))
        refine own_st (fun zt zk => XS.iload X9.here hx rfl (hb hby at_166) rfl zk) ?_
        show own_G p e below s _ _ _ (T9.setTop (mkF m 168 #[.val (.int a), .val (.int b), .val (.int n), .val (.int k), .val (.int v), .val (.int ((b &&& (2147483647 : Int32)) % (((2147483647 : Int32) - v) + (1 : Int32)))), .val (.int u), .val (.ref b2), .val (.int (k &&& (7 : Int32))), .val (.int u), .val (.int (1 : Int32)), .unset, .unset] [(.int (1 : Int32)), (.int (own_b (¬ (u < v) ∧ ¬ (u < u))))]))
        have hc168_11 : (own_b (¬ (u < v) ∧ ¬ (u < u))) = (1 : Int32) := own_b1 (by simp only [Int32.lt_iff_toInt_lt]; omega)
        refine own_st (fun zt zk => XS.icmpNo X9.here hx rfl (hb hby at_168) rfl (teq hc168_11).2 zk) ?_
        show own_G p e below s _ _ _ (T9.setTop (mkF m 171 #[.val (.int a), .val (.int b), .val (.int n), .val (.int k), .val (.int v), .val (.int ((b &&& (2147483647 : Int32)) % (((2147483647 : Int32) - v) + (1 : Int32)))), .val (.int u), .val (.ref b2), .val (.int (k &&& (7 : Int32))), .val (.int u), .val (.int (1 : Int32)), .unset, .unset] []))
        refine own_st (fun zt zk => XS.iconst X9.here hx rfl (hb hby at_171) zk) ?_
        show own_G p e below s _ _ _ (T9.setTop (mkF m 172 #[.val (.int a), .val (.int b), .val (.int n), .val (.int k), .val (.int v), .val (.int ((b &&& (2147483647 : Int32)) % (((2147483647 : Int32) - v) + (1 : Int32)))), .val (.int u), .val (.ref b2), .val (.int (k &&& (7 : Int32))), .val (.int u), .val (.int (1 : Int32)), .unset, .unset] [(.int (1 : Int32))]))
        refine own_st (fun zt zk => XS.goto X9.here hx rfl (pc0 := 172) (pc' := 176) rfl (hb hby at_172) (by decide) (by decide) zk) ?_
        show own_G p e below s _ _ _ (T9.setTop (mkF m 176 #[.val (.int a), .val (.int b), .val (.int n), .val (.int k), .val (.int v), .val (.int ((b &&& (2147483647 : Int32)) % (((2147483647 : Int32) - v) + (1 : Int32)))), .val (.int u), .val (.ref b2), .val (.int (k &&& (7 : Int32))), .val (.int u), .val (.int (1 : Int32)), .unset, .unset] [(.int (1 : Int32))]))
        refine own_retZ X9 hx hlk hret (by decide) (hb hby at_176) (by decide) (by decide) ?_
        show Q_own_law Z a b n k h0 n0 (some (.int (1 : Int32))) T9.heap _
        rw [e9]
        exact ⟨rfl, N9⟩
      · refine own_st (fun zt zk => XS.icmpYes X3.here hx rfl (pc0 := 72) (pc' := 85) rfl (hb hby at_72) rfl (feq hc72_8).2 (by decide) (by decide) zk) ?_
        show own_G p e below s _ _ _ (T3.setTop (mkF m 85 #[.val (.int a), .val (.int b), .val (.int n), .val (.int k), .val (.int v), .val (.int ((b &&& (2147483647 : Int32)) % (((2147483647 : Int32) - v) + (1 : Int32)))), .val (.int u), .val (.ref b2), .val (.int (k &&& (7 : Int32))), .unset, .unset, .unset, .unset] []))
        refine own_st (fun zt zk => XS.iload X3.here hx rfl (hb hby at_85) rfl zk) ?_
        show own_G p e below s _ _ _ (T3.setTop (mkF m 87 #[.val (.int a), .val (.int b), .val (.int n), .val (.int k), .val (.int v), .val (.int ((b &&& (2147483647 : Int32)) % (((2147483647 : Int32) - v) + (1 : Int32)))), .val (.int u), .val (.ref b2), .val (.int (k &&& (7 : Int32))), .unset, .unset, .unset, .unset] [(.int (k &&& (7 : Int32)))]))
        refine own_st (fun zt zk => XS.iconst X3.here hx rfl (hb hby at_87) zk) ?_
        show own_G p e below s _ _ _ (T3.setTop (mkF m 88 #[.val (.int a), .val (.int b), .val (.int n), .val (.int k), .val (.int v), .val (.int ((b &&& (2147483647 : Int32)) % (((2147483647 : Int32) - v) + (1 : Int32)))), .val (.int u), .val (.ref b2), .val (.int (k &&& (7 : Int32))), .unset, .unset, .unset, .unset] [(.int (2 : Int32)), (.int (k &&& (7 : Int32)))]))
        by_cases hc88_12 : (k &&& (7 : Int32)) = (2 : Int32)
        · refine own_st (fun zt zk => XS.icmpNo X3.here hx rfl (hb hby at_88) rfl (teq hc88_12).2 zk) ?_
          show own_G p e below s _ _ _ (T3.setTop (mkF m 91 #[.val (.int a), .val (.int b), .val (.int n), .val (.int k), .val (.int v), .val (.int ((b &&& (2147483647 : Int32)) % (((2147483647 : Int32) - v) + (1 : Int32)))), .val (.int u), .val (.ref b2), .val (.int (k &&& (7 : Int32))), .unset, .unset, .unset, .unset] []))
          refine own_st (fun zt zk => XS.iload X3.here hx rfl (hb hby at_91) rfl zk) ?_
          show own_G p e below s _ _ _ (T3.setTop (mkF m 93 #[.val (.int a), .val (.int b), .val (.int n), .val (.int k), .val (.int v), .val (.int ((b &&& (2147483647 : Int32)) % (((2147483647 : Int32) - v) + (1 : Int32)))), .val (.int u), .val (.ref b2), .val (.int (k &&& (7 : Int32))), .unset, .unset, .unset, .unset] [(.int v)]))
          refine own_st (fun zt zk => XS.iconst X3.here hx rfl (hb hby at_93) zk) ?_
          show own_G p e below s _ _ _ (T3.setTop (mkF m 94 #[.val (.int a), .val (.int b), .val (.int n), .val (.int k), .val (.int v), .val (.int ((b &&& (2147483647 : Int32)) % (((2147483647 : Int32) - v) + (1 : Int32)))), .val (.int u), .val (.ref b2), .val (.int (k &&& (7 : Int32))), .unset, .unset, .unset, .unset] [(.int (1 : Int32)), (.int v)]))
          refine own_st (fun zt zk => XS.isub X3.here hx rfl (hb hby at_94) rfl zk) ?_
          show own_G p e below s _ _ _ (T3.setTop (mkF m 95 #[.val (.int a), .val (.int b), .val (.int n), .val (.int k), .val (.int v), .val (.int ((b &&& (2147483647 : Int32)) % (((2147483647 : Int32) - v) + (1 : Int32)))), .val (.int u), .val (.ref b2), .val (.int (k &&& (7 : Int32))), .unset, .unset, .unset, .unset] [(.int (v - (1 : Int32)))]))
          refine own_st (fun zt zk => XS.istore X3.here hx rfl (hb hby at_95) rfl (l' := #[.val (.int a), .val (.int b), .val (.int n), .val (.int k), .val (.int v), .val (.int ((b &&& (2147483647 : Int32)) % (((2147483647 : Int32) - v) + (1 : Int32)))), .val (.int u), .val (.ref b2), .val (.int (k &&& (7 : Int32))), .val (.int (v - (1 : Int32))), .unset, .unset, .unset]) rfl zk) ?_
          show own_G p e below s _ _ _ (T3.setTop (mkF m 97 #[.val (.int a), .val (.int b), .val (.int n), .val (.int k), .val (.int v), .val (.int ((b &&& (2147483647 : Int32)) % (((2147483647 : Int32) - v) + (1 : Int32)))), .val (.int u), .val (.ref b2), .val (.int (k &&& (7 : Int32))), .val (.int (v - (1 : Int32))), .unset, .unset, .unset] []))
          refine own_st (fun zt zk => XS.iconst X3.here hx rfl (hb hby at_97) zk) ?_
          show own_G p e below s _ _ _ (T3.setTop (mkF m 98 #[.val (.int a), .val (.int b), .val (.int n), .val (.int k), .val (.int v), .val (.int ((b &&& (2147483647 : Int32)) % (((2147483647 : Int32) - v) + (1 : Int32)))), .val (.int u), .val (.ref b2), .val (.int (k &&& (7 : Int32))), .val (.int (v - (1 : Int32))), .unset, .unset, .unset] [(.int (0 : Int32))]))
          refine own_st (fun zt zk => XS.istore X3.here hx rfl (hb hby at_98) rfl (l' := #[.val (.int a), .val (.int b), .val (.int n), .val (.int k), .val (.int v), .val (.int ((b &&& (2147483647 : Int32)) % (((2147483647 : Int32) - v) + (1 : Int32)))), .val (.int u), .val (.ref b2), .val (.int (k &&& (7 : Int32))), .val (.int (v - (1 : Int32))), .val (.int (0 : Int32)), .unset, .unset]) rfl zk) ?_
          show own_G p e below s _ _ _ (T3.setTop (mkF m 100 #[.val (.int a), .val (.int b), .val (.int n), .val (.int k), .val (.int v), .val (.int ((b &&& (2147483647 : Int32)) % (((2147483647 : Int32) - v) + (1 : Int32)))), .val (.int u), .val (.ref b2), .val (.int (k &&& (7 : Int32))), .val (.int (v - (1 : Int32))), .val (.int (0 : Int32)), .unset, .unset] []))
          refine own_st (fun zt zk => XS.goto X3.here hx rfl (pc0 := 100) (pc' := 159) rfl (hb hby at_100) (by decide) (by decide) zk) ?_
          show own_G p e below s _ _ _ (T3.setTop (mkF m 159 #[.val (.int a), .val (.int b), .val (.int n), .val (.int k), .val (.int v), .val (.int ((b &&& (2147483647 : Int32)) % (((2147483647 : Int32) - v) + (1 : Int32)))), .val (.int u), .val (.ref b2), .val (.int (k &&& (7 : Int32))), .val (.int (v - (1 : Int32))), .val (.int (0 : Int32)), .unset, .unset] []))
          refine own_st (fun zt zk => XS.aload X3.here hx rfl (hb hby at_159) rfl rfl zk) ?_
          show own_G p e below s _ _ _ (T3.setTop (mkF m 161 #[.val (.int a), .val (.int b), .val (.int n), .val (.int k), .val (.int v), .val (.int ((b &&& (2147483647 : Int32)) % (((2147483647 : Int32) - v) + (1 : Int32)))), .val (.int u), .val (.ref b2), .val (.int (k &&& (7 : Int32))), .val (.int (v - (1 : Int32))), .val (.int (0 : Int32)), .unset, .unset] [(.ref b2)]))
          refine own_st (fun zt zk => XS.iload X3.here hx rfl (hb hby at_161) rfl zk) ?_
          show own_G p e below s _ _ _ (T3.setTop (mkF m 163 #[.val (.int a), .val (.int b), .val (.int n), .val (.int k), .val (.int v), .val (.int ((b &&& (2147483647 : Int32)) % (((2147483647 : Int32) - v) + (1 : Int32)))), .val (.int u), .val (.ref b2), .val (.int (k &&& (7 : Int32))), .val (.int (v - (1 : Int32))), .val (.int (0 : Int32)), .unset, .unset] [(.int (v - (1 : Int32))), (.ref b2)]))
          have E14 : Exa Z T3.heap b2 "com/example/outfall/outfall/rules/PumpingSchedule$Range" := (A2.keep K3)
          obtain ⟨_, T13, L13, X13, hQ13, st13⟩ := own_callV X3 hx hZ (C := "com/example/outfall/outfall/rules/PumpingSchedule$Range") (y := (⟨"com/example/outfall/outfall/rules/PumpingSchedule$Range", "contains", "(I)Z"⟩ : MethodName)) (z := (⟨"com/example/outfall/outfall/rules/PumpingSchedule$Range", "contains", "(I)Z"⟩ : MethodName)) (a := b2) (argsL := [(.int (v - (1 : Int32)))]) (rest := []) 0 hown (hw _ (List.mem_of_getElem? (i := 19) rfl)) (hw _ (List.mem_of_getElem? (i := 20) rfl)) (own_nf hZ (hw _ (List.mem_of_getElem? (i := 22) rfl))) (hw _ (List.mem_of_getElem? (i := 22) rfl)) (hw _ (List.mem_of_getElem? (i := 21) rfl)) (hw _ (List.mem_of_getElem? (i := 3) rfl)) (hw _ (List.mem_of_getElem? (i := 23) rfl)) (by decide) (own_con l Z a0 hw [] b2 (v - (1 : Int32)) v u T3.heap n0 (Nat.le_trans (Nat.le_trans Z0 E2.1) K3.1) q3_0 q3_1) (by decide) (by decide) rfl E14 (g := (mkF m 163 #[.val (.int a), .val (.int b), .val (.int n), .val (.int k), .val (.int v), .val (.int ((b &&& (2147483647 : Int32)) % (((2147483647 : Int32) - v) + (1 : Int32)))), .val (.int u), .val (.ref b2), .val (.int (k &&& (7 : Int32))), .val (.int (v - (1 : Int32))), .val (.int (0 : Int32)), .unset, .unset] [(.int (v - (1 : Int32))), (.ref b2)])) rfl (by rw [hml]; rfl) own_pd2 rfl rfl (by show 2 * 0 + _ ≤ _; exact Nat.le_of_eq rfl) (hb hby at_163) (by decide) (by decide)
          obtain ⟨rfl, N13q, e13⟩ := hQ13
          have N13 := Fr.app N3 N13q
          refine own_st st13 ?_
          show own_G p e below s _ _ _ (T13.setTop (mkF m 166 #[.val (.int a), .val (.int b), .val (.int n), .val (.int k), .val (.int v), .val (.int ((b &&& (2147483647 : Int32)) % (((2147483647 : Int32) - v) + (1 : Int32)))), .val (.int u), .val (.ref b2), .val (.int (k &&& (7 : Int32))), .val (.int (v - (1 : Int32))), .val (.int (0 : Int32)), .unset, .unset] [(.int (own_b (¬ ((v - (1 : Int32)) < v) ∧ ¬ (u < (v - (1 : Int32))))))]))
          refine own_st (fun zt zk => XS.iload X13.here hx rfl (hb hby at_166) rfl zk) ?_
          show own_G p e below s _ _ _ (T13.setTop (mkF m 168 #[.val (.int a), .val (.int b), .val (.int n), .val (.int k), .val (.int v), .val (.int ((b &&& (2147483647 : Int32)) % (((2147483647 : Int32) - v) + (1 : Int32)))), .val (.int u), .val (.ref b2), .val (.int (k &&& (7 : Int32))), .val (.int (v - (1 : Int32))), .val (.int (0 : Int32)), .unset, .unset] [(.int (0 : Int32)), (.int (own_b (¬ ((v - (1 : Int32)) < v) ∧ ¬ (u < (v - (1 : Int32))))))]))
          have hc168_15 : ¬ ((¬ ((v - (1 : Int32)) < v) ∧ ¬ (u < (v - (1 : Int32))))) := (by simp only [Int32.lt_iff_toInt_lt]; omega)
          refine own_st (fun zt zk => XS.icmpNo X13.here hx rfl (hb hby at_168) rfl (teq (own_b0 hc168_15)).2 zk) ?_
          show own_G p e below s _ _ _ (T13.setTop (mkF m 171 #[.val (.int a), .val (.int b), .val (.int n), .val (.int k), .val (.int v), .val (.int ((b &&& (2147483647 : Int32)) % (((2147483647 : Int32) - v) + (1 : Int32)))), .val (.int u), .val (.ref b2), .val (.int (k &&& (7 : Int32))), .val (.int (v - (1 : Int32))), .val (.int (0 : Int32)), .unset, .unset] []))
          refine own_st (fun zt zk => XS.iconst X13.here hx rfl (hb hby at_171) zk) ?_
          show own_G p e below s _ _ _ (T13.setTop (mkF m 172 #[.val (.int a), .val (.int b), .val (.int n), .val (.int k), .val (.int v), .val (.int ((b &&& (2147483647 : Int32)) % (((2147483647 : Int32) - v) + (1 : Int32)))), .val (.int u), .val (.ref b2), .val (.int (k &&& (7 : Int32))), .val (.int (v - (1 : Int32))), .val (.int (0 : Int32)), .unset, .unset] [(.int (1 : Int32))]))
          refine own_st (fun zt zk => XS.goto X13.here hx rfl (pc0 := 172) (pc' := 176) rfl (hb hby at_172) (by decide) (by decide) zk) ?_
          show own_G p e below s _ _ _ (T13.setTop (mkF m 176 #[.val (.int a), .val (.int b), .val (.int n), .val (.int k), .val (.int v), .val (.int ((b &&& (2147483647 : Int32)) % (((2147483647 : Int32) - v) + (1 : Int32)))), .val (.int u), .val (.ref b2), .val (.int (k &&& (7 : Int32))), .val (.int (v - (1 : Int32))), .val (.int (0 : Int32)), .unset, .unset] [(.int (1 : Int32))]))
          refine own_retZ X13 hx hlk hret (by decide) (hb hby at_176) (by decide) (by decide) ?_
          show Q_own_law Z a b n k h0 n0 (some (.int (1 : Int32))) T13.heap _
          rw [e13]
          exact ⟨rfl, N13⟩
        · refine own_st (fun zt zk => XS.icmpYes X3.here hx rfl (pc0 := 88) (pc' := 103) rfl (hb hby at_88) rfl (feq hc88_12).2 (by decide) (by decide) zk) ?_
          show own_G p e below s _ _ _ (T3.setTop (mkF m 103 #[.val (.int a), .val (.int b), .val (.int n), .val (.int k), .val (.int v), .val (.int ((b &&& (2147483647 : Int32)) % (((2147483647 : Int32) - v) + (1 : Int32)))), .val (.int u), .val (.ref b2), .val (.int (k &&& (7 : Int32))), .unset, .unset, .unset, .unset] []))
          refine own_st (fun zt zk => XS.iload X3.here hx rfl (hb hby at_103) rfl zk) ?_
          show own_G p e below s _ _ _ (T3.setTop (mkF m 105 #[.val (.int a), .val (.int b), .val (.int n), .val (.int k), .val (.int v), .val (.int ((b &&& (2147483647 : Int32)) % (((2147483647 : Int32) - v) + (1 : Int32)))), .val (.int u), .val (.ref b2), .val (.int (k &&& (7 : Int32))), .unset, .unset, .unset, .unset] [(.int (k &&& (7 : Int32)))]))
          refine own_st (fun zt zk => XS.iconst X3.here hx rfl (hb hby at_105) zk) ?_
          show own_G p e below s _ _ _ (T3.setTop (mkF m 106 #[.val (.int a), .val (.int b), .val (.int n), .val (.int k), .val (.int v), .val (.int ((b &&& (2147483647 : Int32)) % (((2147483647 : Int32) - v) + (1 : Int32)))), .val (.int u), .val (.ref b2), .val (.int (k &&& (7 : Int32))), .unset, .unset, .unset, .unset] [(.int (3 : Int32)), (.int (k &&& (7 : Int32)))]))
          by_cases hc106_16 : (k &&& (7 : Int32)) = (3 : Int32)
          · refine own_st (fun zt zk => XS.icmpNo X3.here hx rfl (hb hby at_106) rfl (teq hc106_16).2 zk) ?_
            show own_G p e below s _ _ _ (T3.setTop (mkF m 109 #[.val (.int a), .val (.int b), .val (.int n), .val (.int k), .val (.int v), .val (.int ((b &&& (2147483647 : Int32)) % (((2147483647 : Int32) - v) + (1 : Int32)))), .val (.int u), .val (.ref b2), .val (.int (k &&& (7 : Int32))), .unset, .unset, .unset, .unset] []))
            refine own_st (fun zt zk => XS.iload X3.here hx rfl (hb hby at_109) rfl zk) ?_
            show own_G p e below s _ _ _ (T3.setTop (mkF m 111 #[.val (.int a), .val (.int b), .val (.int n), .val (.int k), .val (.int v), .val (.int ((b &&& (2147483647 : Int32)) % (((2147483647 : Int32) - v) + (1 : Int32)))), .val (.int u), .val (.ref b2), .val (.int (k &&& (7 : Int32))), .unset, .unset, .unset, .unset] [(.int u)]))
            refine own_st (fun zt zk => XS.iconst X3.here hx rfl (hb hby at_111) zk) ?_
            show own_G p e below s _ _ _ (T3.setTop (mkF m 112 #[.val (.int a), .val (.int b), .val (.int n), .val (.int k), .val (.int v), .val (.int ((b &&& (2147483647 : Int32)) % (((2147483647 : Int32) - v) + (1 : Int32)))), .val (.int u), .val (.ref b2), .val (.int (k &&& (7 : Int32))), .unset, .unset, .unset, .unset] [(.int (1 : Int32)), (.int u)]))
            refine own_st (fun zt zk => XS.iadd X3.here hx rfl (hb hby at_112) rfl zk) ?_
            show own_G p e below s _ _ _ (T3.setTop (mkF m 113 #[.val (.int a), .val (.int b), .val (.int n), .val (.int k), .val (.int v), .val (.int ((b &&& (2147483647 : Int32)) % (((2147483647 : Int32) - v) + (1 : Int32)))), .val (.int u), .val (.ref b2), .val (.int (k &&& (7 : Int32))), .unset, .unset, .unset, .unset] [(.int (u + (1 : Int32)))]))
            refine own_st (fun zt zk => XS.istore X3.here hx rfl (hb hby at_113) rfl (l' := #[.val (.int a), .val (.int b), .val (.int n), .val (.int k), .val (.int v), .val (.int ((b &&& (2147483647 : Int32)) % (((2147483647 : Int32) - v) + (1 : Int32)))), .val (.int u), .val (.ref b2), .val (.int (k &&& (7 : Int32))), .val (.int (u + (1 : Int32))), .unset, .unset, .unset]) rfl zk) ?_
            show own_G p e below s _ _ _ (T3.setTop (mkF m 115 #[.val (.int a), .val (.int b), .val (.int n), .val (.int k), .val (.int v), .val (.int ((b &&& (2147483647 : Int32)) % (((2147483647 : Int32) - v) + (1 : Int32)))), .val (.int u), .val (.ref b2), .val (.int (k &&& (7 : Int32))), .val (.int (u + (1 : Int32))), .unset, .unset, .unset] []))
            refine own_st (fun zt zk => XS.iconst X3.here hx rfl (hb hby at_115) zk) ?_
            show own_G p e below s _ _ _ (T3.setTop (mkF m 116 #[.val (.int a), .val (.int b), .val (.int n), .val (.int k), .val (.int v), .val (.int ((b &&& (2147483647 : Int32)) % (((2147483647 : Int32) - v) + (1 : Int32)))), .val (.int u), .val (.ref b2), .val (.int (k &&& (7 : Int32))), .val (.int (u + (1 : Int32))), .unset, .unset, .unset] [(.int (0 : Int32))]))
            refine own_st (fun zt zk => XS.istore X3.here hx rfl (hb hby at_116) rfl (l' := #[.val (.int a), .val (.int b), .val (.int n), .val (.int k), .val (.int v), .val (.int ((b &&& (2147483647 : Int32)) % (((2147483647 : Int32) - v) + (1 : Int32)))), .val (.int u), .val (.ref b2), .val (.int (k &&& (7 : Int32))), .val (.int (u + (1 : Int32))), .val (.int (0 : Int32)), .unset, .unset]) rfl zk) ?_
            show own_G p e below s _ _ _ (T3.setTop (mkF m 118 #[.val (.int a), .val (.int b), .val (.int n), .val (.int k), .val (.int v), .val (.int ((b &&& (2147483647 : Int32)) % (((2147483647 : Int32) - v) + (1 : Int32)))), .val (.int u), .val (.ref b2), .val (.int (k &&& (7 : Int32))), .val (.int (u + (1 : Int32))), .val (.int (0 : Int32)), .unset, .unset] []))
            refine own_st (fun zt zk => XS.goto X3.here hx rfl (pc0 := 118) (pc' := 159) rfl (hb hby at_118) (by decide) (by decide) zk) ?_
            show own_G p e below s _ _ _ (T3.setTop (mkF m 159 #[.val (.int a), .val (.int b), .val (.int n), .val (.int k), .val (.int v), .val (.int ((b &&& (2147483647 : Int32)) % (((2147483647 : Int32) - v) + (1 : Int32)))), .val (.int u), .val (.ref b2), .val (.int (k &&& (7 : Int32))), .val (.int (u + (1 : Int32))), .val (.int (0 : Int32)), .unset, .unset] []))
            refine own_st (fun zt zk => XS.aload X3.here hx rfl (hb hby at_159) rfl rfl zk) ?_
            show own_G p e below s _ _ _ (T3.setTop (mkF m 161 #[.val (.int a), .val (.int b), .val (.int n), .val (.int k), .val (.int v), .val (.int ((b &&& (2147483647 : Int32)) % (((2147483647 : Int32) - v) + (1 : Int32)))), .val (.int u), .val (.ref b2), .val (.int (k &&& (7 : Int32))), .val (.int (u + (1 : Int32))), .val (.int (0 : Int32)), .unset, .unset] [(.ref b2)]))
            refine own_st (fun zt zk => XS.iload X3.here hx rfl (hb hby at_161) rfl zk) ?_
            show own_G p e below s _ _ _ (T3.setTop (mkF m 163 #[.val (.int a), .val (.int b), .val (.int n), .val (.int k), .val (.int v), .val (.int ((b &&& (2147483647 : Int32)) % (((2147483647 : Int32) - v) + (1 : Int32)))), .val (.int u), .val (.ref b2), .val (.int (k &&& (7 : Int32))), .val (.int (u + (1 : Int32))), .val (.int (0 : Int32)), .unset, .unset] [(.int (u + (1 : Int32))), (.ref b2)]))
            have E18 : Exa Z T3.heap b2 "com/example/outfall/outfall/rules/PumpingSchedule$Range" := (A2.keep K3)
            obtain ⟨_, T17, L17, X17, hQ17, st17⟩ := own_callV X3 hx hZ (C := "com/example/outfall/outfall/rules/PumpingSchedule$Range") (y := (⟨"com/example/outfall/outfall/rules/PumpingSchedule$Range", "contains", "(I)Z"⟩ : MethodName)) (z := (⟨"com/example/outfall/outfall/rules/PumpingSchedule$Range", "contains", "(I)Z"⟩ : MethodName)) (a := b2) (argsL := [(.int (u + (1 : Int32)))]) (rest := []) 0 hown (hw _ (List.mem_of_getElem? (i := 19) rfl)) (hw _ (List.mem_of_getElem? (i := 20) rfl)) (own_nf hZ (hw _ (List.mem_of_getElem? (i := 22) rfl))) (hw _ (List.mem_of_getElem? (i := 22) rfl)) (hw _ (List.mem_of_getElem? (i := 21) rfl)) (hw _ (List.mem_of_getElem? (i := 3) rfl)) (hw _ (List.mem_of_getElem? (i := 23) rfl)) (by decide) (own_con l Z a0 hw [] b2 (u + (1 : Int32)) v u T3.heap n0 (Nat.le_trans (Nat.le_trans Z0 E2.1) K3.1) q3_0 q3_1) (by decide) (by decide) rfl E18 (g := (mkF m 163 #[.val (.int a), .val (.int b), .val (.int n), .val (.int k), .val (.int v), .val (.int ((b &&& (2147483647 : Int32)) % (((2147483647 : Int32) - v) + (1 : Int32)))), .val (.int u), .val (.ref b2), .val (.int (k &&& (7 : Int32))), .val (.int (u + (1 : Int32))), .val (.int (0 : Int32)), .unset, .unset] [(.int (u + (1 : Int32))), (.ref b2)])) rfl (by rw [hml]; rfl) own_pd2 rfl rfl (by show 2 * 0 + _ ≤ _; exact Nat.le_of_eq rfl) (hb hby at_163) (by decide) (by decide)
            obtain ⟨rfl, N17q, e17⟩ := hQ17
            have N17 := Fr.app N3 N17q
            refine own_st st17 ?_
            show own_G p e below s _ _ _ (T17.setTop (mkF m 166 #[.val (.int a), .val (.int b), .val (.int n), .val (.int k), .val (.int v), .val (.int ((b &&& (2147483647 : Int32)) % (((2147483647 : Int32) - v) + (1 : Int32)))), .val (.int u), .val (.ref b2), .val (.int (k &&& (7 : Int32))), .val (.int (u + (1 : Int32))), .val (.int (0 : Int32)), .unset, .unset] [(.int (own_b (¬ ((u + (1 : Int32)) < v) ∧ ¬ (u < (u + (1 : Int32))))))]))
            refine own_st (fun zt zk => XS.iload X17.here hx rfl (hb hby at_166) rfl zk) ?_
            show own_G p e below s _ _ _ (T17.setTop (mkF m 168 #[.val (.int a), .val (.int b), .val (.int n), .val (.int k), .val (.int v), .val (.int ((b &&& (2147483647 : Int32)) % (((2147483647 : Int32) - v) + (1 : Int32)))), .val (.int u), .val (.ref b2), .val (.int (k &&& (7 : Int32))), .val (.int (u + (1 : Int32))), .val (.int (0 : Int32)), .unset, .unset] [(.int (0 : Int32)), (.int (own_b (¬ ((u + (1 : Int32)) < v) ∧ ¬ (u < (u + (1 : Int32))))))]))
            have hc168_19 : ¬ ((¬ ((u + (1 : Int32)) < v) ∧ ¬ (u < (u + (1 : Int32))))) := (by simp only [Int32.lt_iff_toInt_lt]; omega)
            refine own_st (fun zt zk => XS.icmpNo X17.here hx rfl (hb hby at_168) rfl (teq (own_b0 hc168_19)).2 zk) ?_
            show own_G p e below s _ _ _ (T17.setTop (mkF m 171 #[.val (.int a), .val (.int b), .val (.int n), .val (.int k), .val (.int v), .val (.int ((b &&& (2147483647 : Int32)) % (((2147483647 : Int32) - v) + (1 : Int32)))), .val (.int u), .val (.ref b2), .val (.int (k &&& (7 : Int32))), .val (.int (u + (1 : Int32))), .val (.int (0 : Int32)), .unset, .unset] []))
            refine own_st (fun zt zk => XS.iconst X17.here hx rfl (hb hby at_171) zk) ?_
            show own_G p e below s _ _ _ (T17.setTop (mkF m 172 #[.val (.int a), .val (.int b), .val (.int n), .val (.int k), .val (.int v), .val (.int ((b &&& (2147483647 : Int32)) % (((2147483647 : Int32) - v) + (1 : Int32)))), .val (.int u), .val (.ref b2), .val (.int (k &&& (7 : Int32))), .val (.int (u + (1 : Int32))), .val (.int (0 : Int32)), .unset, .unset] [(.int (1 : Int32))]))
            refine own_st (fun zt zk => XS.goto X17.here hx rfl (pc0 := 172) (pc' := 176) rfl (hb hby at_172) (by decide) (by decide) zk) ?_
            show own_G p e below s _ _ _ (T17.setTop (mkF m 176 #[.val (.int a), .val (.int b), .val (.int n), .val (.int k), .val (.int v), .val (.int ((b &&& (2147483647 : Int32)) % (((2147483647 : Int32) - v) + (1 : Int32)))), .val (.int u), .val (.ref b2), .val (.int (k &&& (7 : Int32))), .val (.int (u + (1 : Int32))), .val (.int (0 : Int32)), .unset, .unset] [(.int (1 : Int32))]))
            refine own_retZ X17 hx hlk hret (by decide) (hb hby at_176) (by decide) (by decide) ?_
            show Q_own_law Z a b n k h0 n0 (some (.int (1 : Int32))) T17.heap _
            rw [e17]
            exact ⟨rfl, N17⟩
          · refine own_st (fun zt zk => XS.icmpYes X3.here hx rfl (pc0 := 106) (pc' := 121) rfl (hb hby at_106) rfl (feq hc106_16).2 (by decide) (by decide) zk) ?_
            show own_G p e below s _ _ _ (T3.setTop (mkF m 121 #[.val (.int a), .val (.int b), .val (.int n), .val (.int k), .val (.int v), .val (.int ((b &&& (2147483647 : Int32)) % (((2147483647 : Int32) - v) + (1 : Int32)))), .val (.int u), .val (.ref b2), .val (.int (k &&& (7 : Int32))), .unset, .unset, .unset, .unset] []))
            refine own_st (fun zt zk => XS.iloadN X3.here hx rfl (hb hby at_121) rfl zk) ?_
            show own_G p e below s _ _ _ (T3.setTop (mkF m 122 #[.val (.int a), .val (.int b), .val (.int n), .val (.int k), .val (.int v), .val (.int ((b &&& (2147483647 : Int32)) % (((2147483647 : Int32) - v) + (1 : Int32)))), .val (.int u), .val (.ref b2), .val (.int (k &&& (7 : Int32))), .unset, .unset, .unset, .unset] [(.int n)]))
            refine own_st (fun zt zk => XS.istore X3.here hx rfl (hb hby at_122) rfl (l' := #[.val (.int a), .val (.int b), .val (.int n), .val (.int k), .val (.int v), .val (.int ((b &&& (2147483647 : Int32)) % (((2147483647 : Int32) - v) + (1 : Int32)))), .val (.int u), .val (.ref b2), .val (.int (k &&& (7 : Int32))), .val (.int n), .unset, .unset, .unset]) rfl zk) ?_
            show own_G p e below s _ _ _ (T3.setTop (mkF m 124 #[.val (.int a), .val (.int b), .val (.int n), .val (.int k), .val (.int v), .val (.int ((b &&& (2147483647 : Int32)) % (((2147483647 : Int32) - v) + (1 : Int32)))), .val (.int u), .val (.ref b2), .val (.int (k &&& (7 : Int32))), .val (.int n), .unset, .unset, .unset] []))
            refine own_st (fun zt zk => XS.iloadN X3.here hx rfl (hb hby at_124) rfl zk) ?_
            show own_G p e below s _ _ _ (T3.setTop (mkF m 125 #[.val (.int a), .val (.int b), .val (.int n), .val (.int k), .val (.int v), .val (.int ((b &&& (2147483647 : Int32)) % (((2147483647 : Int32) - v) + (1 : Int32)))), .val (.int u), .val (.ref b2), .val (.int (k &&& (7 : Int32))), .val (.int n), .unset, .unset, .unset] [(.int n)]))
            refine own_st (fun zt zk => XS.i2l X3.here hx rfl (hb hby at_125) rfl zk) ?_
            show own_G p e below s _ _ _ (T3.setTop (mkF m 126 #[.val (.int a), .val (.int b), .val (.int n), .val (.int k), .val (.int v), .val (.int ((b &&& (2147483647 : Int32)) % (((2147483647 : Int32) - v) + (1 : Int32)))), .val (.int u), .val (.ref b2), .val (.int (k &&& (7 : Int32))), .val (.int n), .unset, .unset, .unset] [(.long n.toInt64)]))
            refine own_st (fun zt zk => XS.iload X3.here hx rfl (hb hby at_126) rfl zk) ?_
            show own_G p e below s _ _ _ (T3.setTop (mkF m 128 #[.val (.int a), .val (.int b), .val (.int n), .val (.int k), .val (.int v), .val (.int ((b &&& (2147483647 : Int32)) % (((2147483647 : Int32) - v) + (1 : Int32)))), .val (.int u), .val (.ref b2), .val (.int (k &&& (7 : Int32))), .val (.int n), .unset, .unset, .unset] [(.int v), (.long n.toInt64)]))
            refine own_st (fun zt zk => XS.i2l X3.here hx rfl (hb hby at_128) rfl zk) ?_
            show own_G p e below s _ _ _ (T3.setTop (mkF m 129 #[.val (.int a), .val (.int b), .val (.int n), .val (.int k), .val (.int v), .val (.int ((b &&& (2147483647 : Int32)) % (((2147483647 : Int32) - v) + (1 : Int32)))), .val (.int u), .val (.ref b2), .val (.int (k &&& (7 : Int32))), .val (.int n), .unset, .unset, .unset] [(.long v.toInt64), (.long n.toInt64)]))
            refine own_st (fun zt zk => XS.lsub X3.here hx rfl (hb hby at_129) rfl zk) ?_
            show own_G p e below s _ _ _ (T3.setTop (mkF m 130 #[.val (.int a), .val (.int b), .val (.int n), .val (.int k), .val (.int v), .val (.int ((b &&& (2147483647 : Int32)) % (((2147483647 : Int32) - v) + (1 : Int32)))), .val (.int u), .val (.ref b2), .val (.int (k &&& (7 : Int32))), .val (.int n), .unset, .unset, .unset] [(.long (n.toInt64 - v.toInt64))]))
            refine own_st (fun zt zk => XS.lstore X3.here hx rfl (hb hby at_130) rfl (l' := #[.val (.int a), .val (.int b), .val (.int n), .val (.int k), .val (.int v), .val (.int ((b &&& (2147483647 : Int32)) % (((2147483647 : Int32) - v) + (1 : Int32)))), .val (.int u), .val (.ref b2), .val (.int (k &&& (7 : Int32))), .val (.int n), .unset, .val (.long (n.toInt64 - v.toInt64)), .second]) rfl zk) ?_
            show own_G p e below s _ _ _ (T3.setTop (mkF m 132 #[.val (.int a), .val (.int b), .val (.int n), .val (.int k), .val (.int v), .val (.int ((b &&& (2147483647 : Int32)) % (((2147483647 : Int32) - v) + (1 : Int32)))), .val (.int u), .val (.ref b2), .val (.int (k &&& (7 : Int32))), .val (.int n), .unset, .val (.long (n.toInt64 - v.toInt64)), .second] []))
            refine own_st (fun zt zk => XS.lload X3.here hx rfl (hb hby at_132) rfl zk) ?_
            show own_G p e below s _ _ _ (T3.setTop (mkF m 134 #[.val (.int a), .val (.int b), .val (.int n), .val (.int k), .val (.int v), .val (.int ((b &&& (2147483647 : Int32)) % (((2147483647 : Int32) - v) + (1 : Int32)))), .val (.int u), .val (.ref b2), .val (.int (k &&& (7 : Int32))), .val (.int n), .unset, .val (.long (n.toInt64 - v.toInt64)), .second] [(.long (n.toInt64 - v.toInt64))]))
            refine own_st (fun zt zk => XS.lconst X3.here hx rfl (hb hby at_134) zk) ?_
            show own_G p e below s _ _ _ (T3.setTop (mkF m 135 #[.val (.int a), .val (.int b), .val (.int n), .val (.int k), .val (.int v), .val (.int ((b &&& (2147483647 : Int32)) % (((2147483647 : Int32) - v) + (1 : Int32)))), .val (.int u), .val (.ref b2), .val (.int (k &&& (7 : Int32))), .val (.int n), .unset, .val (.long (n.toInt64 - v.toInt64)), .second] [(.long (0 : Int64)), (.long (n.toInt64 - v.toInt64))]))
            refine own_st (fun zt zk => XS.lcmp X3.here hx rfl (hb hby at_135) rfl zk) ?_
            show own_G p e below s _ _ _ (T3.setTop (mkF m 136 #[.val (.int a), .val (.int b), .val (.int n), .val (.int k), .val (.int v), .val (.int ((b &&& (2147483647 : Int32)) % (((2147483647 : Int32) - v) + (1 : Int32)))), .val (.int u), .val (.ref b2), .val (.int (k &&& (7 : Int32))), .val (.int n), .unset, .val (.long (n.toInt64 - v.toInt64)), .second] [(.int (lcmpW (n.toInt64 - v.toInt64) (0 : Int64)))]))
            by_cases hc136_20 : (n.toInt64 - v.toInt64) < (0 : Int64)
            · refine own_st (fun zt zk => XS.ifYes X3.here hx rfl (pc0 := 136) (pc' := 156) rfl (hb hby at_136) rfl ((if0 _ _).trans (tlt ((lw_lt (n.toInt64 - v.toInt64) (0 : Int64)).mpr hc136_20)).1) (by decide) (by decide) zk) ?_
              show own_G p e below s _ _ _ (T3.setTop (mkF m 156 #[.val (.int a), .val (.int b), .val (.int n), .val (.int k), .val (.int v), .val (.int ((b &&& (2147483647 : Int32)) % (((2147483647 : Int32) - v) + (1 : Int32)))), .val (.int u), .val (.ref b2), .val (.int (k &&& (7 : Int32))), .val (.int n), .unset, .val (.long (n.toInt64 - v.toInt64)), .second] []))
              refine own_st (fun zt zk => XS.iconst X3.here hx rfl (hb hby at_156) zk) ?_
              show own_G p e below s _ _ _ (T3.setTop (mkF m 157 #[.val (.int a), .val (.int b), .val (.int n), .val (.int k), .val (.int v), .val (.int ((b &&& (2147483647 : Int32)) % (((2147483647 : Int32) - v) + (1 : Int32)))), .val (.int u), .val (.ref b2), .val (.int (k &&& (7 : Int32))), .val (.int n), .unset, .val (.long (n.toInt64 - v.toInt64)), .second] [(.int (0 : Int32))]))
              refine own_st (fun zt zk => XS.istore X3.here hx rfl (hb hby at_157) rfl (l' := #[.val (.int a), .val (.int b), .val (.int n), .val (.int k), .val (.int v), .val (.int ((b &&& (2147483647 : Int32)) % (((2147483647 : Int32) - v) + (1 : Int32)))), .val (.int u), .val (.ref b2), .val (.int (k &&& (7 : Int32))), .val (.int n), .val (.int (0 : Int32)), .val (.long (n.toInt64 - v.toInt64)), .second]) rfl zk) ?_
              show own_G p e below s _ _ _ (T3.setTop (mkF m 159 #[.val (.int a), .val (.int b), .val (.int n), .val (.int k), .val (.int v), .val (.int ((b &&& (2147483647 : Int32)) % (((2147483647 : Int32) - v) + (1 : Int32)))), .val (.int u), .val (.ref b2), .val (.int (k &&& (7 : Int32))), .val (.int n), .val (.int (0 : Int32)), .val (.long (n.toInt64 - v.toInt64)), .second] []))
              refine own_st (fun zt zk => XS.aload X3.here hx rfl (hb hby at_159) rfl rfl zk) ?_
              show own_G p e below s _ _ _ (T3.setTop (mkF m 161 #[.val (.int a), .val (.int b), .val (.int n), .val (.int k), .val (.int v), .val (.int ((b &&& (2147483647 : Int32)) % (((2147483647 : Int32) - v) + (1 : Int32)))), .val (.int u), .val (.ref b2), .val (.int (k &&& (7 : Int32))), .val (.int n), .val (.int (0 : Int32)), .val (.long (n.toInt64 - v.toInt64)), .second] [(.ref b2)]))
              refine own_st (fun zt zk => XS.iload X3.here hx rfl (hb hby at_161) rfl zk) ?_
              show own_G p e below s _ _ _ (T3.setTop (mkF m 163 #[.val (.int a), .val (.int b), .val (.int n), .val (.int k), .val (.int v), .val (.int ((b &&& (2147483647 : Int32)) % (((2147483647 : Int32) - v) + (1 : Int32)))), .val (.int u), .val (.ref b2), .val (.int (k &&& (7 : Int32))), .val (.int n), .val (.int (0 : Int32)), .val (.long (n.toInt64 - v.toInt64)), .second] [(.int n), (.ref b2)]))
              have E22 : Exa Z T3.heap b2 "com/example/outfall/outfall/rules/PumpingSchedule$Range" := (A2.keep K3)
              obtain ⟨_, T21, L21, X21, hQ21, st21⟩ := own_callV X3 hx hZ (C := "com/example/outfall/outfall/rules/PumpingSchedule$Range") (y := (⟨"com/example/outfall/outfall/rules/PumpingSchedule$Range", "contains", "(I)Z"⟩ : MethodName)) (z := (⟨"com/example/outfall/outfall/rules/PumpingSchedule$Range", "contains", "(I)Z"⟩ : MethodName)) (a := b2) (argsL := [(.int n)]) (rest := []) 0 hown (hw _ (List.mem_of_getElem? (i := 19) rfl)) (hw _ (List.mem_of_getElem? (i := 20) rfl)) (own_nf hZ (hw _ (List.mem_of_getElem? (i := 22) rfl))) (hw _ (List.mem_of_getElem? (i := 22) rfl)) (hw _ (List.mem_of_getElem? (i := 21) rfl)) (hw _ (List.mem_of_getElem? (i := 3) rfl)) (hw _ (List.mem_of_getElem? (i := 23) rfl)) (by decide) (own_con l Z a0 hw [] b2 n v u T3.heap n0 (Nat.le_trans (Nat.le_trans Z0 E2.1) K3.1) q3_0 q3_1) (by decide) (by decide) rfl E22 (g := (mkF m 163 #[.val (.int a), .val (.int b), .val (.int n), .val (.int k), .val (.int v), .val (.int ((b &&& (2147483647 : Int32)) % (((2147483647 : Int32) - v) + (1 : Int32)))), .val (.int u), .val (.ref b2), .val (.int (k &&& (7 : Int32))), .val (.int n), .val (.int (0 : Int32)), .val (.long (n.toInt64 - v.toInt64)), .second] [(.int n), (.ref b2)])) rfl (by rw [hml]; rfl) own_pd2 rfl rfl (by show 2 * 0 + _ ≤ _; exact Nat.le_of_eq rfl) (hb hby at_163) (by decide) (by decide)
              obtain ⟨rfl, N21q, e21⟩ := hQ21
              have N21 := Fr.app N3 N21q
              refine own_st st21 ?_
              show own_G p e below s _ _ _ (T21.setTop (mkF m 166 #[.val (.int a), .val (.int b), .val (.int n), .val (.int k), .val (.int v), .val (.int ((b &&& (2147483647 : Int32)) % (((2147483647 : Int32) - v) + (1 : Int32)))), .val (.int u), .val (.ref b2), .val (.int (k &&& (7 : Int32))), .val (.int n), .val (.int (0 : Int32)), .val (.long (n.toInt64 - v.toInt64)), .second] [(.int (own_b (¬ (n < v) ∧ ¬ (u < n))))]))
              refine own_st (fun zt zk => XS.iload X21.here hx rfl (hb hby at_166) rfl zk) ?_
              show own_G p e below s _ _ _ (T21.setTop (mkF m 168 #[.val (.int a), .val (.int b), .val (.int n), .val (.int k), .val (.int v), .val (.int ((b &&& (2147483647 : Int32)) % (((2147483647 : Int32) - v) + (1 : Int32)))), .val (.int u), .val (.ref b2), .val (.int (k &&& (7 : Int32))), .val (.int n), .val (.int (0 : Int32)), .val (.long (n.toInt64 - v.toInt64)), .second] [(.int (0 : Int32)), (.int (own_b (¬ (n < v) ∧ ¬ (u < n))))]))
              have hc168_23 : ¬ ((¬ (n < v) ∧ ¬ (u < n))) := (by simp only [Int32.lt_iff_toInt_lt, Int64.lt_iff_toInt_lt] at hc136_20 ⊢; omega)
              refine own_st (fun zt zk => XS.icmpNo X21.here hx rfl (hb hby at_168) rfl (teq (own_b0 hc168_23)).2 zk) ?_
              show own_G p e below s _ _ _ (T21.setTop (mkF m 171 #[.val (.int a), .val (.int b), .val (.int n), .val (.int k), .val (.int v), .val (.int ((b &&& (2147483647 : Int32)) % (((2147483647 : Int32) - v) + (1 : Int32)))), .val (.int u), .val (.ref b2), .val (.int (k &&& (7 : Int32))), .val (.int n), .val (.int (0 : Int32)), .val (.long (n.toInt64 - v.toInt64)), .second] []))
              refine own_st (fun zt zk => XS.iconst X21.here hx rfl (hb hby at_171) zk) ?_
              show own_G p e below s _ _ _ (T21.setTop (mkF m 172 #[.val (.int a), .val (.int b), .val (.int n), .val (.int k), .val (.int v), .val (.int ((b &&& (2147483647 : Int32)) % (((2147483647 : Int32) - v) + (1 : Int32)))), .val (.int u), .val (.ref b2), .val (.int (k &&& (7 : Int32))), .val (.int n), .val (.int (0 : Int32)), .val (.long (n.toInt64 - v.toInt64)), .second] [(.int (1 : Int32))]))
              refine own_st (fun zt zk => XS.goto X21.here hx rfl (pc0 := 172) (pc' := 176) rfl (hb hby at_172) (by decide) (by decide) zk) ?_
              show own_G p e below s _ _ _ (T21.setTop (mkF m 176 #[.val (.int a), .val (.int b), .val (.int n), .val (.int k), .val (.int v), .val (.int ((b &&& (2147483647 : Int32)) % (((2147483647 : Int32) - v) + (1 : Int32)))), .val (.int u), .val (.ref b2), .val (.int (k &&& (7 : Int32))), .val (.int n), .val (.int (0 : Int32)), .val (.long (n.toInt64 - v.toInt64)), .second] [(.int (1 : Int32))]))
              refine own_retZ X21 hx hlk hret (by decide) (hb hby at_176) (by decide) (by decide) ?_
              show Q_own_law Z a b n k h0 n0 (some (.int (1 : Int32))) T21.heap _
              rw [e21]
              exact ⟨rfl, N21⟩
            · refine own_st (fun zt zk => XS.ifNo X3.here hx rfl (hb hby at_136) rfl ((if0 _ _).trans (flt (mt (lw_lt (n.toInt64 - v.toInt64) (0 : Int64)).mp hc136_20)).1) zk) ?_
              show own_G p e below s _ _ _ (T3.setTop (mkF m 139 #[.val (.int a), .val (.int b), .val (.int n), .val (.int k), .val (.int v), .val (.int ((b &&& (2147483647 : Int32)) % (((2147483647 : Int32) - v) + (1 : Int32)))), .val (.int u), .val (.ref b2), .val (.int (k &&& (7 : Int32))), .val (.int n), .unset, .val (.long (n.toInt64 - v.toInt64)), .second] []))
              refine own_st (fun zt zk => XS.lload X3.here hx rfl (hb hby at_139) rfl zk) ?_
              show own_G p e below s _ _ _ (T3.setTop (mkF m 141 #[.val (.int a), .val (.int b), .val (.int n), .val (.int k), .val (.int v), .val (.int ((b &&& (2147483647 : Int32)) % (((2147483647 : Int32) - v) + (1 : Int32)))), .val (.int u), .val (.ref b2), .val (.int (k &&& (7 : Int32))), .val (.int n), .unset, .val (.long (n.toInt64 - v.toInt64)), .second] [(.long (n.toInt64 - v.toInt64))]))
              refine own_st (fun zt zk => XS.iload X3.here hx rfl (hb hby at_141) rfl zk) ?_
              show own_G p e below s _ _ _ (T3.setTop (mkF m 143 #[.val (.int a), .val (.int b), .val (.int n), .val (.int k), .val (.int v), .val (.int ((b &&& (2147483647 : Int32)) % (((2147483647 : Int32) - v) + (1 : Int32)))), .val (.int u), .val (.ref b2), .val (.int (k &&& (7 : Int32))), .val (.int n), .unset, .val (.long (n.toInt64 - v.toInt64)), .second] [(.int u), (.long (n.toInt64 - v.toInt64))]))
              refine own_st (fun zt zk => XS.i2l X3.here hx rfl (hb hby at_143) rfl zk) ?_
              show own_G p e below s _ _ _ (T3.setTop (mkF m 144 #[.val (.int a), .val (.int b), .val (.int n), .val (.int k), .val (.int v), .val (.int ((b &&& (2147483647 : Int32)) % (((2147483647 : Int32) - v) + (1 : Int32)))), .val (.int u), .val (.ref b2), .val (.int (k &&& (7 : Int32))), .val (.int n), .unset, .val (.long (n.toInt64 - v.toInt64)), .second] [(.long u.toInt64), (.long (n.toInt64 - v.toInt64))]))
              refine own_st (fun zt zk => XS.iload X3.here hx rfl (hb hby at_144) rfl zk) ?_
              show own_G p e below s _ _ _ (T3.setTop (mkF m 146 #[.val (.int a), .val (.int b), .val (.int n), .val (.int k), .val (.int v), .val (.int ((b &&& (2147483647 : Int32)) % (((2147483647 : Int32) - v) + (1 : Int32)))), .val (.int u), .val (.ref b2), .val (.int (k &&& (7 : Int32))), .val (.int n), .unset, .val (.long (n.toInt64 - v.toInt64)), .second] [(.int v), (.long u.toInt64), (.long (n.toInt64 - v.toInt64))]))
              refine own_st (fun zt zk => XS.i2l X3.here hx rfl (hb hby at_146) rfl zk) ?_
              show own_G p e below s _ _ _ (T3.setTop (mkF m 147 #[.val (.int a), .val (.int b), .val (.int n), .val (.int k), .val (.int v), .val (.int ((b &&& (2147483647 : Int32)) % (((2147483647 : Int32) - v) + (1 : Int32)))), .val (.int u), .val (.ref b2), .val (.int (k &&& (7 : Int32))), .val (.int n), .unset, .val (.long (n.toInt64 - v.toInt64)), .second] [(.long v.toInt64), (.long u.toInt64), (.long (n.toInt64 - v.toInt64))]))
              refine own_st (fun zt zk => XS.lsub X3.here hx rfl (hb hby at_147) rfl zk) ?_
              show own_G p e below s _ _ _ (T3.setTop (mkF m 148 #[.val (.int a), .val (.int b), .val (.int n), .val (.int k), .val (.int v), .val (.int ((b &&& (2147483647 : Int32)) % (((2147483647 : Int32) - v) + (1 : Int32)))), .val (.int u), .val (.ref b2), .val (.int (k &&& (7 : Int32))), .val (.int n), .unset, .val (.long (n.toInt64 - v.toInt64)), .second] [(.long (u.toInt64 - v.toInt64)), (.long (n.toInt64 - v.toInt64))]))
              refine own_st (fun zt zk => XS.lcmp X3.here hx rfl (hb hby at_148) rfl zk) ?_
              show own_G p e below s _ _ _ (T3.setTop (mkF m 149 #[.val (.int a), .val (.int b), .val (.int n), .val (.int k), .val (.int v), .val (.int ((b &&& (2147483647 : Int32)) % (((2147483647 : Int32) - v) + (1 : Int32)))), .val (.int u), .val (.ref b2), .val (.int (k &&& (7 : Int32))), .val (.int n), .unset, .val (.long (n.toInt64 - v.toInt64)), .second] [(.int (lcmpW (n.toInt64 - v.toInt64) (u.toInt64 - v.toInt64)))]))
              by_cases hc149_24 : (u.toInt64 - v.toInt64) < (n.toInt64 - v.toInt64)
              · refine own_st (fun zt zk => XS.ifYes X3.here hx rfl (pc0 := 149) (pc' := 156) rfl (hb hby at_149) rfl ((if0 _ _).trans (tlt ((lw_gt (n.toInt64 - v.toInt64) (u.toInt64 - v.toInt64)).mpr hc149_24)).2.2.1) (by decide) (by decide) zk) ?_
                show own_G p e below s _ _ _ (T3.setTop (mkF m 156 #[.val (.int a), .val (.int b), .val (.int n), .val (.int k), .val (.int v), .val (.int ((b &&& (2147483647 : Int32)) % (((2147483647 : Int32) - v) + (1 : Int32)))), .val (.int u), .val (.ref b2), .val (.int (k &&& (7 : Int32))), .val (.int n), .unset, .val (.long (n.toInt64 - v.toInt64)), .second] []))
                refine own_st (fun zt zk => XS.iconst X3.here hx rfl (hb hby at_156) zk) ?_
                show own_G p e below s _ _ _ (T3.setTop (mkF m 157 #[.val (.int a), .val (.int b), .val (.int n), .val (.int k), .val (.int v), .val (.int ((b &&& (2147483647 : Int32)) % (((2147483647 : Int32) - v) + (1 : Int32)))), .val (.int u), .val (.ref b2), .val (.int (k &&& (7 : Int32))), .val (.int n), .unset, .val (.long (n.toInt64 - v.toInt64)), .second] [(.int (0 : Int32))]))
                refine own_st (fun zt zk => XS.istore X3.here hx rfl (hb hby at_157) rfl (l' := #[.val (.int a), .val (.int b), .val (.int n), .val (.int k), .val (.int v), .val (.int ((b &&& (2147483647 : Int32)) % (((2147483647 : Int32) - v) + (1 : Int32)))), .val (.int u), .val (.ref b2), .val (.int (k &&& (7 : Int32))), .val (.int n), .val (.int (0 : Int32)), .val (.long (n.toInt64 - v.toInt64)), .second]) rfl zk) ?_
                show own_G p e below s _ _ _ (T3.setTop (mkF m 159 #[.val (.int a), .val (.int b), .val (.int n), .val (.int k), .val (.int v), .val (.int ((b &&& (2147483647 : Int32)) % (((2147483647 : Int32) - v) + (1 : Int32)))), .val (.int u), .val (.ref b2), .val (.int (k &&& (7 : Int32))), .val (.int n), .val (.int (0 : Int32)), .val (.long (n.toInt64 - v.toInt64)), .second] []))
                refine own_st (fun zt zk => XS.aload X3.here hx rfl (hb hby at_159) rfl rfl zk) ?_
                show own_G p e below s _ _ _ (T3.setTop (mkF m 161 #[.val (.int a), .val (.int b), .val (.int n), .val (.int k), .val (.int v), .val (.int ((b &&& (2147483647 : Int32)) % (((2147483647 : Int32) - v) + (1 : Int32)))), .val (.int u), .val (.ref b2), .val (.int (k &&& (7 : Int32))), .val (.int n), .val (.int (0 : Int32)), .val (.long (n.toInt64 - v.toInt64)), .second] [(.ref b2)]))
                refine own_st (fun zt zk => XS.iload X3.here hx rfl (hb hby at_161) rfl zk) ?_
                show own_G p e below s _ _ _ (T3.setTop (mkF m 163 #[.val (.int a), .val (.int b), .val (.int n), .val (.int k), .val (.int v), .val (.int ((b &&& (2147483647 : Int32)) % (((2147483647 : Int32) - v) + (1 : Int32)))), .val (.int u), .val (.ref b2), .val (.int (k &&& (7 : Int32))), .val (.int n), .val (.int (0 : Int32)), .val (.long (n.toInt64 - v.toInt64)), .second] [(.int n), (.ref b2)]))
                have E26 : Exa Z T3.heap b2 "com/example/outfall/outfall/rules/PumpingSchedule$Range" := (A2.keep K3)
                obtain ⟨_, T25, L25, X25, hQ25, st25⟩ := own_callV X3 hx hZ (C := "com/example/outfall/outfall/rules/PumpingSchedule$Range") (y := (⟨"com/example/outfall/outfall/rules/PumpingSchedule$Range", "contains", "(I)Z"⟩ : MethodName)) (z := (⟨"com/example/outfall/outfall/rules/PumpingSchedule$Range", "contains", "(I)Z"⟩ : MethodName)) (a := b2) (argsL := [(.int n)]) (rest := []) 0 hown (hw _ (List.mem_of_getElem? (i := 19) rfl)) (hw _ (List.mem_of_getElem? (i := 20) rfl)) (own_nf hZ (hw _ (List.mem_of_getElem? (i := 22) rfl))) (hw _ (List.mem_of_getElem? (i := 22) rfl)) (hw _ (List.mem_of_getElem? (i := 21) rfl)) (hw _ (List.mem_of_getElem? (i := 3) rfl)) (hw _ (List.mem_of_getElem? (i := 23) rfl)) (by decide) (own_con l Z a0 hw [] b2 n v u T3.heap n0 (Nat.le_trans (Nat.le_trans Z0 E2.1) K3.1) q3_0 q3_1) (by decide) (by decide) rfl E26 (g := (mkF m 163 #[.val (.int a), .val (.int b), .val (.int n), .val (.int k), .val (.int v), .val (.int ((b &&& (2147483647 : Int32)) % (((2147483647 : Int32) - v) + (1 : Int32)))), .val (.int u), .val (.ref b2), .val (.int (k &&& (7 : Int32))), .val (.int n), .val (.int (0 : Int32)), .val (.long (n.toInt64 - v.toInt64)), .second] [(.int n), (.ref b2)])) rfl (by rw [hml]; rfl) own_pd2 rfl rfl (by show 2 * 0 + _ ≤ _; exact Nat.le_of_eq rfl) (hb hby at_163) (by decide) (by decide)
                obtain ⟨rfl, N25q, e25⟩ := hQ25
                have N25 := Fr.app N3 N25q
                refine own_st st25 ?_
                show own_G p e below s _ _ _ (T25.setTop (mkF m 166 #[.val (.int a), .val (.int b), .val (.int n), .val (.int k), .val (.int v), .val (.int ((b &&& (2147483647 : Int32)) % (((2147483647 : Int32) - v) + (1 : Int32)))), .val (.int u), .val (.ref b2), .val (.int (k &&& (7 : Int32))), .val (.int n), .val (.int (0 : Int32)), .val (.long (n.toInt64 - v.toInt64)), .second] [(.int (own_b (¬ (n < v) ∧ ¬ (u < n))))]))
                refine own_st (fun zt zk => XS.iload X25.here hx rfl (hb hby at_166) rfl zk) ?_
                show own_G p e below s _ _ _ (T25.setTop (mkF m 168 #[.val (.int a), .val (.int b), .val (.int n), .val (.int k), .val (.int v), .val (.int ((b &&& (2147483647 : Int32)) % (((2147483647 : Int32) - v) + (1 : Int32)))), .val (.int u), .val (.ref b2), .val (.int (k &&& (7 : Int32))), .val (.int n), .val (.int (0 : Int32)), .val (.long (n.toInt64 - v.toInt64)), .second] [(.int (0 : Int32)), (.int (own_b (¬ (n < v) ∧ ¬ (u < n))))]))
                have hc168_27 : ¬ ((¬ (n < v) ∧ ¬ (u < n))) := (by simp only [Int32.lt_iff_toInt_lt, Int64.lt_iff_toInt_lt] at hc136_20 hc149_24 ⊢; omega)
                refine own_st (fun zt zk => XS.icmpNo X25.here hx rfl (hb hby at_168) rfl (teq (own_b0 hc168_27)).2 zk) ?_
                show own_G p e below s _ _ _ (T25.setTop (mkF m 171 #[.val (.int a), .val (.int b), .val (.int n), .val (.int k), .val (.int v), .val (.int ((b &&& (2147483647 : Int32)) % (((2147483647 : Int32) - v) + (1 : Int32)))), .val (.int u), .val (.ref b2), .val (.int (k &&& (7 : Int32))), .val (.int n), .val (.int (0 : Int32)), .val (.long (n.toInt64 - v.toInt64)), .second] []))
                refine own_st (fun zt zk => XS.iconst X25.here hx rfl (hb hby at_171) zk) ?_
                show own_G p e below s _ _ _ (T25.setTop (mkF m 172 #[.val (.int a), .val (.int b), .val (.int n), .val (.int k), .val (.int v), .val (.int ((b &&& (2147483647 : Int32)) % (((2147483647 : Int32) - v) + (1 : Int32)))), .val (.int u), .val (.ref b2), .val (.int (k &&& (7 : Int32))), .val (.int n), .val (.int (0 : Int32)), .val (.long (n.toInt64 - v.toInt64)), .second] [(.int (1 : Int32))]))
                refine own_st (fun zt zk => XS.goto X25.here hx rfl (pc0 := 172) (pc' := 176) rfl (hb hby at_172) (by decide) (by decide) zk) ?_
                show own_G p e below s _ _ _ (T25.setTop (mkF m 176 #[.val (.int a), .val (.int b), .val (.int n), .val (.int k), .val (.int v), .val (.int ((b &&& (2147483647 : Int32)) % (((2147483647 : Int32) - v) + (1 : Int32)))), .val (.int u), .val (.ref b2), .val (.int (k &&& (7 : Int32))), .val (.int n), .val (.int (0 : Int32)), .val (.long (n.toInt64 - v.toInt64)), .second] [(.int (1 : Int32))]))
                refine own_retZ X25 hx hlk hret (by decide) (hb hby at_176) (by decide) (by decide) ?_
                show Q_own_law Z a b n k h0 n0 (some (.int (1 : Int32))) T25.heap _
                rw [e25]
                exact ⟨rfl, N25⟩
              · refine own_st (fun zt zk => XS.ifNo X3.here hx rfl (hb hby at_149) rfl ((if0 _ _).trans (flt (mt (lw_gt (n.toInt64 - v.toInt64) (u.toInt64 - v.toInt64)).mp hc149_24)).2.2.1) zk) ?_
                show own_G p e below s _ _ _ (T3.setTop (mkF m 152 #[.val (.int a), .val (.int b), .val (.int n), .val (.int k), .val (.int v), .val (.int ((b &&& (2147483647 : Int32)) % (((2147483647 : Int32) - v) + (1 : Int32)))), .val (.int u), .val (.ref b2), .val (.int (k &&& (7 : Int32))), .val (.int n), .unset, .val (.long (n.toInt64 - v.toInt64)), .second] []))
                refine own_st (fun zt zk => XS.iconst X3.here hx rfl (hb hby at_152) zk) ?_
                show own_G p e below s _ _ _ (T3.setTop (mkF m 153 #[.val (.int a), .val (.int b), .val (.int n), .val (.int k), .val (.int v), .val (.int ((b &&& (2147483647 : Int32)) % (((2147483647 : Int32) - v) + (1 : Int32)))), .val (.int u), .val (.ref b2), .val (.int (k &&& (7 : Int32))), .val (.int n), .unset, .val (.long (n.toInt64 - v.toInt64)), .second] [(.int (1 : Int32))]))
                refine own_st (fun zt zk => XS.goto X3.here hx rfl (pc0 := 153) (pc' := 157) rfl (hb hby at_153) (by decide) (by decide) zk) ?_
                show own_G p e below s _ _ _ (T3.setTop (mkF m 157 #[.val (.int a), .val (.int b), .val (.int n), .val (.int k), .val (.int v), .val (.int ((b &&& (2147483647 : Int32)) % (((2147483647 : Int32) - v) + (1 : Int32)))), .val (.int u), .val (.ref b2), .val (.int (k &&& (7 : Int32))), .val (.int n), .unset, .val (.long (n.toInt64 - v.toInt64)), .second] [(.int (1 : Int32))]))
                refine own_st (fun zt zk => XS.istore X3.here hx rfl (hb hby at_157) rfl (l' := #[.val (.int a), .val (.int b), .val (.int n), .val (.int k), .val (.int v), .val (.int ((b &&& (2147483647 : Int32)) % (((2147483647 : Int32) - v) + (1 : Int32)))), .val (.int u), .val (.ref b2), .val (.int (k &&& (7 : Int32))), .val (.int n), .val (.int (1 : Int32)), .val (.long (n.toInt64 - v.toInt64)), .second]) rfl zk) ?_
                show own_G p e below s _ _ _ (T3.setTop (mkF m 159 #[.val (.int a), .val (.int b), .val (.int n), .val (.int k), .val (.int v), .val (.int ((b &&& (2147483647 : Int32)) % (((2147483647 : Int32) - v) + (1 : Int32)))), .val (.int u), .val (.ref b2), .val (.int (k &&& (7 : Int32))), .val (.int n), .val (.int (1 : Int32)), .val (.long (n.toInt64 - v.toInt64)), .second] []))
                refine own_st (fun zt zk => XS.aload X3.here hx rfl (hb hby at_159) rfl rfl zk) ?_
                show own_G p e below s _ _ _ (T3.setTop (mkF m 161 #[.val (.int a), .val (.int b), .val (.int n), .val (.int k), .val (.int v), .val (.int ((b &&& (2147483647 : Int32)) % (((2147483647 : Int32) - v) + (1 : Int32)))), .val (.int u), .val (.ref b2), .val (.int (k &&& (7 : Int32))), .val (.int n), .val (.int (1 : Int32)), .val (.long (n.toInt64 - v.toInt64)), .second] [(.ref b2)]))
                refine own_st (fun zt zk => XS.iload X3.here hx rfl (hb hby at_161) rfl zk) ?_
                show own_G p e below s _ _ _ (T3.setTop (mkF m 163 #[.val (.int a), .val (.int b), .val (.int n), .val (.int k), .val (.int v), .val (.int ((b &&& (2147483647 : Int32)) % (((2147483647 : Int32) - v) + (1 : Int32)))), .val (.int u), .val (.ref b2), .val (.int (k &&& (7 : Int32))), .val (.int n), .val (.int (1 : Int32)), .val (.long (n.toInt64 - v.toInt64)), .second] [(.int n), (.ref b2)]))
                have E29 : Exa Z T3.heap b2 "com/example/outfall/outfall/rules/PumpingSchedule$Range" := (A2.keep K3)
                obtain ⟨_, T28, L28, X28, hQ28, st28⟩ := own_callV X3 hx hZ (C := "com/example/outfall/outfall/rules/PumpingSchedule$Range") (y := (⟨"com/example/outfall/outfall/rules/PumpingSchedule$Range", "contains", "(I)Z"⟩ : MethodName)) (z := (⟨"com/example/outfall/outfall/rules/PumpingSchedule$Range", "contains", "(I)Z"⟩ : MethodName)) (a := b2) (argsL := [(.int n)]) (rest := []) 0 hown (hw _ (List.mem_of_getElem? (i := 19) rfl)) (hw _ (List.mem_of_getElem? (i := 20) rfl)) (own_nf hZ (hw _ (List.mem_of_getElem? (i := 22) rfl))) (hw _ (List.mem_of_getElem? (i := 22) rfl)) (hw _ (List.mem_of_getElem? (i := 21) rfl)) (hw _ (List.mem_of_getElem? (i := 3) rfl)) (hw _ (List.mem_of_getElem? (i := 23) rfl)) (by decide) (own_con l Z a0 hw [] b2 n v u T3.heap n0 (Nat.le_trans (Nat.le_trans Z0 E2.1) K3.1) q3_0 q3_1) (by decide) (by decide) rfl E29 (g := (mkF m 163 #[.val (.int a), .val (.int b), .val (.int n), .val (.int k), .val (.int v), .val (.int ((b &&& (2147483647 : Int32)) % (((2147483647 : Int32) - v) + (1 : Int32)))), .val (.int u), .val (.ref b2), .val (.int (k &&& (7 : Int32))), .val (.int n), .val (.int (1 : Int32)), .val (.long (n.toInt64 - v.toInt64)), .second] [(.int n), (.ref b2)])) rfl (by rw [hml]; rfl) own_pd2 rfl rfl (by show 2 * 0 + _ ≤ _; exact Nat.le_of_eq rfl) (hb hby at_163) (by decide) (by decide)
                obtain ⟨rfl, N28q, e28⟩ := hQ28
                have N28 := Fr.app N3 N28q
                refine own_st st28 ?_
                show own_G p e below s _ _ _ (T28.setTop (mkF m 166 #[.val (.int a), .val (.int b), .val (.int n), .val (.int k), .val (.int v), .val (.int ((b &&& (2147483647 : Int32)) % (((2147483647 : Int32) - v) + (1 : Int32)))), .val (.int u), .val (.ref b2), .val (.int (k &&& (7 : Int32))), .val (.int n), .val (.int (1 : Int32)), .val (.long (n.toInt64 - v.toInt64)), .second] [(.int (own_b (¬ (n < v) ∧ ¬ (u < n))))]))
                refine own_st (fun zt zk => XS.iload X28.here hx rfl (hb hby at_166) rfl zk) ?_
                show own_G p e below s _ _ _ (T28.setTop (mkF m 168 #[.val (.int a), .val (.int b), .val (.int n), .val (.int k), .val (.int v), .val (.int ((b &&& (2147483647 : Int32)) % (((2147483647 : Int32) - v) + (1 : Int32)))), .val (.int u), .val (.ref b2), .val (.int (k &&& (7 : Int32))), .val (.int n), .val (.int (1 : Int32)), .val (.long (n.toInt64 - v.toInt64)), .second] [(.int (1 : Int32)), (.int (own_b (¬ (n < v) ∧ ¬ (u < n))))]))
                have hc168_30 : (own_b (¬ (n < v) ∧ ¬ (u < n))) = (1 : Int32) := own_b1 (by simp only [Int32.lt_iff_toInt_lt, Int64.lt_iff_toInt_lt] at hc136_20 hc149_24 ⊢; omega)
                refine own_st (fun zt zk => XS.icmpNo X28.here hx rfl (hb hby at_168) rfl (teq hc168_30).2 zk) ?_
                show own_G p e below s _ _ _ (T28.setTop (mkF m 171 #[.val (.int a), .val (.int b), .val (.int n), .val (.int k), .val (.int v), .val (.int ((b &&& (2147483647 : Int32)) % (((2147483647 : Int32) - v) + (1 : Int32)))), .val (.int u), .val (.ref b2), .val (.int (k &&& (7 : Int32))), .val (.int n), .val (.int (1 : Int32)), .val (.long (n.toInt64 - v.toInt64)), .second] []))
                refine own_st (fun zt zk => XS.iconst X28.here hx rfl (hb hby at_171) zk) ?_
                show own_G p e below s _ _ _ (T28.setTop (mkF m 172 #[.val (.int a), .val (.int b), .val (.int n), .val (.int k), .val (.int v), .val (.int ((b &&& (2147483647 : Int32)) % (((2147483647 : Int32) - v) + (1 : Int32)))), .val (.int u), .val (.ref b2), .val (.int (k &&& (7 : Int32))), .val (.int n), .val (.int (1 : Int32)), .val (.long (n.toInt64 - v.toInt64)), .second] [(.int (1 : Int32))]))
                refine own_st (fun zt zk => XS.goto X28.here hx rfl (pc0 := 172) (pc' := 176) rfl (hb hby at_172) (by decide) (by decide) zk) ?_
                show own_G p e below s _ _ _ (T28.setTop (mkF m 176 #[.val (.int a), .val (.int b), .val (.int n), .val (.int k), .val (.int v), .val (.int ((b &&& (2147483647 : Int32)) % (((2147483647 : Int32) - v) + (1 : Int32)))), .val (.int u), .val (.ref b2), .val (.int (k &&& (7 : Int32))), .val (.int n), .val (.int (1 : Int32)), .val (.long (n.toInt64 - v.toInt64)), .second] [(.int (1 : Int32))]))
                refine own_retZ X28 hx hlk hret (by decide) (hb hby at_176) (by decide) (by decide) ?_
                show Q_own_law Z a b n k h0 n0 (some (.int (1 : Int32))) T28.heap _
                rw [e28]
                exact ⟨rfl, N28⟩
  refine own_st (fun zt zk => XS.iload X0.here hx rfl (hb hby at_6) rfl zk) ?_
  show own_G p e below s _ _ _ (T0.setTop (mkF m 8 #[.val (.int a), .val (.int b), .val (.int n), .val (.int k), .val (.int (a &&& (2147483647 : Int32))), .unset, .unset, .unset, .unset, .unset, .unset, .unset, .unset] [(.int (a &&& (2147483647 : Int32)))]))
  by_cases hc8_31 : (a &&& (2147483647 : Int32)) = (0 : Int32)
  · refine own_st (fun zt zk => XS.ifNo X0.here hx rfl (hb hby at_8) rfl ((if0 _ _).trans (teq hc8_31).2) zk) ?_
    show own_G p e below s _ _ _ (T0.setTop (mkF m 11 #[.val (.int a), .val (.int b), .val (.int n), .val (.int k), .val (.int (a &&& (2147483647 : Int32))), .unset, .unset, .unset, .unset, .unset, .unset, .unset, .unset] []))
    refine own_st (fun zt zk => XS.iconst X0.here hx rfl (hb hby at_11) zk) ?_
    show own_G p e below s _ _ _ (T0.setTop (mkF m 12 #[.val (.int a), .val (.int b), .val (.int n), .val (.int k), .val (.int (a &&& (2147483647 : Int32))), .unset, .unset, .unset, .unset, .unset, .unset, .unset, .unset] [(.int (1 : Int32))]))
    refine own_st (fun zt zk => XS.istore X0.here hx rfl (hb hby at_12) rfl (l' := #[.val (.int a), .val (.int b), .val (.int n), .val (.int k), .val (.int (1 : Int32)), .unset, .unset, .unset, .unset, .unset, .unset, .unset, .unset]) rfl zk) ?_
    show own_G p e below s _ _ _ (T0.setTop (mkF m 14 #[.val (.int a), .val (.int b), .val (.int n), .val (.int k), .val (.int (1 : Int32)), .unset, .unset, .unset, .unset, .unset, .unset, .unset, .unset] []))
    exact hJ 1 (by decide)
  · refine own_st (fun zt zk => XS.ifYes X0.here hx rfl (pc0 := 8) (pc' := 14) rfl (hb hby at_8) rfl ((if0 _ _).trans (feq hc8_31).2) (by decide) (by decide) zk) ?_
    show own_G p e below s _ _ _ (T0.setTop (mkF m 14 #[.val (.int a), .val (.int b), .val (.int n), .val (.int k), .val (.int (a &&& (2147483647 : Int32))), .unset, .unset, .unset, .unset, .unset, .unset, .unset, .unset] []))
    exact hJ _ (own_least a hc8_31)
set_option maxRecDepth 65536 in
set_option maxHeartbeats 40000000 in
theorem comes_1 {Post : Tables → Env → Array Value → State → Outcome → State → Prop} (hpost : ∀ tb e args s v u, (limb_1_1.after args s (.returned v) u = true ∧ limb_1_2.after args s (.returned v) u = true ∧ True) → FrameEnd s (.returned v) u (Jvm.fieldLocs frame_1_writes args s ++ Jvm.arrayLocs frame_1_arrays args s ++ Jvm.staticLocs frame_1_statics s) 16 128 → Post tb e args s (.returned v) u) :
    ArmFor flags0 classFile x code maxLocals ret World_1 tables_1 room_1 Calls_1 rest_1 Pre_1 Post := by
  intro l hfl _ _ p e ha hc hk s m args below hf hA hF happ hP
  obtain ⟨hcalls, hrest, hpre⟩ := hP
  obtain ⟨-, -, -, hnamed, -, -, -, hat⟩ := (Spec.applies_iff hf).mp happ
  obtain ⟨hg, hn⟩ := and_e (Cond.before_iff.mp (show (Jvm.Cond.and given_1 narrow_1).before args s = true from hpre))
  obtain ⟨k1, k2⟩ := and_e hg
  obtain ⟨j0, i0⟩ := and_e k2
  obtain ⟨j1, i1⟩ := and_e i0
  obtain ⟨j2, i2⟩ := and_e i1
  obtain ⟨w0, w1, w2, w3, rfl⟩ : ∃ w0 w1 w2 w3 : Value, args = #[w0, w1, w2, w3] := by
    have hs : args.size = 4 := by simpa [Cond.value, given_1] using k1
    obtain ⟨L⟩ := args
    match L, hs with
    | [w0, w1, w2, w3], _ => exact ⟨w0, w1, w2, w3, rfl⟩
  have hw := fun d (hd : d ∈ tables_1) => atoms_spec (ws := Jvm.Cond.code x code maxLocals ret :: tables_1) hat d (List.mem_cons_of_mem _ hd)
  have hfit : Fit s := fun {y c} hc i hi => by
    obtain ⟨ha, rfl⟩ := Array.getElem?_eq_some_iff.mp hc
    have q := List.all_eq_true.mp ((Array.all_eq_true_iff_forall_mem.mp hF) _ (Array.getElem_mem ha)) i (List.mem_range.mpr hi)
    simpa [Array.getElem?_eq_getElem hi] using q
  obtain ⟨y0, z0⟩ := is_v j0
  obtain rfl : w0 = (.int y0) := Option.some.inj z0
  obtain ⟨y1, z1⟩ := is_v j1
  obtain rfl : w1 = (.int y1) := Option.some.inj z1
  obtain ⟨y2, z2⟩ := is_v j2
  obtain rfl : w2 = (.int y2) := Option.some.inj z2
  obtain ⟨y3, z3⟩ := is_v i2
  obtain rfl : w3 = (.int y3) := Option.some.inj z3
  obtain ⟨n, o, h1, h2, h3, _, L, rfl, ⟨rfl, N⟩, hq⟩ := own_law l s _ hw tables_1 y0 y1 y2 y3 s.heap s.heap.size (Nat.le_refl _)  p e ha hc hk s m _ below hf ((Spec.applies_iff_loose hf).mp happ).1 ⟨rfl, State.Warmed39.refl s, rfl⟩ trivial
  refine ⟨n, _, h1, h2, h3, hpost _ _ _ _ _ _ ⟨Cond.after_iff.mpr rfl, Cond.after_iff.mpr (eq_i res_at (Term.int_eval (1)) rfl), trivial⟩ ⟨hq.1, hq.2.1, (hq.2.2.sift fun y hy => Or.inr (N y hy)).mono (by decide) (by decide)⟩⟩
theorem main_1_1 : Claimed_1_1 := comes_1 fun _ _ _ _ _ _ h hF => ⟨h.1, hF⟩
theorem main_1_2 : Claimed_1_2 := comes_1 fun _ _ _ _ _ _ h hF => ⟨h.2.1, hF⟩
end Jvm.Pilot.@@N@@
namespace Jvm.Pilot.@@N@@
open Jvm Jvm.ClassFile Sem Op Lib Jvm.Free Jvm.Stand Jvm.Pilot.@@N@@.Jvm.D
/-! MADE BY PROGRAM (witnessworld.py) out of the Statement's table words and the real class files: 10 classes; the members and pool entries that the words name. The judged class is class 1, her method 1. -/
namespace start1
open Jvm.ClassFile
def u (s : String) : CpInfo := .utf8 (stringToUtf16 s)
/-- a pool by its gaps: so many unusable entries, then the entry; so many at the end -/
def gap : Nat → List CpInfo → List CpInfo
  | 0, r => r
  | n + 1, r => .unusable :: gap n r
def poolList (es : List (Nat × CpInfo)) (last : Nat) : List CpInfo := es.foldr (fun e r => gap e.1 (e.2 :: r)) (gap last [])
def pool (es : List (Nat × CpInfo)) (last : Nat) : Array CpInfo := ⟨poolList es last⟩
def fileOf (pool : Array CpInfo) (this : Nat) (attrs : Array Attribute := #[]) (ms : Array MethodInfo := #[]) (fl : Nat := 33) (sup : Nat := 0) (ifs : Array Nat := #[]) (fds : Array FieldInfo := #[]) : ClassFile where
  minorVersion := 0
  majorVersion := 65
  constantPool := pool
  accessFlags := fl
  thisClass := this
  superClass := sup
  interfaces := ifs
  fields := fds
  methods := ms
  attributes := attrs
def plain (name : String) (sup : Option ClassId) : Class where
  name := name
  kind := .ordinary
  loader := none
  accessFlags := 33
  super := sup
  interfaces := #[]
  cf := none
  fields := #[]
  methods := #[]
  instanceTypes := #[]
  staticTypes := #[]
  resolved := #[]
  callSites := []
  init := .initialized
  statics := none
  mirror := none

def pool0 : Array CpInfo := pool [(5, u "<init>"), (0, u "()V"), (1, .class_ 10), (1, u "java/lang/Object")] 113

def k0c0 : Code := { maxStack := 0, maxLocals := 1, code := object_method_1_code, exceptionTable := #[], attributes := #[] }
def k0m0 : Method := { name := "<init>", desc := "()V", sig := { parameters := [], returnType := none }, accessFlags := 1, code := some k0c0 }
/-- java/lang/Object -/
def k0 : Class := { plain "java/lang/Object" none with
  accessFlags := 33
  interfaces := #[]
  cf := some (fileOf pool0 8 #[] #[{ accessFlags := 1, nameIndex := 5, descriptorIndex := 6, attributes := #[] }] 33 0 #[] #[])
  fields := #[]
  methods := #[k0m0]
  instanceTypes := #[]
  staticTypes := #[]
  resolved := Array.replicate 124 none
  statics := none }

def pool1 : Array CpInfo := pool [(2, .class_ 4), (1, u "java/lang/Object"), (0, u "<init>"), (0, u "()V"), (0, .integer 2147483647), (2, .class_ 11), (0, u "com/example/outfall/outfall/rules/PumpingSchedule$Range"), (0, .methodref 10 13), (0, .nameAndType 5 14), (0, u "(II)V"), (0, .methodref 10 16), (0, .nameAndType 17 18), (0, u "contains"), (0, u "(I)Z"), (0, .class_ 20), (0, u "com/example/outfall/outfall/rules/RangeContainsPinLaw"), (2, u "law"), (0, u "(IIII)Z")] 7

def k1m0 : Method := { name := "<init>", desc := "()V", sig := { parameters := [], returnType := none }, accessFlags := 1, code := none }
def k1c1 : Code := { maxStack := 6, maxLocals := 13, code := code, exceptionTable := #[], attributes := #[] }
def k1m1 : Method := { name := "law", desc := "(IIII)Z", sig := { parameters := [.int, .int, .int, .int], returnType := some .boolean }, accessFlags := 9, code := some k1c1 }
/-- com/example/outfall/outfall/rules/RangeContainsPinLaw -/
def k1 : Class := { plain "com/example/outfall/outfall/rules/RangeContainsPinLaw" (some 0) with
  accessFlags := 49
  interfaces := #[]
  cf := some (fileOf pool1 19 #[] #[{ accessFlags := 1, nameIndex := 5, descriptorIndex := 6, attributes := #[] }, { accessFlags := 9, nameIndex := 23, descriptorIndex := 24, attributes := #[] }] 49 2 #[] #[])
  fields := #[]
  methods := #[k1m0, k1m1]
  instanceTypes := #[]
  staticTypes := #[]
  resolved := Array.replicate 32 none
  statics := none }

def pool2 : Array CpInfo := pool [(1, .methodref 2 3), (0, .class_ 4), (0, .nameAndType 5 6), (0, u "java/lang/Object"), (0, u "<init>"), (0, u "()V"), (0, .class_ 8), (0, u "java/lang/Record")] 13

def k2c0 : Code := { maxStack := 1, maxLocals := 1, code := jdk_30_method_1_code, exceptionTable := #[], attributes := #[] }
def k2m0 : Method := { name := "<init>", desc := "()V", sig := { parameters := [], returnType := none }, accessFlags := 4, code := some k2c0 }
/-- java/lang/Record -/
def k2 : Class := { plain "java/lang/Record" (some 0) with
  accessFlags := 1057
  interfaces := #[]
  cf := some (fileOf pool2 7 #[] #[{ accessFlags := 4, nameIndex := 5, descriptorIndex := 6, attributes := #[] }] 1057 2 #[] #[])
  fields := #[]
  methods := #[k2m0]
  instanceTypes := #[]
  staticTypes := #[]
  resolved := Array.replicate 22 none
  statics := none }

def pool3 : Array CpInfo := pool [(1, .methodref 2 3), (0, .class_ 4), (0, .nameAndType 5 6), (0, u "java/lang/Record"), (0, u "<init>"), (0, u "()V"), (9, .fieldref 17 18), (0, .class_ 19), (0, .nameAndType 20 21), (0, u "com/example/outfall/outfall/rules/PumpingSchedule$Range"), (0, u "least"), (0, u "I"), (0, .fieldref 17 23), (0, .nameAndType 24 21), (0, u "most"), (17, u "(II)V"), (2, u "ANY"), (0, u "Lcom/example/outfall/outfall/rules/PumpingSchedule$Range;"), (4, u "contains"), (0, u "(I)Z"), (9, .class_ 63), (0, u "com/example/outfall/outfall/rules/PumpingSchedule")] 28

def k3c0 : Code := { maxStack := 4, maxLocals := 3, code := prog_38_method_1_code, exceptionTable := #[], attributes := #[] }
def k3m0 : Method := { name := "<init>", desc := "(II)V", sig := { parameters := [.int, .int], returnType := none }, accessFlags := 1, code := some k3c0 }
def k3c1 : Code := { maxStack := 2, maxLocals := 2, code := prog_38_method_2_code, exceptionTable := #[], attributes := #[] }
def k3m1 : Method := { name := "contains", desc := "(I)Z", sig := { parameters := [.int], returnType := some .boolean }, accessFlags := 0, code := some k3c1 }
/-- com/example/outfall/outfall/rules/PumpingSchedule$Range -/
def k3 : Class := { plain "com/example/outfall/outfall/rules/PumpingSchedule$Range" (some 2) with
  accessFlags := 49
  interfaces := #[]
  cf := some (fileOf pool3 17 #[.nestHost 62] #[{ accessFlags := 1, nameIndex := 5, descriptorIndex := 42, attributes := #[] }, { accessFlags := 0, nameIndex := 51, descriptorIndex := 52, attributes := #[] }] 49 2 #[] #[{ accessFlags := 18, nameIndex := 20, descriptorIndex := 21, attributes := #[] }, { accessFlags := 18, nameIndex := 24, descriptorIndex := 21, attributes := #[] }, { accessFlags := 25, nameIndex := 45, descriptorIndex := 46, attributes := #[] }])
  fields := #[{ name := "least", type := .int, accessFlags := 18, slot := 0, constantValue := 0 }, { name := "most", type := .int, accessFlags := 18, slot := 1, constantValue := 0 }, { name := "ANY", type := (.object "com/example/outfall/outfall/rules/PumpingSchedule$Range"), accessFlags := 25, slot := 0, constantValue := 0 }]
  methods := #[k3m0, k3m1]
  instanceTypes := #[.int, .int]
  staticTypes := #[(.object "com/example/outfall/outfall/rules/PumpingSchedule$Range")]
  resolved := Array.replicate 92 none
  statics := none }

def pool4 : Array CpInfo := pool [(1, u "java/lang/Cloneable"), (0, .class_ 1), (0, u "java/lang/Object"), (0, .class_ 3)] 3

/-- java/lang/Cloneable -/
def k4 : Class := { plain "java/lang/Cloneable" (some 0) with
  accessFlags := 1537
  interfaces := #[]
  cf := some (fileOf pool4 2 #[] #[] 1537 4 #[] #[])
  fields := #[]
  methods := #[]
  instanceTypes := #[]
  staticTypes := #[]
  resolved := Array.replicate 8 none
  statics := none }

def pool5 : Array CpInfo := pool [(1, u "java/io/Serializable"), (0, .class_ 1), (0, u "java/lang/Object"), (0, .class_ 3)] 3

/-- java/io/Serializable -/
def k5 : Class := { plain "java/io/Serializable" (some 0) with
  accessFlags := 1537
  interfaces := #[]
  cf := some (fileOf pool5 2 #[] #[] 1537 4 #[] #[])
  fields := #[]
  methods := #[]
  instanceTypes := #[]
  staticTypes := #[]
  resolved := Array.replicate 8 none
  statics := none }

/-- the primitive byte -/
def k6 : Class := { plain "byte" none with kind := .primitive 'B', accessFlags := 0x411 }
/-- [B -/
def k7 : Class := { plain "[B" (some 0) with kind := .array 6 .byte, interfaces := #[4, 5], accessFlags := 1041 }

/-- the primitive int -/
def k8 : Class := { plain "int" none with kind := .primitive 'I', accessFlags := 0x411 }
/-- [I -/
def k9 : Class := { plain "[I" (some 0) with kind := .array 8 .int, interfaces := #[4, 5], accessFlags := 1041 }

def heap : Heap := #[]
def classes : Array Class := #[k0, k1, k2, k3, k4, k5, k6, k7, k8, k9]
def interned : List (Array UInt16 × Addr) := []
def slotsUsed : Nat := 0
def theMethod : MethodId := ⟨1, 1⟩
def args0 : Array Value := #[.int 5, .int 7, .int 9, .int 4]
def aboutOver (below : List Frame) : State where
  vm := { classes := classes, interned := interned.toArray }
  heap := heap
  slotsUsed := slotsUsed
  threads := #[{ frames := .invoking theMethod args0 :: below }]
def below0 : List Frame := [.native { method := ⟨0, 0⟩, args := #[] }]
def about1 : State := aboutOver below0
def p0 : Program := .bare "" "" ""
def e0 : Env := launch0.env 0 0 0
theorem w_frames : about1.frames = Frame.invoking theMethod args0 :: below0 := rfl
set_option maxRecDepth 65536 in
theorem w_args : argsFit about1.vm theMethod args0 = true := by decide +kernel
set_option maxRecDepth 65536 in
theorem w_heap : heapFits about1 = true := by decide +kernel
set_option maxRecDepth 65536 in
theorem w_runnable : about1.curStatus? = some .runnable := by decide +kernel
set_option maxRecDepth 65536 in
theorem w_alone : about1.alone = true := by decide +kernel
set_option maxRecDepth 65536 in
theorem w_named : about1.methodNamed? x = some theMethod := by decide +kernel
set_option maxRecDepth 65536 in
theorem w_hears : about1.hears theMethod below0 = true := by decide +kernel
set_option maxRecDepth 65536 in
theorem w_ripe : about1.ripe theMethod args0 below0 = true := by decide +kernel
theorem w_running : about1.status = .running := rfl
set_option maxRecDepth 65536 in
theorem w_room : about1.hasRoom e0.platform room_1 = true :=
  launch0.hasRoom_least _ room_1 (by decide +kernel) (by decide +kernel) (by decide +kernel) (by decide +kernel) (by decide +kernel) (by decide +kernel)
theorem allAtoms_all (ts : List Jvm.Cond) (a : Array Jvm.Value) (st : Jvm.State) : (allAtoms ts).before a st = ts.all (fun c => c.before a st) := by
  induction ts with
  | nil => rfl
  | cons c t ih =>
    show (Jvm.Cond.and c (allAtoms t)).before a st = _
    rw [Jvm.Cond.before_and, ih, List.all_cons]
def words1 : List Jvm.Cond := Jvm.Cond.code x code maxLocals ret :: tables_1
/-- a 'code' word, met by the world's own term for the bytes: nothing is compared byte by byte -/
theorem code_word {y : MethodName} {bytes : ByteArray} {mx : Nat} {rt : Option FieldType} {a : Array Value} {s : State} {m : MethodId} {meth : Method} {c : Code} (h1 : s.methodNamed? y = some m) (h2 : s.vm.method? m = some meth) (h3 : meth.code = some c) (h4 : c.code = bytes)
    (h5 : (c.maxLocals == mx && c.exceptionTable.isEmpty && decide (c.maxStack ≤ mostOperands) && decide (meth.sig.returnType = rt) && !meth.locks && decide (parseMethodDescriptor y.desc = some meth.sig)) = true) : (Jvm.Cond.code y bytes mx rt).before a s = true := by
  simp only [Bool.and_eq_true, beq_iff_eq, Bool.not_eq_true', decide_eq_true_eq] at h5
  obtain ⟨⟨⟨⟨⟨g1, g2⟩, g3⟩, g4⟩, g5⟩, g6⟩ := h5
  simp [Cond.before, Cond.holds, Cond.value, h1, h2, h3, h4, g1, g2, g3, g4, g5, g6]
def isCode : Jvm.Cond → Bool
  | .code _ _ _ _ => true
  | _ => false
theorem all_split {L : List Jvm.Cond} {P : Jvm.Cond → Bool} (h1 : L.all (fun c => isCode c || P c) = true) (h2 : ∀ c ∈ L.filter isCode, P c = true) : L.all P = true := by
  refine List.all_eq_true.mpr fun c hc => ?_
  have h := List.all_eq_true.mp h1 c hc
  rcases Bool.eq_false_or_eq_true (isCode c) with hi | hi
  · exact h2 c (List.mem_filter.mpr ⟨hc, hi⟩)
  · simpa [hi] using h
set_option maxRecDepth 65536 in
theorem w_c0 : (Jvm.Cond.code x code maxLocals ret).before args0 about1 = true := code_word (m := ⟨1, 1⟩) (meth := k1m1) (c := k1c1) (by decide +kernel) rfl rfl rfl (by decide +kernel)
set_option maxRecDepth 65536 in
theorem w_c1 : (Jvm.Cond.code ({ cls := "com/example/outfall/outfall/rules/PumpingSchedule$Range", name := "<init>", desc := "(II)V" } : Jvm.MethodName) prog_38_method_1_code (3 : Nat) (Option.none : Option Jvm.ClassFile.FieldType)).before args0 about1 = true := code_word (m := ⟨3, 0⟩) (meth := k3m0) (c := k3c0) (by decide +kernel) rfl rfl rfl (by decide +kernel)
set_option maxRecDepth 65536 in
theorem w_c2 : (Jvm.Cond.code ({ cls := "java/lang/Record", name := "<init>", desc := "()V" } : Jvm.MethodName) jdk_30_method_1_code (1 : Nat) (Option.none : Option Jvm.ClassFile.FieldType)).before args0 about1 = true := code_word (m := ⟨2, 0⟩) (meth := k2m0) (c := k2c0) (by decide +kernel) rfl rfl rfl (by decide +kernel)
set_option maxRecDepth 65536 in
theorem w_c3 : (Jvm.Cond.code ({ cls := "java/lang/Object", name := "<init>", desc := "()V" } : Jvm.MethodName) object_method_1_code (1 : Nat) (Option.none : Option Jvm.ClassFile.FieldType)).before args0 about1 = true := code_word (m := ⟨0, 0⟩) (meth := k0m0) (c := k0c0) (by decide +kernel) rfl rfl rfl (by decide +kernel)
set_option maxRecDepth 65536 in
theorem w_c4 : (Jvm.Cond.code ({ cls := "com/example/outfall/outfall/rules/PumpingSchedule$Range", name := "contains", desc := "(I)Z" } : Jvm.MethodName) prog_38_method_2_code (2 : Nat) (Option.some Jvm.ClassFile.FieldType.boolean)).before args0 about1 = true := code_word (m := ⟨3, 1⟩) (meth := k3m1) (c := k3c1) (by decide +kernel) rfl rfl rfl (by decide +kernel)
def codes1 : List Jvm.Cond := [Jvm.Cond.code x code maxLocals ret, Jvm.Cond.code ({ cls := "com/example/outfall/outfall/rules/PumpingSchedule$Range", name := "<init>", desc := "(II)V" } : Jvm.MethodName) prog_38_method_1_code (3 : Nat) (Option.none : Option Jvm.ClassFile.FieldType), Jvm.Cond.code ({ cls := "java/lang/Record", name := "<init>", desc := "()V" } : Jvm.MethodName) jdk_30_method_1_code (1 : Nat) (Option.none : Option Jvm.ClassFile.FieldType), Jvm.Cond.code ({ cls := "java/lang/Object", name := "<init>", desc := "()V" } : Jvm.MethodName) object_method_1_code (1 : Nat) (Option.none : Option Jvm.ClassFile.FieldType), Jvm.Cond.code ({ cls := "com/example/outfall/outfall/rules/PumpingSchedule$Range", name := "contains", desc := "(I)Z" } : Jvm.MethodName) prog_38_method_2_code (2 : Nat) (Option.some Jvm.ClassFile.FieldType.boolean)]
set_option maxRecDepth 65536 in
theorem codes_eq : words1.filter isCode = codes1 := rfl
theorem w_codes : ∀ c ∈ words1.filter isCode, c.before args0 about1 = true := by
  rw [codes_eq]
  intro c hc
  simp only [codes1, List.mem_cons, List.not_mem_nil, or_false] at hc
  rcases hc with rfl | rfl | rfl | rfl | rfl
  · exact w_c0
  · exact w_c1
  · exact w_c2
  · exact w_c3
  · exact w_c4
set_option maxRecDepth 65536 in
theorem w_t1 : (words1.take 24).all (fun c => isCode c || c.before args0 about1) = true := by decide +kernel
set_option maxRecDepth 65536 in
theorem w_t2 : (words1.drop 24).all (fun c => isCode c || c.before args0 about1) = true := by decide +kernel
theorem w_tables : (allAtoms (Jvm.Cond.code x code maxLocals ret :: tables_1)).before args0 about1 = true := by
  rw [allAtoms_all]
  show words1.all (fun c => c.before args0 about1) = true
  refine all_split ?_ w_codes
  rw [← List.take_append_drop 24 words1, List.all_append, w_t1, w_t2]
  rfl
set_option maxRecDepth 65536 in
theorem w_case : (Jvm.Cond.and given_1 narrow_1).before args0 about1 = true := by decide +kernel
theorem w_applies : (headSpec (Jvm.Cond.code x code maxLocals ret :: tables_1) room_1).applies x e0.platform about1 = true :=
  (Spec.applies_iff w_frames).mpr ⟨w_running, w_runnable, w_alone, w_named, w_hears, w_ripe, w_room, w_tables⟩
theorem atStart : AtStart classFile x code maxLocals ret World_1 tables_1 room_1 Calls_1 rest_1 Pre_1 launch0 p0 e0 about1 theMethod args0 below0 :=
  ⟨lists_1, trivial, launch0.admits_env _ _ _, launch0.least_env, fairChoices_fair.cas, fairChoices_fair.clock, w_frames, w_args, w_heap, w_applies, trivial, trivial, w_case⟩
end start1
theorem witness_1 : WitnessClaimed_1 := ⟨start1.p0, start1.e0, start1.about1, start1.theMethod, start1.args0, start1.below0, start1.atStart⟩
end Jvm.Pilot.@@N@@
