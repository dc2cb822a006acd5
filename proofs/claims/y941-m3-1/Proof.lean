import JvmDerived
import JvmDerived.Pilot.@@N@@Statement
import JvmDerived.Pilot.@@N@@Code
set_option linter.unusedVariables false
set_option linter.unusedSimpArgs false
namespace Jvm.Pilot.@@N@@
open Jvm Jvm.ClassFile Sem Op Lib Jvm.Free Jvm.Stand Jvm.LawKit Jvm.RoadKit Bundle Jvm.Pilot.@@N@@.Jvm.D
section OwnKit
variable {p : Program} {l : Launch} {e : Env} {R : Room} {s : State} {m : MethodId} {args : Array Value} {below : List Frame} {meth : Method} {c : Code} {T : State} {locs : List Loc} {cells slots : Nat} {Z : State} {a0 : Array Value} {h : Heap}
/-- the walk from A ends well: it returns, what it returns and leaves is as Q says -/
def own_G (p : Program) (e : Env) (below : List Frame) (s : State) (Q : Option Value → Heap → List Loc → Prop) (ce sl : Nat) (A : State) : Prop :=
  ∃ s₂ o, Steps p.tables e below A s₂ ∧ s₂.status = .running ∧ Ended s₂ below o ∧ ∃ v L, o = .returned v ∧ Q v s₂.heap L ∧ FrameEnd s o s₂ L ce sl
theorem own_st {Q : Option Value → Heap → List Loc → Prop} {ce sl : Nat} {A B : State} (k : ∀ t, Steps p.tables e below B t → Steps p.tables e below A t) (g : own_G p e below s Q ce sl B) : own_G p e below s Q ce sl A := by
  obtain ⟨s₂, o, h1, h2⟩ := g
  exact ⟨s₂, o, k _ h1, h2⟩
theorem own_ret {Q : Option Value → Heap → List Loc → Prop} {ce sl : Nat} (X : Stand p l e R s m args below meth c T locs cells slots) (hx : p.tables.exec = Jvm.exec) (hlk : meth.locks = false) {pc : Nat} {Ls : Array Slot} {w : Value} {t : FieldType} {i : Instr} {rest : List Value} (hret : meth.sig.returnType = some t) (hn : narrow t w = w)
    (hi : (i = .ireturn ∧ (t = .int ∨ t = .boolean ∨ t = .byte ∨ t = .char ∨ t = .short) ∧ ∃ z, w = .int z) ∨ (i = .lreturn ∧ t = .long ∧ ∃ z, w = .long z) ∨ (i = .dreturn ∧ t = .double ∧ ∃ z, w = .double z) ∨ (i = .freturn ∧ t = .float ∧ ∃ z, w = .float z) ∨ (i = .areturn ∧ t.isReference = true ∧ w.isRef = true))
    (hd : decode c.code pc = .ok (i, 1)) (hc : cells ≤ ce) (hs : slots ≤ sl) (hQ : Q (some w) T.heap locs) : own_G p e below s Q ce sl (T.setTop (mkF m pc Ls (w :: rest))) := by
  obtain ⟨fs, hr, hrun, hended, hW, hsame⟩ := X.leave (v := some w) (fun q => by rw [hret] at q; cases q) hlk
  exact ⟨_, _, retOut X hx hret hn hi hd hr, hrun, hended, _, _, rfl, hQ, ⟨_, rfl⟩, hW, hsame.mono hc hs⟩
theorem own_retI {Q : Option Value → Heap → List Loc → Prop} {ce sl : Nat} (X : Stand p l e R s m args below meth c T locs cells slots) (hx : p.tables.exec = Jvm.exec) (hlk : meth.locks = false) {pc : Nat} {Ls : Array Slot} {z : Int32} {rest : List Value} (hret : meth.sig.returnType = some .int)
    (hd : decode c.code pc = .ok (.ireturn, 1)) (hc : cells ≤ ce) (hs : slots ≤ sl) (hQ : Q (some (.int z)) T.heap locs) : own_G p e below s Q ce sl (T.setTop (mkF m pc Ls (.int z :: rest))) :=
  own_ret X hx hlk hret rfl (Or.inl ⟨rfl, Or.inl rfl, z, rfl⟩) hd hc hs hQ
theorem own_retZ {Q : Option Value → Heap → List Loc → Prop} {ce sl : Nat} (X : Stand p l e R s m args below meth c T locs cells slots) (hx : p.tables.exec = Jvm.exec) (hlk : meth.locks = false) {pc : Nat} {Ls : Array Slot} {z : Int32} {rest : List Value} (hret : meth.sig.returnType = some .boolean) (hn : z = 0 ∨ z = 1)
    (hd : decode c.code pc = .ok (.ireturn, 1)) (hc : cells ≤ ce) (hs : slots ≤ sl) (hQ : Q (some (.int z)) T.heap locs) : own_G p e below s Q ce sl (T.setTop (mkF m pc Ls (.int z :: rest))) :=
  own_ret X hx hlk hret (by rcases hn with rfl | rfl <;> rfl) (Or.inl ⟨rfl, Or.inr (Or.inl rfl), z, rfl⟩) hd hc hs hQ
theorem own_retJ {Q : Option Value → Heap → List Loc → Prop} {ce sl : Nat} (X : Stand p l e R s m args below meth c T locs cells slots) (hx : p.tables.exec = Jvm.exec) (hlk : meth.locks = false) {pc : Nat} {Ls : Array Slot} {z : Int64} {rest : List Value} (hret : meth.sig.returnType = some .long)
    (hd : decode c.code pc = .ok (.lreturn, 1)) (hc : cells ≤ ce) (hs : slots ≤ sl) (hQ : Q (some (.long z)) T.heap locs) : own_G p e below s Q ce sl (T.setTop (mkF m pc Ls (.long z :: rest))) :=
  own_ret X hx hlk hret rfl (Or.inr (Or.inl ⟨rfl, rfl, z, rfl⟩)) hd hc hs hQ
theorem own_retA {Q : Option Value → Heap → List Loc → Prop} {ce sl : Nat} (X : Stand p l e R s m args below meth c T locs cells slots) (hx : p.tables.exec = Jvm.exec) (hlk : meth.locks = false) {pc : Nat} {Ls : Array Slot} {w : Value} {t : FieldType} {rest : List Value} (hret : meth.sig.returnType = some t) (ht : t.isReference = true) (hw : w.isRef = true)
    (hd : decode c.code pc = .ok (.areturn, 1)) (hc : cells ≤ ce) (hs : slots ≤ sl) (hQ : Q (some w) T.heap locs) : own_G p e below s Q ce sl (T.setTop (mkF m pc Ls (w :: rest))) :=
  own_ret X hx hlk hret (by cases w <;> first | rfl | (cases t <;> first | rfl | cases ht)) (Or.inr (Or.inr (Or.inr (Or.inr ⟨rfl, ht, hw⟩)))) hd hc hs hQ
theorem own_retV {Q : Option Value → Heap → List Loc → Prop} {ce sl : Nat} (X : Stand p l e R s m args below meth c T locs cells slots) (hx : p.tables.exec = Jvm.exec) (hlk : meth.locks = false) {pc : Nat} {Ls : Array Slot} (hret : meth.sig.returnType = none)
    (hd : decode c.code pc = .ok (.return_, 1)) (hc : cells ≤ ce) (hs : slots ≤ sl) (hQ : Q none T.heap locs) : own_G p e below s Q ce sl (T.setTop (mkF m pc Ls [])) := by
  obtain ⟨fs, hr, hrun, hended, hW, hsame⟩ := X.leave (v := none) (fun _ => rfl) hlk
  exact ⟨_, _, X.returnOut hx hret hd hr, hrun, hended, _, _, rfl, hQ, ⟨_, rfl⟩, hW, hsame.mono hc hs⟩
/-- a contract out of the walk of its body -/
theorem own_met {y : MethodName} {bytes : ByteArray} {maxL : Nat} {ret : Option FieldType} {ws : List Jvm.Cond} {rm : Room} {as' : Array Value} {h0 : Heap} {Q : Option Value → Heap → List Loc → Prop} {ce sl : Nat} (hp : plainFor y = true)
    (body : ∀ (p : Program) (e : Env) (s : State) (m : MethodId) (below : List Frame) (meth : Method) (c : Code) (T : State), p.tables.exec = Jvm.exec → c.code = bytes → c.maxLocals = maxL → s.vm.findClass y.cls = some m.cls → meth.name = y.name → meth.sig.returnType = ret → meth.locks = false → Z.Warmed39 s.vm → T.heap = h0 →
      Stand p l e rm s m as' below meth c T [] 0 0 → own_G p e below s Q ce sl (T.setTop (entryFrame m as' maxL))) :
    MetFree l y (head1 (Jvm.Cond.code y bytes maxL ret :: ws) rm) (fun a U => a = as' ∧ Z.Warmed39 U.vm ∧ U.heap = h0) (fun _ _ _ _ _ => True) (fun _ U o U' => ∃ v L, o = .returned v ∧ Q v U'.heap L ∧ FrameEnd U o U' L ce sl) := by
  refine MetFree.of_bodySF hp hisR ?_
  intro p e s m args below meth c s₁ Bd hml0 hP hK
  obtain ⟨rfl, hZ, hh⟩ := hP
  exact body p e s m below meth c s₁ Bd.exec Bd.bytes hml0 (findClass_of_methodNamed Bd.named) (name_of_methodNamed Bd.named Bd.method).1 Bd.returns Bd.notSynchronized hZ (by rw [← hh, Bd.state]; rfl) (Stand.of_body Bd)
theorem own_callS (X : Stand p l e R s m args below meth c T locs cells slots) (hx : p.tables.exec = Jvm.exec) (hZ : Z.Warmed39 s.vm) {own : String} {index : Nat} {y : MethodName} {bytes : ByteArray} {maxL : Nat} {ret : Option FieldType} {rm : Room} {Q : Option Value → Heap → List Loc → Prop} {argsL rest : List Value} (W : Nat)
    (hown : s.vm.findClass own = some m.cls) (wl : (Jvm.Cond.methodLink own index y).before a0 Z = true) (wst : (Jvm.Cond.static y).before a0 Z = true) (wz : (Jvm.Cond.initialized y.cls).before a0 Z = true) (wc : (Jvm.Cond.code y bytes maxL ret).before a0 Z = true) (hy : y.cls ≠ "java/lang/invoke/MethodHandle" ∧ y.cls ≠ "java/lang/invoke/VarHandle")
    (hM : MetFree l y (head1 [Jvm.Cond.code y bytes maxL ret] rm) (fun a U => a = argsL.toArray ∧ Z.Warmed39 U.vm ∧ U.heap = h) (fun _ _ _ _ _ => True) (fun _ U o U' => ∃ v L, o = .returned v ∧ Q v U'.heap L ∧ FrameEnd U o U' L rm.cells rm.slots))
    (hf : rm.frames + 1 ≤ R.frames) (hl : W + (maxL + 11) + rm.locals ≤ R.locals) (eT : T.heap = h) {g : JFrame} (hg : g.method = m) (hsize : g.locals.size = c.maxLocals) {ps : List FieldType} {r : Option FieldType} (hpd : parseMethodDescriptor y.desc = some ⟨ps, r⟩) (hlen : argsL.length = ps.length)
    (hstack : g.stack = argsL.reverse ++ rest) (hW : 2 * g.monitorRoom + (rest.map fun v => v.category).sum ≤ W) (hdg : decode c.code g.pc = .ok (.invokestatic index, 3)) (hc : cells + rm.cells ≤ R.cells) (hs : slots + rm.slots ≤ R.slots) :
    ∃ v T' L, Stand p l e R s m args below meth c T' (locs ++ L) (cells + rm.cells) (slots + rm.slots) ∧ Q v T'.heap L ∧ ∀ t, Steps p.tables e below (T'.setTop { g with pc := g.pc + 3, stack := v.toList ++ rest }) t → Steps p.tables e below (T.setTop g) t := by
  obtain ⟨v, _, ⟨T', L', k', n'⟩, -, X', ⟨L, hQ, l1, y1, z1⟩, st⟩ := Jvm.LawKit.callS X hx (y := y) hown (mvT hZ wl) (mvT hZ wst) (mvT hZ wz) (mvT hZ wc) hy (backOf (W := W) hM hZ wc wz hf hl) hg hsize (lenOf hpd hlen) hstack hW hdg (fun _ _ => ⟨rfl, eT, hc, hs⟩)
  dsimp only [Pt.U, Pt.locs, Pt.cells, Pt.slots] at X' l1 y1 z1 st hQ
  subst l1 y1 z1
  exact ⟨v, T', L, X', hQ, st⟩
theorem own_callI (X : Stand p l e R s m args below meth c T locs cells slots) (hx : p.tables.exec = Jvm.exec) (hZ : Z.Warmed39 s.vm) {own : String} {index : Nat} {y : MethodName} {bytes : ByteArray} {maxL : Nat} {rm : Room} {Q : Option Value → Heap → List Loc → Prop} {a : Addr} {argsL rest : List Value} (W : Nat)
    (hy1 : y.name = "<init>") (hown : s.vm.findClass own = some m.cls) (wl : (Jvm.Cond.methodLink own index y).before a0 Z = true) (wi : (Jvm.Cond.instanceMethod y).before a0 Z = true) (wz : (Jvm.Cond.initialized y.cls).before a0 Z = true) (wc : (Jvm.Cond.code y bytes maxL none).before a0 Z = true) (hy : y.cls ≠ "java/lang/invoke/MethodHandle" ∧ y.cls ≠ "java/lang/invoke/VarHandle")
    (hM : MetFree l y (head1 [Jvm.Cond.code y bytes maxL none] rm) (fun b U => b = (Value.ref a :: argsL).toArray ∧ Z.Warmed39 U.vm ∧ U.heap = h) (fun _ _ _ _ _ => True) (fun _ U o U' => ∃ v L, o = .returned v ∧ Q v U'.heap L ∧ FrameEnd U o U' L rm.cells rm.slots))
    (hf : rm.frames + 1 ≤ R.frames) (hl : W + (maxL + 11) + rm.locals ≤ R.locals) (eT : T.heap = h) {g : JFrame} (hg : g.method = m) (hsize : g.locals.size = c.maxLocals) {ps : List FieldType} {r : Option FieldType} (hpd : parseMethodDescriptor y.desc = some ⟨ps, r⟩) (hlen : argsL.length = ps.length)
    (hstack : g.stack = argsL.reverse ++ .ref a :: rest) (hW : 2 * g.monitorRoom + (rest.map fun v => v.category).sum ≤ W) (hdg : decode c.code g.pc = .ok (.invokespecial index, 3)) (hc : cells + rm.cells ≤ R.cells) (hs : slots + rm.slots ≤ R.slots) :
    ∃ v T' L, Stand p l e R s m args below meth c T' (locs ++ L) (cells + rm.cells) (slots + rm.slots) ∧ Q v T'.heap L ∧ ∀ t, Steps p.tables e below (T'.setTop { g with pc := g.pc + 3, stack := v.toList ++ rest }) t → Steps p.tables e below (T.setTop g) t := by
  obtain ⟨v, _, ⟨T', L', k', n'⟩, -, X', ⟨L, hQ, l1, y1, z1⟩, st⟩ := X.specialBack hx (y := y) hy1 hown (mvT hZ wl) (mvT hZ wi) (mvT hZ wc) hy (backOf (W := W) hM hZ wc wz hf hl) hg hsize (Steps.refl _) (a := a) (lenOf hpd hlen) hstack hW hdg (fun _ _ => ⟨rfl, eT, hc, hs⟩)
  dsimp only [Pt.U, Pt.locs, Pt.cells, Pt.slots] at X' l1 y1 z1 st hQ
  subst l1 y1 z1
  exact ⟨v, T', L, X', hQ, fun t k => st.trans k⟩
theorem own_callV (X : Stand p l e R s m args below meth c T locs cells slots) (hx : p.tables.exec = Jvm.exec) (hZ : Z.Warmed39 s.vm) {own C : String} {index : Nat} {y z : MethodName} {bytes : ByteArray} {maxL : Nat} {ret : Option FieldType} {rm : Room} {Q : Option Value → Heap → List Loc → Prop} {a : Addr} {argsL rest : List Value} (W : Nat)
    (hown : s.vm.findClass own = some m.cls) (wl : (Jvm.Cond.methodLink own index y).before a0 Z = true) (wd : (Jvm.Cond.declares y).before a0 Z = true) (hnf : NotFace s y) (wsel : (Jvm.Cond.selects C y z).before a0 Z = true) (wi : (Jvm.Cond.instanceMethod z).before a0 Z = true) (wz : (Jvm.Cond.initialized z.cls).before a0 Z = true) (wc : (Jvm.Cond.code z bytes maxL ret).before a0 Z = true) (hy : y.cls ≠ "java/lang/invoke/MethodHandle" ∧ y.cls ≠ "java/lang/invoke/VarHandle")
    (hM : MetFree l z (head1 [Jvm.Cond.code z bytes maxL ret] rm) (fun b U => b = (Value.ref a :: argsL).toArray ∧ Z.Warmed39 U.vm ∧ U.heap = h) (fun _ _ _ _ _ => True) (fun _ U o U' => ∃ v L, o = .returned v ∧ Q v U'.heap L ∧ FrameEnd U o U' L rm.cells rm.slots))
    (hf : rm.frames + 1 ≤ R.frames) (hl : W + (maxL + 11) + rm.locals ≤ R.locals) (eT : T.heap = h) (E : Exa Z h a C) {g : JFrame} (hg : g.method = m) (hsize : g.locals.size = c.maxLocals) {ps : List FieldType} {r : Option FieldType} (hpd : parseMethodDescriptor y.desc = some ⟨ps, r⟩) (hlen : argsL.length = ps.length)
    (hstack : g.stack = argsL.reverse ++ .ref a :: rest) (hW : 2 * g.monitorRoom + (rest.map fun v => v.category).sum ≤ W) (hdg : decode c.code g.pc = .ok (.invokevirtual index, 3)) (hc : cells + rm.cells ≤ R.cells) (hs : slots + rm.slots ≤ R.slots) :
    ∃ v T' L, Stand p l e R s m args below meth c T' (locs ++ L) (cells + rm.cells) (slots + rm.slots) ∧ Q v T'.heap L ∧ ∀ t, Steps p.tables e below (T'.setTop { g with pc := g.pc + 3, stack := v.toList ++ rest }) t → Steps p.tables e below (T.setTop g) t := by
  obtain ⟨cq, kq, qa, qb, qc⟩ := isOf hZ eT E
  obtain ⟨v, _, ⟨T', L', k', n'⟩, -, X', ⟨L, hQ, l1, y1, z1⟩, st⟩ := X.virtualBack hx (y := y) (z := z) hown (mvT hZ wl) (mvT hZ wd) hnf (mvT hZ wsel) (mvT hZ wi) hy (backOf (W := W) hM hZ wc wz hf hl) qa qc hg hsize (Steps.refl _) (lenOf hpd hlen) hstack hW hdg (fun _ _ => ⟨rfl, eT, hc, hs⟩)
  dsimp only [Pt.U, Pt.locs, Pt.cells, Pt.slots] at X' l1 y1 z1 st hQ
  subst l1 y1 z1
  exact ⟨v, T', L, X', hQ, fun t k => st.trans k⟩
theorem own_nf {y : MethodName} {C : String} (hZ : Z.Warmed39 s.vm) (w : (Jvm.Cond.selects C y y).before a0 Z = true) : NotFace s y := notFace_of_selects (args := #[]) (mvT hZ w)
theorem own_selP {y y0 : MethodName} {C : String} (hZ : Z.Warmed39 s.vm) (w0 : (Jvm.Cond.selects C y0 y0).before a0 Z = true) (hc : y0.cls = y.cls) (wp : (Jvm.Cond.privateMethod y).before a0 Z = true) (wi : (Jvm.Cond.instanceMethod y).before a0 Z = true) (hy : y.cls ≠ "java/lang/invoke/MethodHandle" ∧ y.cls ≠ "java/lang/invoke/VarHandle") :
    (Jvm.Cond.selects y.cls y y).before args s = true := by
  obtain ⟨c2, r2, m2, q1, q2, q3, q4, kP, hkP, hkPi⟩ := Cond.selects_spec (mvT (args := args) hZ w0)
  exact selects_self_of_private (hc ▸ findClass_of_methodNamed q3) hkP hkPi (Cond.privateMethod_at (mvP hZ wp (args := #[]))) (mvT hZ wi) hy
theorem own_callP (X : Stand p l e R s m args below meth c T locs cells slots) (hx : p.tables.exec = Jvm.exec) (hZ : Z.Warmed39 s.vm) {own C C0 : String} {index : Nat} {y y0 : MethodName} {bytes : ByteArray} {maxL : Nat} {ret : Option FieldType} {rm : Room} {Q : Option Value → Heap → List Loc → Prop} {a : Addr} {argsL rest : List Value} (W : Nat)
    (hown : s.vm.findClass own = some m.cls) (wl : (Jvm.Cond.methodLink own index y).before a0 Z = true) (w0 : (Jvm.Cond.selects C0 y0 y0).before a0 Z = true) (hc0 : y0.cls = y.cls) (wp : (Jvm.Cond.privateMethod y).before a0 Z = true) (wi : (Jvm.Cond.instanceMethod y).before a0 Z = true) (wz : (Jvm.Cond.initialized y.cls).before a0 Z = true) (wc : (Jvm.Cond.code y bytes maxL ret).before a0 Z = true) (hy : y.cls ≠ "java/lang/invoke/MethodHandle" ∧ y.cls ≠ "java/lang/invoke/VarHandle")
    (hM : MetFree l y (head1 [Jvm.Cond.code y bytes maxL ret] rm) (fun b U => b = (Value.ref a :: argsL).toArray ∧ Z.Warmed39 U.vm ∧ U.heap = h) (fun _ _ _ _ _ => True) (fun _ U o U' => ∃ v L, o = .returned v ∧ Q v U'.heap L ∧ FrameEnd U o U' L rm.cells rm.slots))
    (hf : rm.frames + 1 ≤ R.frames) (hl : W + (maxL + 11) + rm.locals ≤ R.locals) (eT : T.heap = h) (E : Exa Z h a C) {g : JFrame} (hg : g.method = m) (hsize : g.locals.size = c.maxLocals) {ps : List FieldType} {r : Option FieldType} (hpd : parseMethodDescriptor y.desc = some ⟨ps, r⟩) (hlen : argsL.length = ps.length)
    (hstack : g.stack = argsL.reverse ++ .ref a :: rest) (hW : 2 * g.monitorRoom + (rest.map fun v => v.category).sum ≤ W) (hdg : decode c.code g.pc = .ok (.invokevirtual index, 3)) (hc : cells + rm.cells ≤ R.cells) (hs : slots + rm.slots ≤ R.slots) :
    ∃ v T' L, Stand p l e R s m args below meth c T' (locs ++ L) (cells + rm.cells) (slots + rm.slots) ∧ Q v T'.heap L ∧ ∀ t, Steps p.tables e below (T'.setTop { g with pc := g.pc + 3, stack := v.toList ++ rest }) t → Steps p.tables e below (T.setTop g) t := by
  obtain ⟨cq, q1, q2⟩ := E.cell
  obtain ⟨v, _, ⟨T', L', k', n'⟩, -, X', ⟨L, hQ, l1, y1, z1⟩, st⟩ := X.privateBack hx (y := y) hown (mvT hZ wl) (mvT hZ wi) (own_selP hZ w0 hc0 wp wi hy) (Cond.privateMethod_at (mvP hZ wp (args := #[]))) (mvT hZ wc) hy (backOf (W := W) hM hZ wc wz hf hl) hg hsize (Steps.refl _) (a := a) (by rw [eT]; exact q1) q2 (lenOf hpd hlen) hstack hW hdg (fun _ _ => ⟨rfl, eT, hc, hs⟩)
  dsimp only [Pt.U, Pt.locs, Pt.cells, Pt.slots] at X' l1 y1 z1 st hQ
  subst l1 y1 z1
  exact ⟨v, T', L, X', hQ, fun t k => st.trans k⟩
theorem own_callF (X : Stand p l e R s m args below meth c T locs cells slots) (hx : p.tables.exec = Jvm.exec) (hZ : Z.Warmed39 s.vm) {own C : String} {index count : Nat} {xi y : MethodName} {bytes : ByteArray} {maxL : Nat} {ret : Option FieldType} {rm : Room} {Q : Option Value → Heap → List Loc → Prop} {a : Addr} {argsL rest : List Value} (W : Nat)
    (hown : s.vm.findClass own = some m.cls) (wl : (Jvm.Cond.methodLink own index xi).before a0 Z = true) (wd : (Jvm.Cond.declares xi).before a0 Z = true) (wf : (Jvm.Cond.interfaceMethod xi.cls xi.cls xi.name xi.desc).before args s = true) (wsel : (Jvm.Cond.selects C xi y).before a0 Z = true) (wi : (Jvm.Cond.instanceMethod y).before a0 Z = true) (wp : (Jvm.Cond.publicMethod y).before a0 Z = true) (wu : (Jvm.Cond.unhidden C xi.name xi.desc).before a0 Z = true) (wk : (Jvm.Cond.castable C xi.cls).before a0 Z = true) (wz : (Jvm.Cond.initialized y.cls).before a0 Z = true) (wc : (Jvm.Cond.code y bytes maxL ret).before a0 Z = true) (hy : xi.cls ≠ "java/lang/invoke/MethodHandle" ∧ xi.cls ≠ "java/lang/invoke/VarHandle")
    (hM : MetFree l y (head1 [Jvm.Cond.code y bytes maxL ret] rm) (fun b U => b = (Value.ref a :: argsL).toArray ∧ Z.Warmed39 U.vm ∧ U.heap = h) (fun _ _ _ _ _ => True) (fun _ U o U' => ∃ v L, o = .returned v ∧ Q v U'.heap L ∧ FrameEnd U o U' L rm.cells rm.slots))
    (hf : rm.frames + 1 ≤ R.frames) (hl : W + (maxL + 11) + rm.locals ≤ R.locals) (eT : T.heap = h) (E : Exa Z h a C) {g : JFrame} (hg : g.method = m) (hsize : g.locals.size = c.maxLocals) {ps : List FieldType} {r : Option FieldType} (hpd : parseMethodDescriptor xi.desc = some ⟨ps, r⟩) (hlen : argsL.length = ps.length)
    (hstack : g.stack = argsL.reverse ++ .ref a :: rest) (hW : 2 * g.monitorRoom + (rest.map fun v => v.category).sum ≤ W) (hdg : decode c.code g.pc = .ok (.invokeinterface index count, 5)) (hc : cells + rm.cells ≤ R.cells) (hs : slots + rm.slots ≤ R.slots) :
    ∃ v T' L, Stand p l e R s m args below meth c T' (locs ++ L) (cells + rm.cells) (slots + rm.slots) ∧ Q v T'.heap L ∧ ∀ t, Steps p.tables e below (T'.setTop { g with pc := g.pc + 5, stack := v.toList ++ rest }) t → Steps p.tables e below (T.setTop g) t := by
  obtain ⟨cq, kq, qa, qb, qc⟩ := isOf hZ eT E
  obtain ⟨v, _, ⟨T', L', k', n'⟩, -, X', ⟨L, hQ, l1, y1, z1⟩, st⟩ := X.interfaceBack hx (xi := xi) (y := y) hown (mvT hZ wl) (mvT hZ wd) wf (mvT hZ wsel) (mvT hZ wi) (mvT hZ wp) (mvT hZ wu) (mvT hZ wk) hy (backOf (W := W) hM hZ wc wz hf hl) qa qb qc hg hsize (Steps.refl _) (lenOf hpd hlen) hstack hW hdg (fun _ _ => ⟨rfl, eT, hc, hs⟩)
  dsimp only [Pt.U, Pt.locs, Pt.cells, Pt.slots] at X' l1 y1 z1 st hQ
  subst l1 y1 z1
  exact ⟨v, T', L, X', hQ, fun t k => st.trans k⟩
/-- a truth as Java's int -/
def own_b (P : Prop) [Decidable P] : Int32 := if P then 1 else 0
theorem own_b1 {P : Prop} [Decidable P] (h : P) : own_b P = 1 := if_pos h
theorem own_b0 {P : Prop} [Decidable P] (h : ¬ P) : own_b P = 0 := if_neg h
theorem own_b01 (P : Prop) [Decidable P] : own_b P = 0 ∨ own_b P = 1 := by
  by_cases h : P
  · exact Or.inr (own_b1 h)
  · exact Or.inl (own_b0 h)
theorem own_bn {P : Prop} [Decidable P] (h : P) : ¬ own_b P = 0 := by rw [own_b1 h]; decide
theorem own_narZ {z : Int32} (h : z = 0 ∨ z = 1) : narrow .boolean (.int z) = .int z := by rcases h with rfl | rfl <;> rfl
theorem own_fitZ {z : Int32} (h : z = 0 ∨ z = 1) : fits .boolean (.int z) = true := by rcases h with rfl | rfl <;> rfl
end OwnKit
section OwnWide
variable {p : Program} {l : Launch} {e : Env} {R : Room} {s : State} {vm0 : Vm} {k0 : Nat} {m : MethodId} {args : Array Value} {below : List Frame} {meth : Method} {c : Code} {T : State} {locs : List Loc} {cells slots : Nat} {Z : State} {a0 : Array Value} {h : Heap}
/-- as own_G, where texts may have been interned meanwhile -/
def own_GW (p : Program) (e : Env) (below : List Frame) (s : State) (Q : Option Value → Heap → List Loc → Prop) (ce sl : Nat) (A : State) : Prop :=
  ∃ s₂ o, Steps p.tables e below A s₂ ∧ s₂.status = .running ∧ Ended s₂ below o ∧ ∃ v L, o = .returned v ∧ Q v s₂.heap L ∧ ReturnedEndW s o s₂ L ce sl
theorem own_stW {Q : Option Value → Heap → List Loc → Prop} {ce sl : Nat} {A B : State} (k : ∀ t, Steps p.tables e below B t → Steps p.tables e below A t) (g : own_GW p e below s Q ce sl B) : own_GW p e below s Q ce sl A := by
  obtain ⟨s₂, o, h1, h2⟩ := g
  exact ⟨s₂, o, k _ h1, h2⟩
theorem own_retW {Q : Option Value → Heap → List Loc → Prop} {ce sl : Nat} (X : Stand p l e R (s.setVm vm0) m args below meth c T locs cells slots) (hx : p.tables.exec = Jvm.exec) (hlk : meth.locks = false) (hS : s.Since vm0 k0) (hk : k0 ≤ T.heap.size) {pc : Nat} {Ls : Array Slot} {w : Value} {t : FieldType} {i : Instr} {rest : List Value} (hret : meth.sig.returnType = some t) (hn : narrow t w = w)
    (hi : (i = .ireturn ∧ (t = .int ∨ t = .boolean ∨ t = .byte ∨ t = .char ∨ t = .short) ∧ ∃ z, w = .int z) ∨ (i = .lreturn ∧ t = .long ∧ ∃ z, w = .long z) ∨ (i = .dreturn ∧ t = .double ∧ ∃ z, w = .double z) ∨ (i = .freturn ∧ t = .float ∧ ∃ z, w = .float z) ∨ (i = .areturn ∧ t.isReference = true ∧ w.isRef = true))
    (hd : decode c.code pc = .ok (i, 1)) (hc : cells ≤ ce) (hs : slots ≤ sl) (hQ : Q (some w) T.heap locs) : own_GW p e below s Q ce sl (T.setTop (mkF m pc Ls (w :: rest))) := by
  obtain ⟨fs, hr, hrun, hended, hW⟩ := X.leaveW hS hk (v := some w) (fun q => by rw [hret] at q; cases q) hlk
  exact ⟨_, _, retOut X hx hret hn hi hd hr, hrun, hended, _, _, rfl, hQ, hW.1, hW.2.1, hW.2.2.1, hW.2.2.2.mono hc hs⟩
theorem own_retZW {Q : Option Value → Heap → List Loc → Prop} {ce sl : Nat} (X : Stand p l e R (s.setVm vm0) m args below meth c T locs cells slots) (hx : p.tables.exec = Jvm.exec) (hlk : meth.locks = false) (hS : s.Since vm0 k0) (hk : k0 ≤ T.heap.size) {pc : Nat} {Ls : Array Slot} {z : Int32} {rest : List Value} (hret : meth.sig.returnType = some .boolean) (hn : z = 0 ∨ z = 1)
    (hd : decode c.code pc = .ok (.ireturn, 1)) (hc : cells ≤ ce) (hs : slots ≤ sl) (hQ : Q (some (.int z)) T.heap locs) : own_GW p e below s Q ce sl (T.setTop (mkF m pc Ls (.int z :: rest))) :=
  own_retW X hx hlk hS hk hret (by rcases hn with rfl | rfl <;> rfl) (Or.inl ⟨rfl, Or.inr (Or.inl rfl), z, rfl⟩) hd hc hs hQ
theorem own_retVW {Q : Option Value → Heap → List Loc → Prop} {ce sl : Nat} (X : Stand p l e R (s.setVm vm0) m args below meth c T locs cells slots) (hx : p.tables.exec = Jvm.exec) (hlk : meth.locks = false) (hS : s.Since vm0 k0) (hk : k0 ≤ T.heap.size) {pc : Nat} {Ls : Array Slot} (hret : meth.sig.returnType = none)
    (hd : decode c.code pc = .ok (.return_, 1)) (hc : cells ≤ ce) (hs : slots ≤ sl) (hQ : Q none T.heap locs) : own_GW p e below s Q ce sl (T.setTop (mkF m pc Ls [])) := by
  obtain ⟨fs, hr, hrun, hended, hW⟩ := X.leaveW hS hk (v := none) (fun _ => rfl) hlk
  exact ⟨_, _, X.returnOut hx hret hd hr, hrun, hended, _, _, rfl, hQ, hW.1, hW.2.1, hW.2.2.1, hW.2.2.2.mono hc hs⟩
theorem own_metW {y : MethodName} {bytes : ByteArray} {maxL : Nat} {ret : Option FieldType} {ws : List Jvm.Cond} {rm : Room} {as' : Array Value} {h0 : Heap} {Q : Option Value → Heap → List Loc → Prop} {ce sl : Nat} (hp : plainFor y = true)
    (body : ∀ (p : Program) (e : Env) (s : State) (m : MethodId) (below : List Frame) (meth : Method) (c : Code) (T : State), p.tables.exec = Jvm.exec → c.code = bytes → c.maxLocals = maxL → (s.setVm s.vm).vm.findClass y.cls = some m.cls → meth.name = y.name → meth.sig.returnType = ret → meth.locks = false → Z.Warmed39 (s.setVm s.vm).vm → T.heap = h0 →
      Stand p l e rm (s.setVm s.vm) m as' below meth c T [] 0 0 → s.Since s.vm 0 → own_GW p e below s Q ce sl (T.setTop (entryFrame m as' maxL))) :
    MetFree l y (head1 (Jvm.Cond.code y bytes maxL ret :: ws) rm) (fun a U => a = as' ∧ Z.Warmed39 U.vm ∧ U.heap = h0) (fun _ _ _ _ _ => True) (fun _ U o U' => ∃ v L, o = .returned v ∧ Q v U'.heap L ∧ ReturnedEndW U o U' L ce sl) := by
  refine MetFree.of_bodySF hp hisR ?_
  intro p e s m args below meth c s₁ Bd hml0 hP hK
  obtain ⟨rfl, hZ, hh⟩ := hP
  exact body p e s m below meth c s₁ Bd.exec Bd.bytes hml0 (findClass_of_methodNamed Bd.named) (name_of_methodNamed Bd.named Bd.method).1 Bd.returns Bd.notSynchronized hZ (by rw [← hh, Bd.state]; rfl) (Stand.of_body Bd) ((State.WarmedH.refl s).since 0)
theorem own_callIW (X : Stand p l e R (s.setVm vm0) m args below meth c T locs cells slots) (hx : p.tables.exec = Jvm.exec) (hZ : Z.Warmed39 (s.setVm vm0).vm) (hS : s.Since vm0 k0) {own : String} {index : Nat} {y : MethodName} {bytes : ByteArray} {maxL : Nat} {rm : Room} {Q : Option Value → Heap → List Loc → Prop} {a : Addr} {argsL rest : List Value} (W : Nat)
    (hy1 : y.name = "<init>") (hown : (s.setVm vm0).vm.findClass own = some m.cls) (wl : (Jvm.Cond.methodLink own index y).before a0 Z = true) (wi : (Jvm.Cond.instanceMethod y).before a0 Z = true) (wz : (Jvm.Cond.initialized y.cls).before a0 Z = true) (wc : (Jvm.Cond.code y bytes maxL none).before a0 Z = true) (hy : y.cls ≠ "java/lang/invoke/MethodHandle" ∧ y.cls ≠ "java/lang/invoke/VarHandle")
    (hM : MetFree l y (head1 [Jvm.Cond.code y bytes maxL none] rm) (fun b U => b = (Value.ref a :: argsL).toArray ∧ Z.Warmed39 U.vm ∧ U.heap = h) (fun _ _ _ _ _ => True) (fun _ U o U' => ∃ v L, o = .returned v ∧ Q v U'.heap L ∧ ReturnedEndW U o U' L rm.cells rm.slots))
    (hf : rm.frames + 1 ≤ R.frames) (hl : W + (maxL + 11) + rm.locals ≤ R.locals) (eT : T.heap = h) (hk : k0 ≤ h.size) {g : JFrame} (hg : g.method = m) (hsize : g.locals.size = c.maxLocals) {ps : List FieldType} {r : Option FieldType} (hpd : parseMethodDescriptor y.desc = some ⟨ps, r⟩) (hlen : argsL.length = ps.length)
    (hstack : g.stack = argsL.reverse ++ .ref a :: rest) (hW : 2 * g.monitorRoom + (rest.map fun v => v.category).sum ≤ W) (hdg : decode c.code g.pc = .ok (.invokespecial index, 3)) (hc : cells + rm.cells ≤ R.cells) (hs : slots + rm.slots ≤ R.slots) :
    ∃ v T' L, Stand p l e R (s.setVm T'.vm) m args below meth c T' (locs ++ L) (cells + rm.cells) (slots + rm.slots) ∧ Q v T'.heap L ∧ s.Since T'.vm T'.heap.size ∧ Z.Warmed39 (s.setVm T'.vm).vm ∧ (s.setVm T'.vm).vm.findClass own = some m.cls ∧ ∀ t, Steps p.tables e below (T'.setTop { g with pc := g.pc + 3, stack := v.toList ++ rest }) t → Steps p.tables e below (T.setTop g) t := by
  obtain ⟨v, _, ⟨T', L', k', n'⟩, -, X', h2, gr, ⟨L, hQ, l1, y1, z1⟩, st⟩ := X.specialBackS hx (y := y) hy1 hown (mvT hZ wl) (mvT hZ wi) (mvT hZ wc) hy (backOfS (W := W) hM hZ wc wz hf hl) hg hsize (Steps.refl _) (a := a) (lenOf hpd hlen) hstack hW hdg (fun _ _ => ⟨rfl, eT, hc, hs⟩)
  dsimp only [Pt.U, Pt.locs, Pt.cells, Pt.slots] at X' l1 y1 z1 st hQ h2 gr
  subst l1 y1 z1
  obtain ⟨X2, S2, Z2, O2⟩ := rebS hS (by rw [← eT] at hk; exact hk) X' h2 gr hZ hown
  exact ⟨v, T', L, X2, hQ, S2, Z2, O2, fun t k => st.trans k⟩
theorem own_sub : ∀ d ∈ Bundle.stringAtoms, d ∈ tables_1 := by
  intro d hd
  simp only [Bundle.stringAtoms, List.mem_cons, List.not_mem_nil, or_false] at hd
  rcases hd with rfl | rfl | rfl | rfl | rfl | rfl | rfl
  · exact List.mem_of_getElem? (i := 18) rfl
  · exact List.mem_of_getElem? (i := 19) rfl
  · exact List.mem_of_getElem? (i := 20) rfl
  · exact List.mem_of_getElem? (i := 21) rfl
  · exact List.mem_of_getElem? (i := 22) rfl
  · exact List.mem_of_getElem? (i := 23) rfl
  · exact List.mem_of_getElem? (i := 24) rfl
end OwnWide
def own_mini (x y : Int32) : Int32 := if y < x then y else x
def own_maxi (x y : Int32) : Int32 := if x < y then y else x
def own_hiw (s : Int64) : Int32 := own_maxi (1 : Int32) (((s.toUInt64 >>> ((32 : Int32) &&& 0x3f).toInt64.toUInt64).toInt64).toInt32 &&& (2147483647 : Int32))
def own_low (s : Int64) : Int32 := own_maxi (1 : Int32) (s.toInt32 &&& (2147483647 : Int32))
def own_lo (s : Int64) : Int32 := own_mini (own_hiw s) (own_low s)
def own_hi (s : Int64) : Int32 := own_maxi (own_hiw s) (own_low s)
theorem own_mini_eq (x y : Int32) : (own_mini x y).toInt = if y.toInt < x.toInt then y.toInt else x.toInt := by
  unfold own_mini; simp only [Int32.lt_iff_toInt_lt]; split <;> rfl
theorem own_maxi_eq (x y : Int32) : (own_maxi x y).toInt = if x.toInt < y.toInt then y.toInt else x.toInt := by
  unfold own_maxi; simp only [Int32.lt_iff_toInt_lt]; split <;> rfl
theorem own_lohi (x y : Int32) : ¬ (own_maxi x y < own_mini x y) := by
  rw [Int32.lt_iff_toInt_lt, own_mini_eq, own_maxi_eq]
  split <;> split <;> omega
theorem own_ov (l1 m1 l2 m2 : Int32) (h1 : ¬ (m1 < l1)) (h2 : ¬ (m2 < l2)) : (own_mini m1 m2 < own_maxi l1 l2) ↔ ¬ (¬ (m2 < l1) ∧ ¬ (m1 < l2)) := by
  simp only [Int32.lt_iff_toInt_lt, own_mini_eq, own_maxi_eq] at *
  split <;> split <;> omega
theorem own_max1 (x : Int32) : 1 ≤ (own_maxi (1 : Int32) x).toInt := by
  have i1 : (1 : Int32).toInt = 1 := by decide
  rw [own_maxi_eq]
  split <;> omega
theorem own_lo1 (s : Int64) : ¬ (own_lo s < (1 : Int32)) := by
  have h1 : 1 ≤ (own_hiw s).toInt := own_max1 _
  have h2 : 1 ≤ (own_low s).toInt := own_max1 _
  have i1 : (1 : Int32).toInt = 1 := by decide
  rw [Int32.lt_iff_toInt_lt]
  unfold own_lo
  rw [own_mini_eq]
  split <;> omega
theorem own_pn0 : plainFor (⟨"java/lang/Record", "<init>", "()V"⟩ : MethodName) = true := plainFor_of_name (by first | (simp [plainName, overriddenIn]; done) | decide +kernel)
theorem dd_jdk_30m1_0 : decode jdk_30_method_1_code 0 = .ok (.aload_n 0, 1) := by decide +kernel
theorem dd_jdk_30m1_1 : decode jdk_30_method_1_code 1 = .ok (.invokespecial 1, 3) := by decide +kernel
theorem dd_jdk_30m1_4 : decode jdk_30_method_1_code 4 = .ok (.return_, 1) := by decide +kernel
theorem ef_own_rec (m : MethodId) (z0 : Addr) : entryFrame m #[(.ref z0)] 1 = mkF m 0 #[.val (.ref z0)] [] := by first | (simp [entryFrame, mkF, argsToLocals, Value.category]; done) | rfl
def Q_own_rec (Z : State) (a : Addr) (h0 : Heap) (n0 : Nat) (zv : Option Value) (zh : Heap) (zL : List Loc) : Prop := zv = none ∧ Fr n0 zL ∧ zh = h0
set_option maxRecDepth 65536 in
set_option maxHeartbeats 40000000 in
theorem own_rec (l : Launch) (Z : State) (a0 : Array Value) (hw : ∀ d ∈ tables_1, d.before a0 Z = true) (ws : List Jvm.Cond) (a : Addr) (h0 : Heap) (n0 : Nat) (Z0 : n0 ≤ h0.size)  :
    MetFree l (⟨"java/lang/Record", "<init>", "()V"⟩ : MethodName) (head1 (Jvm.Cond.code (⟨"java/lang/Record", "<init>", "()V"⟩ : MethodName) jdk_30_method_1_code 1 none :: ws) ({ frames := 1, cells := 0, slots := 0, locals := 12 } : Room)) (fun za zU => za = #[(.ref a)] ∧ Z.Warmed39 zU.vm ∧ zU.heap = h0) (fun _ _ _ _ _ => True) (fun _ zU zo zU' => ∃ zv zL, zo = .returned zv ∧ Q_own_rec Z a h0 n0 zv zU'.heap zL ∧ FrameEnd zU zo zU' zL ({ frames := 1, cells := 0, slots := 0, locals := 12 } : Room).cells ({ frames := 1, cells := 0, slots := 0, locals := 12 } : Room).slots) := by
  refine own_met (y := (⟨"java/lang/Record", "<init>", "()V"⟩ : MethodName)) own_pn0 ?_
  intro p e s m below meth c T0 hx hby hml hown hnm hret hlk hZ e0 X0
  have N0 := Fr.nil n0
  refine own_st (fun zt zk => castTop (ef_own_rec m a) zk) ?_
  show own_G p e below s _ _ _ (T0.setTop (mkF m 0 #[.val (.ref a)] []))
  refine own_st (fun zt zk => XS.aloadN X0.here hx rfl (hb hby dd_jdk_30m1_0) rfl rfl zk) ?_
  show own_G p e below s _ _ _ (T0.setTop (mkF m 1 #[.val (.ref a)] [(.ref a)]))
  obtain ⟨T1, X1, e1, st1⟩ := initO X0 hx hZ hown (hw _ (List.mem_of_getElem? (i := 14) rfl)) (hw _ (List.mem_of_getElem? (i := 15) rfl)) (hw _ (List.mem_of_getElem? (i := 16) rfl)) e0 (g := (mkF m 1 #[.val (.ref a)] [(.ref a)])) rfl (by rw [hml]; rfl) rfl (hb hby dd_jdk_30m1_1) (by decide) (W := 0) (by show 2 * 0 + _ ≤ _; exact Nat.le_of_eq rfl) (by decide)
  refine own_st st1 ?_
  show own_G p e below s _ _ _ (T1.setTop (mkF m 4 #[.val (.ref a)] []))
  refine own_retV X1 hx hlk hret (hb hby dd_jdk_30m1_4) (by decide) (by decide) ?_
  show Q_own_rec Z a h0 n0 none T1.heap _
  rw [e1]
  exact ⟨rfl, N0, rfl⟩
theorem own_pn1 : plainFor (⟨"java/util/Objects", "requireNonNull", "(Ljava/lang/Object;Ljava/lang/String;)Ljava/lang/Object;"⟩ : MethodName) = true := plainFor_of_name (by first | (simp [plainName, overriddenIn]; done) | decide +kernel)
theorem dd_jdk_31m11_0 : decode jdk_31_method_11_code 0 = .ok (.aload_n 0, 1) := by decide +kernel
theorem dd_jdk_31m11_1 : decode jdk_31_method_11_code 1 = .ok (.ifnonnull 12, 3) := by decide +kernel
theorem dd_jdk_31m11_13 : decode jdk_31_method_11_code 13 = .ok (.aload_n 0, 1) := by decide +kernel
theorem dd_jdk_31m11_14 : decode jdk_31_method_11_code 14 = .ok (.areturn, 1) := by decide +kernel
theorem ef_own_rnn (m : MethodId) (z0 : Addr) (z1 : Addr) : entryFrame m #[(.ref z0), (.ref z1)] 2 = mkF m 0 #[.val (.ref z0), .val (.ref z1)] [] := by first | (simp [entryFrame, mkF, argsToLocals, Value.category]; done) | rfl
def Q_own_rnn (Z : State) (u : Addr) (v : Addr) (h0 : Heap) (n0 : Nat) (zv : Option Value) (zh : Heap) (zL : List Loc) : Prop := zv = some (.ref u) ∧ Fr n0 zL ∧ zh = h0
set_option maxRecDepth 65536 in
set_option maxHeartbeats 40000000 in
theorem own_rnn (l : Launch) (Z : State) (a0 : Array Value) (hw : ∀ d ∈ tables_1, d.before a0 Z = true) (ws : List Jvm.Cond) (u : Addr) (v : Addr) (h0 : Heap) (n0 : Nat) (Z0 : n0 ≤ h0.size)  :
    MetFree l (⟨"java/util/Objects", "requireNonNull", "(Ljava/lang/Object;Ljava/lang/String;)Ljava/lang/Object;"⟩ : MethodName) (head1 (Jvm.Cond.code (⟨"java/util/Objects", "requireNonNull", "(Ljava/lang/Object;Ljava/lang/String;)Ljava/lang/Object;"⟩ : MethodName) jdk_31_method_11_code 2 (some (.object "java/lang/Object")) :: ws) ({ frames := 0, cells := 0, slots := 0, locals := 0 } : Room)) (fun za zU => za = #[(.ref u), (.ref v)] ∧ Z.Warmed39 zU.vm ∧ zU.heap = h0) (fun _ _ _ _ _ => True) (fun _ zU zo zU' => ∃ zv zL, zo = .returned zv ∧ Q_own_rnn Z u v h0 n0 zv zU'.heap zL ∧ FrameEnd zU zo zU' zL ({ frames := 0, cells := 0, slots := 0, locals := 0 } : Room).cells ({ frames := 0, cells := 0, slots := 0, locals := 0 } : Room).slots) := by
  refine own_met (y := (⟨"java/util/Objects", "requireNonNull", "(Ljava/lang/Object;Ljava/lang/String;)Ljava/lang/Object;"⟩ : MethodName)) own_pn1 ?_
  intro p e s m below meth c T0 hx hby hml hown hnm hret hlk hZ e0 X0
  have N0 := Fr.nil n0
  refine own_st (fun zt zk => castTop (ef_own_rnn m u v) zk) ?_
  show own_G p e below s _ _ _ (T0.setTop (mkF m 0 #[.val (.ref u), .val (.ref v)] []))
  refine own_st (fun zt zk => XS.aloadN X0.here hx rfl (hb hby dd_jdk_31m11_0) rfl rfl zk) ?_
  show own_G p e below s _ _ _ (T0.setTop (mkF m 1 #[.val (.ref u), .val (.ref v)] [(.ref u)]))
  refine own_st (fun zt zk => XS.ifnonnullYes X0.here hx rfl (pc0 := 1) (pc' := 13) rfl (hb hby dd_jdk_31m11_1) rfl (by decide) (by decide) zk) ?_
  show own_G p e below s _ _ _ (T0.setTop (mkF m 13 #[.val (.ref u), .val (.ref v)] []))
  refine own_st (fun zt zk => XS.aloadN X0.here hx rfl (hb hby dd_jdk_31m11_13) rfl rfl zk) ?_
  show own_G p e below s _ _ _ (T0.setTop (mkF m 14 #[.val (.ref u), .val (.ref v)] [(.ref u)]))
  refine own_retA X0 hx hlk hret rfl rfl (hb hby dd_jdk_31m11_14) (by decide) (by decide) ?_
  show Q_own_rnn Z u v h0 n0 (some (.ref u)) T0.heap _
  rw [e0]
  exact ⟨rfl, N0, rfl⟩
theorem own_pn2 : plainFor (⟨"java/lang/Math", "min", "(II)I"⟩ : MethodName) = true := Jvm.Free.JP.mathPlain rfl (by decide +kernel)
theorem dd_jdk_29m69_0 : decode jdk_29_method_69_code 0 = .ok (.iload_n 0, 1) := by decide +kernel
theorem dd_jdk_29m69_1 : decode jdk_29_method_69_code 1 = .ok (.iload_n 1, 1) := by decide +kernel
theorem dd_jdk_29m69_2 : decode jdk_29_method_69_code 2 = .ok (.if_icmp .gt 7, 3) := by decide +kernel
theorem dd_jdk_29m69_9 : decode jdk_29_method_69_code 9 = .ok (.iload_n 1, 1) := by decide +kernel
theorem dd_jdk_29m69_10 : decode jdk_29_method_69_code 10 = .ok (.ireturn, 1) := by decide +kernel
theorem dd_jdk_29m69_5 : decode jdk_29_method_69_code 5 = .ok (.iload_n 0, 1) := by decide +kernel
theorem dd_jdk_29m69_6 : decode jdk_29_method_69_code 6 = .ok (.goto 4, 3) := by decide +kernel
theorem ef_own_cmin (m : MethodId) (z0 : Int32) (z1 : Int32) : entryFrame m #[(.int z0), (.int z1)] 2 = mkF m 0 #[.val (.int z0), .val (.int z1)] [] := by first | (simp [entryFrame, mkF, argsToLocals, Value.category]; done) | rfl
def Q_own_cmin (Z : State) (x : Int32) (y : Int32) (h0 : Heap) (n0 : Nat) (zv : Option Value) (zh : Heap) (zL : List Loc) : Prop := zv = some (.int (own_mini x y)) ∧ Fr n0 zL ∧ zh = h0
set_option maxRecDepth 65536 in
set_option maxHeartbeats 40000000 in
theorem own_cmin (l : Launch) (Z : State) (a0 : Array Value) (hw : ∀ d ∈ tables_1, d.before a0 Z = true) (ws : List Jvm.Cond) (x : Int32) (y : Int32) (h0 : Heap) (n0 : Nat) (Z0 : n0 ≤ h0.size)  :
    MetFree l (⟨"java/lang/Math", "min", "(II)I"⟩ : MethodName) (head1 (Jvm.Cond.code (⟨"java/lang/Math", "min", "(II)I"⟩ : MethodName) jdk_29_method_69_code 2 (some .int) :: ws) ({ frames := 0, cells := 0, slots := 0, locals := 0 } : Room)) (fun za zU => za = #[(.int x), (.int y)] ∧ Z.Warmed39 zU.vm ∧ zU.heap = h0) (fun _ _ _ _ _ => True) (fun _ zU zo zU' => ∃ zv zL, zo = .returned zv ∧ Q_own_cmin Z x y h0 n0 zv zU'.heap zL ∧ FrameEnd zU zo zU' zL ({ frames := 0, cells := 0, slots := 0, locals := 0 } : Room).cells ({ frames := 0, cells := 0, slots := 0, locals := 0 } : Room).slots) := by
  refine own_met (y := (⟨"java/lang/Math", "min", "(II)I"⟩ : MethodName)) own_pn2 ?_
  intro p e s m below meth c T0 hx hby hml hown hnm hret hlk hZ e0 X0
  have N0 := Fr.nil n0
  refine own_st (fun zt zk => castTop (ef_own_cmin m x y) zk) ?_
  show own_G p e below s _ _ _ (T0.setTop (mkF m 0 #[.val (.int x), .val (.int y)] []))
  refine own_st (fun zt zk => XS.iloadN X0.here hx rfl (hb hby dd_jdk_29m69_0) rfl zk) ?_
  show own_G p e below s _ _ _ (T0.setTop (mkF m 1 #[.val (.int x), .val (.int y)] [(.int x)]))
  refine own_st (fun zt zk => XS.iloadN X0.here hx rfl (hb hby dd_jdk_29m69_1) rfl zk) ?_
  show own_G p e below s _ _ _ (T0.setTop (mkF m 2 #[.val (.int x), .val (.int y)] [(.int y), (.int x)]))
  by_cases hc2_1 : y < x
  · refine own_st (fun zt zk => XS.icmpYes X0.here hx rfl (pc0 := 2) (pc' := 9) rfl (hb hby dd_jdk_29m69_2) rfl (tlt hc2_1).2.2.1 (by decide) (by decide) zk) ?_
    show own_G p e below s _ _ _ (T0.setTop (mkF m 9 #[.val (.int x), .val (.int y)] []))
    refine own_st (fun zt zk => XS.iloadN X0.here hx rfl (hb hby dd_jdk_29m69_9) rfl zk) ?_
    show own_G p e below s _ _ _ (T0.setTop (mkF m 10 #[.val (.int x), .val (.int y)] [(.int y)]))
    refine own_retI X0 hx hlk hret (hb hby dd_jdk_29m69_10) (by decide) (by decide) ?_
    show Q_own_cmin Z x y h0 n0 (some (.int y)) T0.heap _
    rw [e0]
    exact ⟨(by simp [own_mini, hc2_1]), N0, rfl⟩
  · refine own_st (fun zt zk => XS.icmpNo X0.here hx rfl (hb hby dd_jdk_29m69_2) rfl (flt hc2_1).2.2.1 zk) ?_
    show own_G p e below s _ _ _ (T0.setTop (mkF m 5 #[.val (.int x), .val (.int y)] []))
    refine own_st (fun zt zk => XS.iloadN X0.here hx rfl (hb hby dd_jdk_29m69_5) rfl zk) ?_
    show own_G p e below s _ _ _ (T0.setTop (mkF m 6 #[.val (.int x), .val (.int y)] [(.int x)]))
    refine own_st (fun zt zk => XS.goto X0.here hx rfl (pc0 := 6) (pc' := 10) rfl (hb hby dd_jdk_29m69_6) (by decide) (by decide) zk) ?_
    show own_G p e below s _ _ _ (T0.setTop (mkF m 10 #[.val (.int x), .val (.int y)] [(.int x)]))
    refine own_retI X0 hx hlk hret (hb hby dd_jdk_29m69_10) (by decide) (by decide) ?_
    show Q_own_cmin Z x y h0 n0 (some (.int x)) T0.heap _
    rw [e0]
    exact ⟨(by simp [own_mini, hc2_1]), N0, rfl⟩
theorem own_pn3 : plainFor (⟨"java/lang/Math", "max", "(II)I"⟩ : MethodName) = true := Jvm.Free.JP.mathPlain rfl (by decide +kernel)
theorem dd_jdk_29m65_0 : decode jdk_29_method_65_code 0 = .ok (.iload_n 0, 1) := by decide +kernel
theorem dd_jdk_29m65_1 : decode jdk_29_method_65_code 1 = .ok (.iload_n 1, 1) := by decide +kernel
theorem dd_jdk_29m65_2 : decode jdk_29_method_65_code 2 = .ok (.if_icmp .lt 7, 3) := by decide +kernel
theorem dd_jdk_29m65_9 : decode jdk_29_method_65_code 9 = .ok (.iload_n 1, 1) := by decide +kernel
theorem dd_jdk_29m65_10 : decode jdk_29_method_65_code 10 = .ok (.ireturn, 1) := by decide +kernel
theorem dd_jdk_29m65_5 : decode jdk_29_method_65_code 5 = .ok (.iload_n 0, 1) := by decide +kernel
theorem dd_jdk_29m65_6 : decode jdk_29_method_65_code 6 = .ok (.goto 4, 3) := by decide +kernel
theorem ef_own_cmax (m : MethodId) (z0 : Int32) (z1 : Int32) : entryFrame m #[(.int z0), (.int z1)] 2 = mkF m 0 #[.val (.int z0), .val (.int z1)] [] := by first | (simp [entryFrame, mkF, argsToLocals, Value.category]; done) | rfl
def Q_own_cmax (Z : State) (x : Int32) (y : Int32) (h0 : Heap) (n0 : Nat) (zv : Option Value) (zh : Heap) (zL : List Loc) : Prop := zv = some (.int (own_maxi x y)) ∧ Fr n0 zL ∧ zh = h0
set_option maxRecDepth 65536 in
set_option maxHeartbeats 40000000 in
theorem own_cmax (l : Launch) (Z : State) (a0 : Array Value) (hw : ∀ d ∈ tables_1, d.before a0 Z = true) (ws : List Jvm.Cond) (x : Int32) (y : Int32) (h0 : Heap) (n0 : Nat) (Z0 : n0 ≤ h0.size)  :
    MetFree l (⟨"java/lang/Math", "max", "(II)I"⟩ : MethodName) (head1 (Jvm.Cond.code (⟨"java/lang/Math", "max", "(II)I"⟩ : MethodName) jdk_29_method_65_code 2 (some .int) :: ws) ({ frames := 0, cells := 0, slots := 0, locals := 0 } : Room)) (fun za zU => za = #[(.int x), (.int y)] ∧ Z.Warmed39 zU.vm ∧ zU.heap = h0) (fun _ _ _ _ _ => True) (fun _ zU zo zU' => ∃ zv zL, zo = .returned zv ∧ Q_own_cmax Z x y h0 n0 zv zU'.heap zL ∧ FrameEnd zU zo zU' zL ({ frames := 0, cells := 0, slots := 0, locals := 0 } : Room).cells ({ frames := 0, cells := 0, slots := 0, locals := 0 } : Room).slots) := by
  refine own_met (y := (⟨"java/lang/Math", "max", "(II)I"⟩ : MethodName)) own_pn3 ?_
  intro p e s m below meth c T0 hx hby hml hown hnm hret hlk hZ e0 X0
  have N0 := Fr.nil n0
  refine own_st (fun zt zk => castTop (ef_own_cmax m x y) zk) ?_
  show own_G p e below s _ _ _ (T0.setTop (mkF m 0 #[.val (.int x), .val (.int y)] []))
  refine own_st (fun zt zk => XS.iloadN X0.here hx rfl (hb hby dd_jdk_29m65_0) rfl zk) ?_
  show own_G p e below s _ _ _ (T0.setTop (mkF m 1 #[.val (.int x), .val (.int y)] [(.int x)]))
  refine own_st (fun zt zk => XS.iloadN X0.here hx rfl (hb hby dd_jdk_29m65_1) rfl zk) ?_
  show own_G p e below s _ _ _ (T0.setTop (mkF m 2 #[.val (.int x), .val (.int y)] [(.int y), (.int x)]))
  by_cases hc2_1 : x < y
  · refine own_st (fun zt zk => XS.icmpYes X0.here hx rfl (pc0 := 2) (pc' := 9) rfl (hb hby dd_jdk_29m65_2) rfl (tlt hc2_1).1 (by decide) (by decide) zk) ?_
    show own_G p e below s _ _ _ (T0.setTop (mkF m 9 #[.val (.int x), .val (.int y)] []))
    refine own_st (fun zt zk => XS.iloadN X0.here hx rfl (hb hby dd_jdk_29m65_9) rfl zk) ?_
    show own_G p e below s _ _ _ (T0.setTop (mkF m 10 #[.val (.int x), .val (.int y)] [(.int y)]))
    refine own_retI X0 hx hlk hret (hb hby dd_jdk_29m65_10) (by decide) (by decide) ?_
    show Q_own_cmax Z x y h0 n0 (some (.int y)) T0.heap _
    rw [e0]
    exact ⟨(by simp [own_maxi, hc2_1]), N0, rfl⟩
  · refine own_st (fun zt zk => XS.icmpNo X0.here hx rfl (hb hby dd_jdk_29m65_2) rfl (flt hc2_1).1 zk) ?_
    show own_G p e below s _ _ _ (T0.setTop (mkF m 5 #[.val (.int x), .val (.int y)] []))
    refine own_st (fun zt zk => XS.iloadN X0.here hx rfl (hb hby dd_jdk_29m65_5) rfl zk) ?_
    show own_G p e below s _ _ _ (T0.setTop (mkF m 6 #[.val (.int x), .val (.int y)] [(.int x)]))
    refine own_st (fun zt zk => XS.goto X0.here hx rfl (pc0 := 6) (pc' := 10) rfl (hb hby dd_jdk_29m65_6) (by decide) (by decide) zk) ?_
    show own_G p e below s _ _ _ (T0.setTop (mkF m 10 #[.val (.int x), .val (.int y)] [(.int x)]))
    refine own_retI X0 hx hlk hret (hb hby dd_jdk_29m65_10) (by decide) (by decide) ?_
    show Q_own_cmax Z x y h0 n0 (some (.int x)) T0.heap _
    rw [e0]
    exact ⟨(by simp [own_maxi, hc2_1]), N0, rfl⟩
theorem own_pn4 : plainFor (⟨"com/example/outfall/outfall/rules/PeriodOverlapsPinLaw", "lo", "(J)I"⟩ : MethodName) = true := plainFor_of_name (by first | (simp [plainName, overriddenIn]; done) | decide +kernel)
theorem dd_method_2_0 : decode method_2_code 0 = .ok (.iconst 1, 1) := by decide +kernel
theorem dd_method_2_1 : decode method_2_code 1 = .ok (.lload_n 0, 1) := by decide +kernel
theorem dd_method_2_2 : decode method_2_code 2 = .ok (.bipush 32, 2) := by decide +kernel
theorem dd_method_2_4 : decode method_2_code 4 = .ok (.lushr, 1) := by decide +kernel
theorem dd_method_2_5 : decode method_2_code 5 = .ok (.l2i, 1) := by decide +kernel
theorem dd_method_2_6 : decode method_2_code 6 = .ok (.ldc 7, 2) := by decide +kernel
theorem dd_method_2_8 : decode method_2_code 8 = .ok (.iand, 1) := by decide +kernel
theorem dd_method_2_9 : decode method_2_code 9 = .ok (.invokestatic 8, 3) := by decide +kernel
theorem own_pd0 : parseMethodDescriptor "(II)I" = some ⟨[.int, .int], some .int⟩ := by decide +kernel
theorem dd_method_2_12 : decode method_2_code 12 = .ok (.istore_n 2, 1) := by decide +kernel
theorem dd_method_2_13 : decode method_2_code 13 = .ok (.iconst 1, 1) := by decide +kernel
theorem dd_method_2_14 : decode method_2_code 14 = .ok (.lload_n 0, 1) := by decide +kernel
theorem dd_method_2_15 : decode method_2_code 15 = .ok (.l2i, 1) := by decide +kernel
theorem dd_method_2_16 : decode method_2_code 16 = .ok (.ldc 7, 2) := by decide +kernel
theorem dd_method_2_18 : decode method_2_code 18 = .ok (.iand, 1) := by decide +kernel
theorem dd_method_2_19 : decode method_2_code 19 = .ok (.invokestatic 8, 3) := by decide +kernel
theorem dd_method_2_22 : decode method_2_code 22 = .ok (.istore_n 3, 1) := by decide +kernel
theorem dd_method_2_23 : decode method_2_code 23 = .ok (.iload_n 2, 1) := by decide +kernel
theorem dd_method_2_24 : decode method_2_code 24 = .ok (.iload_n 3, 1) := by decide +kernel
theorem dd_method_2_25 : decode method_2_code 25 = .ok (.invokestatic 14, 3) := by decide +kernel
theorem dd_method_2_28 : decode method_2_code 28 = .ok (.ireturn, 1) := by decide +kernel
theorem ef_own_clo (m : MethodId) (z0 : Int64) : entryFrame m #[(.long z0)] 4 = mkF m 0 #[.val (.long z0), .second, .unset, .unset] [] := by first | (simp [entryFrame, mkF, argsToLocals, Value.category]; done) | rfl
def Q_own_clo (Z : State) (t : Int64) (h0 : Heap) (n0 : Nat) (zv : Option Value) (zh : Heap) (zL : List Loc) : Prop := zv = some (.int (own_lo t)) ∧ Fr n0 zL ∧ zh = h0
set_option maxRecDepth 65536 in
set_option maxHeartbeats 40000000 in
theorem own_clo (l : Launch) (Z : State) (a0 : Array Value) (hw : ∀ d ∈ tables_1, d.before a0 Z = true) (ws : List Jvm.Cond) (t : Int64) (h0 : Heap) (n0 : Nat) (Z0 : n0 ≤ h0.size)  :
    MetFree l (⟨"com/example/outfall/outfall/rules/PeriodOverlapsPinLaw", "lo", "(J)I"⟩ : MethodName) (head1 (Jvm.Cond.code (⟨"com/example/outfall/outfall/rules/PeriodOverlapsPinLaw", "lo", "(J)I"⟩ : MethodName) method_2_code 4 (some .int) :: ws) ({ frames := 1, cells := 0, slots := 0, locals := 13 } : Room)) (fun za zU => za = #[(.long t)] ∧ Z.Warmed39 zU.vm ∧ zU.heap = h0) (fun _ _ _ _ _ => True) (fun _ zU zo zU' => ∃ zv zL, zo = .returned zv ∧ Q_own_clo Z t h0 n0 zv zU'.heap zL ∧ FrameEnd zU zo zU' zL ({ frames := 1, cells := 0, slots := 0, locals := 13 } : Room).cells ({ frames := 1, cells := 0, slots := 0, locals := 13 } : Room).slots) := by
  refine own_met (y := (⟨"com/example/outfall/outfall/rules/PeriodOverlapsPinLaw", "lo", "(J)I"⟩ : MethodName)) own_pn4 ?_
  intro p e s m below meth c T0 hx hby hml hown hnm hret hlk hZ e0 X0
  have N0 := Fr.nil n0
  refine own_st (fun zt zk => castTop (ef_own_clo m t) zk) ?_
  show own_G p e below s _ _ _ (T0.setTop (mkF m 0 #[.val (.long t), .second, .unset, .unset] []))
  refine own_st (fun zt zk => XS.iconst X0.here hx rfl (hb hby dd_method_2_0) zk) ?_
  show own_G p e below s _ _ _ (T0.setTop (mkF m 1 #[.val (.long t), .second, .unset, .unset] [(.int (1 : Int32))]))
  refine own_st (fun zt zk => XS.lloadN X0.here hx rfl (hb hby dd_method_2_1) rfl zk) ?_
  show own_G p e below s _ _ _ (T0.setTop (mkF m 2 #[.val (.long t), .second, .unset, .unset] [(.long t), (.int (1 : Int32))]))
  refine own_st (fun zt zk => XS.bipush X0.here hx rfl (hb hby dd_method_2_2) zk) ?_
  show own_G p e below s _ _ _ (T0.setTop (mkF m 4 #[.val (.long t), .second, .unset, .unset] [(.int (32 : Int32)), (.long t), (.int (1 : Int32))]))
  refine own_st (fun zt zk => XS.lushr X0.here hx rfl (hb hby dd_method_2_4) rfl zk) ?_
  show own_G p e below s _ _ _ (T0.setTop (mkF m 5 #[.val (.long t), .second, .unset, .unset] [(.long ((t.toUInt64 >>> ((32 : Int32) &&& 0x3f).toInt64.toUInt64).toInt64)), (.int (1 : Int32))]))
  refine own_st (fun zt zk => XS.l2i X0.here hx rfl (hb hby dd_method_2_5) rfl zk) ?_
  show own_G p e below s _ _ _ (T0.setTop (mkF m 6 #[.val (.long t), .second, .unset, .unset] [(.int ((t.toUInt64 >>> ((32 : Int32) &&& 0x3f).toInt64.toUInt64).toInt64).toInt32), (.int (1 : Int32))]))
  refine own_st (X0.ldcInt hx hown (mvT hZ (hw _ (List.mem_of_getElem? (i := 59) rfl))) (g := (mkF m 6 #[.val (.long t), .second, .unset, .unset] [(.int ((t.toUInt64 >>> ((32 : Int32) &&& 0x3f).toInt64.toUInt64).toInt64).toInt32), (.int (1 : Int32))])) rfl (hb hby dd_method_2_6)) ?_
  show own_G p e below s _ _ _ (T0.setTop (mkF m 8 #[.val (.long t), .second, .unset, .unset] [(.int (2147483647 : Int32)), (.int ((t.toUInt64 >>> ((32 : Int32) &&& 0x3f).toInt64.toUInt64).toInt64).toInt32), (.int (1 : Int32))]))
  refine own_st (fun zt zk => XS.iand X0.here hx rfl (hb hby dd_method_2_8) rfl zk) ?_
  show own_G p e below s _ _ _ (T0.setTop (mkF m 9 #[.val (.long t), .second, .unset, .unset] [(.int (((t.toUInt64 >>> ((32 : Int32) &&& 0x3f).toInt64.toUInt64).toInt64).toInt32 &&& (2147483647 : Int32))), (.int (1 : Int32))]))
  obtain ⟨_, T1, L1, X1, hQ1, st1⟩ := own_callS X0 hx hZ (y := (⟨"java/lang/Math", "max", "(II)I"⟩ : MethodName)) (argsL := [(.int (1 : Int32)), (.int (((t.toUInt64 >>> ((32 : Int32) &&& 0x3f).toInt64.toUInt64).toInt64).toInt32 &&& (2147483647 : Int32)))]) (rest := []) 0 hown (hw _ (List.mem_of_getElem? (i := 60) rfl)) (hw _ (List.mem_of_getElem? (i := 61) rfl)) (hw _ (List.mem_of_getElem? (i := 62) rfl)) (hw _ (List.mem_of_getElem? (i := 63) rfl)) (by decide) (own_cmax l Z a0 hw [] (1 : Int32) (((t.toUInt64 >>> ((32 : Int32) &&& 0x3f).toInt64.toUInt64).toInt64).toInt32 &&& (2147483647 : Int32)) h0 n0 Z0 ) (by decide) (by decide) e0 (g := (mkF m 9 #[.val (.long t), .second, .unset, .unset] [(.int (((t.toUInt64 >>> ((32 : Int32) &&& 0x3f).toInt64.toUInt64).toInt64).toInt32 &&& (2147483647 : Int32))), (.int (1 : Int32))])) rfl (by rw [hml]; rfl) own_pd0 rfl rfl (by show 2 * 0 + _ ≤ _; exact Nat.le_of_eq rfl) (hb hby dd_method_2_9) (by decide) (by decide)
  obtain ⟨rfl, N1q, e1⟩ := hQ1
  have N1 := Fr.app N0 N1q
  refine own_st st1 ?_
  show own_G p e below s _ _ _ (T1.setTop (mkF m 12 #[.val (.long t), .second, .unset, .unset] [(.int (own_maxi (1 : Int32) (((t.toUInt64 >>> ((32 : Int32) &&& 0x3f).toInt64.toUInt64).toInt64).toInt32 &&& (2147483647 : Int32))))]))
  refine own_st (fun zt zk => XS.istoreN X1.here hx rfl (hb hby dd_method_2_12) rfl (l' := #[.val (.long t), .second, .val (.int (own_maxi (1 : Int32) (((t.toUInt64 >>> ((32 : Int32) &&& 0x3f).toInt64.toUInt64).toInt64).toInt32 &&& (2147483647 : Int32)))), .unset]) rfl zk) ?_
  show own_G p e below s _ _ _ (T1.setTop (mkF m 13 #[.val (.long t), .second, .val (.int (own_maxi (1 : Int32) (((t.toUInt64 >>> ((32 : Int32) &&& 0x3f).toInt64.toUInt64).toInt64).toInt32 &&& (2147483647 : Int32)))), .unset] []))
  refine own_st (fun zt zk => XS.iconst X1.here hx rfl (hb hby dd_method_2_13) zk) ?_
  show own_G p e below s _ _ _ (T1.setTop (mkF m 14 #[.val (.long t), .second, .val (.int (own_maxi (1 : Int32) (((t.toUInt64 >>> ((32 : Int32) &&& 0x3f).toInt64.toUInt64).toInt64).toInt32 &&& (2147483647 : Int32)))), .unset] [(.int (1 : Int32))]))
  refine own_st (fun zt zk => XS.lloadN X1.here hx rfl (hb hby dd_method_2_14) rfl zk) ?_
  show own_G p e below s _ _ _ (T1.setTop (mkF m 15 #[.val (.long t), .second, .val (.int (own_maxi (1 : Int32) (((t.toUInt64 >>> ((32 : Int32) &&& 0x3f).toInt64.toUInt64).toInt64).toInt32 &&& (2147483647 : Int32)))), .unset] [(.long t), (.int (1 : Int32))]))
  refine own_st (fun zt zk => XS.l2i X1.here hx rfl (hb hby dd_method_2_15) rfl zk) ?_
  show own_G p e below s _ _ _ (T1.setTop (mkF m 16 #[.val (.long t), .second, .val (.int (own_maxi (1 : Int32) (((t.toUInt64 >>> ((32 : Int32) &&& 0x3f).toInt64.toUInt64).toInt64).toInt32 &&& (2147483647 : Int32)))), .unset] [(.int t.toInt32), (.int (1 : Int32))]))
  refine own_st (X1.ldcInt hx hown (mvT hZ (hw _ (List.mem_of_getElem? (i := 59) rfl))) (g := (mkF m 16 #[.val (.long t), .second, .val (.int (own_maxi (1 : Int32) (((t.toUInt64 >>> ((32 : Int32) &&& 0x3f).toInt64.toUInt64).toInt64).toInt32 &&& (2147483647 : Int32)))), .unset] [(.int t.toInt32), (.int (1 : Int32))])) rfl (hb hby dd_method_2_16)) ?_
  show own_G p e below s _ _ _ (T1.setTop (mkF m 18 #[.val (.long t), .second, .val (.int (own_maxi (1 : Int32) (((t.toUInt64 >>> ((32 : Int32) &&& 0x3f).toInt64.toUInt64).toInt64).toInt32 &&& (2147483647 : Int32)))), .unset] [(.int (2147483647 : Int32)), (.int t.toInt32), (.int (1 : Int32))]))
  refine own_st (fun zt zk => XS.iand X1.here hx rfl (hb hby dd_method_2_18) rfl zk) ?_
  show own_G p e below s _ _ _ (T1.setTop (mkF m 19 #[.val (.long t), .second, .val (.int (own_maxi (1 : Int32) (((t.toUInt64 >>> ((32 : Int32) &&& 0x3f).toInt64.toUInt64).toInt64).toInt32 &&& (2147483647 : Int32)))), .unset] [(.int (t.toInt32 &&& (2147483647 : Int32))), (.int (1 : Int32))]))
  obtain ⟨_, T2, L2, X2, hQ2, st2⟩ := own_callS X1 hx hZ (y := (⟨"java/lang/Math", "max", "(II)I"⟩ : MethodName)) (argsL := [(.int (1 : Int32)), (.int (t.toInt32 &&& (2147483647 : Int32)))]) (rest := []) 0 hown (hw _ (List.mem_of_getElem? (i := 60) rfl)) (hw _ (List.mem_of_getElem? (i := 61) rfl)) (hw _ (List.mem_of_getElem? (i := 62) rfl)) (hw _ (List.mem_of_getElem? (i := 63) rfl)) (by decide) (own_cmax l Z a0 hw [] (1 : Int32) (t.toInt32 &&& (2147483647 : Int32)) h0 n0 Z0 ) (by decide) (by decide) e1 (g := (mkF m 19 #[.val (.long t), .second, .val (.int (own_maxi (1 : Int32) (((t.toUInt64 >>> ((32 : Int32) &&& 0x3f).toInt64.toUInt64).toInt64).toInt32 &&& (2147483647 : Int32)))), .unset] [(.int (t.toInt32 &&& (2147483647 : Int32))), (.int (1 : Int32))])) rfl (by rw [hml]; rfl) own_pd0 rfl rfl (by show 2 * 0 + _ ≤ _; exact Nat.le_of_eq rfl) (hb hby dd_method_2_19) (by decide) (by decide)
  obtain ⟨rfl, N2q, e2⟩ := hQ2
  have N2 := Fr.app N1 N2q
  refine own_st st2 ?_
  show own_G p e below s _ _ _ (T2.setTop (mkF m 22 #[.val (.long t), .second, .val (.int (own_maxi (1 : Int32) (((t.toUInt64 >>> ((32 : Int32) &&& 0x3f).toInt64.toUInt64).toInt64).toInt32 &&& (2147483647 : Int32)))), .unset] [(.int (own_maxi (1 : Int32) (t.toInt32 &&& (2147483647 : Int32))))]))
  refine own_st (fun zt zk => XS.istoreN X2.here hx rfl (hb hby dd_method_2_22) rfl (l' := #[.val (.long t), .second, .val (.int (own_maxi (1 : Int32) (((t.toUInt64 >>> ((32 : Int32) &&& 0x3f).toInt64.toUInt64).toInt64).toInt32 &&& (2147483647 : Int32)))), .val (.int (own_maxi (1 : Int32) (t.toInt32 &&& (2147483647 : Int32))))]) rfl zk) ?_
  show own_G p e below s _ _ _ (T2.setTop (mkF m 23 #[.val (.long t), .second, .val (.int (own_maxi (1 : Int32) (((t.toUInt64 >>> ((32 : Int32) &&& 0x3f).toInt64.toUInt64).toInt64).toInt32 &&& (2147483647 : Int32)))), .val (.int (own_maxi (1 : Int32) (t.toInt32 &&& (2147483647 : Int32))))] []))
  refine own_st (fun zt zk => XS.iloadN X2.here hx rfl (hb hby dd_method_2_23) rfl zk) ?_
  show own_G p e below s _ _ _ (T2.setTop (mkF m 24 #[.val (.long t), .second, .val (.int (own_maxi (1 : Int32) (((t.toUInt64 >>> ((32 : Int32) &&& 0x3f).toInt64.toUInt64).toInt64).toInt32 &&& (2147483647 : Int32)))), .val (.int (own_maxi (1 : Int32) (t.toInt32 &&& (2147483647 : Int32))))] [(.int (own_maxi (1 : Int32) (((t.toUInt64 >>> ((32 : Int32) &&& 0x3f).toInt64.toUInt64).toInt64).toInt32 &&& (2147483647 : Int32))))]))
  refine own_st (fun zt zk => XS.iloadN X2.here hx rfl (hb hby dd_method_2_24) rfl zk) ?_
  show own_G p e below s _ _ _ (T2.setTop (mkF m 25 #[.val (.long t), .second, .val (.int (own_maxi (1 : Int32) (((t.toUInt64 >>> ((32 : Int32) &&& 0x3f).toInt64.toUInt64).toInt64).toInt32 &&& (2147483647 : Int32)))), .val (.int (own_maxi (1 : Int32) (t.toInt32 &&& (2147483647 : Int32))))] [(.int (own_maxi (1 : Int32) (t.toInt32 &&& (2147483647 : Int32)))), (.int (own_maxi (1 : Int32) (((t.toUInt64 >>> ((32 : Int32) &&& 0x3f).toInt64.toUInt64).toInt64).toInt32 &&& (2147483647 : Int32))))]))
  obtain ⟨_, T3, L3, X3, hQ3, st3⟩ := own_callS X2 hx hZ (y := (⟨"java/lang/Math", "min", "(II)I"⟩ : MethodName)) (argsL := [(.int (own_maxi (1 : Int32) (((t.toUInt64 >>> ((32 : Int32) &&& 0x3f).toInt64.toUInt64).toInt64).toInt32 &&& (2147483647 : Int32)))), (.int (own_maxi (1 : Int32) (t.toInt32 &&& (2147483647 : Int32))))]) (rest := []) 0 hown (hw _ (List.mem_of_getElem? (i := 64) rfl)) (hw _ (List.mem_of_getElem? (i := 65) rfl)) (hw _ (List.mem_of_getElem? (i := 62) rfl)) (hw _ (List.mem_of_getElem? (i := 66) rfl)) (by decide) (own_cmin l Z a0 hw [] (own_maxi (1 : Int32) (((t.toUInt64 >>> ((32 : Int32) &&& 0x3f).toInt64.toUInt64).toInt64).toInt32 &&& (2147483647 : Int32))) (own_maxi (1 : Int32) (t.toInt32 &&& (2147483647 : Int32))) h0 n0 Z0 ) (by decide) (by decide) e2 (g := (mkF m 25 #[.val (.long t), .second, .val (.int (own_maxi (1 : Int32) (((t.toUInt64 >>> ((32 : Int32) &&& 0x3f).toInt64.toUInt64).toInt64).toInt32 &&& (2147483647 : Int32)))), .val (.int (own_maxi (1 : Int32) (t.toInt32 &&& (2147483647 : Int32))))] [(.int (own_maxi (1 : Int32) (t.toInt32 &&& (2147483647 : Int32)))), (.int (own_maxi (1 : Int32) (((t.toUInt64 >>> ((32 : Int32) &&& 0x3f).toInt64.toUInt64).toInt64).toInt32 &&& (2147483647 : Int32))))])) rfl (by rw [hml]; rfl) own_pd0 rfl rfl (by show 2 * 0 + _ ≤ _; exact Nat.le_of_eq rfl) (hb hby dd_method_2_25) (by decide) (by decide)
  obtain ⟨rfl, N3q, e3⟩ := hQ3
  have N3 := Fr.app N2 N3q
  refine own_st st3 ?_
  show own_G p e below s _ _ _ (T3.setTop (mkF m 28 #[.val (.long t), .second, .val (.int (own_maxi (1 : Int32) (((t.toUInt64 >>> ((32 : Int32) &&& 0x3f).toInt64.toUInt64).toInt64).toInt32 &&& (2147483647 : Int32)))), .val (.int (own_maxi (1 : Int32) (t.toInt32 &&& (2147483647 : Int32))))] [(.int (own_mini (own_maxi (1 : Int32) (((t.toUInt64 >>> ((32 : Int32) &&& 0x3f).toInt64.toUInt64).toInt64).toInt32 &&& (2147483647 : Int32))) (own_maxi (1 : Int32) (t.toInt32 &&& (2147483647 : Int32)))))]))
  refine own_retI X3 hx hlk hret (hb hby dd_method_2_28) (by decide) (by decide) ?_
  show Q_own_clo Z t h0 n0 (some (.int (own_mini (own_maxi (1 : Int32) (((t.toUInt64 >>> ((32 : Int32) &&& 0x3f).toInt64.toUInt64).toInt64).toInt32 &&& (2147483647 : Int32))) (own_maxi (1 : Int32) (t.toInt32 &&& (2147483647 : Int32)))))) T3.heap _
  rw [e3]
  exact ⟨rfl, N3, rfl⟩
theorem own_pn5 : plainFor (⟨"com/example/outfall/outfall/rules/PeriodOverlapsPinLaw", "hi", "(J)I"⟩ : MethodName) = true := plainFor_of_name (by first | (simp [plainName, overriddenIn]; done) | decide +kernel)
theorem dd_method_3_0 : decode method_3_code 0 = .ok (.iconst 1, 1) := by decide +kernel
theorem dd_method_3_1 : decode method_3_code 1 = .ok (.lload_n 0, 1) := by decide +kernel
theorem dd_method_3_2 : decode method_3_code 2 = .ok (.bipush 32, 2) := by decide +kernel
theorem dd_method_3_4 : decode method_3_code 4 = .ok (.lushr, 1) := by decide +kernel
theorem dd_method_3_5 : decode method_3_code 5 = .ok (.l2i, 1) := by decide +kernel
theorem dd_method_3_6 : decode method_3_code 6 = .ok (.ldc 7, 2) := by decide +kernel
theorem dd_method_3_8 : decode method_3_code 8 = .ok (.iand, 1) := by decide +kernel
theorem dd_method_3_9 : decode method_3_code 9 = .ok (.invokestatic 8, 3) := by decide +kernel
theorem dd_method_3_12 : decode method_3_code 12 = .ok (.istore_n 2, 1) := by decide +kernel
theorem dd_method_3_13 : decode method_3_code 13 = .ok (.iconst 1, 1) := by decide +kernel
theorem dd_method_3_14 : decode method_3_code 14 = .ok (.lload_n 0, 1) := by decide +kernel
theorem dd_method_3_15 : decode method_3_code 15 = .ok (.l2i, 1) := by decide +kernel
theorem dd_method_3_16 : decode method_3_code 16 = .ok (.ldc 7, 2) := by decide +kernel
theorem dd_method_3_18 : decode method_3_code 18 = .ok (.iand, 1) := by decide +kernel
theorem dd_method_3_19 : decode method_3_code 19 = .ok (.invokestatic 8, 3) := by decide +kernel
theorem dd_method_3_22 : decode method_3_code 22 = .ok (.istore_n 3, 1) := by decide +kernel
theorem dd_method_3_23 : decode method_3_code 23 = .ok (.iload_n 2, 1) := by decide +kernel
theorem dd_method_3_24 : decode method_3_code 24 = .ok (.iload_n 3, 1) := by decide +kernel
theorem dd_method_3_25 : decode method_3_code 25 = .ok (.invokestatic 8, 3) := by decide +kernel
theorem dd_method_3_28 : decode method_3_code 28 = .ok (.ireturn, 1) := by decide +kernel
theorem ef_own_chi (m : MethodId) (z0 : Int64) : entryFrame m #[(.long z0)] 4 = mkF m 0 #[.val (.long z0), .second, .unset, .unset] [] := by first | (simp [entryFrame, mkF, argsToLocals, Value.category]; done) | rfl
def Q_own_chi (Z : State) (t : Int64) (h0 : Heap) (n0 : Nat) (zv : Option Value) (zh : Heap) (zL : List Loc) : Prop := zv = some (.int (own_hi t)) ∧ Fr n0 zL ∧ zh = h0
set_option maxRecDepth 65536 in
set_option maxHeartbeats 40000000 in
theorem own_chi (l : Launch) (Z : State) (a0 : Array Value) (hw : ∀ d ∈ tables_1, d.before a0 Z = true) (ws : List Jvm.Cond) (t : Int64) (h0 : Heap) (n0 : Nat) (Z0 : n0 ≤ h0.size)  :
    MetFree l (⟨"com/example/outfall/outfall/rules/PeriodOverlapsPinLaw", "hi", "(J)I"⟩ : MethodName) (head1 (Jvm.Cond.code (⟨"com/example/outfall/outfall/rules/PeriodOverlapsPinLaw", "hi", "(J)I"⟩ : MethodName) method_3_code 4 (some .int) :: ws) ({ frames := 1, cells := 0, slots := 0, locals := 13 } : Room)) (fun za zU => za = #[(.long t)] ∧ Z.Warmed39 zU.vm ∧ zU.heap = h0) (fun _ _ _ _ _ => True) (fun _ zU zo zU' => ∃ zv zL, zo = .returned zv ∧ Q_own_chi Z t h0 n0 zv zU'.heap zL ∧ FrameEnd zU zo zU' zL ({ frames := 1, cells := 0, slots := 0, locals := 13 } : Room).cells ({ frames := 1, cells := 0, slots := 0, locals := 13 } : Room).slots) := by
  refine own_met (y := (⟨"com/example/outfall/outfall/rules/PeriodOverlapsPinLaw", "hi", "(J)I"⟩ : MethodName)) own_pn5 ?_
  intro p e s m below meth c T0 hx hby hml hown hnm hret hlk hZ e0 X0
  have N0 := Fr.nil n0
  refine own_st (fun zt zk => castTop (ef_own_chi m t) zk) ?_
  show own_G p e below s _ _ _ (T0.setTop (mkF m 0 #[.val (.long t), .second, .unset, .unset] []))
  refine own_st (fun zt zk => XS.iconst X0.here hx rfl (hb hby dd_method_3_0) zk) ?_
  show own_G p e below s _ _ _ (T0.setTop (mkF m 1 #[.val (.long t), .second, .unset, .unset] [(.int (1 : Int32))]))
  refine own_st (fun zt zk => XS.lloadN X0.here hx rfl (hb hby dd_method_3_1) rfl zk) ?_
  show own_G p e below s _ _ _ (T0.setTop (mkF m 2 #[.val (.long t), .second, .unset, .unset] [(.long t), (.int (1 : Int32))]))
  refine own_st (fun zt zk => XS.bipush X0.here hx rfl (hb hby dd_method_3_2) zk) ?_
  show own_G p e below s _ _ _ (T0.setTop (mkF m 4 #[.val (.long t), .second, .unset, .unset] [(.int (32 : Int32)), (.long t), (.int (1 : Int32))]))
  refine own_st (fun zt zk => XS.lushr X0.here hx rfl (hb hby dd_method_3_4) rfl zk) ?_
  show own_G p e below s _ _ _ (T0.setTop (mkF m 5 #[.val (.long t), .second, .unset, .unset] [(.long ((t.toUInt64 >>> ((32 : Int32) &&& 0x3f).toInt64.toUInt64).toInt64)), (.int (1 : Int32))]))
  refine own_st (fun zt zk => XS.l2i X0.here hx rfl (hb hby dd_method_3_5) rfl zk) ?_
  show own_G p e below s _ _ _ (T0.setTop (mkF m 6 #[.val (.long t), .second, .unset, .unset] [(.int ((t.toUInt64 >>> ((32 : Int32) &&& 0x3f).toInt64.toUInt64).toInt64).toInt32), (.int (1 : Int32))]))
  refine own_st (X0.ldcInt hx hown (mvT hZ (hw _ (List.mem_of_getElem? (i := 59) rfl))) (g := (mkF m 6 #[.val (.long t), .second, .unset, .unset] [(.int ((t.toUInt64 >>> ((32 : Int32) &&& 0x3f).toInt64.toUInt64).toInt64).toInt32), (.int (1 : Int32))])) rfl (hb hby dd_method_3_6)) ?_
  show own_G p e below s _ _ _ (T0.setTop (mkF m 8 #[.val (.long t), .second, .unset, .unset] [(.int (2147483647 : Int32)), (.int ((t.toUInt64 >>> ((32 : Int32) &&& 0x3f).toInt64.toUInt64).toInt64).toInt32), (.int (1 : Int32))]))
  refine own_st (fun zt zk => XS.iand X0.here hx rfl (hb hby dd_method_3_8) rfl zk) ?_
  show own_G p e below s _ _ _ (T0.setTop (mkF m 9 #[.val (.long t), .second, .unset, .unset] [(.int (((t.toUInt64 >>> ((32 : Int32) &&& 0x3f).toInt64.toUInt64).toInt64).toInt32 &&& (2147483647 : Int32))), (.int (1 : Int32))]))
  obtain ⟨_, T1, L1, X1, hQ1, st1⟩ := own_callS X0 hx hZ (y := (⟨"java/lang/Math", "max", "(II)I"⟩ : MethodName)) (argsL := [(.int (1 : Int32)), (.int (((t.toUInt64 >>> ((32 : Int32) &&& 0x3f).toInt64.toUInt64).toInt64).toInt32 &&& (2147483647 : Int32)))]) (rest := []) 0 hown (hw _ (List.mem_of_getElem? (i := 60) rfl)) (hw _ (List.mem_of_getElem? (i := 61) rfl)) (hw _ (List.mem_of_getElem? (i := 62) rfl)) (hw _ (List.mem_of_getElem? (i := 63) rfl)) (by decide) (own_cmax l Z a0 hw [] (1 : Int32) (((t.toUInt64 >>> ((32 : Int32) &&& 0x3f).toInt64.toUInt64).toInt64).toInt32 &&& (2147483647 : Int32)) h0 n0 Z0 ) (by decide) (by decide) e0 (g := (mkF m 9 #[.val (.long t), .second, .unset, .unset] [(.int (((t.toUInt64 >>> ((32 : Int32) &&& 0x3f).toInt64.toUInt64).toInt64).toInt32 &&& (2147483647 : Int32))), (.int (1 : Int32))])) rfl (by rw [hml]; rfl) own_pd0 rfl rfl (by show 2 * 0 + _ ≤ _; exact Nat.le_of_eq rfl) (hb hby dd_method_3_9) (by decide) (by decide)
  obtain ⟨rfl, N1q, e1⟩ := hQ1
  have N1 := Fr.app N0 N1q
  refine own_st st1 ?_
  show own_G p e below s _ _ _ (T1.setTop (mkF m 12 #[.val (.long t), .second, .unset, .unset] [(.int (own_maxi (1 : Int32) (((t.toUInt64 >>> ((32 : Int32) &&& 0x3f).toInt64.toUInt64).toInt64).toInt32 &&& (2147483647 : Int32))))]))
  refine own_st (fun zt zk => XS.istoreN X1.here hx rfl (hb hby dd_method_3_12) rfl (l' := #[.val (.long t), .second, .val (.int (own_maxi (1 : Int32) (((t.toUInt64 >>> ((32 : Int32) &&& 0x3f).toInt64.toUInt64).toInt64).toInt32 &&& (2147483647 : Int32)))), .unset]) rfl zk) ?_
  show own_G p e below s _ _ _ (T1.setTop (mkF m 13 #[.val (.long t), .second, .val (.int (own_maxi (1 : Int32) (((t.toUInt64 >>> ((32 : Int32) &&& 0x3f).toInt64.toUInt64).toInt64).toInt32 &&& (2147483647 : Int32)))), .unset] []))
  refine own_st (fun zt zk => XS.iconst X1.here hx rfl (hb hby dd_method_3_13) zk) ?_
  show own_G p e below s _ _ _ (T1.setTop (mkF m 14 #[.val (.long t), .second, .val (.int (own_maxi (1 : Int32) (((t.toUInt64 >>> ((32 : Int32) &&& 0x3f).toInt64.toUInt64).toInt64).toInt32 &&& (2147483647 : Int32)))), .unset] [(.int (1 : Int32))]))
  refine own_st (fun zt zk => XS.lloadN X1.here hx rfl (hb hby dd_method_3_14) rfl zk) ?_
  show own_G p e below s _ _ _ (T1.setTop (mkF m 15 #[.val (.long t), .second, .val (.int (own_maxi (1 : Int32) (((t.toUInt64 >>> ((32 : Int32) &&& 0x3f).toInt64.toUInt64).toInt64).toInt32 &&& (2147483647 : Int32)))), .unset] [(.long t), (.int (1 : Int32))]))
  refine own_st (fun zt zk => XS.l2i X1.here hx rfl (hb hby dd_method_3_15) rfl zk) ?_
  show own_G p e below s _ _ _ (T1.setTop (mkF m 16 #[.val (.long t), .second, .val (.int (own_maxi (1 : Int32) (((t.toUInt64 >>> ((32 : Int32) &&& 0x3f).toInt64.toUInt64).toInt64).toInt32 &&& (2147483647 : Int32)))), .unset] [(.int t.toInt32), (.int (1 : Int32))]))
  refine own_st (X1.ldcInt hx hown (mvT hZ (hw _ (List.mem_of_getElem? (i := 59) rfl))) (g := (mkF m 16 #[.val (.long t), .second, .val (.int (own_maxi (1 : Int32) (((t.toUInt64 >>> ((32 : Int32) &&& 0x3f).toInt64.toUInt64).toInt64).toInt32 &&& (2147483647 : Int32)))), .unset] [(.int t.toInt32), (.int (1 : Int32))])) rfl (hb hby dd_method_3_16)) ?_
  show own_G p e below s _ _ _ (T1.setTop (mkF m 18 #[.val (.long t), .second, .val (.int (own_maxi (1 : Int32) (((t.toUInt64 >>> ((32 : Int32) &&& 0x3f).toInt64.toUInt64).toInt64).toInt32 &&& (2147483647 : Int32)))), .unset] [(.int (2147483647 : Int32)), (.int t.toInt32), (.int (1 : Int32))]))
  refine own_st (fun zt zk => XS.iand X1.here hx rfl (hb hby dd_method_3_18) rfl zk) ?_
  show own_G p e below s _ _ _ (T1.setTop (mkF m 19 #[.val (.long t), .second, .val (.int (own_maxi (1 : Int32) (((t.toUInt64 >>> ((32 : Int32) &&& 0x3f).toInt64.toUInt64).toInt64).toInt32 &&& (2147483647 : Int32)))), .unset] [(.int (t.toInt32 &&& (2147483647 : Int32))), (.int (1 : Int32))]))
  obtain ⟨_, T2, L2, X2, hQ2, st2⟩ := own_callS X1 hx hZ (y := (⟨"java/lang/Math", "max", "(II)I"⟩ : MethodName)) (argsL := [(.int (1 : Int32)), (.int (t.toInt32 &&& (2147483647 : Int32)))]) (rest := []) 0 hown (hw _ (List.mem_of_getElem? (i := 60) rfl)) (hw _ (List.mem_of_getElem? (i := 61) rfl)) (hw _ (List.mem_of_getElem? (i := 62) rfl)) (hw _ (List.mem_of_getElem? (i := 63) rfl)) (by decide) (own_cmax l Z a0 hw [] (1 : Int32) (t.toInt32 &&& (2147483647 : Int32)) h0 n0 Z0 ) (by decide) (by decide) e1 (g := (mkF m 19 #[.val (.long t), .second, .val (.int (own_maxi (1 : Int32) (((t.toUInt64 >>> ((32 : Int32) &&& 0x3f).toInt64.toUInt64).toInt64).toInt32 &&& (2147483647 : Int32)))), .unset] [(.int (t.toInt32 &&& (2147483647 : Int32))), (.int (1 : Int32))])) rfl (by rw [hml]; rfl) own_pd0 rfl rfl (by show 2 * 0 + _ ≤ _; exact Nat.le_of_eq rfl) (hb hby dd_method_3_19) (by decide) (by decide)
  obtain ⟨rfl, N2q, e2⟩ := hQ2
  have N2 := Fr.app N1 N2q
  refine own_st st2 ?_
  show own_G p e below s _ _ _ (T2.setTop (mkF m 22 #[.val (.long t), .second, .val (.int (own_maxi (1 : Int32) (((t.toUInt64 >>> ((32 : Int32) &&& 0x3f).toInt64.toUInt64).toInt64).toInt32 &&& (2147483647 : Int32)))), .unset] [(.int (own_maxi (1 : Int32) (t.toInt32 &&& (2147483647 : Int32))))]))
  refine own_st (fun zt zk => XS.istoreN X2.here hx rfl (hb hby dd_method_3_22) rfl (l' := #[.val (.long t), .second, .val (.int (own_maxi (1 : Int32) (((t.toUInt64 >>> ((32 : Int32) &&& 0x3f).toInt64.toUInt64).toInt64).toInt32 &&& (2147483647 : Int32)))), .val (.int (own_maxi (1 : Int32) (t.toInt32 &&& (2147483647 : Int32))))]) rfl zk) ?_
  show own_G p e below s _ _ _ (T2.setTop (mkF m 23 #[.val (.long t), .second, .val (.int (own_maxi (1 : Int32) (((t.toUInt64 >>> ((32 : Int32) &&& 0x3f).toInt64.toUInt64).toInt64).toInt32 &&& (2147483647 : Int32)))), .val (.int (own_maxi (1 : Int32) (t.toInt32 &&& (2147483647 : Int32))))] []))
  refine own_st (fun zt zk => XS.iloadN X2.here hx rfl (hb hby dd_method_3_23) rfl zk) ?_
  show own_G p e below s _ _ _ (T2.setTop (mkF m 24 #[.val (.long t), .second, .val (.int (own_maxi (1 : Int32) (((t.toUInt64 >>> ((32 : Int32) &&& 0x3f).toInt64.toUInt64).toInt64).toInt32 &&& (2147483647 : Int32)))), .val (.int (own_maxi (1 : Int32) (t.toInt32 &&& (2147483647 : Int32))))] [(.int (own_maxi (1 : Int32) (((t.toUInt64 >>> ((32 : Int32) &&& 0x3f).toInt64.toUInt64).toInt64).toInt32 &&& (2147483647 : Int32))))]))
  refine own_st (fun zt zk => XS.iloadN X2.here hx rfl (hb hby dd_method_3_24) rfl zk) ?_
  show own_G p e below s _ _ _ (T2.setTop (mkF m 25 #[.val (.long t), .second, .val (.int (own_maxi (1 : Int32) (((t.toUInt64 >>> ((32 : Int32) &&& 0x3f).toInt64.toUInt64).toInt64).toInt32 &&& (2147483647 : Int32)))), .val (.int (own_maxi (1 : Int32) (t.toInt32 &&& (2147483647 : Int32))))] [(.int (own_maxi (1 : Int32) (t.toInt32 &&& (2147483647 : Int32)))), (.int (own_maxi (1 : Int32) (((t.toUInt64 >>> ((32 : Int32) &&& 0x3f).toInt64.toUInt64).toInt64).toInt32 &&& (2147483647 : Int32))))]))
  obtain ⟨_, T3, L3, X3, hQ3, st3⟩ := own_callS X2 hx hZ (y := (⟨"java/lang/Math", "max", "(II)I"⟩ : MethodName)) (argsL := [(.int (own_maxi (1 : Int32) (((t.toUInt64 >>> ((32 : Int32) &&& 0x3f).toInt64.toUInt64).toInt64).toInt32 &&& (2147483647 : Int32)))), (.int (own_maxi (1 : Int32) (t.toInt32 &&& (2147483647 : Int32))))]) (rest := []) 0 hown (hw _ (List.mem_of_getElem? (i := 60) rfl)) (hw _ (List.mem_of_getElem? (i := 61) rfl)) (hw _ (List.mem_of_getElem? (i := 62) rfl)) (hw _ (List.mem_of_getElem? (i := 63) rfl)) (by decide) (own_cmax l Z a0 hw [] (own_maxi (1 : Int32) (((t.toUInt64 >>> ((32 : Int32) &&& 0x3f).toInt64.toUInt64).toInt64).toInt32 &&& (2147483647 : Int32))) (own_maxi (1 : Int32) (t.toInt32 &&& (2147483647 : Int32))) h0 n0 Z0 ) (by decide) (by decide) e2 (g := (mkF m 25 #[.val (.long t), .second, .val (.int (own_maxi (1 : Int32) (((t.toUInt64 >>> ((32 : Int32) &&& 0x3f).toInt64.toUInt64).toInt64).toInt32 &&& (2147483647 : Int32)))), .val (.int (own_maxi (1 : Int32) (t.toInt32 &&& (2147483647 : Int32))))] [(.int (own_maxi (1 : Int32) (t.toInt32 &&& (2147483647 : Int32)))), (.int (own_maxi (1 : Int32) (((t.toUInt64 >>> ((32 : Int32) &&& 0x3f).toInt64.toUInt64).toInt64).toInt32 &&& (2147483647 : Int32))))])) rfl (by rw [hml]; rfl) own_pd0 rfl rfl (by show 2 * 0 + _ ≤ _; exact Nat.le_of_eq rfl) (hb hby dd_method_3_25) (by decide) (by decide)
  obtain ⟨rfl, N3q, e3⟩ := hQ3
  have N3 := Fr.app N2 N3q
  refine own_st st3 ?_
  show own_G p e below s _ _ _ (T3.setTop (mkF m 28 #[.val (.long t), .second, .val (.int (own_maxi (1 : Int32) (((t.toUInt64 >>> ((32 : Int32) &&& 0x3f).toInt64.toUInt64).toInt64).toInt32 &&& (2147483647 : Int32)))), .val (.int (own_maxi (1 : Int32) (t.toInt32 &&& (2147483647 : Int32))))] [(.int (own_maxi (own_maxi (1 : Int32) (((t.toUInt64 >>> ((32 : Int32) &&& 0x3f).toInt64.toUInt64).toInt64).toInt32 &&& (2147483647 : Int32))) (own_maxi (1 : Int32) (t.toInt32 &&& (2147483647 : Int32)))))]))
  refine own_retI X3 hx hlk hret (hb hby dd_method_3_28) (by decide) (by decide) ?_
  show Q_own_chi Z t h0 n0 (some (.int (own_maxi (own_maxi (1 : Int32) (((t.toUInt64 >>> ((32 : Int32) &&& 0x3f).toInt64.toUInt64).toInt64).toInt32 &&& (2147483647 : Int32))) (own_maxi (1 : Int32) (t.toInt32 &&& (2147483647 : Int32)))))) T3.heap _
  rw [e3]
  exact ⟨rfl, N3, rfl⟩
theorem own_pn6 : plainFor (⟨"com/example/outfall/outfall/rules/PeriodOverlapsPinLaw", "meet", "(JJ)Z"⟩ : MethodName) = true := plainFor_of_name (by first | (simp [plainName, overriddenIn]; done) | decide +kernel)
theorem dd_method_4_0 : decode method_4_code 0 = .ok (.lload_n 0, 1) := by decide +kernel
theorem dd_method_4_1 : decode method_4_code 1 = .ok (.invokestatic 17, 3) := by decide +kernel
theorem own_pd1 : parseMethodDescriptor "(J)I" = some ⟨[.long], some .int⟩ := by decide +kernel
theorem dd_method_4_4 : decode method_4_code 4 = .ok (.lload_n 2, 1) := by decide +kernel
theorem dd_method_4_5 : decode method_4_code 5 = .ok (.invokestatic 17, 3) := by decide +kernel
theorem dd_method_4_8 : decode method_4_code 8 = .ok (.invokestatic 8, 3) := by decide +kernel
theorem dd_method_4_11 : decode method_4_code 11 = .ok (.lload_n 0, 1) := by decide +kernel
theorem dd_method_4_12 : decode method_4_code 12 = .ok (.invokestatic 23, 3) := by decide +kernel
theorem dd_method_4_15 : decode method_4_code 15 = .ok (.lload_n 2, 1) := by decide +kernel
theorem dd_method_4_16 : decode method_4_code 16 = .ok (.invokestatic 23, 3) := by decide +kernel
theorem dd_method_4_19 : decode method_4_code 19 = .ok (.invokestatic 14, 3) := by decide +kernel
theorem dd_method_4_22 : decode method_4_code 22 = .ok (.if_icmp .gt 7, 3) := by decide +kernel
theorem dd_method_4_29 : decode method_4_code 29 = .ok (.iconst 0, 1) := by decide +kernel
theorem dd_method_4_30 : decode method_4_code 30 = .ok (.ireturn, 1) := by decide +kernel
theorem dd_method_4_25 : decode method_4_code 25 = .ok (.iconst 1, 1) := by decide +kernel
theorem dd_method_4_26 : decode method_4_code 26 = .ok (.goto 4, 3) := by decide +kernel
theorem ef_own_cmeet (m : MethodId) (z0 : Int64) (z1 : Int64) : entryFrame m #[(.long z0), (.long z1)] 4 = mkF m 0 #[.val (.long z0), .second, .val (.long z1), .second] [] := by first | (simp [entryFrame, mkF, argsToLocals, Value.category]; done) | rfl
def Q_own_cmeet (Z : State) (t : Int64) (u : Int64) (h0 : Heap) (n0 : Nat) (zv : Option Value) (zh : Heap) (zL : List Loc) : Prop := zv = some (.int (own_b (¬ ((own_mini (own_hi t) (own_hi u)) < (own_maxi (own_lo t) (own_lo u)))))) ∧ Fr n0 zL ∧ zh = h0
set_option maxRecDepth 65536 in
set_option maxHeartbeats 40000000 in
theorem own_cmeet (l : Launch) (Z : State) (a0 : Array Value) (hw : ∀ d ∈ tables_1, d.before a0 Z = true) (ws : List Jvm.Cond) (t : Int64) (u : Int64) (h0 : Heap) (n0 : Nat) (Z0 : n0 ≤ h0.size)  :
    MetFree l (⟨"com/example/outfall/outfall/rules/PeriodOverlapsPinLaw", "meet", "(JJ)Z"⟩ : MethodName) (head1 (Jvm.Cond.code (⟨"com/example/outfall/outfall/rules/PeriodOverlapsPinLaw", "meet", "(JJ)Z"⟩ : MethodName) method_4_code 4 (some .boolean) :: ws) ({ frames := 2, cells := 0, slots := 0, locals := 30 } : Room)) (fun za zU => za = #[(.long t), (.long u)] ∧ Z.Warmed39 zU.vm ∧ zU.heap = h0) (fun _ _ _ _ _ => True) (fun _ zU zo zU' => ∃ zv zL, zo = .returned zv ∧ Q_own_cmeet Z t u h0 n0 zv zU'.heap zL ∧ FrameEnd zU zo zU' zL ({ frames := 2, cells := 0, slots := 0, locals := 30 } : Room).cells ({ frames := 2, cells := 0, slots := 0, locals := 30 } : Room).slots) := by
  refine own_met (y := (⟨"com/example/outfall/outfall/rules/PeriodOverlapsPinLaw", "meet", "(JJ)Z"⟩ : MethodName)) own_pn6 ?_
  intro p e s m below meth c T0 hx hby hml hown hnm hret hlk hZ e0 X0
  have N0 := Fr.nil n0
  refine own_st (fun zt zk => castTop (ef_own_cmeet m t u) zk) ?_
  show own_G p e below s _ _ _ (T0.setTop (mkF m 0 #[.val (.long t), .second, .val (.long u), .second] []))
  refine own_st (fun zt zk => XS.lloadN X0.here hx rfl (hb hby dd_method_4_0) rfl zk) ?_
  show own_G p e below s _ _ _ (T0.setTop (mkF m 1 #[.val (.long t), .second, .val (.long u), .second] [(.long t)]))
  obtain ⟨_, T1, L1, X1, hQ1, st1⟩ := own_callS X0 hx hZ (y := (⟨"com/example/outfall/outfall/rules/PeriodOverlapsPinLaw", "lo", "(J)I"⟩ : MethodName)) (argsL := [(.long t)]) (rest := []) 0 hown (hw _ (List.mem_of_getElem? (i := 55) rfl)) (hw _ (List.mem_of_getElem? (i := 56) rfl)) (hw _ (List.mem_of_getElem? (i := 57) rfl)) (hw _ (List.mem_of_getElem? (i := 58) rfl)) (by decide) (own_clo l Z a0 hw [] t h0 n0 Z0 ) (by decide) (by decide) e0 (g := (mkF m 1 #[.val (.long t), .second, .val (.long u), .second] [(.long t)])) rfl (by rw [hml]; rfl) own_pd1 rfl rfl (by show 2 * 0 + _ ≤ _; exact Nat.le_of_eq rfl) (hb hby dd_method_4_1) (by decide) (by decide)
  obtain ⟨rfl, N1q, e1⟩ := hQ1
  have N1 := Fr.app N0 N1q
  refine own_st st1 ?_
  show own_G p e below s _ _ _ (T1.setTop (mkF m 4 #[.val (.long t), .second, .val (.long u), .second] [(.int (own_lo t))]))
  refine own_st (fun zt zk => XS.lloadN X1.here hx rfl (hb hby dd_method_4_4) rfl zk) ?_
  show own_G p e below s _ _ _ (T1.setTop (mkF m 5 #[.val (.long t), .second, .val (.long u), .second] [(.long u), (.int (own_lo t))]))
  obtain ⟨_, T2, L2, X2, hQ2, st2⟩ := own_callS X1 hx hZ (y := (⟨"com/example/outfall/outfall/rules/PeriodOverlapsPinLaw", "lo", "(J)I"⟩ : MethodName)) (argsL := [(.long u)]) (rest := [(.int (own_lo t))]) 1 hown (hw _ (List.mem_of_getElem? (i := 55) rfl)) (hw _ (List.mem_of_getElem? (i := 56) rfl)) (hw _ (List.mem_of_getElem? (i := 57) rfl)) (hw _ (List.mem_of_getElem? (i := 58) rfl)) (by decide) (own_clo l Z a0 hw [] u h0 n0 Z0 ) (by decide) (by decide) e1 (g := (mkF m 5 #[.val (.long t), .second, .val (.long u), .second] [(.long u), (.int (own_lo t))])) rfl (by rw [hml]; rfl) own_pd1 rfl rfl (by show 2 * 0 + _ ≤ _; exact Nat.le_of_eq rfl) (hb hby dd_method_4_5) (by decide) (by decide)
  obtain ⟨rfl, N2q, e2⟩ := hQ2
  have N2 := Fr.app N1 N2q
  refine own_st st2 ?_
  show own_G p e below s _ _ _ (T2.setTop (mkF m 8 #[.val (.long t), .second, .val (.long u), .second] [(.int (own_lo u)), (.int (own_lo t))]))
  obtain ⟨_, T3, L3, X3, hQ3, st3⟩ := own_callS X2 hx hZ (y := (⟨"java/lang/Math", "max", "(II)I"⟩ : MethodName)) (argsL := [(.int (own_lo t)), (.int (own_lo u))]) (rest := []) 0 hown (hw _ (List.mem_of_getElem? (i := 60) rfl)) (hw _ (List.mem_of_getElem? (i := 61) rfl)) (hw _ (List.mem_of_getElem? (i := 62) rfl)) (hw _ (List.mem_of_getElem? (i := 63) rfl)) (by decide) (own_cmax l Z a0 hw [] (own_lo t) (own_lo u) h0 n0 Z0 ) (by decide) (by decide) e2 (g := (mkF m 8 #[.val (.long t), .second, .val (.long u), .second] [(.int (own_lo u)), (.int (own_lo t))])) rfl (by rw [hml]; rfl) own_pd0 rfl rfl (by show 2 * 0 + _ ≤ _; exact Nat.le_of_eq rfl) (hb hby dd_method_4_8) (by decide) (by decide)
  obtain ⟨rfl, N3q, e3⟩ := hQ3
  have N3 := Fr.app N2 N3q
  refine own_st st3 ?_
  show own_G p e below s _ _ _ (T3.setTop (mkF m 11 #[.val (.long t), .second, .val (.long u), .second] [(.int (own_maxi (own_lo t) (own_lo u)))]))
  refine own_st (fun zt zk => XS.lloadN X3.here hx rfl (hb hby dd_method_4_11) rfl zk) ?_
  show own_G p e below s _ _ _ (T3.setTop (mkF m 12 #[.val (.long t), .second, .val (.long u), .second] [(.long t), (.int (own_maxi (own_lo t) (own_lo u)))]))
  obtain ⟨_, T4, L4, X4, hQ4, st4⟩ := own_callS X3 hx hZ (y := (⟨"com/example/outfall/outfall/rules/PeriodOverlapsPinLaw", "hi", "(J)I"⟩ : MethodName)) (argsL := [(.long t)]) (rest := [(.int (own_maxi (own_lo t) (own_lo u)))]) 1 hown (hw _ (List.mem_of_getElem? (i := 67) rfl)) (hw _ (List.mem_of_getElem? (i := 68) rfl)) (hw _ (List.mem_of_getElem? (i := 57) rfl)) (hw _ (List.mem_of_getElem? (i := 69) rfl)) (by decide) (own_chi l Z a0 hw [] t h0 n0 Z0 ) (by decide) (by decide) e3 (g := (mkF m 12 #[.val (.long t), .second, .val (.long u), .second] [(.long t), (.int (own_maxi (own_lo t) (own_lo u)))])) rfl (by rw [hml]; rfl) own_pd1 rfl rfl (by show 2 * 0 + _ ≤ _; exact Nat.le_of_eq rfl) (hb hby dd_method_4_12) (by decide) (by decide)
  obtain ⟨rfl, N4q, e4⟩ := hQ4
  have N4 := Fr.app N3 N4q
  refine own_st st4 ?_
  show own_G p e below s _ _ _ (T4.setTop (mkF m 15 #[.val (.long t), .second, .val (.long u), .second] [(.int (own_hi t)), (.int (own_maxi (own_lo t) (own_lo u)))]))
  refine own_st (fun zt zk => XS.lloadN X4.here hx rfl (hb hby dd_method_4_15) rfl zk) ?_
  show own_G p e below s _ _ _ (T4.setTop (mkF m 16 #[.val (.long t), .second, .val (.long u), .second] [(.long u), (.int (own_hi t)), (.int (own_maxi (own_lo t) (own_lo u)))]))
  obtain ⟨_, T5, L5, X5, hQ5, st5⟩ := own_callS X4 hx hZ (y := (⟨"com/example/outfall/outfall/rules/PeriodOverlapsPinLaw", "hi", "(J)I"⟩ : MethodName)) (argsL := [(.long u)]) (rest := [(.int (own_hi t)), (.int (own_maxi (own_lo t) (own_lo u)))]) 2 hown (hw _ (List.mem_of_getElem? (i := 67) rfl)) (hw _ (List.mem_of_getElem? (i := 68) rfl)) (hw _ (List.mem_of_getElem? (i := 57) rfl)) (hw _ (List.mem_of_getElem? (i := 69) rfl)) (by decide) (own_chi l Z a0 hw [] u h0 n0 Z0 ) (by decide) (by decide) e4 (g := (mkF m 16 #[.val (.long t), .second, .val (.long u), .second] [(.long u), (.int (own_hi t)), (.int (own_maxi (own_lo t) (own_lo u)))])) rfl (by rw [hml]; rfl) own_pd1 rfl rfl (by show 2 * 0 + _ ≤ _; exact Nat.le_of_eq rfl) (hb hby dd_method_4_16) (by decide) (by decide)
  obtain ⟨rfl, N5q, e5⟩ := hQ5
  have N5 := Fr.app N4 N5q
  refine own_st st5 ?_
  show own_G p e below s _ _ _ (T5.setTop (mkF m 19 #[.val (.long t), .second, .val (.long u), .second] [(.int (own_hi u)), (.int (own_hi t)), (.int (own_maxi (own_lo t) (own_lo u)))]))
  obtain ⟨_, T6, L6, X6, hQ6, st6⟩ := own_callS X5 hx hZ (y := (⟨"java/lang/Math", "min", "(II)I"⟩ : MethodName)) (argsL := [(.int (own_hi t)), (.int (own_hi u))]) (rest := [(.int (own_maxi (own_lo t) (own_lo u)))]) 1 hown (hw _ (List.mem_of_getElem? (i := 64) rfl)) (hw _ (List.mem_of_getElem? (i := 65) rfl)) (hw _ (List.mem_of_getElem? (i := 62) rfl)) (hw _ (List.mem_of_getElem? (i := 66) rfl)) (by decide) (own_cmin l Z a0 hw [] (own_hi t) (own_hi u) h0 n0 Z0 ) (by decide) (by decide) e5 (g := (mkF m 19 #[.val (.long t), .second, .val (.long u), .second] [(.int (own_hi u)), (.int (own_hi t)), (.int (own_maxi (own_lo t) (own_lo u)))])) rfl (by rw [hml]; rfl) own_pd0 rfl rfl (by show 2 * 0 + _ ≤ _; exact Nat.le_of_eq rfl) (hb hby dd_method_4_19) (by decide) (by decide)
  obtain ⟨rfl, N6q, e6⟩ := hQ6
  have N6 := Fr.app N5 N6q
  refine own_st st6 ?_
  show own_G p e below s _ _ _ (T6.setTop (mkF m 22 #[.val (.long t), .second, .val (.long u), .second] [(.int (own_mini (own_hi t) (own_hi u))), (.int (own_maxi (own_lo t) (own_lo u)))]))
  by_cases hc22_7 : (own_mini (own_hi t) (own_hi u)) < (own_maxi (own_lo t) (own_lo u))
  · refine own_st (fun zt zk => XS.icmpYes X6.here hx rfl (pc0 := 22) (pc' := 29) rfl (hb hby dd_method_4_22) rfl (tlt hc22_7).2.2.1 (by decide) (by decide) zk) ?_
    show own_G p e below s _ _ _ (T6.setTop (mkF m 29 #[.val (.long t), .second, .val (.long u), .second] []))
    refine own_st (fun zt zk => XS.iconst X6.here hx rfl (hb hby dd_method_4_29) zk) ?_
    show own_G p e below s _ _ _ (T6.setTop (mkF m 30 #[.val (.long t), .second, .val (.long u), .second] [(.int (0 : Int32))]))
    refine own_retZ X6 hx hlk hret (by decide) (hb hby dd_method_4_30) (by decide) (by decide) ?_
    show Q_own_cmeet Z t u h0 n0 (some (.int (0 : Int32))) T6.heap _
    rw [e6]
    exact ⟨(by simp [own_b, hc22_7]), N6, rfl⟩
  · refine own_st (fun zt zk => XS.icmpNo X6.here hx rfl (hb hby dd_method_4_22) rfl (flt hc22_7).2.2.1 zk) ?_
    show own_G p e below s _ _ _ (T6.setTop (mkF m 25 #[.val (.long t), .second, .val (.long u), .second] []))
    refine own_st (fun zt zk => XS.iconst X6.here hx rfl (hb hby dd_method_4_25) zk) ?_
    show own_G p e below s _ _ _ (T6.setTop (mkF m 26 #[.val (.long t), .second, .val (.long u), .second] [(.int (1 : Int32))]))
    refine own_st (fun zt zk => XS.goto X6.here hx rfl (pc0 := 26) (pc' := 30) rfl (hb hby dd_method_4_26) (by decide) (by decide) zk) ?_
    show own_G p e below s _ _ _ (T6.setTop (mkF m 30 #[.val (.long t), .second, .val (.long u), .second] [(.int (1 : Int32))]))
    refine own_retZ X6 hx hlk hret (by decide) (hb hby dd_method_4_30) (by decide) (by decide) ?_
    show Q_own_cmeet Z t u h0 n0 (some (.int (1 : Int32))) T6.heap _
    rw [e6]
    exact ⟨(by simp [own_b, hc22_7]), N6, rfl⟩
theorem own_pn7 : plainFor (⟨"com/example/outfall/outfall/rules/PumpingSchedule$Range", "<init>", "(II)V"⟩ : MethodName) = true := plainFor_of_name (by first | (simp [plainName, overriddenIn]; done) | decide +kernel)
theorem dd_prog_39m1_0 : decode prog_39_method_1_code 0 = .ok (.aload_n 0, 1) := by decide +kernel
theorem dd_prog_39m1_1 : decode prog_39_method_1_code 1 = .ok (.invokespecial 1, 3) := by decide +kernel
theorem own_pd2 : parseMethodDescriptor "()V" = some ⟨[], none⟩ := by decide +kernel
theorem dd_prog_39m1_4 : decode prog_39_method_1_code 4 = .ok (.iload_n 1, 1) := by decide +kernel
theorem dd_prog_39m1_5 : decode prog_39_method_1_code 5 = .ok (.iconst 1, 1) := by decide +kernel
theorem dd_prog_39m1_6 : decode prog_39_method_1_code 6 = .ok (.if_icmp .lt 8, 3) := by decide +kernel
theorem dd_prog_39m1_9 : decode prog_39_method_1_code 9 = .ok (.iload_n 2, 1) := by decide +kernel
theorem dd_prog_39m1_10 : decode prog_39_method_1_code 10 = .ok (.iload_n 1, 1) := by decide +kernel
theorem dd_prog_39m1_11 : decode prog_39_method_1_code 11 = .ok (.if_icmp .ge 18, 3) := by decide +kernel
theorem dd_prog_39m1_29 : decode prog_39_method_1_code 29 = .ok (.aload_n 0, 1) := by decide +kernel
theorem dd_prog_39m1_30 : decode prog_39_method_1_code 30 = .ok (.iload_n 1, 1) := by decide +kernel
theorem dd_prog_39m1_31 : decode prog_39_method_1_code 31 = .ok (.putfield 16, 3) := by decide +kernel
theorem dd_prog_39m1_34 : decode prog_39_method_1_code 34 = .ok (.aload_n 0, 1) := by decide +kernel
theorem dd_prog_39m1_35 : decode prog_39_method_1_code 35 = .ok (.iload_n 2, 1) := by decide +kernel
theorem dd_prog_39m1_36 : decode prog_39_method_1_code 36 = .ok (.putfield 22, 3) := by decide +kernel
theorem dd_prog_39m1_39 : decode prog_39_method_1_code 39 = .ok (.return_, 1) := by decide +kernel
theorem ef_own_rgi (m : MethodId) (z0 : Addr) (z1 : Int32) (z2 : Int32) : entryFrame m #[(.ref z0), (.int z1), (.int z2)] 3 = mkF m 0 #[.val (.ref z0), .val (.int z1), .val (.int z2)] [] := by first | (simp [entryFrame, mkF, argsToLocals, Value.category]; done) | rfl
def Q_own_rgi (Z : State) (a : Addr) (lo : Int32) (hi : Int32) (h0 : Heap) (n0 : Nat) (zv : Option Value) (zh : Heap) (zL : List Loc) : Prop := zv = none ∧ Fr n0 zL ∧ Keep h0 zh [a] ∧ Fld Z zh a "com/example/outfall/outfall/rules/PumpingSchedule$Range" "least" "I" (.int lo) ∧ Fld Z zh a "com/example/outfall/outfall/rules/PumpingSchedule$Range" "most" "I" (.int hi)
set_option maxRecDepth 65536 in
set_option maxHeartbeats 40000000 in
theorem own_rgi (l : Launch) (Z : State) (a0 : Array Value) (hw : ∀ d ∈ tables_1, d.before a0 Z = true) (ws : List Jvm.Cond) (a : Addr) (lo : Int32) (hi : Int32) (h0 : Heap) (n0 : Nat) (Z0 : n0 ≤ h0.size) (p0_ : Exa Z h0 a "com/example/outfall/outfall/rules/PumpingSchedule$Range") (p1_ : Fld Z h0 a "com/example/outfall/outfall/rules/PumpingSchedule$Range" "least" "I" (.int (0 : Int32))) (p2_ : Fld Z h0 a "com/example/outfall/outfall/rules/PumpingSchedule$Range" "most" "I" (.int (0 : Int32))) (p3_ : n0 ≤ a) (p4_ : ¬ (lo < (1 : Int32))) (p5_ : ¬ (hi < lo)) :
    MetFree l (⟨"com/example/outfall/outfall/rules/PumpingSchedule$Range", "<init>", "(II)V"⟩ : MethodName) (head1 (Jvm.Cond.code (⟨"com/example/outfall/outfall/rules/PumpingSchedule$Range", "<init>", "(II)V"⟩ : MethodName) prog_39_method_1_code 3 none :: ws) ({ frames := 2, cells := 0, slots := 0, locals := 24 } : Room)) (fun za zU => za = #[(.ref a), (.int lo), (.int hi)] ∧ Z.Warmed39 zU.vm ∧ zU.heap = h0) (fun _ _ _ _ _ => True) (fun _ zU zo zU' => ∃ zv zL, zo = .returned zv ∧ Q_own_rgi Z a lo hi h0 n0 zv zU'.heap zL ∧ FrameEnd zU zo zU' zL ({ frames := 2, cells := 0, slots := 0, locals := 24 } : Room).cells ({ frames := 2, cells := 0, slots := 0, locals := 24 } : Room).slots) := by
  refine own_met (y := (⟨"com/example/outfall/outfall/rules/PumpingSchedule$Range", "<init>", "(II)V"⟩ : MethodName)) own_pn7 ?_
  intro p e s m below meth c T0 hx hby hml hown hnm hret hlk hZ e0 X0
  have N0 := Fr.nil n0
  refine own_st (fun zt zk => castTop (ef_own_rgi m a lo hi) zk) ?_
  show own_G p e below s _ _ _ (T0.setTop (mkF m 0 #[.val (.ref a), .val (.int lo), .val (.int hi)] []))
  refine own_st (fun zt zk => XS.aloadN X0.here hx rfl (hb hby dd_prog_39m1_0) rfl rfl zk) ?_
  show own_G p e below s _ _ _ (T0.setTop (mkF m 1 #[.val (.ref a), .val (.int lo), .val (.int hi)] [(.ref a)]))
  obtain ⟨_, T1, L1, X1, hQ1, st1⟩ := own_callI X0 hx hZ (y := (⟨"java/lang/Record", "<init>", "()V"⟩ : MethodName)) (a := a) (argsL := []) (rest := []) 0 rfl hown (hw _ (List.mem_of_getElem? (i := 73) rfl)) (hw _ (List.mem_of_getElem? (i := 10) rfl)) (hw _ (List.mem_of_getElem? (i := 12) rfl)) (hw _ (List.mem_of_getElem? (i := 13) rfl)) (by decide) (own_rec l Z a0 hw [] a h0 n0 Z0 ) (by decide) (by decide) e0 (g := (mkF m 1 #[.val (.ref a), .val (.int lo), .val (.int hi)] [(.ref a)])) rfl (by rw [hml]; rfl) own_pd2 rfl rfl (by show 2 * 0 + _ ≤ _; exact Nat.le_of_eq rfl) (hb hby dd_prog_39m1_1) (by decide) (by decide)
  obtain ⟨rfl, N1q, e1⟩ := hQ1
  have N1 := Fr.app N0 N1q
  refine own_st st1 ?_
  show own_G p e below s _ _ _ (T1.setTop (mkF m 4 #[.val (.ref a), .val (.int lo), .val (.int hi)] []))
  refine own_st (fun zt zk => XS.iloadN X1.here hx rfl (hb hby dd_prog_39m1_4) rfl zk) ?_
  show own_G p e below s _ _ _ (T1.setTop (mkF m 5 #[.val (.ref a), .val (.int lo), .val (.int hi)] [(.int lo)]))
  refine own_st (fun zt zk => XS.iconst X1.here hx rfl (hb hby dd_prog_39m1_5) zk) ?_
  show own_G p e below s _ _ _ (T1.setTop (mkF m 6 #[.val (.ref a), .val (.int lo), .val (.int hi)] [(.int (1 : Int32)), (.int lo)]))
  refine own_st (fun zt zk => XS.icmpNo X1.here hx rfl (hb hby dd_prog_39m1_6) rfl (flt p4_).1 zk) ?_
  show own_G p e below s _ _ _ (T1.setTop (mkF m 9 #[.val (.ref a), .val (.int lo), .val (.int hi)] []))
  refine own_st (fun zt zk => XS.iloadN X1.here hx rfl (hb hby dd_prog_39m1_9) rfl zk) ?_
  show own_G p e below s _ _ _ (T1.setTop (mkF m 10 #[.val (.ref a), .val (.int lo), .val (.int hi)] [(.int hi)]))
  refine own_st (fun zt zk => XS.iloadN X1.here hx rfl (hb hby dd_prog_39m1_10) rfl zk) ?_
  show own_G p e below s _ _ _ (T1.setTop (mkF m 11 #[.val (.ref a), .val (.int lo), .val (.int hi)] [(.int lo), (.int hi)]))
  refine own_st (fun zt zk => XS.icmpYes X1.here hx rfl (pc0 := 11) (pc' := 29) rfl (hb hby dd_prog_39m1_11) rfl (flt p5_).2.1 (by decide) (by decide) zk) ?_
  show own_G p e below s _ _ _ (T1.setTop (mkF m 29 #[.val (.ref a), .val (.int lo), .val (.int hi)] []))
  refine own_st (fun zt zk => XS.aloadN X1.here hx rfl (hb hby dd_prog_39m1_29) rfl rfl zk) ?_
  show own_G p e below s _ _ _ (T1.setTop (mkF m 30 #[.val (.ref a), .val (.int lo), .val (.int hi)] [(.ref a)]))
  refine own_st (fun zt zk => XS.iloadN X1.here hx rfl (hb hby dd_prog_39m1_30) rfl zk) ?_
  show own_G p e below s _ _ _ (T1.setTop (mkF m 31 #[.val (.ref a), .val (.int lo), .val (.int hi)] [(.int lo), (.ref a)]))
  obtain ⟨T2, h2, X2, e2, W2, st2⟩ := putF X1 hx hZ hown (host := "") (Or.inl (hw _ (List.mem_of_getElem? (i := 74) rfl))) Via.refl e1 p1_ p0_ (Or.inr ⟨(hw _ (List.mem_of_getElem? (i := 75) rfl)), rfl, hnm⟩) (hw _ (List.mem_of_getElem? (i := 53) rfl)) (ty := .int) (by decide) rfl rfl (g := (mkF m 31 #[.val (.ref a), .val (.int lo), .val (.int hi)] [(.int lo), (.ref a)])) rfl rfl (hb hby dd_prog_39m1_31)
  refine own_st st2 ?_
  have N2 := Fr.snoc X2 N1 p3_
  show own_G p e below s _ _ _ (T2.setTop (mkF m 34 #[.val (.ref a), .val (.int lo), .val (.int hi)] []))
  refine own_st (fun zt zk => XS.aloadN X2.here hx rfl (hb hby dd_prog_39m1_34) rfl rfl zk) ?_
  show own_G p e below s _ _ _ (T2.setTop (mkF m 35 #[.val (.ref a), .val (.int lo), .val (.int hi)] [(.ref a)]))
  refine own_st (fun zt zk => XS.iloadN X2.here hx rfl (hb hby dd_prog_39m1_35) rfl zk) ?_
  show own_G p e below s _ _ _ (T2.setTop (mkF m 36 #[.val (.ref a), .val (.int lo), .val (.int hi)] [(.int hi), (.ref a)]))
  have F3 : Fld Z h2 a "com/example/outfall/outfall/rules/PumpingSchedule$Range" "most" "I" (.int (0 : Int32)) := (Fld.other W2 p2_ (Or.inr (slot_ne (Or.inr (hw _ (List.mem_of_getElem? (i := 77) rfl))) (Or.inr (hw _ (List.mem_of_getElem? (i := 75) rfl))) (by decide) (t := .int) (t' := .int) (by decide) (by decide))))
  have E4 : Exa Z h2 a "com/example/outfall/outfall/rules/PumpingSchedule$Range" := (p0_.wr W2)
  obtain ⟨T5, h5, X5, e5, W5, st5⟩ := putF X2 hx hZ hown (host := "") (Or.inl (hw _ (List.mem_of_getElem? (i := 76) rfl))) Via.refl e2 F3 E4 (Or.inr ⟨(hw _ (List.mem_of_getElem? (i := 77) rfl)), rfl, hnm⟩) (hw _ (List.mem_of_getElem? (i := 53) rfl)) (ty := .int) (by decide) rfl rfl (g := (mkF m 36 #[.val (.ref a), .val (.int lo), .val (.int hi)] [(.int hi), (.ref a)])) rfl rfl (hb hby dd_prog_39m1_36)
  refine own_st st5 ?_
  have N5 := Fr.snoc X5 N2 p3_
  show own_G p e below s _ _ _ (T5.setTop (mkF m 39 #[.val (.ref a), .val (.int lo), .val (.int hi)] []))
  have F6 : Fld Z h5 a "com/example/outfall/outfall/rules/PumpingSchedule$Range" "least" "I" (.int lo) := (Fld.other W5 (Fld.same W2 p1_) (Or.inr (slot_ne (Or.inr (hw _ (List.mem_of_getElem? (i := 75) rfl))) (Or.inr (hw _ (List.mem_of_getElem? (i := 77) rfl))) (by decide) (t := .int) (t' := .int) (by decide) (by decide))))
  have F7 : Fld Z h5 a "com/example/outfall/outfall/rules/PumpingSchedule$Range" "most" "I" (.int hi) := (Fld.same W5 F3)
  refine own_retV X5 hx hlk hret (hb hby dd_prog_39m1_39) (by decide) (by decide) ?_
  show Q_own_rgi Z a lo hi h0 n0 none T5.heap _
  rw [e5]
  exact ⟨rfl, N5, (((Keep.refl _ _).wr W2 (Or.inl (List.mem_of_getElem? (i := 0) rfl))).wr W5 (Or.inl (List.mem_of_getElem? (i := 0) rfl))), F6, F7⟩
theorem own_pn8 : plainFor (⟨"com/example/outfall/outfall/rules/PumpingSchedule$Range", "overlaps", "(Lcom/example/outfall/outfall/rules/PumpingSchedule$Range;)Z"⟩ : MethodName) = true := plainFor_of_name (by first | (simp [plainName, overriddenIn]; done) | decide +kernel)
theorem dd_prog_39m3_0 : decode prog_39_method_3_code 0 = .ok (.aload_n 0, 1) := by decide +kernel
theorem dd_prog_39m3_1 : decode prog_39_method_3_code 1 = .ok (.getfield 16, 3) := by decide +kernel
theorem dd_prog_39m3_4 : decode prog_39_method_3_code 4 = .ok (.aload_n 1, 1) := by decide +kernel
theorem dd_prog_39m3_5 : decode prog_39_method_3_code 5 = .ok (.getfield 22, 3) := by decide +kernel
theorem dd_prog_39m3_8 : decode prog_39_method_3_code 8 = .ok (.if_icmp .gt 18, 3) := by decide +kernel
theorem dd_prog_39m3_26 : decode prog_39_method_3_code 26 = .ok (.iconst 0, 1) := by decide +kernel
theorem dd_prog_39m3_27 : decode prog_39_method_3_code 27 = .ok (.ireturn, 1) := by decide +kernel
theorem dd_prog_39m3_11 : decode prog_39_method_3_code 11 = .ok (.aload_n 1, 1) := by decide +kernel
theorem dd_prog_39m3_12 : decode prog_39_method_3_code 12 = .ok (.getfield 16, 3) := by decide +kernel
theorem dd_prog_39m3_15 : decode prog_39_method_3_code 15 = .ok (.aload_n 0, 1) := by decide +kernel
theorem dd_prog_39m3_16 : decode prog_39_method_3_code 16 = .ok (.getfield 22, 3) := by decide +kernel
theorem dd_prog_39m3_19 : decode prog_39_method_3_code 19 = .ok (.if_icmp .gt 7, 3) := by decide +kernel
theorem dd_prog_39m3_22 : decode prog_39_method_3_code 22 = .ok (.iconst 1, 1) := by decide +kernel
theorem dd_prog_39m3_23 : decode prog_39_method_3_code 23 = .ok (.goto 4, 3) := by decide +kernel
theorem ef_own_rov (m : MethodId) (z0 : Addr) (z1 : Addr) : entryFrame m #[(.ref z0), (.ref z1)] 2 = mkF m 0 #[.val (.ref z0), .val (.ref z1)] [] := by first | (simp [entryFrame, mkF, argsToLocals, Value.category]; done) | rfl
def Q_own_rov (Z : State) (a : Addr) (b : Addr) (l1 : Int32) (m1 : Int32) (l2 : Int32) (m2 : Int32) (h0 : Heap) (n0 : Nat) (zv : Option Value) (zh : Heap) (zL : List Loc) : Prop := zv = some (.int (own_b (¬ (m2 < l1) ∧ ¬ (m1 < l2)))) ∧ Fr n0 zL ∧ zh = h0
set_option maxRecDepth 65536 in
set_option maxHeartbeats 40000000 in
theorem own_rov (l : Launch) (Z : State) (a0 : Array Value) (hw : ∀ d ∈ tables_1, d.before a0 Z = true) (ws : List Jvm.Cond) (a : Addr) (b : Addr) (l1 : Int32) (m1 : Int32) (l2 : Int32) (m2 : Int32) (h0 : Heap) (n0 : Nat) (Z0 : n0 ≤ h0.size) (p0_ : Fld Z h0 a "com/example/outfall/outfall/rules/PumpingSchedule$Range" "least" "I" (.int l1)) (p1_ : Fld Z h0 a "com/example/outfall/outfall/rules/PumpingSchedule$Range" "most" "I" (.int m1)) (p2_ : Fld Z h0 b "com/example/outfall/outfall/rules/PumpingSchedule$Range" "least" "I" (.int l2)) (p3_ : Fld Z h0 b "com/example/outfall/outfall/rules/PumpingSchedule$Range" "most" "I" (.int m2)) :
    MetFree l (⟨"com/example/outfall/outfall/rules/PumpingSchedule$Range", "overlaps", "(Lcom/example/outfall/outfall/rules/PumpingSchedule$Range;)Z"⟩ : MethodName) (head1 (Jvm.Cond.code (⟨"com/example/outfall/outfall/rules/PumpingSchedule$Range", "overlaps", "(Lcom/example/outfall/outfall/rules/PumpingSchedule$Range;)Z"⟩ : MethodName) prog_39_method_3_code 2 (some .boolean) :: ws) ({ frames := 0, cells := 0, slots := 0, locals := 0 } : Room)) (fun za zU => za = #[(.ref a), (.ref b)] ∧ Z.Warmed39 zU.vm ∧ zU.heap = h0) (fun _ _ _ _ _ => True) (fun _ zU zo zU' => ∃ zv zL, zo = .returned zv ∧ Q_own_rov Z a b l1 m1 l2 m2 h0 n0 zv zU'.heap zL ∧ FrameEnd zU zo zU' zL ({ frames := 0, cells := 0, slots := 0, locals := 0 } : Room).cells ({ frames := 0, cells := 0, slots := 0, locals := 0 } : Room).slots) := by
  refine own_met (y := (⟨"com/example/outfall/outfall/rules/PumpingSchedule$Range", "overlaps", "(Lcom/example/outfall/outfall/rules/PumpingSchedule$Range;)Z"⟩ : MethodName)) own_pn8 ?_
  intro p e s m below meth c T0 hx hby hml hown hnm hret hlk hZ e0 X0
  have N0 := Fr.nil n0
  refine own_st (fun zt zk => castTop (ef_own_rov m a b) zk) ?_
  show own_G p e below s _ _ _ (T0.setTop (mkF m 0 #[.val (.ref a), .val (.ref b)] []))
  refine own_st (fun zt zk => XS.aloadN X0.here hx rfl (hb hby dd_prog_39m3_0) rfl rfl zk) ?_
  show own_G p e below s _ _ _ (T0.setTop (mkF m 1 #[.val (.ref a), .val (.ref b)] [(.ref a)]))
  obtain ⟨T1, X1, e1, st1⟩ := getF X0 hx hZ hown (host := "") (Or.inl (hw _ (List.mem_of_getElem? (i := 74) rfl))) Via.refl e0 p0_ (g := (mkF m 1 #[.val (.ref a), .val (.ref b)] [(.ref a)])) rfl rfl (hb hby dd_prog_39m3_1)
  refine own_st st1 ?_
  show own_G p e below s _ _ _ (T1.setTop (mkF m 4 #[.val (.ref a), .val (.ref b)] [(.int l1)]))
  refine own_st (fun zt zk => XS.aloadN X1.here hx rfl (hb hby dd_prog_39m3_4) rfl rfl zk) ?_
  show own_G p e below s _ _ _ (T1.setTop (mkF m 5 #[.val (.ref a), .val (.ref b)] [(.ref b), (.int l1)]))
  obtain ⟨T2, X2, e2, st2⟩ := getF X1 hx hZ hown (host := "") (Or.inl (hw _ (List.mem_of_getElem? (i := 76) rfl))) Via.refl e1 p3_ (g := (mkF m 5 #[.val (.ref a), .val (.ref b)] [(.ref b), (.int l1)])) rfl rfl (hb hby dd_prog_39m3_5)
  refine own_st st2 ?_
  show own_G p e below s _ _ _ (T2.setTop (mkF m 8 #[.val (.ref a), .val (.ref b)] [(.int m2), (.int l1)]))
  by_cases hc8_3 : m2 < l1
  · refine own_st (fun zt zk => XS.icmpYes X2.here hx rfl (pc0 := 8) (pc' := 26) rfl (hb hby dd_prog_39m3_8) rfl (tlt hc8_3).2.2.1 (by decide) (by decide) zk) ?_
    show own_G p e below s _ _ _ (T2.setTop (mkF m 26 #[.val (.ref a), .val (.ref b)] []))
    refine own_st (fun zt zk => XS.iconst X2.here hx rfl (hb hby dd_prog_39m3_26) zk) ?_
    show own_G p e below s _ _ _ (T2.setTop (mkF m 27 #[.val (.ref a), .val (.ref b)] [(.int (0 : Int32))]))
    refine own_retZ X2 hx hlk hret (by decide) (hb hby dd_prog_39m3_27) (by decide) (by decide) ?_
    show Q_own_rov Z a b l1 m1 l2 m2 h0 n0 (some (.int (0 : Int32))) T2.heap _
    rw [e2]
    exact ⟨(by simp [own_b, hc8_3]), N0, rfl⟩
  · refine own_st (fun zt zk => XS.icmpNo X2.here hx rfl (hb hby dd_prog_39m3_8) rfl (flt hc8_3).2.2.1 zk) ?_
    show own_G p e below s _ _ _ (T2.setTop (mkF m 11 #[.val (.ref a), .val (.ref b)] []))
    refine own_st (fun zt zk => XS.aloadN X2.here hx rfl (hb hby dd_prog_39m3_11) rfl rfl zk) ?_
    show own_G p e below s _ _ _ (T2.setTop (mkF m 12 #[.val (.ref a), .val (.ref b)] [(.ref b)]))
    obtain ⟨T4, X4, e4, st4⟩ := getF X2 hx hZ hown (host := "") (Or.inl (hw _ (List.mem_of_getElem? (i := 74) rfl))) Via.refl e2 p2_ (g := (mkF m 12 #[.val (.ref a), .val (.ref b)] [(.ref b)])) rfl rfl (hb hby dd_prog_39m3_12)
    refine own_st st4 ?_
    show own_G p e below s _ _ _ (T4.setTop (mkF m 15 #[.val (.ref a), .val (.ref b)] [(.int l2)]))
    refine own_st (fun zt zk => XS.aloadN X4.here hx rfl (hb hby dd_prog_39m3_15) rfl rfl zk) ?_
    show own_G p e below s _ _ _ (T4.setTop (mkF m 16 #[.val (.ref a), .val (.ref b)] [(.ref a), (.int l2)]))
    obtain ⟨T5, X5, e5, st5⟩ := getF X4 hx hZ hown (host := "") (Or.inl (hw _ (List.mem_of_getElem? (i := 76) rfl))) Via.refl e4 p1_ (g := (mkF m 16 #[.val (.ref a), .val (.ref b)] [(.ref a), (.int l2)])) rfl rfl (hb hby dd_prog_39m3_16)
    refine own_st st5 ?_
    show own_G p e below s _ _ _ (T5.setTop (mkF m 19 #[.val (.ref a), .val (.ref b)] [(.int m1), (.int l2)]))
    by_cases hc19_6 : m1 < l2
    · refine own_st (fun zt zk => XS.icmpYes X5.here hx rfl (pc0 := 19) (pc' := 26) rfl (hb hby dd_prog_39m3_19) rfl (tlt hc19_6).2.2.1 (by decide) (by decide) zk) ?_
      show own_G p e below s _ _ _ (T5.setTop (mkF m 26 #[.val (.ref a), .val (.ref b)] []))
      refine own_st (fun zt zk => XS.iconst X5.here hx rfl (hb hby dd_prog_39m3_26) zk) ?_
      show own_G p e below s _ _ _ (T5.setTop (mkF m 27 #[.val (.ref a), .val (.ref b)] [(.int (0 : Int32))]))
      refine own_retZ X5 hx hlk hret (by decide) (hb hby dd_prog_39m3_27) (by decide) (by decide) ?_
      show Q_own_rov Z a b l1 m1 l2 m2 h0 n0 (some (.int (0 : Int32))) T5.heap _
      rw [e5]
      exact ⟨(by simp [own_b, hc8_3, hc19_6]), N0, rfl⟩
    · refine own_st (fun zt zk => XS.icmpNo X5.here hx rfl (hb hby dd_prog_39m3_19) rfl (flt hc19_6).2.2.1 zk) ?_
      show own_G p e below s _ _ _ (T5.setTop (mkF m 22 #[.val (.ref a), .val (.ref b)] []))
      refine own_st (fun zt zk => XS.iconst X5.here hx rfl (hb hby dd_prog_39m3_22) zk) ?_
      show own_G p e below s _ _ _ (T5.setTop (mkF m 23 #[.val (.ref a), .val (.ref b)] [(.int (1 : Int32))]))
      refine own_st (fun zt zk => XS.goto X5.here hx rfl (pc0 := 23) (pc' := 27) rfl (hb hby dd_prog_39m3_23) (by decide) (by decide) zk) ?_
      show own_G p e below s _ _ _ (T5.setTop (mkF m 27 #[.val (.ref a), .val (.ref b)] [(.int (1 : Int32))]))
      refine own_retZ X5 hx hlk hret (by decide) (hb hby dd_prog_39m3_27) (by decide) (by decide) ?_
      show Q_own_rov Z a b l1 m1 l2 m2 h0 n0 (some (.int (1 : Int32))) T5.heap _
      rw [e5]
      exact ⟨(by simp [own_b, hc8_3, hc19_6]), N0, rfl⟩
theorem own_pn9 : plainFor (⟨"com/example/outfall/outfall/rules/Span", "<init>", "(ILcom/example/outfall/outfall/rules/Span$Unit;)V"⟩ : MethodName) = true := plainFor_of_name (by first | (simp [plainName, overriddenIn]; done) | decide +kernel)
theorem dd_prog_46m1_0 : decode prog_46_method_1_code 0 = .ok (.aload_n 0, 1) := by decide +kernel
theorem dd_prog_46m1_1 : decode prog_46_method_1_code 1 = .ok (.invokespecial 1, 3) := by decide +kernel
theorem dd_prog_46m1_4 : decode prog_46_method_1_code 4 = .ok (.aload_n 2, 1) := by decide +kernel
theorem dd_prog_46m1_5 : decode prog_46_method_1_code 5 = .ok (.ldc 7, 2) := by decide +kernel
theorem dd_prog_46m1_7 : decode prog_46_method_1_code 7 = .ok (.invokestatic 9, 3) := by decide +kernel
theorem own_pd3 : parseMethodDescriptor "(Ljava/lang/Object;Ljava/lang/String;)Ljava/lang/Object;" = some ⟨[(.object "java/lang/Object"), (.object "java/lang/String")], some (.object "java/lang/Object")⟩ := by decide +kernel
theorem dd_prog_46m1_10 : decode prog_46_method_1_code 10 = .ok (.pop, 1) := by decide +kernel
theorem dd_prog_46m1_11 : decode prog_46_method_1_code 11 = .ok (.iload_n 1, 1) := by decide +kernel
theorem dd_prog_46m1_12 : decode prog_46_method_1_code 12 = .ok (.iconst 1, 1) := by decide +kernel
theorem dd_prog_46m1_13 : decode prog_46_method_1_code 13 = .ok (.if_icmp .ge 17, 3) := by decide +kernel
theorem dd_prog_46m1_30 : decode prog_46_method_1_code 30 = .ok (.aload_n 0, 1) := by decide +kernel
theorem dd_prog_46m1_31 : decode prog_46_method_1_code 31 = .ok (.iload_n 1, 1) := by decide +kernel
theorem dd_prog_46m1_32 : decode prog_46_method_1_code 32 = .ok (.putfield 24, 3) := by decide +kernel
theorem dd_prog_46m1_35 : decode prog_46_method_1_code 35 = .ok (.aload_n 0, 1) := by decide +kernel
theorem dd_prog_46m1_36 : decode prog_46_method_1_code 36 = .ok (.aload_n 2, 1) := by decide +kernel
theorem dd_prog_46m1_37 : decode prog_46_method_1_code 37 = .ok (.putfield 30, 3) := by decide +kernel
theorem dd_prog_46m1_40 : decode prog_46_method_1_code 40 = .ok (.return_, 1) := by decide +kernel
theorem ef_own_spi (m : MethodId) (z0 : Addr) (z1 : Int32) (z2 : Addr) : entryFrame m #[(.ref z0), (.int z1), (.ref z2)] 3 = mkF m 0 #[.val (.ref z0), .val (.int z1), .val (.ref z2)] [] := by first | (simp [entryFrame, mkF, argsToLocals, Value.category]; done) | rfl
def Q_own_spi (Z : State) (a : Addr) (am : Int32) (un : Addr) (h0 : Heap) (n0 : Nat) (zv : Option Value) (zh : Heap) (zL : List Loc) : Prop := zv = none ∧ Fr n0 zL ∧ Keep h0 zh [a] ∧ Fld Z zh a "com/example/outfall/outfall/rules/Span" "amount" "I" (.int am)
set_option maxRecDepth 65536 in
set_option maxHeartbeats 40000000 in
theorem own_spi (l : Launch) (Z : State) (a0 : Array Value) (hw : ∀ d ∈ tables_1, d.before a0 Z = true) (ws : List Jvm.Cond) (a : Addr) (am : Int32) (un : Addr) (h0 : Heap) (n0 : Nat) (Z0 : n0 ≤ h0.size) (p0_ : Exa Z h0 a "com/example/outfall/outfall/rules/Span") (p1_ : Fld Z h0 a "com/example/outfall/outfall/rules/Span" "amount" "I" (.int (0 : Int32))) (p2_ : Fld Z h0 a "com/example/outfall/outfall/rules/Span" "unit" "Lcom/example/outfall/outfall/rules/Span$Unit;" .null) (p3_ : n0 ≤ a) (p4_ : ¬ (am < (1 : Int32))) :
    MetFree l (⟨"com/example/outfall/outfall/rules/Span", "<init>", "(ILcom/example/outfall/outfall/rules/Span$Unit;)V"⟩ : MethodName) (head1 (Jvm.Cond.code (⟨"com/example/outfall/outfall/rules/Span", "<init>", "(ILcom/example/outfall/outfall/rules/Span$Unit;)V"⟩ : MethodName) prog_46_method_1_code 3 none :: ws) ({ frames := 2, cells := 2, slots := 20, locals := 24 } : Room)) (fun za zU => za = #[(.ref a), (.int am), (.ref un)] ∧ Z.Warmed39 zU.vm ∧ zU.heap = h0) (fun _ _ _ _ _ => True) (fun _ zU zo zU' => ∃ zv zL, zo = .returned zv ∧ Q_own_spi Z a am un h0 n0 zv zU'.heap zL ∧ ReturnedEndW zU zo zU' zL ({ frames := 2, cells := 2, slots := 20, locals := 24 } : Room).cells ({ frames := 2, cells := 2, slots := 20, locals := 24 } : Room).slots) := by
  refine own_metW (y := (⟨"com/example/outfall/outfall/rules/Span", "<init>", "(ILcom/example/outfall/outfall/rules/Span$Unit;)V"⟩ : MethodName)) own_pn9 ?_
  intro p e s m below meth c T0 hx hby hml hown hnm hret hlk hZ e0 X0 hS
  have N0 := Fr.nil n0
  refine own_stW (fun zt zk => castTop (ef_own_spi m a am un) zk) ?_
  show own_GW p e below s _ _ _ (T0.setTop (mkF m 0 #[.val (.ref a), .val (.int am), .val (.ref un)] []))
  refine own_stW (fun zt zk => XS.aloadN X0.here hx rfl (hb hby dd_prog_46m1_0) rfl rfl zk) ?_
  show own_GW p e below s _ _ _ (T0.setTop (mkF m 1 #[.val (.ref a), .val (.int am), .val (.ref un)] [(.ref a)]))
  obtain ⟨_, T1, L1, X1, hQ1, st1⟩ := own_callI X0 hx hZ (y := (⟨"java/lang/Record", "<init>", "()V"⟩ : MethodName)) (a := a) (argsL := []) (rest := []) 0 rfl hown (hw _ (List.mem_of_getElem? (i := 9) rfl)) (hw _ (List.mem_of_getElem? (i := 10) rfl)) (hw _ (List.mem_of_getElem? (i := 12) rfl)) (hw _ (List.mem_of_getElem? (i := 13) rfl)) (by decide) (own_rec l Z a0 hw [] a h0 n0 Z0 ) (by decide) (by decide) e0 (g := (mkF m 1 #[.val (.ref a), .val (.int am), .val (.ref un)] [(.ref a)])) rfl (by rw [hml]; rfl) own_pd2 rfl rfl (by show 2 * 0 + _ ≤ _; exact Nat.le_of_eq rfl) (hb hby dd_prog_46m1_1) (by decide) (by decide)
  obtain ⟨rfl, N1q, e1⟩ := hQ1
  have N1 := Fr.app N0 N1q
  refine own_stW st1 ?_
  show own_GW p e below s _ _ _ (T1.setTop (mkF m 4 #[.val (.ref a), .val (.int am), .val (.ref un)] []))
  refine own_stW (fun zt zk => XS.aloadN X1.here hx rfl (hb hby dd_prog_46m1_4) rfl rfl zk) ?_
  show own_GW p e below s _ _ _ (T1.setTop (mkF m 5 #[.val (.ref a), .val (.int am), .val (.ref un)] [(.ref un)]))
  obtain ⟨a2, T2, h2, k2, X2, e2, E2, hS, hk2, hZ, hown, st2⟩ := ldcS X1 hx hZ hown (hw _ (List.mem_of_getElem? (i := 17) rfl)) (fun d hd => hw d (own_sub d hd)) e1 hS (Nat.zero_le _) (g := (mkF m 5 #[.val (.ref a), .val (.int am), .val (.ref un)] [(.ref un)])) rfl (hb hby dd_prog_46m1_5) (n := 16) (by decide +kernel) (by decide) (by decide) (by decide)
  refine own_stW st2 ?_
  show own_GW p e below s _ _ _ (T2.setTop (mkF m 7 #[.val (.ref a), .val (.int am), .val (.ref un)] [(.ref a2), (.ref un)]))
  obtain ⟨_, T3, L3, X3, hQ3, st3⟩ := own_callS X2 hx hZ (y := (⟨"java/util/Objects", "requireNonNull", "(Ljava/lang/Object;Ljava/lang/String;)Ljava/lang/Object;"⟩ : MethodName)) (argsL := [(.ref un), (.ref a2)]) (rest := []) 0 hown (hw _ (List.mem_of_getElem? (i := 25) rfl)) (hw _ (List.mem_of_getElem? (i := 26) rfl)) (hw _ (List.mem_of_getElem? (i := 27) rfl)) (hw _ (List.mem_of_getElem? (i := 28) rfl)) (by decide) (own_rnn l Z a0 hw [] un a2 h2 n0 (Nat.le_trans Z0 E2.1) ) (by decide) (by decide) e2 (g := (mkF m 7 #[.val (.ref a), .val (.int am), .val (.ref un)] [(.ref a2), (.ref un)])) rfl (by rw [hml]; rfl) own_pd3 rfl rfl (by show 2 * 0 + _ ≤ _; exact Nat.le_of_eq rfl) (hb hby dd_prog_46m1_7) (by decide) (by decide)
  obtain ⟨rfl, N3q, e3⟩ := hQ3
  have N3 := Fr.app N1 N3q
  refine own_stW st3 ?_
  show own_GW p e below s _ _ _ (T3.setTop (mkF m 10 #[.val (.ref a), .val (.int am), .val (.ref un)] [(.ref un)]))
  refine own_stW (fun zt zk => XS.pop X3.here hx rfl (hb hby dd_prog_46m1_10) rfl rfl zk) ?_
  show own_GW p e below s _ _ _ (T3.setTop (mkF m 11 #[.val (.ref a), .val (.int am), .val (.ref un)] []))
  refine own_stW (fun zt zk => XS.iloadN X3.here hx rfl (hb hby dd_prog_46m1_11) rfl zk) ?_
  show own_GW p e below s _ _ _ (T3.setTop (mkF m 12 #[.val (.ref a), .val (.int am), .val (.ref un)] [(.int am)]))
  refine own_stW (fun zt zk => XS.iconst X3.here hx rfl (hb hby dd_prog_46m1_12) zk) ?_
  show own_GW p e below s _ _ _ (T3.setTop (mkF m 13 #[.val (.ref a), .val (.int am), .val (.ref un)] [(.int (1 : Int32)), (.int am)]))
  refine own_stW (fun zt zk => XS.icmpYes X3.here hx rfl (pc0 := 13) (pc' := 30) rfl (hb hby dd_prog_46m1_13) rfl (flt p4_).2.1 (by decide) (by decide) zk) ?_
  show own_GW p e below s _ _ _ (T3.setTop (mkF m 30 #[.val (.ref a), .val (.int am), .val (.ref un)] []))
  refine own_stW (fun zt zk => XS.aloadN X3.here hx rfl (hb hby dd_prog_46m1_30) rfl rfl zk) ?_
  show own_GW p e below s _ _ _ (T3.setTop (mkF m 31 #[.val (.ref a), .val (.int am), .val (.ref un)] [(.ref a)]))
  refine own_stW (fun zt zk => XS.iloadN X3.here hx rfl (hb hby dd_prog_46m1_31) rfl zk) ?_
  show own_GW p e below s _ _ _ (T3.setTop (mkF m 32 #[.val (.ref a), .val (.int am), .val (.ref un)] [(.int am), (.ref a)]))
  have F4 : Fld Z h2 a "com/example/outfall/outfall/rules/Span" "amount" "I" (.int (0 : Int32)) := (p1_.ext E2)
  have E5 : Exa Z h2 a "com/example/outfall/outfall/rules/Span" := (p0_.ext E2)
  obtain ⟨T6, h6, X6, e6, W6, st6⟩ := putF X3 hx hZ hown (host := "") (Or.inl (hw _ (List.mem_of_getElem? (i := 29) rfl))) Via.refl e3 F4 E5 (Or.inr ⟨(hw _ (List.mem_of_getElem? (i := 30) rfl)), rfl, hnm⟩) (hw _ (List.mem_of_getElem? (i := 1) rfl)) (ty := .int) (by decide) rfl rfl (g := (mkF m 32 #[.val (.ref a), .val (.int am), .val (.ref un)] [(.int am), (.ref a)])) rfl rfl (hb hby dd_prog_46m1_32)
  refine own_stW st6 ?_
  have N6 := Fr.snoc X6 N3 p3_
  show own_GW p e below s _ _ _ (T6.setTop (mkF m 35 #[.val (.ref a), .val (.int am), .val (.ref un)] []))
  refine own_stW (fun zt zk => XS.aloadN X6.here hx rfl (hb hby dd_prog_46m1_35) rfl rfl zk) ?_
  show own_GW p e below s _ _ _ (T6.setTop (mkF m 36 #[.val (.ref a), .val (.int am), .val (.ref un)] [(.ref a)]))
  refine own_stW (fun zt zk => XS.aloadN X6.here hx rfl (hb hby dd_prog_46m1_36) rfl rfl zk) ?_
  show own_GW p e below s _ _ _ (T6.setTop (mkF m 37 #[.val (.ref a), .val (.int am), .val (.ref un)] [(.ref un), (.ref a)]))
  have F7 : Fld Z h6 a "com/example/outfall/outfall/rules/Span" "unit" "Lcom/example/outfall/outfall/rules/Span$Unit;" .null := (Fld.other W6 (p2_.ext E2) (Or.inr (slot_ne (Or.inr (hw _ (List.mem_of_getElem? (i := 32) rfl))) (Or.inr (hw _ (List.mem_of_getElem? (i := 30) rfl))) (by decide) (t := (.object "com/example/outfall/outfall/rules/Span$Unit")) (t' := .int) (by decide) (by decide))))
  have E8 : Exa Z h6 a "com/example/outfall/outfall/rules/Span" := (E5.wr W6)
  obtain ⟨T9, h9, X9, e9, W9, st9⟩ := putF X6 hx hZ hown (host := "") (Or.inl (hw _ (List.mem_of_getElem? (i := 31) rfl))) Via.refl e6 F7 E8 (Or.inr ⟨(hw _ (List.mem_of_getElem? (i := 32) rfl)), rfl, hnm⟩) (hw _ (List.mem_of_getElem? (i := 1) rfl)) (ty := (.object "com/example/outfall/outfall/rules/Span$Unit")) (by decide) rfl rfl (g := (mkF m 37 #[.val (.ref a), .val (.int am), .val (.ref un)] [(.ref un), (.ref a)])) rfl rfl (hb hby dd_prog_46m1_37)
  refine own_stW st9 ?_
  have N9 := Fr.snoc X9 N6 p3_
  show own_GW p e below s _ _ _ (T9.setTop (mkF m 40 #[.val (.ref a), .val (.int am), .val (.ref un)] []))
  have F10 : Fld Z h9 a "com/example/outfall/outfall/rules/Span" "amount" "I" (.int am) := (Fld.other W9 (Fld.same W6 F4) (Or.inr (slot_ne (Or.inr (hw _ (List.mem_of_getElem? (i := 30) rfl))) (Or.inr (hw _ (List.mem_of_getElem? (i := 32) rfl))) (by decide) (t := .int) (t' := (.object "com/example/outfall/outfall/rules/Span$Unit")) (by decide) (by decide))))
  refine own_retVW X9 hx hlk hS (by rw [e9]; exact (Nat.le_trans (Nat.le_trans hk2 (Nat.le_of_eq W6.size.symm)) (Nat.le_of_eq W9.size.symm))) hret (hb hby dd_prog_46m1_40) (by decide) (by decide) ?_
  show Q_own_spi Z a am un h0 n0 none T9.heap _
  rw [e9]
  exact ⟨rfl, N9, ((((Keep.refl _ _).ext E2).wr W6 (Or.inl (List.mem_of_getElem? (i := 0) rfl))).wr W9 (Or.inl (List.mem_of_getElem? (i := 0) rfl))), F10⟩
theorem own_pn10 : plainFor (⟨"com/example/outfall/outfall/rules/PumpingInterval", "<init>", "(Lcom/example/outfall/outfall/rules/Span;Ljava/lang/String;Ljava/lang/String;)V"⟩ : MethodName) = true := plainFor_of_name (by first | (simp [plainName, overriddenIn]; done) | decide +kernel)
theorem dd_prog_36m1_0 : decode prog_36_method_1_code 0 = .ok (.aload_n 0, 1) := by decide +kernel
theorem dd_prog_36m1_1 : decode prog_36_method_1_code 1 = .ok (.invokespecial 1, 3) := by decide +kernel
theorem dd_prog_36m1_4 : decode prog_36_method_1_code 4 = .ok (.aload_n 1, 1) := by decide +kernel
theorem dd_prog_36m1_5 : decode prog_36_method_1_code 5 = .ok (.ldc 7, 2) := by decide +kernel
theorem dd_prog_36m1_7 : decode prog_36_method_1_code 7 = .ok (.invokestatic 9, 3) := by decide +kernel
theorem dd_prog_36m1_10 : decode prog_36_method_1_code 10 = .ok (.pop, 1) := by decide +kernel
theorem dd_prog_36m1_11 : decode prog_36_method_1_code 11 = .ok (.aload_n 2, 1) := by decide +kernel
theorem dd_prog_36m1_12 : decode prog_36_method_1_code 12 = .ok (.ldc 15, 2) := by decide +kernel
theorem dd_prog_36m1_14 : decode prog_36_method_1_code 14 = .ok (.invokestatic 9, 3) := by decide +kernel
theorem dd_prog_36m1_17 : decode prog_36_method_1_code 17 = .ok (.pop, 1) := by decide +kernel
theorem dd_prog_36m1_18 : decode prog_36_method_1_code 18 = .ok (.aload_n 3, 1) := by decide +kernel
theorem dd_prog_36m1_19 : decode prog_36_method_1_code 19 = .ok (.ldc 17, 2) := by decide +kernel
theorem dd_prog_36m1_21 : decode prog_36_method_1_code 21 = .ok (.invokestatic 9, 3) := by decide +kernel
theorem dd_prog_36m1_24 : decode prog_36_method_1_code 24 = .ok (.pop, 1) := by decide +kernel
theorem dd_prog_36m1_25 : decode prog_36_method_1_code 25 = .ok (.aload_n 0, 1) := by decide +kernel
theorem dd_prog_36m1_26 : decode prog_36_method_1_code 26 = .ok (.aload_n 1, 1) := by decide +kernel
theorem dd_prog_36m1_27 : decode prog_36_method_1_code 27 = .ok (.putfield 19, 3) := by decide +kernel
theorem dd_prog_36m1_30 : decode prog_36_method_1_code 30 = .ok (.aload_n 0, 1) := by decide +kernel
theorem dd_prog_36m1_31 : decode prog_36_method_1_code 31 = .ok (.aload_n 2, 1) := by decide +kernel
theorem dd_prog_36m1_32 : decode prog_36_method_1_code 32 = .ok (.putfield 24, 3) := by decide +kernel
theorem dd_prog_36m1_35 : decode prog_36_method_1_code 35 = .ok (.aload_n 0, 1) := by decide +kernel
theorem dd_prog_36m1_36 : decode prog_36_method_1_code 36 = .ok (.aload_n 3, 1) := by decide +kernel
theorem dd_prog_36m1_37 : decode prog_36_method_1_code 37 = .ok (.putfield 27, 3) := by decide +kernel
theorem dd_prog_36m1_40 : decode prog_36_method_1_code 40 = .ok (.return_, 1) := by decide +kernel
theorem ef_own_pii (m : MethodId) (z0 : Addr) (z1 : Addr) (z2 : Addr) (z3 : Addr) : entryFrame m #[(.ref z0), (.ref z1), (.ref z2), (.ref z3)] 4 = mkF m 0 #[.val (.ref z0), .val (.ref z1), .val (.ref z2), .val (.ref z3)] [] := by first | (simp [entryFrame, mkF, argsToLocals, Value.category]; done) | rfl
def Q_own_pii (Z : State) (a : Addr) (ev : Addr) (ci : Addr) (wo : Addr) (h0 : Heap) (n0 : Nat) (zv : Option Value) (zh : Heap) (zL : List Loc) : Prop := zv = none ∧ Fr n0 zL ∧ Keep h0 zh [a]
set_option maxRecDepth 65536 in
set_option maxHeartbeats 40000000 in
theorem own_pii (l : Launch) (Z : State) (a0 : Array Value) (hw : ∀ d ∈ tables_1, d.before a0 Z = true) (ws : List Jvm.Cond) (a : Addr) (ev : Addr) (ci : Addr) (wo : Addr) (h0 : Heap) (n0 : Nat) (Z0 : n0 ≤ h0.size) (p0_ : Exa Z h0 a "com/example/outfall/outfall/rules/PumpingInterval") (p1_ : Fld Z h0 a "com/example/outfall/outfall/rules/PumpingInterval" "every" "Lcom/example/outfall/outfall/rules/Span;" .null) (p2_ : Fld Z h0 a "com/example/outfall/outfall/rules/PumpingInterval" "citation" "Ljava/lang/String;" .null) (p3_ : Fld Z h0 a "com/example/outfall/outfall/rules/PumpingInterval" "words" "Ljava/lang/String;" .null) (p4_ : n0 ≤ a) :
    MetFree l (⟨"com/example/outfall/outfall/rules/PumpingInterval", "<init>", "(Lcom/example/outfall/outfall/rules/Span;Ljava/lang/String;Ljava/lang/String;)V"⟩ : MethodName) (head1 (Jvm.Cond.code (⟨"com/example/outfall/outfall/rules/PumpingInterval", "<init>", "(Lcom/example/outfall/outfall/rules/Span;Ljava/lang/String;Ljava/lang/String;)V"⟩ : MethodName) prog_36_method_1_code 4 none :: ws) ({ frames := 2, cells := 6, slots := 84, locals := 24 } : Room)) (fun za zU => za = #[(.ref a), (.ref ev), (.ref ci), (.ref wo)] ∧ Z.Warmed39 zU.vm ∧ zU.heap = h0) (fun _ _ _ _ _ => True) (fun _ zU zo zU' => ∃ zv zL, zo = .returned zv ∧ Q_own_pii Z a ev ci wo h0 n0 zv zU'.heap zL ∧ ReturnedEndW zU zo zU' zL ({ frames := 2, cells := 6, slots := 84, locals := 24 } : Room).cells ({ frames := 2, cells := 6, slots := 84, locals := 24 } : Room).slots) := by
  refine own_metW (y := (⟨"com/example/outfall/outfall/rules/PumpingInterval", "<init>", "(Lcom/example/outfall/outfall/rules/Span;Ljava/lang/String;Ljava/lang/String;)V"⟩ : MethodName)) own_pn10 ?_
  intro p e s m below meth c T0 hx hby hml hown hnm hret hlk hZ e0 X0 hS
  have N0 := Fr.nil n0
  refine own_stW (fun zt zk => castTop (ef_own_pii m a ev ci wo) zk) ?_
  show own_GW p e below s _ _ _ (T0.setTop (mkF m 0 #[.val (.ref a), .val (.ref ev), .val (.ref ci), .val (.ref wo)] []))
  refine own_stW (fun zt zk => XS.aloadN X0.here hx rfl (hb hby dd_prog_36m1_0) rfl rfl zk) ?_
  show own_GW p e below s _ _ _ (T0.setTop (mkF m 1 #[.val (.ref a), .val (.ref ev), .val (.ref ci), .val (.ref wo)] [(.ref a)]))
  obtain ⟨_, T1, L1, X1, hQ1, st1⟩ := own_callI X0 hx hZ (y := (⟨"java/lang/Record", "<init>", "()V"⟩ : MethodName)) (a := a) (argsL := []) (rest := []) 0 rfl hown (hw _ (List.mem_of_getElem? (i := 41) rfl)) (hw _ (List.mem_of_getElem? (i := 10) rfl)) (hw _ (List.mem_of_getElem? (i := 12) rfl)) (hw _ (List.mem_of_getElem? (i := 13) rfl)) (by decide) (own_rec l Z a0 hw [] a h0 n0 Z0 ) (by decide) (by decide) e0 (g := (mkF m 1 #[.val (.ref a), .val (.ref ev), .val (.ref ci), .val (.ref wo)] [(.ref a)])) rfl (by rw [hml]; rfl) own_pd2 rfl rfl (by show 2 * 0 + _ ≤ _; exact Nat.le_of_eq rfl) (hb hby dd_prog_36m1_1) (by decide) (by decide)
  obtain ⟨rfl, N1q, e1⟩ := hQ1
  have N1 := Fr.app N0 N1q
  refine own_stW st1 ?_
  show own_GW p e below s _ _ _ (T1.setTop (mkF m 4 #[.val (.ref a), .val (.ref ev), .val (.ref ci), .val (.ref wo)] []))
  refine own_stW (fun zt zk => XS.aloadN X1.here hx rfl (hb hby dd_prog_36m1_4) rfl rfl zk) ?_
  show own_GW p e below s _ _ _ (T1.setTop (mkF m 5 #[.val (.ref a), .val (.ref ev), .val (.ref ci), .val (.ref wo)] [(.ref ev)]))
  obtain ⟨a2, T2, h2, k2, X2, e2, E2, hS, hk2, hZ, hown, st2⟩ := ldcS X1 hx hZ hown (hw _ (List.mem_of_getElem? (i := 42) rfl)) (fun d hd => hw d (own_sub d hd)) e1 hS (Nat.zero_le _) (g := (mkF m 5 #[.val (.ref a), .val (.ref ev), .val (.ref ci), .val (.ref wo)] [(.ref ev)])) rfl (hb hby dd_prog_36m1_5) (n := 20) (by decide +kernel) (by decide) (by decide) (by decide)
  refine own_stW st2 ?_
  show own_GW p e below s _ _ _ (T2.setTop (mkF m 7 #[.val (.ref a), .val (.ref ev), .val (.ref ci), .val (.ref wo)] [(.ref a2), (.ref ev)]))
  obtain ⟨_, T3, L3, X3, hQ3, st3⟩ := own_callS X2 hx hZ (y := (⟨"java/util/Objects", "requireNonNull", "(Ljava/lang/Object;Ljava/lang/String;)Ljava/lang/Object;"⟩ : MethodName)) (argsL := [(.ref ev), (.ref a2)]) (rest := []) 0 hown (hw _ (List.mem_of_getElem? (i := 43) rfl)) (hw _ (List.mem_of_getElem? (i := 26) rfl)) (hw _ (List.mem_of_getElem? (i := 27) rfl)) (hw _ (List.mem_of_getElem? (i := 28) rfl)) (by decide) (own_rnn l Z a0 hw [] ev a2 h2 n0 (Nat.le_trans Z0 E2.1) ) (by decide) (by decide) e2 (g := (mkF m 7 #[.val (.ref a), .val (.ref ev), .val (.ref ci), .val (.ref wo)] [(.ref a2), (.ref ev)])) rfl (by rw [hml]; rfl) own_pd3 rfl rfl (by show 2 * 0 + _ ≤ _; exact Nat.le_of_eq rfl) (hb hby dd_prog_36m1_7) (by decide) (by decide)
  obtain ⟨rfl, N3q, e3⟩ := hQ3
  have N3 := Fr.app N1 N3q
  refine own_stW st3 ?_
  show own_GW p e below s _ _ _ (T3.setTop (mkF m 10 #[.val (.ref a), .val (.ref ev), .val (.ref ci), .val (.ref wo)] [(.ref ev)]))
  refine own_stW (fun zt zk => XS.pop X3.here hx rfl (hb hby dd_prog_36m1_10) rfl rfl zk) ?_
  show own_GW p e below s _ _ _ (T3.setTop (mkF m 11 #[.val (.ref a), .val (.ref ev), .val (.ref ci), .val (.ref wo)] []))
  refine own_stW (fun zt zk => XS.aloadN X3.here hx rfl (hb hby dd_prog_36m1_11) rfl rfl zk) ?_
  show own_GW p e below s _ _ _ (T3.setTop (mkF m 12 #[.val (.ref a), .val (.ref ev), .val (.ref ci), .val (.ref wo)] [(.ref ci)]))
  obtain ⟨a4, T4, h4, k4, X4, e4, E4, hS, hk4, hZ, hown, st4⟩ := ldcS X3 hx hZ hown (hw _ (List.mem_of_getElem? (i := 44) rfl)) (fun d hd => hw d (own_sub d hd)) e3 hS hk2 (g := (mkF m 12 #[.val (.ref a), .val (.ref ev), .val (.ref ci), .val (.ref wo)] [(.ref ci)])) rfl (hb hby dd_prog_36m1_12) (n := 32) (by decide +kernel) (by decide) (by decide) (by decide)
  refine own_stW st4 ?_
  show own_GW p e below s _ _ _ (T4.setTop (mkF m 14 #[.val (.ref a), .val (.ref ev), .val (.ref ci), .val (.ref wo)] [(.ref a4), (.ref ci)]))
  obtain ⟨_, T5, L5, X5, hQ5, st5⟩ := own_callS X4 hx hZ (y := (⟨"java/util/Objects", "requireNonNull", "(Ljava/lang/Object;Ljava/lang/String;)Ljava/lang/Object;"⟩ : MethodName)) (argsL := [(.ref ci), (.ref a4)]) (rest := []) 0 hown (hw _ (List.mem_of_getElem? (i := 43) rfl)) (hw _ (List.mem_of_getElem? (i := 26) rfl)) (hw _ (List.mem_of_getElem? (i := 27) rfl)) (hw _ (List.mem_of_getElem? (i := 28) rfl)) (by decide) (own_rnn l Z a0 hw [] ci a4 h4 n0 (Nat.le_trans (Nat.le_trans Z0 E2.1) E4.1) ) (by decide) (by decide) e4 (g := (mkF m 14 #[.val (.ref a), .val (.ref ev), .val (.ref ci), .val (.ref wo)] [(.ref a4), (.ref ci)])) rfl (by rw [hml]; rfl) own_pd3 rfl rfl (by show 2 * 0 + _ ≤ _; exact Nat.le_of_eq rfl) (hb hby dd_prog_36m1_14) (by decide) (by decide)
  obtain ⟨rfl, N5q, e5⟩ := hQ5
  have N5 := Fr.app N3 N5q
  refine own_stW st5 ?_
  show own_GW p e below s _ _ _ (T5.setTop (mkF m 17 #[.val (.ref a), .val (.ref ev), .val (.ref ci), .val (.ref wo)] [(.ref ci)]))
  refine own_stW (fun zt zk => XS.pop X5.here hx rfl (hb hby dd_prog_36m1_17) rfl rfl zk) ?_
  show own_GW p e below s _ _ _ (T5.setTop (mkF m 18 #[.val (.ref a), .val (.ref ev), .val (.ref ci), .val (.ref wo)] []))
  refine own_stW (fun zt zk => XS.aloadN X5.here hx rfl (hb hby dd_prog_36m1_18) rfl rfl zk) ?_
  show own_GW p e below s _ _ _ (T5.setTop (mkF m 19 #[.val (.ref a), .val (.ref ev), .val (.ref ci), .val (.ref wo)] [(.ref wo)]))
  obtain ⟨a6, T6, h6, k6, X6, e6, E6, hS, hk6, hZ, hown, st6⟩ := ldcS X5 hx hZ hown (hw _ (List.mem_of_getElem? (i := 45) rfl)) (fun d hd => hw d (own_sub d hd)) e5 hS hk4 (g := (mkF m 19 #[.val (.ref a), .val (.ref ev), .val (.ref ci), .val (.ref wo)] [(.ref wo)])) rfl (hb hby dd_prog_36m1_19) (n := 20) (by decide +kernel) (by decide) (by decide) (by decide)
  refine own_stW st6 ?_
  show own_GW p e below s _ _ _ (T6.setTop (mkF m 21 #[.val (.ref a), .val (.ref ev), .val (.ref ci), .val (.ref wo)] [(.ref a6), (.ref wo)]))
  obtain ⟨_, T7, L7, X7, hQ7, st7⟩ := own_callS X6 hx hZ (y := (⟨"java/util/Objects", "requireNonNull", "(Ljava/lang/Object;Ljava/lang/String;)Ljava/lang/Object;"⟩ : MethodName)) (argsL := [(.ref wo), (.ref a6)]) (rest := []) 0 hown (hw _ (List.mem_of_getElem? (i := 43) rfl)) (hw _ (List.mem_of_getElem? (i := 26) rfl)) (hw _ (List.mem_of_getElem? (i := 27) rfl)) (hw _ (List.mem_of_getElem? (i := 28) rfl)) (by decide) (own_rnn l Z a0 hw [] wo a6 h6 n0 (Nat.le_trans (Nat.le_trans (Nat.le_trans Z0 E2.1) E4.1) E6.1) ) (by decide) (by decide) e6 (g := (mkF m 21 #[.val (.ref a), .val (.ref ev), .val (.ref ci), .val (.ref wo)] [(.ref a6), (.ref wo)])) rfl (by rw [hml]; rfl) own_pd3 rfl rfl (by show 2 * 0 + _ ≤ _; exact Nat.le_of_eq rfl) (hb hby dd_prog_36m1_21) (by decide) (by decide)
  obtain ⟨rfl, N7q, e7⟩ := hQ7
  have N7 := Fr.app N5 N7q
  refine own_stW st7 ?_
  show own_GW p e below s _ _ _ (T7.setTop (mkF m 24 #[.val (.ref a), .val (.ref ev), .val (.ref ci), .val (.ref wo)] [(.ref wo)]))
  refine own_stW (fun zt zk => XS.pop X7.here hx rfl (hb hby dd_prog_36m1_24) rfl rfl zk) ?_
  show own_GW p e below s _ _ _ (T7.setTop (mkF m 25 #[.val (.ref a), .val (.ref ev), .val (.ref ci), .val (.ref wo)] []))
  refine own_stW (fun zt zk => XS.aloadN X7.here hx rfl (hb hby dd_prog_36m1_25) rfl rfl zk) ?_
  show own_GW p e below s _ _ _ (T7.setTop (mkF m 26 #[.val (.ref a), .val (.ref ev), .val (.ref ci), .val (.ref wo)] [(.ref a)]))
  refine own_stW (fun zt zk => XS.aloadN X7.here hx rfl (hb hby dd_prog_36m1_26) rfl rfl zk) ?_
  show own_GW p e below s _ _ _ (T7.setTop (mkF m 27 #[.val (.ref a), .val (.ref ev), .val (.ref ci), .val (.ref wo)] [(.ref ev), (.ref a)]))
  have F8 : Fld Z h6 a "com/example/outfall/outfall/rules/PumpingInterval" "every" "Lcom/example/outfall/outfall/rules/Span;" .null := (((p1_.ext E2).ext E4).ext E6)
  have E9 : Exa Z h6 a "com/example/outfall/outfall/rules/PumpingInterval" := (((p0_.ext E2).ext E4).ext E6)
  obtain ⟨T10, h10, X10, e10, W10, st10⟩ := putF X7 hx hZ hown (host := "") (Or.inl (hw _ (List.mem_of_getElem? (i := 46) rfl))) Via.refl e7 F8 E9 (Or.inr ⟨(hw _ (List.mem_of_getElem? (i := 47) rfl)), rfl, hnm⟩) (hw _ (List.mem_of_getElem? (i := 34) rfl)) (ty := (.object "com/example/outfall/outfall/rules/Span")) (by decide) rfl rfl (g := (mkF m 27 #[.val (.ref a), .val (.ref ev), .val (.ref ci), .val (.ref wo)] [(.ref ev), (.ref a)])) rfl rfl (hb hby dd_prog_36m1_27)
  refine own_stW st10 ?_
  have N10 := Fr.snoc X10 N7 p4_
  show own_GW p e below s _ _ _ (T10.setTop (mkF m 30 #[.val (.ref a), .val (.ref ev), .val (.ref ci), .val (.ref wo)] []))
  refine own_stW (fun zt zk => XS.aloadN X10.here hx rfl (hb hby dd_prog_36m1_30) rfl rfl zk) ?_
  show own_GW p e below s _ _ _ (T10.setTop (mkF m 31 #[.val (.ref a), .val (.ref ev), .val (.ref ci), .val (.ref wo)] [(.ref a)]))
  refine own_stW (fun zt zk => XS.aloadN X10.here hx rfl (hb hby dd_prog_36m1_31) rfl rfl zk) ?_
  show own_GW p e below s _ _ _ (T10.setTop (mkF m 32 #[.val (.ref a), .val (.ref ev), .val (.ref ci), .val (.ref wo)] [(.ref ci), (.ref a)]))
  have F11 : Fld Z h10 a "com/example/outfall/outfall/rules/PumpingInterval" "citation" "Ljava/lang/String;" .null := (Fld.other W10 (((p2_.ext E2).ext E4).ext E6) (Or.inr (slot_ne (Or.inr (hw _ (List.mem_of_getElem? (i := 49) rfl))) (Or.inr (hw _ (List.mem_of_getElem? (i := 47) rfl))) (by decide) (t := (.object "java/lang/String")) (t' := (.object "com/example/outfall/outfall/rules/Span")) (by decide) (by decide))))
  have E12 : Exa Z h10 a "com/example/outfall/outfall/rules/PumpingInterval" := (E9.wr W10)
  obtain ⟨T13, h13, X13, e13, W13, st13⟩ := putF X10 hx hZ hown (host := "") (Or.inl (hw _ (List.mem_of_getElem? (i := 48) rfl))) Via.refl e10 F11 E12 (Or.inr ⟨(hw _ (List.mem_of_getElem? (i := 49) rfl)), rfl, hnm⟩) (hw _ (List.mem_of_getElem? (i := 34) rfl)) (ty := (.object "java/lang/String")) (by decide) rfl rfl (g := (mkF m 32 #[.val (.ref a), .val (.ref ev), .val (.ref ci), .val (.ref wo)] [(.ref ci), (.ref a)])) rfl rfl (hb hby dd_prog_36m1_32)
  refine own_stW st13 ?_
  have N13 := Fr.snoc X13 N10 p4_
  show own_GW p e below s _ _ _ (T13.setTop (mkF m 35 #[.val (.ref a), .val (.ref ev), .val (.ref ci), .val (.ref wo)] []))
  refine own_stW (fun zt zk => XS.aloadN X13.here hx rfl (hb hby dd_prog_36m1_35) rfl rfl zk) ?_
  show own_GW p e below s _ _ _ (T13.setTop (mkF m 36 #[.val (.ref a), .val (.ref ev), .val (.ref ci), .val (.ref wo)] [(.ref a)]))
  refine own_stW (fun zt zk => XS.aloadN X13.here hx rfl (hb hby dd_prog_36m1_36) rfl rfl zk) ?_
  show own_GW p e below s _ _ _ (T13.setTop (mkF m 37 #[.val (.ref a), .val (.ref ev), .val (.ref ci), .val (.ref wo)] [(.ref wo), (.ref a)]))
  have F14 : Fld Z h13 a "com/example/outfall/outfall/rules/PumpingInterval" "words" "Ljava/lang/String;" .null := (Fld.other W13 (Fld.other W10 (((p3_.ext E2).ext E4).ext E6) (Or.inr (slot_ne (Or.inr (hw _ (List.mem_of_getElem? (i := 51) rfl))) (Or.inr (hw _ (List.mem_of_getElem? (i := 47) rfl))) (by decide) (t := (.object "java/lang/String")) (t' := (.object "com/example/outfall/outfall/rules/Span")) (by decide) (by decide)))) (Or.inr (slot_ne (Or.inr (hw _ (List.mem_of_getElem? (i := 51) rfl))) (Or.inr (hw _ (List.mem_of_getElem? (i := 49) rfl))) (by decide) (t := (.object "java/lang/String")) (t' := (.object "java/lang/String")) (by decide) (by decide))))
  have E15 : Exa Z h13 a "com/example/outfall/outfall/rules/PumpingInterval" := (E12.wr W13)
  obtain ⟨T16, h16, X16, e16, W16, st16⟩ := putF X13 hx hZ hown (host := "") (Or.inl (hw _ (List.mem_of_getElem? (i := 50) rfl))) Via.refl e13 F14 E15 (Or.inr ⟨(hw _ (List.mem_of_getElem? (i := 51) rfl)), rfl, hnm⟩) (hw _ (List.mem_of_getElem? (i := 34) rfl)) (ty := (.object "java/lang/String")) (by decide) rfl rfl (g := (mkF m 37 #[.val (.ref a), .val (.ref ev), .val (.ref ci), .val (.ref wo)] [(.ref wo), (.ref a)])) rfl rfl (hb hby dd_prog_36m1_37)
  refine own_stW st16 ?_
  have N16 := Fr.snoc X16 N13 p4_
  show own_GW p e below s _ _ _ (T16.setTop (mkF m 40 #[.val (.ref a), .val (.ref ev), .val (.ref ci), .val (.ref wo)] []))
  refine own_retVW X16 hx hlk hS (by rw [e16]; exact (Nat.le_trans (Nat.le_trans (Nat.le_trans hk6 (Nat.le_of_eq W10.size.symm)) (Nat.le_of_eq W13.size.symm)) (Nat.le_of_eq W16.size.symm))) hret (hb hby dd_prog_36m1_40) (by decide) (by decide) ?_
  show Q_own_pii Z a ev ci wo h0 n0 none T16.heap _
  rw [e16]
  exact ⟨rfl, N16, (((((((Keep.refl _ _).ext E2).ext E4).ext E6).wr W10 (Or.inl (List.mem_of_getElem? (i := 0) rfl))).wr W13 (Or.inl (List.mem_of_getElem? (i := 0) rfl))).wr W16 (Or.inl (List.mem_of_getElem? (i := 0) rfl)))⟩
theorem own_pn11 : plainFor (⟨"com/example/outfall/outfall/rules/PumpingSchedule$Period", "<init>", "(Lcom/example/outfall/outfall/rules/PumpingSchedule$Range;Lcom/example/outfall/outfall/rules/PumpingSchedule$Range;Lcom/example/outfall/outfall/rules/PumpingInterval;)V"⟩ : MethodName) = true := plainFor_of_name (by first | (simp [plainName, overriddenIn]; done) | decide +kernel)
theorem dd_prog_38m1_0 : decode prog_38_method_1_code 0 = .ok (.aload_n 0, 1) := by decide +kernel
theorem dd_prog_38m1_1 : decode prog_38_method_1_code 1 = .ok (.invokespecial 1, 3) := by decide +kernel
theorem dd_prog_38m1_4 : decode prog_38_method_1_code 4 = .ok (.aload_n 1, 1) := by decide +kernel
theorem dd_prog_38m1_5 : decode prog_38_method_1_code 5 = .ok (.ldc 7, 2) := by decide +kernel
theorem dd_prog_38m1_7 : decode prog_38_method_1_code 7 = .ok (.invokestatic 9, 3) := by decide +kernel
theorem dd_prog_38m1_10 : decode prog_38_method_1_code 10 = .ok (.pop, 1) := by decide +kernel
theorem dd_prog_38m1_11 : decode prog_38_method_1_code 11 = .ok (.aload_n 2, 1) := by decide +kernel
theorem dd_prog_38m1_12 : decode prog_38_method_1_code 12 = .ok (.ldc 15, 2) := by decide +kernel
theorem dd_prog_38m1_14 : decode prog_38_method_1_code 14 = .ok (.invokestatic 9, 3) := by decide +kernel
theorem dd_prog_38m1_17 : decode prog_38_method_1_code 17 = .ok (.pop, 1) := by decide +kernel
theorem dd_prog_38m1_18 : decode prog_38_method_1_code 18 = .ok (.aload_n 3, 1) := by decide +kernel
theorem dd_prog_38m1_19 : decode prog_38_method_1_code 19 = .ok (.ldc 17, 2) := by decide +kernel
theorem dd_prog_38m1_21 : decode prog_38_method_1_code 21 = .ok (.invokestatic 9, 3) := by decide +kernel
theorem dd_prog_38m1_24 : decode prog_38_method_1_code 24 = .ok (.pop, 1) := by decide +kernel
theorem dd_prog_38m1_25 : decode prog_38_method_1_code 25 = .ok (.aload_n 0, 1) := by decide +kernel
theorem dd_prog_38m1_26 : decode prog_38_method_1_code 26 = .ok (.aload_n 1, 1) := by decide +kernel
theorem dd_prog_38m1_27 : decode prog_38_method_1_code 27 = .ok (.putfield 19, 3) := by decide +kernel
theorem dd_prog_38m1_30 : decode prog_38_method_1_code 30 = .ok (.aload_n 0, 1) := by decide +kernel
theorem dd_prog_38m1_31 : decode prog_38_method_1_code 31 = .ok (.aload_n 2, 1) := by decide +kernel
theorem dd_prog_38m1_32 : decode prog_38_method_1_code 32 = .ok (.putfield 24, 3) := by decide +kernel
theorem dd_prog_38m1_35 : decode prog_38_method_1_code 35 = .ok (.aload_n 0, 1) := by decide +kernel
theorem dd_prog_38m1_36 : decode prog_38_method_1_code 36 = .ok (.aload_n 3, 1) := by decide +kernel
theorem dd_prog_38m1_37 : decode prog_38_method_1_code 37 = .ok (.putfield 26, 3) := by decide +kernel
theorem dd_prog_38m1_40 : decode prog_38_method_1_code 40 = .ok (.return_, 1) := by decide +kernel
theorem ef_own_pdi (m : MethodId) (z0 : Addr) (z1 : Addr) (z2 : Addr) (z3 : Addr) : entryFrame m #[(.ref z0), (.ref z1), (.ref z2), (.ref z3)] 4 = mkF m 0 #[.val (.ref z0), .val (.ref z1), .val (.ref z2), .val (.ref z3)] [] := by first | (simp [entryFrame, mkF, argsToLocals, Value.category]; done) | rfl
def Q_own_pdi (Z : State) (a : Addr) (tk : Addr) (cp : Addr) (iv : Addr) (h0 : Heap) (n0 : Nat) (zv : Option Value) (zh : Heap) (zL : List Loc) : Prop := zv = none ∧ Fr n0 zL ∧ Keep h0 zh [a] ∧ Fld Z zh a "com/example/outfall/outfall/rules/PumpingSchedule$Period" "tanks" "Lcom/example/outfall/outfall/rules/PumpingSchedule$Range;" (.ref tk) ∧ Fld Z zh a "com/example/outfall/outfall/rules/PumpingSchedule$Period" "capacity" "Lcom/example/outfall/outfall/rules/PumpingSchedule$Range;" (.ref cp)
set_option maxRecDepth 65536 in
set_option maxHeartbeats 40000000 in
theorem own_pdi (l : Launch) (Z : State) (a0 : Array Value) (hw : ∀ d ∈ tables_1, d.before a0 Z = true) (ws : List Jvm.Cond) (a : Addr) (tk : Addr) (cp : Addr) (iv : Addr) (h0 : Heap) (n0 : Nat) (Z0 : n0 ≤ h0.size) (p0_ : Exa Z h0 a "com/example/outfall/outfall/rules/PumpingSchedule$Period") (p1_ : Fld Z h0 a "com/example/outfall/outfall/rules/PumpingSchedule$Period" "tanks" "Lcom/example/outfall/outfall/rules/PumpingSchedule$Range;" .null) (p2_ : Fld Z h0 a "com/example/outfall/outfall/rules/PumpingSchedule$Period" "capacity" "Lcom/example/outfall/outfall/rules/PumpingSchedule$Range;" .null) (p3_ : Fld Z h0 a "com/example/outfall/outfall/rules/PumpingSchedule$Period" "interval" "Lcom/example/outfall/outfall/rules/PumpingInterval;" .null) (p4_ : n0 ≤ a) :
    MetFree l (⟨"com/example/outfall/outfall/rules/PumpingSchedule$Period", "<init>", "(Lcom/example/outfall/outfall/rules/PumpingSchedule$Range;Lcom/example/outfall/outfall/rules/PumpingSchedule$Range;Lcom/example/outfall/outfall/rules/PumpingInterval;)V"⟩ : MethodName) (head1 (Jvm.Cond.code (⟨"com/example/outfall/outfall/rules/PumpingSchedule$Period", "<init>", "(Lcom/example/outfall/outfall/rules/PumpingSchedule$Range;Lcom/example/outfall/outfall/rules/PumpingSchedule$Range;Lcom/example/outfall/outfall/rules/PumpingInterval;)V"⟩ : MethodName) prog_38_method_1_code 4 none :: ws) ({ frames := 2, cells := 6, slots := 96, locals := 24 } : Room)) (fun za zU => za = #[(.ref a), (.ref tk), (.ref cp), (.ref iv)] ∧ Z.Warmed39 zU.vm ∧ zU.heap = h0) (fun _ _ _ _ _ => True) (fun _ zU zo zU' => ∃ zv zL, zo = .returned zv ∧ Q_own_pdi Z a tk cp iv h0 n0 zv zU'.heap zL ∧ ReturnedEndW zU zo zU' zL ({ frames := 2, cells := 6, slots := 96, locals := 24 } : Room).cells ({ frames := 2, cells := 6, slots := 96, locals := 24 } : Room).slots) := by
  refine own_metW (y := (⟨"com/example/outfall/outfall/rules/PumpingSchedule$Period", "<init>", "(Lcom/example/outfall/outfall/rules/PumpingSchedule$Range;Lcom/example/outfall/outfall/rules/PumpingSchedule$Range;Lcom/example/outfall/outfall/rules/PumpingInterval;)V"⟩ : MethodName)) own_pn11 ?_
  intro p e s m below meth c T0 hx hby hml hown hnm hret hlk hZ e0 X0 hS
  have N0 := Fr.nil n0
  refine own_stW (fun zt zk => castTop (ef_own_pdi m a tk cp iv) zk) ?_
  show own_GW p e below s _ _ _ (T0.setTop (mkF m 0 #[.val (.ref a), .val (.ref tk), .val (.ref cp), .val (.ref iv)] []))
  refine own_stW (fun zt zk => XS.aloadN X0.here hx rfl (hb hby dd_prog_38m1_0) rfl rfl zk) ?_
  show own_GW p e below s _ _ _ (T0.setTop (mkF m 1 #[.val (.ref a), .val (.ref tk), .val (.ref cp), .val (.ref iv)] [(.ref a)]))
  obtain ⟨_, T1, L1, X1, hQ1, st1⟩ := own_callI X0 hx hZ (y := (⟨"java/lang/Record", "<init>", "()V"⟩ : MethodName)) (a := a) (argsL := []) (rest := []) 0 rfl hown (hw _ (List.mem_of_getElem? (i := 84) rfl)) (hw _ (List.mem_of_getElem? (i := 10) rfl)) (hw _ (List.mem_of_getElem? (i := 12) rfl)) (hw _ (List.mem_of_getElem? (i := 13) rfl)) (by decide) (own_rec l Z a0 hw [] a h0 n0 Z0 ) (by decide) (by decide) e0 (g := (mkF m 1 #[.val (.ref a), .val (.ref tk), .val (.ref cp), .val (.ref iv)] [(.ref a)])) rfl (by rw [hml]; rfl) own_pd2 rfl rfl (by show 2 * 0 + _ ≤ _; exact Nat.le_of_eq rfl) (hb hby dd_prog_38m1_1) (by decide) (by decide)
  obtain ⟨rfl, N1q, e1⟩ := hQ1
  have N1 := Fr.app N0 N1q
  refine own_stW st1 ?_
  show own_GW p e below s _ _ _ (T1.setTop (mkF m 4 #[.val (.ref a), .val (.ref tk), .val (.ref cp), .val (.ref iv)] []))
  refine own_stW (fun zt zk => XS.aloadN X1.here hx rfl (hb hby dd_prog_38m1_4) rfl rfl zk) ?_
  show own_GW p e below s _ _ _ (T1.setTop (mkF m 5 #[.val (.ref a), .val (.ref tk), .val (.ref cp), .val (.ref iv)] [(.ref tk)]))
  obtain ⟨a2, T2, h2, k2, X2, e2, E2, hS, hk2, hZ, hown, st2⟩ := ldcS X1 hx hZ hown (hw _ (List.mem_of_getElem? (i := 85) rfl)) (fun d hd => hw d (own_sub d hd)) e1 hS (Nat.zero_le _) (g := (mkF m 5 #[.val (.ref a), .val (.ref tk), .val (.ref cp), .val (.ref iv)] [(.ref tk)])) rfl (hb hby dd_prog_38m1_5) (n := 20) (by decide +kernel) (by decide) (by decide) (by decide)
  refine own_stW st2 ?_
  show own_GW p e below s _ _ _ (T2.setTop (mkF m 7 #[.val (.ref a), .val (.ref tk), .val (.ref cp), .val (.ref iv)] [(.ref a2), (.ref tk)]))
  obtain ⟨_, T3, L3, X3, hQ3, st3⟩ := own_callS X2 hx hZ (y := (⟨"java/util/Objects", "requireNonNull", "(Ljava/lang/Object;Ljava/lang/String;)Ljava/lang/Object;"⟩ : MethodName)) (argsL := [(.ref tk), (.ref a2)]) (rest := []) 0 hown (hw _ (List.mem_of_getElem? (i := 86) rfl)) (hw _ (List.mem_of_getElem? (i := 26) rfl)) (hw _ (List.mem_of_getElem? (i := 27) rfl)) (hw _ (List.mem_of_getElem? (i := 28) rfl)) (by decide) (own_rnn l Z a0 hw [] tk a2 h2 n0 (Nat.le_trans Z0 E2.1) ) (by decide) (by decide) e2 (g := (mkF m 7 #[.val (.ref a), .val (.ref tk), .val (.ref cp), .val (.ref iv)] [(.ref a2), (.ref tk)])) rfl (by rw [hml]; rfl) own_pd3 rfl rfl (by show 2 * 0 + _ ≤ _; exact Nat.le_of_eq rfl) (hb hby dd_prog_38m1_7) (by decide) (by decide)
  obtain ⟨rfl, N3q, e3⟩ := hQ3
  have N3 := Fr.app N1 N3q
  refine own_stW st3 ?_
  show own_GW p e below s _ _ _ (T3.setTop (mkF m 10 #[.val (.ref a), .val (.ref tk), .val (.ref cp), .val (.ref iv)] [(.ref tk)]))
  refine own_stW (fun zt zk => XS.pop X3.here hx rfl (hb hby dd_prog_38m1_10) rfl rfl zk) ?_
  show own_GW p e below s _ _ _ (T3.setTop (mkF m 11 #[.val (.ref a), .val (.ref tk), .val (.ref cp), .val (.ref iv)] []))
  refine own_stW (fun zt zk => XS.aloadN X3.here hx rfl (hb hby dd_prog_38m1_11) rfl rfl zk) ?_
  show own_GW p e below s _ _ _ (T3.setTop (mkF m 12 #[.val (.ref a), .val (.ref tk), .val (.ref cp), .val (.ref iv)] [(.ref cp)]))
  obtain ⟨a4, T4, h4, k4, X4, e4, E4, hS, hk4, hZ, hown, st4⟩ := ldcS X3 hx hZ hown (hw _ (List.mem_of_getElem? (i := 87) rfl)) (fun d hd => hw d (own_sub d hd)) e3 hS hk2 (g := (mkF m 12 #[.val (.ref a), .val (.ref tk), .val (.ref cp), .val (.ref iv)] [(.ref cp)])) rfl (hb hby dd_prog_38m1_12) (n := 32) (by decide +kernel) (by decide) (by decide) (by decide)
  refine own_stW st4 ?_
  show own_GW p e below s _ _ _ (T4.setTop (mkF m 14 #[.val (.ref a), .val (.ref tk), .val (.ref cp), .val (.ref iv)] [(.ref a4), (.ref cp)]))
  obtain ⟨_, T5, L5, X5, hQ5, st5⟩ := own_callS X4 hx hZ (y := (⟨"java/util/Objects", "requireNonNull", "(Ljava/lang/Object;Ljava/lang/String;)Ljava/lang/Object;"⟩ : MethodName)) (argsL := [(.ref cp), (.ref a4)]) (rest := []) 0 hown (hw _ (List.mem_of_getElem? (i := 86) rfl)) (hw _ (List.mem_of_getElem? (i := 26) rfl)) (hw _ (List.mem_of_getElem? (i := 27) rfl)) (hw _ (List.mem_of_getElem? (i := 28) rfl)) (by decide) (own_rnn l Z a0 hw [] cp a4 h4 n0 (Nat.le_trans (Nat.le_trans Z0 E2.1) E4.1) ) (by decide) (by decide) e4 (g := (mkF m 14 #[.val (.ref a), .val (.ref tk), .val (.ref cp), .val (.ref iv)] [(.ref a4), (.ref cp)])) rfl (by rw [hml]; rfl) own_pd3 rfl rfl (by show 2 * 0 + _ ≤ _; exact Nat.le_of_eq rfl) (hb hby dd_prog_38m1_14) (by decide) (by decide)
  obtain ⟨rfl, N5q, e5⟩ := hQ5
  have N5 := Fr.app N3 N5q
  refine own_stW st5 ?_
  show own_GW p e below s _ _ _ (T5.setTop (mkF m 17 #[.val (.ref a), .val (.ref tk), .val (.ref cp), .val (.ref iv)] [(.ref cp)]))
  refine own_stW (fun zt zk => XS.pop X5.here hx rfl (hb hby dd_prog_38m1_17) rfl rfl zk) ?_
  show own_GW p e below s _ _ _ (T5.setTop (mkF m 18 #[.val (.ref a), .val (.ref tk), .val (.ref cp), .val (.ref iv)] []))
  refine own_stW (fun zt zk => XS.aloadN X5.here hx rfl (hb hby dd_prog_38m1_18) rfl rfl zk) ?_
  show own_GW p e below s _ _ _ (T5.setTop (mkF m 19 #[.val (.ref a), .val (.ref tk), .val (.ref cp), .val (.ref iv)] [(.ref iv)]))
  obtain ⟨a6, T6, h6, k6, X6, e6, E6, hS, hk6, hZ, hown, st6⟩ := ldcS X5 hx hZ hown (hw _ (List.mem_of_getElem? (i := 88) rfl)) (fun d hd => hw d (own_sub d hd)) e5 hS hk4 (g := (mkF m 19 #[.val (.ref a), .val (.ref tk), .val (.ref cp), .val (.ref iv)] [(.ref iv)])) rfl (hb hby dd_prog_38m1_19) (n := 32) (by decide +kernel) (by decide) (by decide) (by decide)
  refine own_stW st6 ?_
  show own_GW p e below s _ _ _ (T6.setTop (mkF m 21 #[.val (.ref a), .val (.ref tk), .val (.ref cp), .val (.ref iv)] [(.ref a6), (.ref iv)]))
  obtain ⟨_, T7, L7, X7, hQ7, st7⟩ := own_callS X6 hx hZ (y := (⟨"java/util/Objects", "requireNonNull", "(Ljava/lang/Object;Ljava/lang/String;)Ljava/lang/Object;"⟩ : MethodName)) (argsL := [(.ref iv), (.ref a6)]) (rest := []) 0 hown (hw _ (List.mem_of_getElem? (i := 86) rfl)) (hw _ (List.mem_of_getElem? (i := 26) rfl)) (hw _ (List.mem_of_getElem? (i := 27) rfl)) (hw _ (List.mem_of_getElem? (i := 28) rfl)) (by decide) (own_rnn l Z a0 hw [] iv a6 h6 n0 (Nat.le_trans (Nat.le_trans (Nat.le_trans Z0 E2.1) E4.1) E6.1) ) (by decide) (by decide) e6 (g := (mkF m 21 #[.val (.ref a), .val (.ref tk), .val (.ref cp), .val (.ref iv)] [(.ref a6), (.ref iv)])) rfl (by rw [hml]; rfl) own_pd3 rfl rfl (by show 2 * 0 + _ ≤ _; exact Nat.le_of_eq rfl) (hb hby dd_prog_38m1_21) (by decide) (by decide)
  obtain ⟨rfl, N7q, e7⟩ := hQ7
  have N7 := Fr.app N5 N7q
  refine own_stW st7 ?_
  show own_GW p e below s _ _ _ (T7.setTop (mkF m 24 #[.val (.ref a), .val (.ref tk), .val (.ref cp), .val (.ref iv)] [(.ref iv)]))
  refine own_stW (fun zt zk => XS.pop X7.here hx rfl (hb hby dd_prog_38m1_24) rfl rfl zk) ?_
  show own_GW p e below s _ _ _ (T7.setTop (mkF m 25 #[.val (.ref a), .val (.ref tk), .val (.ref cp), .val (.ref iv)] []))
  refine own_stW (fun zt zk => XS.aloadN X7.here hx rfl (hb hby dd_prog_38m1_25) rfl rfl zk) ?_
  show own_GW p e below s _ _ _ (T7.setTop (mkF m 26 #[.val (.ref a), .val (.ref tk), .val (.ref cp), .val (.ref iv)] [(.ref a)]))
  refine own_stW (fun zt zk => XS.aloadN X7.here hx rfl (hb hby dd_prog_38m1_26) rfl rfl zk) ?_
  show own_GW p e below s _ _ _ (T7.setTop (mkF m 27 #[.val (.ref a), .val (.ref tk), .val (.ref cp), .val (.ref iv)] [(.ref tk), (.ref a)]))
  have F8 : Fld Z h6 a "com/example/outfall/outfall/rules/PumpingSchedule$Period" "tanks" "Lcom/example/outfall/outfall/rules/PumpingSchedule$Range;" .null := (((p1_.ext E2).ext E4).ext E6)
  have E9 : Exa Z h6 a "com/example/outfall/outfall/rules/PumpingSchedule$Period" := (((p0_.ext E2).ext E4).ext E6)
  obtain ⟨T10, h10, X10, e10, W10, st10⟩ := putF X7 hx hZ hown (host := "") (Or.inl (hw _ (List.mem_of_getElem? (i := 89) rfl))) Via.refl e7 F8 E9 (Or.inr ⟨(hw _ (List.mem_of_getElem? (i := 90) rfl)), rfl, hnm⟩) (hw _ (List.mem_of_getElem? (i := 79) rfl)) (ty := (.object "com/example/outfall/outfall/rules/PumpingSchedule$Range")) (by decide) rfl rfl (g := (mkF m 27 #[.val (.ref a), .val (.ref tk), .val (.ref cp), .val (.ref iv)] [(.ref tk), (.ref a)])) rfl rfl (hb hby dd_prog_38m1_27)
  refine own_stW st10 ?_
  have N10 := Fr.snoc X10 N7 p4_
  show own_GW p e below s _ _ _ (T10.setTop (mkF m 30 #[.val (.ref a), .val (.ref tk), .val (.ref cp), .val (.ref iv)] []))
  refine own_stW (fun zt zk => XS.aloadN X10.here hx rfl (hb hby dd_prog_38m1_30) rfl rfl zk) ?_
  show own_GW p e below s _ _ _ (T10.setTop (mkF m 31 #[.val (.ref a), .val (.ref tk), .val (.ref cp), .val (.ref iv)] [(.ref a)]))
  refine own_stW (fun zt zk => XS.aloadN X10.here hx rfl (hb hby dd_prog_38m1_31) rfl rfl zk) ?_
  show own_GW p e below s _ _ _ (T10.setTop (mkF m 32 #[.val (.ref a), .val (.ref tk), .val (.ref cp), .val (.ref iv)] [(.ref cp), (.ref a)]))
  have F11 : Fld Z h10 a "com/example/outfall/outfall/rules/PumpingSchedule$Period" "capacity" "Lcom/example/outfall/outfall/rules/PumpingSchedule$Range;" .null := (Fld.other W10 (((p2_.ext E2).ext E4).ext E6) (Or.inr (slot_ne (Or.inr (hw _ (List.mem_of_getElem? (i := 92) rfl))) (Or.inr (hw _ (List.mem_of_getElem? (i := 90) rfl))) (by decide) (t := (.object "com/example/outfall/outfall/rules/PumpingSchedule$Range")) (t' := (.object "com/example/outfall/outfall/rules/PumpingSchedule$Range")) (by decide) (by decide))))
  have E12 : Exa Z h10 a "com/example/outfall/outfall/rules/PumpingSchedule$Period" := (E9.wr W10)
  obtain ⟨T13, h13, X13, e13, W13, st13⟩ := putF X10 hx hZ hown (host := "") (Or.inl (hw _ (List.mem_of_getElem? (i := 91) rfl))) Via.refl e10 F11 E12 (Or.inr ⟨(hw _ (List.mem_of_getElem? (i := 92) rfl)), rfl, hnm⟩) (hw _ (List.mem_of_getElem? (i := 79) rfl)) (ty := (.object "com/example/outfall/outfall/rules/PumpingSchedule$Range")) (by decide) rfl rfl (g := (mkF m 32 #[.val (.ref a), .val (.ref tk), .val (.ref cp), .val (.ref iv)] [(.ref cp), (.ref a)])) rfl rfl (hb hby dd_prog_38m1_32)
  refine own_stW st13 ?_
  have N13 := Fr.snoc X13 N10 p4_
  show own_GW p e below s _ _ _ (T13.setTop (mkF m 35 #[.val (.ref a), .val (.ref tk), .val (.ref cp), .val (.ref iv)] []))
  refine own_stW (fun zt zk => XS.aloadN X13.here hx rfl (hb hby dd_prog_38m1_35) rfl rfl zk) ?_
  show own_GW p e below s _ _ _ (T13.setTop (mkF m 36 #[.val (.ref a), .val (.ref tk), .val (.ref cp), .val (.ref iv)] [(.ref a)]))
  refine own_stW (fun zt zk => XS.aloadN X13.here hx rfl (hb hby dd_prog_38m1_36) rfl rfl zk) ?_
  show own_GW p e below s _ _ _ (T13.setTop (mkF m 37 #[.val (.ref a), .val (.ref tk), .val (.ref cp), .val (.ref iv)] [(.ref iv), (.ref a)]))
  have F14 : Fld Z h13 a "com/example/outfall/outfall/rules/PumpingSchedule$Period" "interval" "Lcom/example/outfall/outfall/rules/PumpingInterval;" .null := (Fld.other W13 (Fld.other W10 (((p3_.ext E2).ext E4).ext E6) (Or.inr (slot_ne (Or.inr (hw _ (List.mem_of_getElem? (i := 94) rfl))) (Or.inr (hw _ (List.mem_of_getElem? (i := 90) rfl))) (by decide) (t := (.object "com/example/outfall/outfall/rules/PumpingInterval")) (t' := (.object "com/example/outfall/outfall/rules/PumpingSchedule$Range")) (by decide) (by decide)))) (Or.inr (slot_ne (Or.inr (hw _ (List.mem_of_getElem? (i := 94) rfl))) (Or.inr (hw _ (List.mem_of_getElem? (i := 92) rfl))) (by decide) (t := (.object "com/example/outfall/outfall/rules/PumpingInterval")) (t' := (.object "com/example/outfall/outfall/rules/PumpingSchedule$Range")) (by decide) (by decide))))
  have E15 : Exa Z h13 a "com/example/outfall/outfall/rules/PumpingSchedule$Period" := (E12.wr W13)
  obtain ⟨T16, h16, X16, e16, W16, st16⟩ := putF X13 hx hZ hown (host := "") (Or.inl (hw _ (List.mem_of_getElem? (i := 93) rfl))) Via.refl e13 F14 E15 (Or.inr ⟨(hw _ (List.mem_of_getElem? (i := 94) rfl)), rfl, hnm⟩) (hw _ (List.mem_of_getElem? (i := 79) rfl)) (ty := (.object "com/example/outfall/outfall/rules/PumpingInterval")) (by decide) rfl rfl (g := (mkF m 37 #[.val (.ref a), .val (.ref tk), .val (.ref cp), .val (.ref iv)] [(.ref iv), (.ref a)])) rfl rfl (hb hby dd_prog_38m1_37)
  refine own_stW st16 ?_
  have N16 := Fr.snoc X16 N13 p4_
  show own_GW p e below s _ _ _ (T16.setTop (mkF m 40 #[.val (.ref a), .val (.ref tk), .val (.ref cp), .val (.ref iv)] []))
  have F17 : Fld Z h16 a "com/example/outfall/outfall/rules/PumpingSchedule$Period" "tanks" "Lcom/example/outfall/outfall/rules/PumpingSchedule$Range;" (.ref tk) := (Fld.other W16 (Fld.other W13 (Fld.same W10 F8) (Or.inr (slot_ne (Or.inr (hw _ (List.mem_of_getElem? (i := 90) rfl))) (Or.inr (hw _ (List.mem_of_getElem? (i := 92) rfl))) (by decide) (t := (.object "com/example/outfall/outfall/rules/PumpingSchedule$Range")) (t' := (.object "com/example/outfall/outfall/rules/PumpingSchedule$Range")) (by decide) (by decide)))) (Or.inr (slot_ne (Or.inr (hw _ (List.mem_of_getElem? (i := 90) rfl))) (Or.inr (hw _ (List.mem_of_getElem? (i := 94) rfl))) (by decide) (t := (.object "com/example/outfall/outfall/rules/PumpingSchedule$Range")) (t' := (.object "com/example/outfall/outfall/rules/PumpingInterval")) (by decide) (by decide))))
  have F18 : Fld Z h16 a "com/example/outfall/outfall/rules/PumpingSchedule$Period" "capacity" "Lcom/example/outfall/outfall/rules/PumpingSchedule$Range;" (.ref cp) := (Fld.other W16 (Fld.same W13 F11) (Or.inr (slot_ne (Or.inr (hw _ (List.mem_of_getElem? (i := 92) rfl))) (Or.inr (hw _ (List.mem_of_getElem? (i := 94) rfl))) (by decide) (t := (.object "com/example/outfall/outfall/rules/PumpingSchedule$Range")) (t' := (.object "com/example/outfall/outfall/rules/PumpingInterval")) (by decide) (by decide))))
  refine own_retVW X16 hx hlk hS (by rw [e16]; exact (Nat.le_trans (Nat.le_trans (Nat.le_trans hk6 (Nat.le_of_eq W10.size.symm)) (Nat.le_of_eq W13.size.symm)) (Nat.le_of_eq W16.size.symm))) hret (hb hby dd_prog_38m1_40) (by decide) (by decide) ?_
  show Q_own_pdi Z a tk cp iv h0 n0 none T16.heap _
  rw [e16]
  exact ⟨rfl, N16, (((((((Keep.refl _ _).ext E2).ext E4).ext E6).wr W10 (Or.inl (List.mem_of_getElem? (i := 0) rfl))).wr W13 (Or.inl (List.mem_of_getElem? (i := 0) rfl))).wr W16 (Or.inl (List.mem_of_getElem? (i := 0) rfl))), F17, F18⟩
theorem own_pn12 : plainFor (⟨"com/example/outfall/outfall/rules/PumpingSchedule$Period", "overlaps", "(Lcom/example/outfall/outfall/rules/PumpingSchedule$Period;)Z"⟩ : MethodName) = true := plainFor_of_name (by first | (simp [plainName, overriddenIn]; done) | decide +kernel)
theorem dd_prog_38m3_0 : decode prog_38_method_3_code 0 = .ok (.aload_n 0, 1) := by decide +kernel
theorem dd_prog_38m3_1 : decode prog_38_method_3_code 1 = .ok (.getfield 19, 3) := by decide +kernel
theorem dd_prog_38m3_4 : decode prog_38_method_3_code 4 = .ok (.aload_n 1, 1) := by decide +kernel
theorem dd_prog_38m3_5 : decode prog_38_method_3_code 5 = .ok (.getfield 19, 3) := by decide +kernel
theorem dd_prog_38m3_8 : decode prog_38_method_3_code 8 = .ok (.invokevirtual 35, 3) := by decide +kernel
theorem own_pd4 : parseMethodDescriptor "(Lcom/example/outfall/outfall/rules/PumpingSchedule$Range;)Z" = some ⟨[(.object "com/example/outfall/outfall/rules/PumpingSchedule$Range")], some .boolean⟩ := by decide +kernel
theorem dd_prog_38m3_11 : decode prog_38_method_3_code 11 = .ok (.ifCond .eq 21, 3) := by decide +kernel
theorem dd_prog_38m3_14 : decode prog_38_method_3_code 14 = .ok (.aload_n 0, 1) := by decide +kernel
theorem dd_prog_38m3_15 : decode prog_38_method_3_code 15 = .ok (.getfield 24, 3) := by decide +kernel
theorem dd_prog_38m3_18 : decode prog_38_method_3_code 18 = .ok (.aload_n 1, 1) := by decide +kernel
theorem dd_prog_38m3_19 : decode prog_38_method_3_code 19 = .ok (.getfield 24, 3) := by decide +kernel
theorem dd_prog_38m3_22 : decode prog_38_method_3_code 22 = .ok (.invokevirtual 35, 3) := by decide +kernel
theorem dd_prog_38m3_25 : decode prog_38_method_3_code 25 = .ok (.ifCond .eq 7, 3) := by decide +kernel
theorem dd_prog_38m3_28 : decode prog_38_method_3_code 28 = .ok (.iconst 1, 1) := by decide +kernel
theorem dd_prog_38m3_29 : decode prog_38_method_3_code 29 = .ok (.goto 4, 3) := by decide +kernel
theorem dd_prog_38m3_33 : decode prog_38_method_3_code 33 = .ok (.ireturn, 1) := by decide +kernel
theorem dd_prog_38m3_32 : decode prog_38_method_3_code 32 = .ok (.iconst 0, 1) := by decide +kernel
theorem ef_own_pov (m : MethodId) (z0 : Addr) (z1 : Addr) : entryFrame m #[(.ref z0), (.ref z1)] 2 = mkF m 0 #[.val (.ref z0), .val (.ref z1)] [] := by first | (simp [entryFrame, mkF, argsToLocals, Value.category]; done) | rfl
def Q_own_pov (Z : State) (a : Addr) (b : Addr) (ra : Addr) (rb : Addr) (rc : Addr) (rd : Addr) (l1 : Int32) (m1 : Int32) (l2 : Int32) (m2 : Int32) (l3 : Int32) (m3 : Int32) (l4 : Int32) (m4 : Int32) (h0 : Heap) (n0 : Nat) (zv : Option Value) (zh : Heap) (zL : List Loc) : Prop := zv = some (.int (own_b ((¬ (m2 < l1) ∧ ¬ (m1 < l2)) ∧ (¬ (m4 < l3) ∧ ¬ (m3 < l4))))) ∧ Fr n0 zL ∧ zh = h0
set_option maxRecDepth 65536 in
set_option maxHeartbeats 40000000 in
theorem own_pov (l : Launch) (Z : State) (a0 : Array Value) (hw : ∀ d ∈ tables_1, d.before a0 Z = true) (ws : List Jvm.Cond) (a : Addr) (b : Addr) (ra : Addr) (rb : Addr) (rc : Addr) (rd : Addr) (l1 : Int32) (m1 : Int32) (l2 : Int32) (m2 : Int32) (l3 : Int32) (m3 : Int32) (l4 : Int32) (m4 : Int32) (h0 : Heap) (n0 : Nat) (Z0 : n0 ≤ h0.size) (p0_ : Fld Z h0 a "com/example/outfall/outfall/rules/PumpingSchedule$Period" "tanks" "Lcom/example/outfall/outfall/rules/PumpingSchedule$Range;" (.ref ra)) (p1_ : Fld Z h0 b "com/example/outfall/outfall/rules/PumpingSchedule$Period" "tanks" "Lcom/example/outfall/outfall/rules/PumpingSchedule$Range;" (.ref rb)) (p2_ : Fld Z h0 a "com/example/outfall/outfall/rules/PumpingSchedule$Period" "capacity" "Lcom/example/outfall/outfall/rules/PumpingSchedule$Range;" (.ref rc)) (p3_ : Fld Z h0 b "com/example/outfall/outfall/rules/PumpingSchedule$Period" "capacity" "Lcom/example/outfall/outfall/rules/PumpingSchedule$Range;" (.ref rd)) (p4_ : Exa Z h0 ra "com/example/outfall/outfall/rules/PumpingSchedule$Range") (p5_ : Fld Z h0 ra "com/example/outfall/outfall/rules/PumpingSchedule$Range" "least" "I" (.int l1)) (p6_ : Fld Z h0 ra "com/example/outfall/outfall/rules/PumpingSchedule$Range" "most" "I" (.int m1)) (p7_ : Exa Z h0 rb "com/example/outfall/outfall/rules/PumpingSchedule$Range") (p8_ : Fld Z h0 rb "com/example/outfall/outfall/rules/PumpingSchedule$Range" "least" "I" (.int l2)) (p9_ : Fld Z h0 rb "com/example/outfall/outfall/rules/PumpingSchedule$Range" "most" "I" (.int m2)) (p10_ : Exa Z h0 rc "com/example/outfall/outfall/rules/PumpingSchedule$Range") (p11_ : Fld Z h0 rc "com/example/outfall/outfall/rules/PumpingSchedule$Range" "least" "I" (.int l3)) (p12_ : Fld Z h0 rc "com/example/outfall/outfall/rules/PumpingSchedule$Range" "most" "I" (.int m3)) (p13_ : Exa Z h0 rd "com/example/outfall/outfall/rules/PumpingSchedule$Range") (p14_ : Fld Z h0 rd "com/example/outfall/outfall/rules/PumpingSchedule$Range" "least" "I" (.int l4)) (p15_ : Fld Z h0 rd "com/example/outfall/outfall/rules/PumpingSchedule$Range" "most" "I" (.int m4)) :
    MetFree l (⟨"com/example/outfall/outfall/rules/PumpingSchedule$Period", "overlaps", "(Lcom/example/outfall/outfall/rules/PumpingSchedule$Period;)Z"⟩ : MethodName) (head1 (Jvm.Cond.code (⟨"com/example/outfall/outfall/rules/PumpingSchedule$Period", "overlaps", "(Lcom/example/outfall/outfall/rules/PumpingSchedule$Period;)Z"⟩ : MethodName) prog_38_method_3_code 2 (some .boolean) :: ws) ({ frames := 1, cells := 0, slots := 0, locals := 13 } : Room)) (fun za zU => za = #[(.ref a), (.ref b)] ∧ Z.Warmed39 zU.vm ∧ zU.heap = h0) (fun _ _ _ _ _ => True) (fun _ zU zo zU' => ∃ zv zL, zo = .returned zv ∧ Q_own_pov Z a b ra rb rc rd l1 m1 l2 m2 l3 m3 l4 m4 h0 n0 zv zU'.heap zL ∧ FrameEnd zU zo zU' zL ({ frames := 1, cells := 0, slots := 0, locals := 13 } : Room).cells ({ frames := 1, cells := 0, slots := 0, locals := 13 } : Room).slots) := by
  refine own_met (y := (⟨"com/example/outfall/outfall/rules/PumpingSchedule$Period", "overlaps", "(Lcom/example/outfall/outfall/rules/PumpingSchedule$Period;)Z"⟩ : MethodName)) own_pn12 ?_
  intro p e s m below meth c T0 hx hby hml hown hnm hret hlk hZ e0 X0
  have N0 := Fr.nil n0
  refine own_st (fun zt zk => castTop (ef_own_pov m a b) zk) ?_
  show own_G p e below s _ _ _ (T0.setTop (mkF m 0 #[.val (.ref a), .val (.ref b)] []))
  refine own_st (fun zt zk => XS.aloadN X0.here hx rfl (hb hby dd_prog_38m3_0) rfl rfl zk) ?_
  show own_G p e below s _ _ _ (T0.setTop (mkF m 1 #[.val (.ref a), .val (.ref b)] [(.ref a)]))
  obtain ⟨T1, X1, e1, st1⟩ := getF X0 hx hZ hown (host := "") (Or.inl (hw _ (List.mem_of_getElem? (i := 89) rfl))) Via.refl e0 p0_ (g := (mkF m 1 #[.val (.ref a), .val (.ref b)] [(.ref a)])) rfl rfl (hb hby dd_prog_38m3_1)
  refine own_st st1 ?_
  show own_G p e below s _ _ _ (T1.setTop (mkF m 4 #[.val (.ref a), .val (.ref b)] [(.ref ra)]))
  refine own_st (fun zt zk => XS.aloadN X1.here hx rfl (hb hby dd_prog_38m3_4) rfl rfl zk) ?_
  show own_G p e below s _ _ _ (T1.setTop (mkF m 5 #[.val (.ref a), .val (.ref b)] [(.ref b), (.ref ra)]))
  obtain ⟨T2, X2, e2, st2⟩ := getF X1 hx hZ hown (host := "") (Or.inl (hw _ (List.mem_of_getElem? (i := 89) rfl))) Via.refl e1 p1_ (g := (mkF m 5 #[.val (.ref a), .val (.ref b)] [(.ref b), (.ref ra)])) rfl rfl (hb hby dd_prog_38m3_5)
  refine own_st st2 ?_
  show own_G p e below s _ _ _ (T2.setTop (mkF m 8 #[.val (.ref a), .val (.ref b)] [(.ref rb), (.ref ra)]))
  obtain ⟨_, T3, L3, X3, hQ3, st3⟩ := own_callV X2 hx hZ (C := "com/example/outfall/outfall/rules/PumpingSchedule$Range") (y := (⟨"com/example/outfall/outfall/rules/PumpingSchedule$Range", "overlaps", "(Lcom/example/outfall/outfall/rules/PumpingSchedule$Range;)Z"⟩ : MethodName)) (z := (⟨"com/example/outfall/outfall/rules/PumpingSchedule$Range", "overlaps", "(Lcom/example/outfall/outfall/rules/PumpingSchedule$Range;)Z"⟩ : MethodName)) (a := ra) (argsL := [(.ref rb)]) (rest := []) 0 hown (hw _ (List.mem_of_getElem? (i := 103) rfl)) (hw _ (List.mem_of_getElem? (i := 104) rfl)) (own_nf hZ (hw _ (List.mem_of_getElem? (i := 106) rfl))) (hw _ (List.mem_of_getElem? (i := 106) rfl)) (hw _ (List.mem_of_getElem? (i := 105) rfl)) (hw _ (List.mem_of_getElem? (i := 54) rfl)) (hw _ (List.mem_of_getElem? (i := 107) rfl)) (by decide) (own_rov l Z a0 hw [] ra rb l1 m1 l2 m2 h0 n0 Z0 p5_ p6_ p8_ p9_) (by decide) (by decide) e2 p4_ (g := (mkF m 8 #[.val (.ref a), .val (.ref b)] [(.ref rb), (.ref ra)])) rfl (by rw [hml]; rfl) own_pd4 rfl rfl (by show 2 * 0 + _ ≤ _; exact Nat.le_of_eq rfl) (hb hby dd_prog_38m3_8) (by decide) (by decide)
  obtain ⟨rfl, N3q, e3⟩ := hQ3
  have N3 := Fr.app N0 N3q
  refine own_st st3 ?_
  show own_G p e below s _ _ _ (T3.setTop (mkF m 11 #[.val (.ref a), .val (.ref b)] [(.int (own_b (¬ (m2 < l1) ∧ ¬ (m1 < l2))))]))
  by_cases hc11_4 : (¬ (m2 < l1) ∧ ¬ (m1 < l2))
  · refine own_st (fun zt zk => XS.ifNo X3.here hx rfl (hb hby dd_prog_38m3_11) rfl ((if0 _ _).trans (feq (own_bn hc11_4)).1) zk) ?_
    show own_G p e below s _ _ _ (T3.setTop (mkF m 14 #[.val (.ref a), .val (.ref b)] []))
    refine own_st (fun zt zk => XS.aloadN X3.here hx rfl (hb hby dd_prog_38m3_14) rfl rfl zk) ?_
    show own_G p e below s _ _ _ (T3.setTop (mkF m 15 #[.val (.ref a), .val (.ref b)] [(.ref a)]))
    obtain ⟨T5, X5, e5, st5⟩ := getF X3 hx hZ hown (host := "") (Or.inl (hw _ (List.mem_of_getElem? (i := 91) rfl))) Via.refl e3 p2_ (g := (mkF m 15 #[.val (.ref a), .val (.ref b)] [(.ref a)])) rfl rfl (hb hby dd_prog_38m3_15)
    refine own_st st5 ?_
    show own_G p e below s _ _ _ (T5.setTop (mkF m 18 #[.val (.ref a), .val (.ref b)] [(.ref rc)]))
    refine own_st (fun zt zk => XS.aloadN X5.here hx rfl (hb hby dd_prog_38m3_18) rfl rfl zk) ?_
    show own_G p e below s _ _ _ (T5.setTop (mkF m 19 #[.val (.ref a), .val (.ref b)] [(.ref b), (.ref rc)]))
    obtain ⟨T6, X6, e6, st6⟩ := getF X5 hx hZ hown (host := "") (Or.inl (hw _ (List.mem_of_getElem? (i := 91) rfl))) Via.refl e5 p3_ (g := (mkF m 19 #[.val (.ref a), .val (.ref b)] [(.ref b), (.ref rc)])) rfl rfl (hb hby dd_prog_38m3_19)
    refine own_st st6 ?_
    show own_G p e below s _ _ _ (T6.setTop (mkF m 22 #[.val (.ref a), .val (.ref b)] [(.ref rd), (.ref rc)]))
    obtain ⟨_, T7, L7, X7, hQ7, st7⟩ := own_callV X6 hx hZ (C := "com/example/outfall/outfall/rules/PumpingSchedule$Range") (y := (⟨"com/example/outfall/outfall/rules/PumpingSchedule$Range", "overlaps", "(Lcom/example/outfall/outfall/rules/PumpingSchedule$Range;)Z"⟩ : MethodName)) (z := (⟨"com/example/outfall/outfall/rules/PumpingSchedule$Range", "overlaps", "(Lcom/example/outfall/outfall/rules/PumpingSchedule$Range;)Z"⟩ : MethodName)) (a := rc) (argsL := [(.ref rd)]) (rest := []) 0 hown (hw _ (List.mem_of_getElem? (i := 103) rfl)) (hw _ (List.mem_of_getElem? (i := 104) rfl)) (own_nf hZ (hw _ (List.mem_of_getElem? (i := 106) rfl))) (hw _ (List.mem_of_getElem? (i := 106) rfl)) (hw _ (List.mem_of_getElem? (i := 105) rfl)) (hw _ (List.mem_of_getElem? (i := 54) rfl)) (hw _ (List.mem_of_getElem? (i := 107) rfl)) (by decide) (own_rov l Z a0 hw [] rc rd l3 m3 l4 m4 h0 n0 Z0 p11_ p12_ p14_ p15_) (by decide) (by decide) e6 p10_ (g := (mkF m 22 #[.val (.ref a), .val (.ref b)] [(.ref rd), (.ref rc)])) rfl (by rw [hml]; rfl) own_pd4 rfl rfl (by show 2 * 0 + _ ≤ _; exact Nat.le_of_eq rfl) (hb hby dd_prog_38m3_22) (by decide) (by decide)
    obtain ⟨rfl, N7q, e7⟩ := hQ7
    have N7 := Fr.app N3 N7q
    refine own_st st7 ?_
    show own_G p e below s _ _ _ (T7.setTop (mkF m 25 #[.val (.ref a), .val (.ref b)] [(.int (own_b (¬ (m4 < l3) ∧ ¬ (m3 < l4))))]))
    by_cases hc25_8 : (¬ (m4 < l3) ∧ ¬ (m3 < l4))
    · refine own_st (fun zt zk => XS.ifNo X7.here hx rfl (hb hby dd_prog_38m3_25) rfl ((if0 _ _).trans (feq (own_bn hc25_8)).1) zk) ?_
      show own_G p e below s _ _ _ (T7.setTop (mkF m 28 #[.val (.ref a), .val (.ref b)] []))
      refine own_st (fun zt zk => XS.iconst X7.here hx rfl (hb hby dd_prog_38m3_28) zk) ?_
      show own_G p e below s _ _ _ (T7.setTop (mkF m 29 #[.val (.ref a), .val (.ref b)] [(.int (1 : Int32))]))
      refine own_st (fun zt zk => XS.goto X7.here hx rfl (pc0 := 29) (pc' := 33) rfl (hb hby dd_prog_38m3_29) (by decide) (by decide) zk) ?_
      show own_G p e below s _ _ _ (T7.setTop (mkF m 33 #[.val (.ref a), .val (.ref b)] [(.int (1 : Int32))]))
      refine own_retZ X7 hx hlk hret (by decide) (hb hby dd_prog_38m3_33) (by decide) (by decide) ?_
      show Q_own_pov Z a b ra rb rc rd l1 m1 l2 m2 l3 m3 l4 m4 h0 n0 (some (.int (1 : Int32))) T7.heap _
      rw [e7]
      exact ⟨(congrArg (fun z => some (Value.int z)) (own_b1 ⟨hc11_4, hc25_8⟩).symm), N7, rfl⟩
    · refine own_st (fun zt zk => XS.ifYes X7.here hx rfl (pc0 := 25) (pc' := 32) rfl (hb hby dd_prog_38m3_25) rfl ((if0 _ _).trans (teq (own_b0 hc25_8)).1) (by decide) (by decide) zk) ?_
      show own_G p e below s _ _ _ (T7.setTop (mkF m 32 #[.val (.ref a), .val (.ref b)] []))
      refine own_st (fun zt zk => XS.iconst X7.here hx rfl (hb hby dd_prog_38m3_32) zk) ?_
      show own_G p e below s _ _ _ (T7.setTop (mkF m 33 #[.val (.ref a), .val (.ref b)] [(.int (0 : Int32))]))
      refine own_retZ X7 hx hlk hret (by decide) (hb hby dd_prog_38m3_33) (by decide) (by decide) ?_
      show Q_own_pov Z a b ra rb rc rd l1 m1 l2 m2 l3 m3 l4 m4 h0 n0 (some (.int (0 : Int32))) T7.heap _
      rw [e7]
      exact ⟨(congrArg (fun z => some (Value.int z)) (own_b0 (fun q => hc25_8 q.2)).symm), N7, rfl⟩
  · refine own_st (fun zt zk => XS.ifYes X3.here hx rfl (pc0 := 11) (pc' := 32) rfl (hb hby dd_prog_38m3_11) rfl ((if0 _ _).trans (teq (own_b0 hc11_4)).1) (by decide) (by decide) zk) ?_
    show own_G p e below s _ _ _ (T3.setTop (mkF m 32 #[.val (.ref a), .val (.ref b)] []))
    refine own_st (fun zt zk => XS.iconst X3.here hx rfl (hb hby dd_prog_38m3_32) zk) ?_
    show own_G p e below s _ _ _ (T3.setTop (mkF m 33 #[.val (.ref a), .val (.ref b)] [(.int (0 : Int32))]))
    refine own_retZ X3 hx hlk hret (by decide) (hb hby dd_prog_38m3_33) (by decide) (by decide) ?_
    show Q_own_pov Z a b ra rb rc rd l1 m1 l2 m2 l3 m3 l4 m4 h0 n0 (some (.int (0 : Int32))) T3.heap _
    rw [e3]
    exact ⟨(congrArg (fun z => some (Value.int z)) (own_b0 (fun q => hc11_4 q.1)).symm), N3, rfl⟩
theorem own_pn13 : plainFor (⟨"com/example/outfall/outfall/rules/PeriodOverlapsPinLaw", "law", "(JJJJ)Z"⟩ : MethodName) = true := plainFor_of_name (by first | (simp [plainName, overriddenIn]; done) | decide +kernel)
theorem own_pd5 : parseMethodDescriptor "(ILcom/example/outfall/outfall/rules/Span$Unit;)V" = some ⟨[.int, (.object "com/example/outfall/outfall/rules/Span$Unit")], none⟩ := by decide +kernel
theorem own_pd6 : parseMethodDescriptor "(Lcom/example/outfall/outfall/rules/Span;Ljava/lang/String;Ljava/lang/String;)V" = some ⟨[(.object "com/example/outfall/outfall/rules/Span"), (.object "java/lang/String"), (.object "java/lang/String")], none⟩ := by decide +kernel
theorem own_pd7 : parseMethodDescriptor "(II)V" = some ⟨[.int, .int], none⟩ := by decide +kernel
theorem own_pd8 : parseMethodDescriptor "(Lcom/example/outfall/outfall/rules/PumpingSchedule$Range;Lcom/example/outfall/outfall/rules/PumpingSchedule$Range;Lcom/example/outfall/outfall/rules/PumpingInterval;)V" = some ⟨[(.object "com/example/outfall/outfall/rules/PumpingSchedule$Range"), (.object "com/example/outfall/outfall/rules/PumpingSchedule$Range"), (.object "com/example/outfall/outfall/rules/PumpingInterval")], none⟩ := by decide +kernel
theorem own_pd9 : parseMethodDescriptor "(JJ)Z" = some ⟨[.long, .long], some .boolean⟩ := by decide +kernel
theorem own_pd10 : parseMethodDescriptor "(Lcom/example/outfall/outfall/rules/PumpingSchedule$Period;)Z" = some ⟨[(.object "com/example/outfall/outfall/rules/PumpingSchedule$Period")], some .boolean⟩ := by decide +kernel
theorem ef_own_law (m : MethodId) (z0 : Int64) (z1 : Int64) (z2 : Int64) (z3 : Int64) : entryFrame m #[(.long z0), (.long z1), (.long z2), (.long z3)] maxLocals = mkF m 0 #[.val (.long z0), .second, .val (.long z1), .second, .val (.long z2), .second, .val (.long z3), .second, .unset, .unset, .unset, .unset, .unset, .unset, .unset, .unset, .unset] [] := by first | (simp [entryFrame, mkF, argsToLocals, Value.category, maxLocals]; done) | rfl
def Q_own_law (Z : State) (t1 : Int64) (c1 : Int64) (t2 : Int64) (c2 : Int64) (dy : Addr) (h0 : Heap) (n0 : Nat) (zv : Option Value) (zh : Heap) (zL : List Loc) : Prop := zv = some (.int (1 : Int32)) ∧ Fr n0 zL
set_option maxRecDepth 65536 in
set_option maxHeartbeats 40000000 in
theorem own_law (l : Launch) (Z : State) (a0 : Array Value) (hw : ∀ d ∈ tables_1, d.before a0 Z = true) (ws : List Jvm.Cond) (t1 : Int64) (c1 : Int64) (t2 : Int64) (c2 : Int64) (dy : Addr) (h0 : Heap) (n0 : Nat) (Z0 : n0 ≤ h0.size) (p0_ : Sta Z Z.heap "com/example/outfall/outfall/rules/Span$Unit" "DAYS" "Lcom/example/outfall/outfall/rules/Span$Unit;" (.ref dy)) (p1_ : Old Z n0 h0) :
    MetFree l x (head1 (Jvm.Cond.code x code maxLocals ret :: ws) room_1) (fun za zU => za = #[(.long t1), (.long c1), (.long t2), (.long c2)] ∧ Z.Warmed39 zU.vm ∧ zU.heap = h0) (fun _ _ _ _ _ => True) (fun _ zU zo zU' => ∃ zv zL, zo = .returned zv ∧ Q_own_law Z t1 c1 t2 c2 dy h0 n0 zv zU'.heap zL ∧ ReturnedEndW zU zo zU' zL 32 331) := by
  refine own_metW (y := x) own_pn13 ?_
  intro p e s m below meth c T0 hx hby hml hown hnm hret hlk hZ e0 X0 hS
  have N0 := Fr.nil n0
  refine own_stW (fun zt zk => castTop (ef_own_law m t1 c1 t2 c2) zk) ?_
  show own_GW p e below s _ _ _ (T0.setTop (mkF m 0 #[.val (.long t1), .second, .val (.long c1), .second, .val (.long t2), .second, .val (.long c2), .second, .unset, .unset, .unset, .unset, .unset, .unset, .unset, .unset, .unset] []))
  obtain ⟨T1, h1, X1, e1, E1, A1, D1, -, st1⟩ := newO X0 hx hZ hown (hw _ (List.mem_of_getElem? (i := 0) rfl)) (hw _ (List.mem_of_getElem? (i := 1) rfl)) (hw _ (List.mem_of_getElem? (i := 2) rfl)) e0 (g := (mkF m 0 #[.val (.long t1), .second, .val (.long c1), .second, .val (.long t2), .second, .val (.long c2), .second, .unset, .unset, .unset, .unset, .unset, .unset, .unset, .unset, .unset] [])) rfl (hb hby at_0) (by decide) (by decide)
  obtain ⟨b1, g1⟩ : ∃ z, z = h0.size := ⟨_, rfl⟩
  rw [← g1] at A1 D1 st1
  have ge1 : n0 ≤ b1 := Nat.le_trans Z0 (Nat.le_of_eq g1.symm)
  have sz1 : h0.size ≤ b1 := Nat.le_trans (Nat.le_refl h0.size) (Nat.le_of_eq g1.symm)
  refine own_stW st1 ?_
  show own_GW p e below s _ _ _ (T1.setTop (mkF m 3 #[.val (.long t1), .second, .val (.long c1), .second, .val (.long t2), .second, .val (.long c2), .second, .unset, .unset, .unset, .unset, .unset, .unset, .unset, .unset, .unset] [(.ref b1)]))
  refine own_stW (fun zt zk => XS.dup X1.here hx rfl (hb hby at_3) rfl rfl zk) ?_
  show own_GW p e below s _ _ _ (T1.setTop (mkF m 4 #[.val (.long t1), .second, .val (.long c1), .second, .val (.long t2), .second, .val (.long c2), .second, .unset, .unset, .unset, .unset, .unset, .unset, .unset, .unset, .unset] [(.ref b1), (.ref b1)]))
  refine own_stW (fun zt zk => XS.iconst X1.here hx rfl (hb hby at_4) zk) ?_
  show own_GW p e below s _ _ _ (T1.setTop (mkF m 5 #[.val (.long t1), .second, .val (.long c1), .second, .val (.long t2), .second, .val (.long c2), .second, .unset, .unset, .unset, .unset, .unset, .unset, .unset, .unset, .unset] [(.int (1 : Int32)), (.ref b1), (.ref b1)]))
  obtain ⟨T2, X2, e2, st2⟩ := getS X1 hx hZ (host := "") hown (hw _ (List.mem_of_getElem? (i := 3) rfl)) Via.refl e1 (Sta.ext (p1_.ext E1).2 p0_) (g := (mkF m 5 #[.val (.long t1), .second, .val (.long c1), .second, .val (.long t2), .second, .val (.long c2), .second, .unset, .unset, .unset, .unset, .unset, .unset, .unset, .unset, .unset] [(.int (1 : Int32)), (.ref b1), (.ref b1)])) rfl (hb hby at_5)
  refine own_stW st2 ?_
  show own_GW p e below s _ _ _ (T2.setTop (mkF m 8 #[.val (.long t1), .second, .val (.long c1), .second, .val (.long t2), .second, .val (.long c2), .second, .unset, .unset, .unset, .unset, .unset, .unset, .unset, .unset, .unset] [(.ref dy), (.int (1 : Int32)), (.ref b1), (.ref b1)]))
  obtain ⟨_, T3, L3, X3, hQ3, hS, hZ, hown, st3⟩ := own_callIW X2 hx hZ hS (y := (⟨"com/example/outfall/outfall/rules/Span", "<init>", "(ILcom/example/outfall/outfall/rules/Span$Unit;)V"⟩ : MethodName)) (a := b1) (argsL := [(.int (1 : Int32)), (.ref dy)]) (rest := [(.ref b1)]) 1 rfl hown (hw _ (List.mem_of_getElem? (i := 6) rfl)) (hw _ (List.mem_of_getElem? (i := 7) rfl)) (hw _ (List.mem_of_getElem? (i := 2) rfl)) (hw _ (List.mem_of_getElem? (i := 8) rfl)) (by decide) (own_spi l Z a0 hw [] b1 (1 : Int32) dy h1 n0 (Nat.le_trans Z0 E1.1) A1 (D1 (Or.inr (hw _ (List.mem_of_getElem? (i := 30) rfl))) (ty := .int) (by decide)) (D1 (Or.inr (hw _ (List.mem_of_getElem? (i := 32) rfl))) (ty := (.object "com/example/outfall/outfall/rules/Span$Unit")) (by decide)) ge1 (by decide)) (by decide) (by decide) e2 (Nat.zero_le _) (g := (mkF m 8 #[.val (.long t1), .second, .val (.long c1), .second, .val (.long t2), .second, .val (.long c2), .second, .unset, .unset, .unset, .unset, .unset, .unset, .unset, .unset, .unset] [(.ref dy), (.int (1 : Int32)), (.ref b1), (.ref b1)])) rfl (by rw [hml]; rfl) own_pd5 rfl rfl (by show 2 * 0 + _ ≤ _; exact Nat.le_of_eq rfl) (hb hby at_8) (by decide) (by decide)
  obtain ⟨rfl, N3q, K3, q3_0⟩ := hQ3
  have N3 := Fr.app N0 N3q
  refine own_stW st3 ?_
  show own_GW p e below s _ _ _ (T3.setTop (mkF m 11 #[.val (.long t1), .second, .val (.long c1), .second, .val (.long t2), .second, .val (.long c2), .second, .unset, .unset, .unset, .unset, .unset, .unset, .unset, .unset, .unset] [(.ref b1)]))
  refine own_stW (fun zt zk => XS.astore X3.here hx rfl (hb hby at_11) rfl rfl (l' := #[.val (.long t1), .second, .val (.long c1), .second, .val (.long t2), .second, .val (.long c2), .second, .val (.ref b1), .unset, .unset, .unset, .unset, .unset, .unset, .unset, .unset]) rfl zk) ?_
  show own_GW p e below s _ _ _ (T3.setTop (mkF m 13 #[.val (.long t1), .second, .val (.long c1), .second, .val (.long t2), .second, .val (.long c2), .second, .val (.ref b1), .unset, .unset, .unset, .unset, .unset, .unset, .unset, .unset] []))
  have E5 : Exa Z T3.heap b1 "com/example/outfall/outfall/rules/Span" := (A1.keep K3)
  obtain ⟨T4, h4, X4, e4, E4, A4, D4, -, st4⟩ := newO X3 hx hZ hown (hw _ (List.mem_of_getElem? (i := 33) rfl)) (hw _ (List.mem_of_getElem? (i := 34) rfl)) (hw _ (List.mem_of_getElem? (i := 35) rfl)) rfl (g := (mkF m 13 #[.val (.long t1), .second, .val (.long c1), .second, .val (.long t2), .second, .val (.long c2), .second, .val (.ref b1), .unset, .unset, .unset, .unset, .unset, .unset, .unset, .unset] [])) rfl (hb hby at_13) (by decide) (by decide)
  obtain ⟨b4, g4⟩ : ∃ z, z = T3.heap.size := ⟨_, rfl⟩
  rw [← g4] at A4 D4 st4
  have ne4_b1 : b1 ≠ b4 := by rw [g4]; exact Nat.ne_of_lt E5.lt
  have ge4 : n0 ≤ b4 := Nat.le_trans (Nat.le_trans (Nat.le_trans Z0 E1.1) K3.1) (Nat.le_of_eq g4.symm)
  have sz4 : h0.size ≤ b4 := Nat.le_trans (Nat.le_trans (Nat.le_trans (Nat.le_refl h0.size) E1.1) K3.1) (Nat.le_of_eq g4.symm)
  refine own_stW st4 ?_
  show own_GW p e below s _ _ _ (T4.setTop (mkF m 16 #[.val (.long t1), .second, .val (.long c1), .second, .val (.long t2), .second, .val (.long c2), .second, .val (.ref b1), .unset, .unset, .unset, .unset, .unset, .unset, .unset, .unset] [(.ref b4)]))
  refine own_stW (fun zt zk => XS.dup X4.here hx rfl (hb hby at_16) rfl rfl zk) ?_
  show own_GW p e below s _ _ _ (T4.setTop (mkF m 17 #[.val (.long t1), .second, .val (.long c1), .second, .val (.long t2), .second, .val (.long c2), .second, .val (.ref b1), .unset, .unset, .unset, .unset, .unset, .unset, .unset, .unset] [(.ref b4), (.ref b4)]))
  refine own_stW (fun zt zk => XS.aload X4.here hx rfl (hb hby at_17) rfl rfl zk) ?_
  show own_GW p e below s _ _ _ (T4.setTop (mkF m 19 #[.val (.long t1), .second, .val (.long c1), .second, .val (.long t2), .second, .val (.long c2), .second, .val (.ref b1), .unset, .unset, .unset, .unset, .unset, .unset, .unset, .unset] [(.ref b1), (.ref b4), (.ref b4)]))
  obtain ⟨a6, T6, h6, k6, X6, e6, E6, hS, hk6, hZ, hown, st6⟩ := ldcS X4 hx hZ hown (hw _ (List.mem_of_getElem? (i := 36) rfl)) (fun d hd => hw d (own_sub d hd)) e4 hS (Nat.le_trans (Nat.le_refl T3.heap.size) E4.1) (g := (mkF m 19 #[.val (.long t1), .second, .val (.long c1), .second, .val (.long t2), .second, .val (.long c2), .second, .val (.ref b1), .unset, .unset, .unset, .unset, .unset, .unset, .unset, .unset] [(.ref b1), (.ref b4), (.ref b4)])) rfl (hb hby at_19) (n := 4) (by decide +kernel) (by decide) (by decide) (by decide)
  refine own_stW st6 ?_
  show own_GW p e below s _ _ _ (T6.setTop (mkF m 21 #[.val (.long t1), .second, .val (.long c1), .second, .val (.long t2), .second, .val (.long c2), .second, .val (.ref b1), .unset, .unset, .unset, .unset, .unset, .unset, .unset, .unset] [(.ref a6), (.ref b1), (.ref b4), (.ref b4)]))
  obtain ⟨a7, T7, h7, k7, X7, e7, E7, hS, hk7, hZ, hown, st7⟩ := ldcS X6 hx hZ hown (hw _ (List.mem_of_getElem? (i := 37) rfl)) (fun d hd => hw d (own_sub d hd)) e6 hS hk6 (g := (mkF m 21 #[.val (.long t1), .second, .val (.long c1), .second, .val (.long t2), .second, .val (.long c2), .second, .val (.ref b1), .unset, .unset, .unset, .unset, .unset, .unset, .unset, .unset] [(.ref a6), (.ref b1), (.ref b4), (.ref b4)])) rfl (hb hby at_21) (n := 4) (by decide +kernel) (by decide) (by decide) (by decide)
  refine own_stW st7 ?_
  show own_GW p e below s _ _ _ (T7.setTop (mkF m 23 #[.val (.long t1), .second, .val (.long c1), .second, .val (.long t2), .second, .val (.long c2), .second, .val (.ref b1), .unset, .unset, .unset, .unset, .unset, .unset, .unset, .unset] [(.ref a7), (.ref a6), (.ref b1), (.ref b4), (.ref b4)]))
  have F9 : Fld Z h7 b4 "com/example/outfall/outfall/rules/PumpingInterval" "every" "Lcom/example/outfall/outfall/rules/Span;" .null := (((D4 (Or.inr (hw _ (List.mem_of_getElem? (i := 47) rfl))) (ty := (.object "com/example/outfall/outfall/rules/Span")) (by decide)).ext E6).ext E7)
  have F10 : Fld Z h7 b4 "com/example/outfall/outfall/rules/PumpingInterval" "citation" "Ljava/lang/String;" .null := (((D4 (Or.inr (hw _ (List.mem_of_getElem? (i := 49) rfl))) (ty := (.object "java/lang/String")) (by decide)).ext E6).ext E7)
  have F11 : Fld Z h7 b4 "com/example/outfall/outfall/rules/PumpingInterval" "words" "Ljava/lang/String;" .null := (((D4 (Or.inr (hw _ (List.mem_of_getElem? (i := 51) rfl))) (ty := (.object "java/lang/String")) (by decide)).ext E6).ext E7)
  have E12 : Exa Z h7 b4 "com/example/outfall/outfall/rules/PumpingInterval" := ((A4.ext E6).ext E7)
  obtain ⟨_, T8, L8, X8, hQ8, hS, hZ, hown, st8⟩ := own_callIW X7 hx hZ hS (y := (⟨"com/example/outfall/outfall/rules/PumpingInterval", "<init>", "(Lcom/example/outfall/outfall/rules/Span;Ljava/lang/String;Ljava/lang/String;)V"⟩ : MethodName)) (a := b4) (argsL := [(.ref b1), (.ref a6), (.ref a7)]) (rest := [(.ref b4)]) 1 rfl hown (hw _ (List.mem_of_getElem? (i := 38) rfl)) (hw _ (List.mem_of_getElem? (i := 39) rfl)) (hw _ (List.mem_of_getElem? (i := 35) rfl)) (hw _ (List.mem_of_getElem? (i := 40) rfl)) (by decide) (own_pii l Z a0 hw [] b4 b1 a6 a7 h7 n0 (Nat.le_trans (Nat.le_trans (Nat.le_trans (Nat.le_trans (Nat.le_trans Z0 E1.1) K3.1) E4.1) E6.1) E7.1) E12 F9 F10 F11 ge4) (by decide) (by decide) e7 hk7 (g := (mkF m 23 #[.val (.long t1), .second, .val (.long c1), .second, .val (.long t2), .second, .val (.long c2), .second, .val (.ref b1), .unset, .unset, .unset, .unset, .unset, .unset, .unset, .unset] [(.ref a7), (.ref a6), (.ref b1), (.ref b4), (.ref b4)])) rfl (by rw [hml]; rfl) own_pd6 rfl rfl (by show 2 * 0 + _ ≤ _; exact Nat.le_of_eq rfl) (hb hby at_23) (by decide) (by decide)
  obtain ⟨rfl, N8q, K8⟩ := hQ8
  have N8 := Fr.app N3 N8q
  refine own_stW st8 ?_
  show own_GW p e below s _ _ _ (T8.setTop (mkF m 26 #[.val (.long t1), .second, .val (.long c1), .second, .val (.long t2), .second, .val (.long c2), .second, .val (.ref b1), .unset, .unset, .unset, .unset, .unset, .unset, .unset, .unset] [(.ref b4)]))
  refine own_stW (fun zt zk => XS.astore X8.here hx rfl (hb hby at_26) rfl rfl (l' := #[.val (.long t1), .second, .val (.long c1), .second, .val (.long t2), .second, .val (.long c2), .second, .val (.ref b1), .val (.ref b4), .unset, .unset, .unset, .unset, .unset, .unset, .unset]) rfl zk) ?_
  show own_GW p e below s _ _ _ (T8.setTop (mkF m 28 #[.val (.long t1), .second, .val (.long c1), .second, .val (.long t2), .second, .val (.long c2), .second, .val (.ref b1), .val (.ref b4), .unset, .unset, .unset, .unset, .unset, .unset, .unset] []))
  have E14 : Exa Z T8.heap b1 "com/example/outfall/outfall/rules/Span" := ((((E5.ext E4).ext E6).ext E7).keep K8)
  have E15 : Exa Z T8.heap b4 "com/example/outfall/outfall/rules/PumpingInterval" := (E12.keep K8)
  obtain ⟨T13, h13, X13, e13, E13, A13, D13, -, st13⟩ := newO X8 hx hZ hown (hw _ (List.mem_of_getElem? (i := 52) rfl)) (hw _ (List.mem_of_getElem? (i := 53) rfl)) (hw _ (List.mem_of_getElem? (i := 54) rfl)) rfl (g := (mkF m 28 #[.val (.long t1), .second, .val (.long c1), .second, .val (.long t2), .second, .val (.long c2), .second, .val (.ref b1), .val (.ref b4), .unset, .unset, .unset, .unset, .unset, .unset, .unset] [])) rfl (hb hby at_28) (by decide) (by decide)
  obtain ⟨b13, g13⟩ : ∃ z, z = T8.heap.size := ⟨_, rfl⟩
  rw [← g13] at A13 D13 st13
  have ne13_b1 : b1 ≠ b13 := by rw [g13]; exact Nat.ne_of_lt E14.lt
  have ne13_b4 : b4 ≠ b13 := by rw [g13]; exact Nat.ne_of_lt E15.lt
  have ge13 : n0 ≤ b13 := Nat.le_trans (Nat.le_trans (Nat.le_trans (Nat.le_trans (Nat.le_trans (Nat.le_trans (Nat.le_trans Z0 E1.1) K3.1) E4.1) E6.1) E7.1) K8.1) (Nat.le_of_eq g13.symm)
  have sz13 : h0.size ≤ b13 := Nat.le_trans (Nat.le_trans (Nat.le_trans (Nat.le_trans (Nat.le_trans (Nat.le_trans (Nat.le_trans (Nat.le_refl h0.size) E1.1) K3.1) E4.1) E6.1) E7.1) K8.1) (Nat.le_of_eq g13.symm)
  refine own_stW st13 ?_
  show own_GW p e below s _ _ _ (T13.setTop (mkF m 31 #[.val (.long t1), .second, .val (.long c1), .second, .val (.long t2), .second, .val (.long c2), .second, .val (.ref b1), .val (.ref b4), .unset, .unset, .unset, .unset, .unset, .unset, .unset] [(.ref b13)]))
  refine own_stW (fun zt zk => XS.dup X13.here hx rfl (hb hby at_31) rfl rfl zk) ?_
  show own_GW p e below s _ _ _ (T13.setTop (mkF m 32 #[.val (.long t1), .second, .val (.long c1), .second, .val (.long t2), .second, .val (.long c2), .second, .val (.ref b1), .val (.ref b4), .unset, .unset, .unset, .unset, .unset, .unset, .unset] [(.ref b13), (.ref b13)]))
  refine own_stW (fun zt zk => XS.lloadN X13.here hx rfl (hb hby at_32) rfl zk) ?_
  show own_GW p e below s _ _ _ (T13.setTop (mkF m 33 #[.val (.long t1), .second, .val (.long c1), .second, .val (.long t2), .second, .val (.long c2), .second, .val (.ref b1), .val (.ref b4), .unset, .unset, .unset, .unset, .unset, .unset, .unset] [(.long t1), (.ref b13), (.ref b13)]))
  obtain ⟨_, T16, L16, X16, hQ16, st16⟩ := own_callS X13 hx hZ (y := (⟨"com/example/outfall/outfall/rules/PeriodOverlapsPinLaw", "lo", "(J)I"⟩ : MethodName)) (argsL := [(.long t1)]) (rest := [(.ref b13), (.ref b13)]) 2 hown (hw _ (List.mem_of_getElem? (i := 55) rfl)) (hw _ (List.mem_of_getElem? (i := 56) rfl)) (hw _ (List.mem_of_getElem? (i := 57) rfl)) (hw _ (List.mem_of_getElem? (i := 58) rfl)) (by decide) (own_clo l Z a0 hw [] t1 h13 n0 (Nat.le_trans (Nat.le_trans (Nat.le_trans (Nat.le_trans (Nat.le_trans (Nat.le_trans (Nat.le_trans Z0 E1.1) K3.1) E4.1) E6.1) E7.1) K8.1) E13.1) ) (by decide) (by decide) e13 (g := (mkF m 33 #[.val (.long t1), .second, .val (.long c1), .second, .val (.long t2), .second, .val (.long c2), .second, .val (.ref b1), .val (.ref b4), .unset, .unset, .unset, .unset, .unset, .unset, .unset] [(.long t1), (.ref b13), (.ref b13)])) rfl (by rw [hml]; rfl) own_pd1 rfl rfl (by show 2 * 0 + _ ≤ _; exact Nat.le_of_eq rfl) (hb hby at_33) (by decide) (by decide)
  obtain ⟨rfl, N16q, e16⟩ := hQ16
  have N16 := Fr.app N8 N16q
  refine own_stW st16 ?_
  show own_GW p e below s _ _ _ (T16.setTop (mkF m 36 #[.val (.long t1), .second, .val (.long c1), .second, .val (.long t2), .second, .val (.long c2), .second, .val (.ref b1), .val (.ref b4), .unset, .unset, .unset, .unset, .unset, .unset, .unset] [(.int (own_lo t1)), (.ref b13), (.ref b13)]))
  refine own_stW (fun zt zk => XS.lloadN X16.here hx rfl (hb hby at_36) rfl zk) ?_
  show own_GW p e below s _ _ _ (T16.setTop (mkF m 37 #[.val (.long t1), .second, .val (.long c1), .second, .val (.long t2), .second, .val (.long c2), .second, .val (.ref b1), .val (.ref b4), .unset, .unset, .unset, .unset, .unset, .unset, .unset] [(.long t1), (.int (own_lo t1)), (.ref b13), (.ref b13)]))
  obtain ⟨_, T17, L17, X17, hQ17, st17⟩ := own_callS X16 hx hZ (y := (⟨"com/example/outfall/outfall/rules/PeriodOverlapsPinLaw", "hi", "(J)I"⟩ : MethodName)) (argsL := [(.long t1)]) (rest := [(.int (own_lo t1)), (.ref b13), (.ref b13)]) 3 hown (hw _ (List.mem_of_getElem? (i := 67) rfl)) (hw _ (List.mem_of_getElem? (i := 68) rfl)) (hw _ (List.mem_of_getElem? (i := 57) rfl)) (hw _ (List.mem_of_getElem? (i := 69) rfl)) (by decide) (own_chi l Z a0 hw [] t1 h13 n0 (Nat.le_trans (Nat.le_trans (Nat.le_trans (Nat.le_trans (Nat.le_trans (Nat.le_trans (Nat.le_trans Z0 E1.1) K3.1) E4.1) E6.1) E7.1) K8.1) E13.1) ) (by decide) (by decide) e16 (g := (mkF m 37 #[.val (.long t1), .second, .val (.long c1), .second, .val (.long t2), .second, .val (.long c2), .second, .val (.ref b1), .val (.ref b4), .unset, .unset, .unset, .unset, .unset, .unset, .unset] [(.long t1), (.int (own_lo t1)), (.ref b13), (.ref b13)])) rfl (by rw [hml]; rfl) own_pd1 rfl rfl (by show 2 * 0 + _ ≤ _; exact Nat.le_of_eq rfl) (hb hby at_37) (by decide) (by decide)
  obtain ⟨rfl, N17q, e17⟩ := hQ17
  have N17 := Fr.app N16 N17q
  refine own_stW st17 ?_
  show own_GW p e below s _ _ _ (T17.setTop (mkF m 40 #[.val (.long t1), .second, .val (.long c1), .second, .val (.long t2), .second, .val (.long c2), .second, .val (.ref b1), .val (.ref b4), .unset, .unset, .unset, .unset, .unset, .unset, .unset] [(.int (own_hi t1)), (.int (own_lo t1)), (.ref b13), (.ref b13)]))
  obtain ⟨_, T18, L18, X18, hQ18, st18⟩ := own_callI X17 hx hZ (y := (⟨"com/example/outfall/outfall/rules/PumpingSchedule$Range", "<init>", "(II)V"⟩ : MethodName)) (a := b13) (argsL := [(.int (own_lo t1)), (.int (own_hi t1))]) (rest := [(.ref b13)]) 1 rfl hown (hw _ (List.mem_of_getElem? (i := 70) rfl)) (hw _ (List.mem_of_getElem? (i := 71) rfl)) (hw _ (List.mem_of_getElem? (i := 54) rfl)) (hw _ (List.mem_of_getElem? (i := 72) rfl)) (by decide) (own_rgi l Z a0 hw [] b13 (own_lo t1) (own_hi t1) h13 n0 (Nat.le_trans (Nat.le_trans (Nat.le_trans (Nat.le_trans (Nat.le_trans (Nat.le_trans (Nat.le_trans Z0 E1.1) K3.1) E4.1) E6.1) E7.1) K8.1) E13.1) A13 (D13 (Or.inr (hw _ (List.mem_of_getElem? (i := 75) rfl))) (ty := .int) (by decide)) (D13 (Or.inr (hw _ (List.mem_of_getElem? (i := 77) rfl))) (ty := .int) (by decide)) ge13 (own_lo1 _) (own_lohi _ _)) (by decide) (by decide) e17 (g := (mkF m 40 #[.val (.long t1), .second, .val (.long c1), .second, .val (.long t2), .second, .val (.long c2), .second, .val (.ref b1), .val (.ref b4), .unset, .unset, .unset, .unset, .unset, .unset, .unset] [(.int (own_hi t1)), (.int (own_lo t1)), (.ref b13), (.ref b13)])) rfl (by rw [hml]; rfl) own_pd7 rfl rfl (by show 2 * 0 + _ ≤ _; exact Nat.le_of_eq rfl) (hb hby at_40) (by decide) (by decide)
  obtain ⟨rfl, N18q, K18, q18_0, q18_1⟩ := hQ18
  have N18 := Fr.app N17 N18q
  refine own_stW st18 ?_
  show own_GW p e below s _ _ _ (T18.setTop (mkF m 43 #[.val (.long t1), .second, .val (.long c1), .second, .val (.long t2), .second, .val (.long c2), .second, .val (.ref b1), .val (.ref b4), .unset, .unset, .unset, .unset, .unset, .unset, .unset] [(.ref b13)]))
  refine own_stW (fun zt zk => XS.astore X18.here hx rfl (hb hby at_43) rfl rfl (l' := #[.val (.long t1), .second, .val (.long c1), .second, .val (.long t2), .second, .val (.long c2), .second, .val (.ref b1), .val (.ref b4), .val (.ref b13), .unset, .unset, .unset, .unset, .unset, .unset]) rfl zk) ?_
  show own_GW p e below s _ _ _ (T18.setTop (mkF m 45 #[.val (.long t1), .second, .val (.long c1), .second, .val (.long t2), .second, .val (.long c2), .second, .val (.ref b1), .val (.ref b4), .val (.ref b13), .unset, .unset, .unset, .unset, .unset, .unset] []))
  have E20 : Exa Z T18.heap b1 "com/example/outfall/outfall/rules/Span" := ((E14.ext E13).keep K18)
  have E21 : Exa Z T18.heap b4 "com/example/outfall/outfall/rules/PumpingInterval" := ((E15.ext E13).keep K18)
  have E22 : Exa Z T18.heap b13 "com/example/outfall/outfall/rules/PumpingSchedule$Range" := (A13.keep K18)
  obtain ⟨T19, h19, X19, e19, E19, A19, D19, -, st19⟩ := newO X18 hx hZ hown (hw _ (List.mem_of_getElem? (i := 52) rfl)) (hw _ (List.mem_of_getElem? (i := 53) rfl)) (hw _ (List.mem_of_getElem? (i := 54) rfl)) rfl (g := (mkF m 45 #[.val (.long t1), .second, .val (.long c1), .second, .val (.long t2), .second, .val (.long c2), .second, .val (.ref b1), .val (.ref b4), .val (.ref b13), .unset, .unset, .unset, .unset, .unset, .unset] [])) rfl (hb hby at_45) (by decide) (by decide)
  obtain ⟨b19, g19⟩ : ∃ z, z = T18.heap.size := ⟨_, rfl⟩
  rw [← g19] at A19 D19 st19
  have ne19_b1 : b1 ≠ b19 := by rw [g19]; exact Nat.ne_of_lt E20.lt
  have ne19_b4 : b4 ≠ b19 := by rw [g19]; exact Nat.ne_of_lt E21.lt
  have ne19_b13 : b13 ≠ b19 := by rw [g19]; exact Nat.ne_of_lt E22.lt
  have ge19 : n0 ≤ b19 := Nat.le_trans (Nat.le_trans (Nat.le_trans (Nat.le_trans (Nat.le_trans (Nat.le_trans (Nat.le_trans (Nat.le_trans (Nat.le_trans Z0 E1.1) K3.1) E4.1) E6.1) E7.1) K8.1) E13.1) K18.1) (Nat.le_of_eq g19.symm)
  have sz19 : h0.size ≤ b19 := Nat.le_trans (Nat.le_trans (Nat.le_trans (Nat.le_trans (Nat.le_trans (Nat.le_trans (Nat.le_trans (Nat.le_trans (Nat.le_trans (Nat.le_refl h0.size) E1.1) K3.1) E4.1) E6.1) E7.1) K8.1) E13.1) K18.1) (Nat.le_of_eq g19.symm)
  refine own_stW st19 ?_
  show own_GW p e below s _ _ _ (T19.setTop (mkF m 48 #[.val (.long t1), .second, .val (.long c1), .second, .val (.long t2), .second, .val (.long c2), .second, .val (.ref b1), .val (.ref b4), .val (.ref b13), .unset, .unset, .unset, .unset, .unset, .unset] [(.ref b19)]))
  refine own_stW (fun zt zk => XS.dup X19.here hx rfl (hb hby at_48) rfl rfl zk) ?_
  show own_GW p e below s _ _ _ (T19.setTop (mkF m 49 #[.val (.long t1), .second, .val (.long c1), .second, .val (.long t2), .second, .val (.long c2), .second, .val (.ref b1), .val (.ref b4), .val (.ref b13), .unset, .unset, .unset, .unset, .unset, .unset] [(.ref b19), (.ref b19)]))
  refine own_stW (fun zt zk => XS.lloadN X19.here hx rfl (hb hby at_49) rfl zk) ?_
  show own_GW p e below s _ _ _ (T19.setTop (mkF m 50 #[.val (.long t1), .second, .val (.long c1), .second, .val (.long t2), .second, .val (.long c2), .second, .val (.ref b1), .val (.ref b4), .val (.ref b13), .unset, .unset, .unset, .unset, .unset, .unset] [(.long c1), (.ref b19), (.ref b19)]))
  obtain ⟨_, T23, L23, X23, hQ23, st23⟩ := own_callS X19 hx hZ (y := (⟨"com/example/outfall/outfall/rules/PeriodOverlapsPinLaw", "lo", "(J)I"⟩ : MethodName)) (argsL := [(.long c1)]) (rest := [(.ref b19), (.ref b19)]) 2 hown (hw _ (List.mem_of_getElem? (i := 55) rfl)) (hw _ (List.mem_of_getElem? (i := 56) rfl)) (hw _ (List.mem_of_getElem? (i := 57) rfl)) (hw _ (List.mem_of_getElem? (i := 58) rfl)) (by decide) (own_clo l Z a0 hw [] c1 h19 n0 (Nat.le_trans (Nat.le_trans (Nat.le_trans (Nat.le_trans (Nat.le_trans (Nat.le_trans (Nat.le_trans (Nat.le_trans (Nat.le_trans Z0 E1.1) K3.1) E4.1) E6.1) E7.1) K8.1) E13.1) K18.1) E19.1) ) (by decide) (by decide) e19 (g := (mkF m 50 #[.val (.long t1), .second, .val (.long c1), .second, .val (.long t2), .second, .val (.long c2), .second, .val (.ref b1), .val (.ref b4), .val (.ref b13), .unset, .unset, .unset, .unset, .unset, .unset] [(.long c1), (.ref b19), (.ref b19)])) rfl (by rw [hml]; rfl) own_pd1 rfl rfl (by show 2 * 0 + _ ≤ _; exact Nat.le_of_eq rfl) (hb hby at_50) (by decide) (by decide)
  obtain ⟨rfl, N23q, e23⟩ := hQ23
  have N23 := Fr.app N18 N23q
  refine own_stW st23 ?_
  show own_GW p e below s _ _ _ (T23.setTop (mkF m 53 #[.val (.long t1), .second, .val (.long c1), .second, .val (.long t2), .second, .val (.long c2), .second, .val (.ref b1), .val (.ref b4), .val (.ref b13), .unset, .unset, .unset, .unset, .unset, .unset] [(.int (own_lo c1)), (.ref b19), (.ref b19)]))
  refine own_stW (fun zt zk => XS.lloadN X23.here hx rfl (hb hby at_53) rfl zk) ?_
  show own_GW p e below s _ _ _ (T23.setTop (mkF m 54 #[.val (.long t1), .second, .val (.long c1), .second, .val (.long t2), .second, .val (.long c2), .second, .val (.ref b1), .val (.ref b4), .val (.ref b13), .unset, .unset, .unset, .unset, .unset, .unset] [(.long c1), (.int (own_lo c1)), (.ref b19), (.ref b19)]))
  obtain ⟨_, T24, L24, X24, hQ24, st24⟩ := own_callS X23 hx hZ (y := (⟨"com/example/outfall/outfall/rules/PeriodOverlapsPinLaw", "hi", "(J)I"⟩ : MethodName)) (argsL := [(.long c1)]) (rest := [(.int (own_lo c1)), (.ref b19), (.ref b19)]) 3 hown (hw _ (List.mem_of_getElem? (i := 67) rfl)) (hw _ (List.mem_of_getElem? (i := 68) rfl)) (hw _ (List.mem_of_getElem? (i := 57) rfl)) (hw _ (List.mem_of_getElem? (i := 69) rfl)) (by decide) (own_chi l Z a0 hw [] c1 h19 n0 (Nat.le_trans (Nat.le_trans (Nat.le_trans (Nat.le_trans (Nat.le_trans (Nat.le_trans (Nat.le_trans (Nat.le_trans (Nat.le_trans Z0 E1.1) K3.1) E4.1) E6.1) E7.1) K8.1) E13.1) K18.1) E19.1) ) (by decide) (by decide) e23 (g := (mkF m 54 #[.val (.long t1), .second, .val (.long c1), .second, .val (.long t2), .second, .val (.long c2), .second, .val (.ref b1), .val (.ref b4), .val (.ref b13), .unset, .unset, .unset, .unset, .unset, .unset] [(.long c1), (.int (own_lo c1)), (.ref b19), (.ref b19)])) rfl (by rw [hml]; rfl) own_pd1 rfl rfl (by show 2 * 0 + _ ≤ _; exact Nat.le_of_eq rfl) (hb hby at_54) (by decide) (by decide)
  obtain ⟨rfl, N24q, e24⟩ := hQ24
  have N24 := Fr.app N23 N24q
  refine own_stW st24 ?_
  show own_GW p e below s _ _ _ (T24.setTop (mkF m 57 #[.val (.long t1), .second, .val (.long c1), .second, .val (.long t2), .second, .val (.long c2), .second, .val (.ref b1), .val (.ref b4), .val (.ref b13), .unset, .unset, .unset, .unset, .unset, .unset] [(.int (own_hi c1)), (.int (own_lo c1)), (.ref b19), (.ref b19)]))
  obtain ⟨_, T25, L25, X25, hQ25, st25⟩ := own_callI X24 hx hZ (y := (⟨"com/example/outfall/outfall/rules/PumpingSchedule$Range", "<init>", "(II)V"⟩ : MethodName)) (a := b19) (argsL := [(.int (own_lo c1)), (.int (own_hi c1))]) (rest := [(.ref b19)]) 1 rfl hown (hw _ (List.mem_of_getElem? (i := 70) rfl)) (hw _ (List.mem_of_getElem? (i := 71) rfl)) (hw _ (List.mem_of_getElem? (i := 54) rfl)) (hw _ (List.mem_of_getElem? (i := 72) rfl)) (by decide) (own_rgi l Z a0 hw [] b19 (own_lo c1) (own_hi c1) h19 n0 (Nat.le_trans (Nat.le_trans (Nat.le_trans (Nat.le_trans (Nat.le_trans (Nat.le_trans (Nat.le_trans (Nat.le_trans (Nat.le_trans Z0 E1.1) K3.1) E4.1) E6.1) E7.1) K8.1) E13.1) K18.1) E19.1) A19 (D19 (Or.inr (hw _ (List.mem_of_getElem? (i := 75) rfl))) (ty := .int) (by decide)) (D19 (Or.inr (hw _ (List.mem_of_getElem? (i := 77) rfl))) (ty := .int) (by decide)) ge19 (own_lo1 _) (own_lohi _ _)) (by decide) (by decide) e24 (g := (mkF m 57 #[.val (.long t1), .second, .val (.long c1), .second, .val (.long t2), .second, .val (.long c2), .second, .val (.ref b1), .val (.ref b4), .val (.ref b13), .unset, .unset, .unset, .unset, .unset, .unset] [(.int (own_hi c1)), (.int (own_lo c1)), (.ref b19), (.ref b19)])) rfl (by rw [hml]; rfl) own_pd7 rfl rfl (by show 2 * 0 + _ ≤ _; exact Nat.le_of_eq rfl) (hb hby at_57) (by decide) (by decide)
  obtain ⟨rfl, N25q, K25, q25_0, q25_1⟩ := hQ25
  have N25 := Fr.app N24 N25q
  refine own_stW st25 ?_
  show own_GW p e below s _ _ _ (T25.setTop (mkF m 60 #[.val (.long t1), .second, .val (.long c1), .second, .val (.long t2), .second, .val (.long c2), .second, .val (.ref b1), .val (.ref b4), .val (.ref b13), .unset, .unset, .unset, .unset, .unset, .unset] [(.ref b19)]))
  refine own_stW (fun zt zk => XS.astore X25.here hx rfl (hb hby at_60) rfl rfl (l' := #[.val (.long t1), .second, .val (.long c1), .second, .val (.long t2), .second, .val (.long c2), .second, .val (.ref b1), .val (.ref b4), .val (.ref b13), .val (.ref b19), .unset, .unset, .unset, .unset, .unset]) rfl zk) ?_
  show own_GW p e below s _ _ _ (T25.setTop (mkF m 62 #[.val (.long t1), .second, .val (.long c1), .second, .val (.long t2), .second, .val (.long c2), .second, .val (.ref b1), .val (.ref b4), .val (.ref b13), .val (.ref b19), .unset, .unset, .unset, .unset, .unset] []))
  have E27 : Exa Z T25.heap b1 "com/example/outfall/outfall/rules/Span" := ((E20.ext E19).keep K25)
  have E28 : Exa Z T25.heap b4 "com/example/outfall/outfall/rules/PumpingInterval" := ((E21.ext E19).keep K25)
  have E29 : Exa Z T25.heap b13 "com/example/outfall/outfall/rules/PumpingSchedule$Range" := ((E22.ext E19).keep K25)
  have E30 : Exa Z T25.heap b19 "com/example/outfall/outfall/rules/PumpingSchedule$Range" := (A19.keep K25)
  obtain ⟨T26, h26, X26, e26, E26, A26, D26, -, st26⟩ := newO X25 hx hZ hown (hw _ (List.mem_of_getElem? (i := 52) rfl)) (hw _ (List.mem_of_getElem? (i := 53) rfl)) (hw _ (List.mem_of_getElem? (i := 54) rfl)) rfl (g := (mkF m 62 #[.val (.long t1), .second, .val (.long c1), .second, .val (.long t2), .second, .val (.long c2), .second, .val (.ref b1), .val (.ref b4), .val (.ref b13), .val (.ref b19), .unset, .unset, .unset, .unset, .unset] [])) rfl (hb hby at_62) (by decide) (by decide)
  obtain ⟨b26, g26⟩ : ∃ z, z = T25.heap.size := ⟨_, rfl⟩
  rw [← g26] at A26 D26 st26
  have ne26_b1 : b1 ≠ b26 := by rw [g26]; exact Nat.ne_of_lt E27.lt
  have ne26_b4 : b4 ≠ b26 := by rw [g26]; exact Nat.ne_of_lt E28.lt
  have ne26_b13 : b13 ≠ b26 := by rw [g26]; exact Nat.ne_of_lt E29.lt
  have ne26_b19 : b19 ≠ b26 := by rw [g26]; exact Nat.ne_of_lt E30.lt
  have ge26 : n0 ≤ b26 := Nat.le_trans (Nat.le_trans (Nat.le_trans (Nat.le_trans (Nat.le_trans (Nat.le_trans (Nat.le_trans (Nat.le_trans (Nat.le_trans (Nat.le_trans (Nat.le_trans Z0 E1.1) K3.1) E4.1) E6.1) E7.1) K8.1) E13.1) K18.1) E19.1) K25.1) (Nat.le_of_eq g26.symm)
  have sz26 : h0.size ≤ b26 := Nat.le_trans (Nat.le_trans (Nat.le_trans (Nat.le_trans (Nat.le_trans (Nat.le_trans (Nat.le_trans (Nat.le_trans (Nat.le_trans (Nat.le_trans (Nat.le_trans (Nat.le_refl h0.size) E1.1) K3.1) E4.1) E6.1) E7.1) K8.1) E13.1) K18.1) E19.1) K25.1) (Nat.le_of_eq g26.symm)
  refine own_stW st26 ?_
  show own_GW p e below s _ _ _ (T26.setTop (mkF m 65 #[.val (.long t1), .second, .val (.long c1), .second, .val (.long t2), .second, .val (.long c2), .second, .val (.ref b1), .val (.ref b4), .val (.ref b13), .val (.ref b19), .unset, .unset, .unset, .unset, .unset] [(.ref b26)]))
  refine own_stW (fun zt zk => XS.dup X26.here hx rfl (hb hby at_65) rfl rfl zk) ?_
  show own_GW p e below s _ _ _ (T26.setTop (mkF m 66 #[.val (.long t1), .second, .val (.long c1), .second, .val (.long t2), .second, .val (.long c2), .second, .val (.ref b1), .val (.ref b4), .val (.ref b13), .val (.ref b19), .unset, .unset, .unset, .unset, .unset] [(.ref b26), (.ref b26)]))
  refine own_stW (fun zt zk => XS.lload X26.here hx rfl (hb hby at_66) rfl zk) ?_
  show own_GW p e below s _ _ _ (T26.setTop (mkF m 68 #[.val (.long t1), .second, .val (.long c1), .second, .val (.long t2), .second, .val (.long c2), .second, .val (.ref b1), .val (.ref b4), .val (.ref b13), .val (.ref b19), .unset, .unset, .unset, .unset, .unset] [(.long t2), (.ref b26), (.ref b26)]))
  obtain ⟨_, T31, L31, X31, hQ31, st31⟩ := own_callS X26 hx hZ (y := (⟨"com/example/outfall/outfall/rules/PeriodOverlapsPinLaw", "lo", "(J)I"⟩ : MethodName)) (argsL := [(.long t2)]) (rest := [(.ref b26), (.ref b26)]) 2 hown (hw _ (List.mem_of_getElem? (i := 55) rfl)) (hw _ (List.mem_of_getElem? (i := 56) rfl)) (hw _ (List.mem_of_getElem? (i := 57) rfl)) (hw _ (List.mem_of_getElem? (i := 58) rfl)) (by decide) (own_clo l Z a0 hw [] t2 h26 n0 (Nat.le_trans (Nat.le_trans (Nat.le_trans (Nat.le_trans (Nat.le_trans (Nat.le_trans (Nat.le_trans (Nat.le_trans (Nat.le_trans (Nat.le_trans (Nat.le_trans Z0 E1.1) K3.1) E4.1) E6.1) E7.1) K8.1) E13.1) K18.1) E19.1) K25.1) E26.1) ) (by decide) (by decide) e26 (g := (mkF m 68 #[.val (.long t1), .second, .val (.long c1), .second, .val (.long t2), .second, .val (.long c2), .second, .val (.ref b1), .val (.ref b4), .val (.ref b13), .val (.ref b19), .unset, .unset, .unset, .unset, .unset] [(.long t2), (.ref b26), (.ref b26)])) rfl (by rw [hml]; rfl) own_pd1 rfl rfl (by show 2 * 0 + _ ≤ _; exact Nat.le_of_eq rfl) (hb hby at_68) (by decide) (by decide)
  obtain ⟨rfl, N31q, e31⟩ := hQ31
  have N31 := Fr.app N25 N31q
  refine own_stW st31 ?_
  show own_GW p e below s _ _ _ (T31.setTop (mkF m 71 #[.val (.long t1), .second, .val (.long c1), .second, .val (.long t2), .second, .val (.long c2), .second, .val (.ref b1), .val (.ref b4), .val (.ref b13), .val (.ref b19), .unset, .unset, .unset, .unset, .unset] [(.int (own_lo t2)), (.ref b26), (.ref b26)]))
  refine own_stW (fun zt zk => XS.lload X31.here hx rfl (hb hby at_71) rfl zk) ?_
  show own_GW p e below s _ _ _ (T31.setTop (mkF m 73 #[.val (.long t1), .second, .val (.long c1), .second, .val (.long t2), .second, .val (.long c2), .second, .val (.ref b1), .val (.ref b4), .val (.ref b13), .val (.ref b19), .unset, .unset, .unset, .unset, .unset] [(.long t2), (.int (own_lo t2)), (.ref b26), (.ref b26)]))
  obtain ⟨_, T32, L32, X32, hQ32, st32⟩ := own_callS X31 hx hZ (y := (⟨"com/example/outfall/outfall/rules/PeriodOverlapsPinLaw", "hi", "(J)I"⟩ : MethodName)) (argsL := [(.long t2)]) (rest := [(.int (own_lo t2)), (.ref b26), (.ref b26)]) 3 hown (hw _ (List.mem_of_getElem? (i := 67) rfl)) (hw _ (List.mem_of_getElem? (i := 68) rfl)) (hw _ (List.mem_of_getElem? (i := 57) rfl)) (hw _ (List.mem_of_getElem? (i := 69) rfl)) (by decide) (own_chi l Z a0 hw [] t2 h26 n0 (Nat.le_trans (Nat.le_trans (Nat.le_trans (Nat.le_trans (Nat.le_trans (Nat.le_trans (Nat.le_trans (Nat.le_trans (Nat.le_trans (Nat.le_trans (Nat.le_trans Z0 E1.1) K3.1) E4.1) E6.1) E7.1) K8.1) E13.1) K18.1) E19.1) K25.1) E26.1) ) (by decide) (by decide) e31 (g := (mkF m 73 #[.val (.long t1), .second, .val (.long c1), .second, .val (.long t2), .second, .val (.long c2), .second, .val (.ref b1), .val (.ref b4), .val (.ref b13), .val (.ref b19), .unset, .unset, .unset, .unset, .unset] [(.long t2), (.int (own_lo t2)), (.ref b26), (.ref b26)])) rfl (by rw [hml]; rfl) own_pd1 rfl rfl (by show 2 * 0 + _ ≤ _; exact Nat.le_of_eq rfl) (hb hby at_73) (by decide) (by decide)
  obtain ⟨rfl, N32q, e32⟩ := hQ32
  have N32 := Fr.app N31 N32q
  refine own_stW st32 ?_
  show own_GW p e below s _ _ _ (T32.setTop (mkF m 76 #[.val (.long t1), .second, .val (.long c1), .second, .val (.long t2), .second, .val (.long c2), .second, .val (.ref b1), .val (.ref b4), .val (.ref b13), .val (.ref b19), .unset, .unset, .unset, .unset, .unset] [(.int (own_hi t2)), (.int (own_lo t2)), (.ref b26), (.ref b26)]))
  obtain ⟨_, T33, L33, X33, hQ33, st33⟩ := own_callI X32 hx hZ (y := (⟨"com/example/outfall/outfall/rules/PumpingSchedule$Range", "<init>", "(II)V"⟩ : MethodName)) (a := b26) (argsL := [(.int (own_lo t2)), (.int (own_hi t2))]) (rest := [(.ref b26)]) 1 rfl hown (hw _ (List.mem_of_getElem? (i := 70) rfl)) (hw _ (List.mem_of_getElem? (i := 71) rfl)) (hw _ (List.mem_of_getElem? (i := 54) rfl)) (hw _ (List.mem_of_getElem? (i := 72) rfl)) (by decide) (own_rgi l Z a0 hw [] b26 (own_lo t2) (own_hi t2) h26 n0 (Nat.le_trans (Nat.le_trans (Nat.le_trans (Nat.le_trans (Nat.le_trans (Nat.le_trans (Nat.le_trans (Nat.le_trans (Nat.le_trans (Nat.le_trans (Nat.le_trans Z0 E1.1) K3.1) E4.1) E6.1) E7.1) K8.1) E13.1) K18.1) E19.1) K25.1) E26.1) A26 (D26 (Or.inr (hw _ (List.mem_of_getElem? (i := 75) rfl))) (ty := .int) (by decide)) (D26 (Or.inr (hw _ (List.mem_of_getElem? (i := 77) rfl))) (ty := .int) (by decide)) ge26 (own_lo1 _) (own_lohi _ _)) (by decide) (by decide) e32 (g := (mkF m 76 #[.val (.long t1), .second, .val (.long c1), .second, .val (.long t2), .second, .val (.long c2), .second, .val (.ref b1), .val (.ref b4), .val (.ref b13), .val (.ref b19), .unset, .unset, .unset, .unset, .unset] [(.int (own_hi t2)), (.int (own_lo t2)), (.ref b26), (.ref b26)])) rfl (by rw [hml]; rfl) own_pd7 rfl rfl (by show 2 * 0 + _ ≤ _; exact Nat.le_of_eq rfl) (hb hby at_76) (by decide) (by decide)
  obtain ⟨rfl, N33q, K33, q33_0, q33_1⟩ := hQ33
  have N33 := Fr.app N32 N33q
  refine own_stW st33 ?_
  show own_GW p e below s _ _ _ (T33.setTop (mkF m 79 #[.val (.long t1), .second, .val (.long c1), .second, .val (.long t2), .second, .val (.long c2), .second, .val (.ref b1), .val (.ref b4), .val (.ref b13), .val (.ref b19), .unset, .unset, .unset, .unset, .unset] [(.ref b26)]))
  refine own_stW (fun zt zk => XS.astore X33.here hx rfl (hb hby at_79) rfl rfl (l' := #[.val (.long t1), .second, .val (.long c1), .second, .val (.long t2), .second, .val (.long c2), .second, .val (.ref b1), .val (.ref b4), .val (.ref b13), .val (.ref b19), .val (.ref b26), .unset, .unset, .unset, .unset]) rfl zk) ?_
  show own_GW p e below s _ _ _ (T33.setTop (mkF m 81 #[.val (.long t1), .second, .val (.long c1), .second, .val (.long t2), .second, .val (.long c2), .second, .val (.ref b1), .val (.ref b4), .val (.ref b13), .val (.ref b19), .val (.ref b26), .unset, .unset, .unset, .unset] []))
  have E35 : Exa Z T33.heap b1 "com/example/outfall/outfall/rules/Span" := ((E27.ext E26).keep K33)
  have E36 : Exa Z T33.heap b4 "com/example/outfall/outfall/rules/PumpingInterval" := ((E28.ext E26).keep K33)
  have E37 : Exa Z T33.heap b13 "com/example/outfall/outfall/rules/PumpingSchedule$Range" := ((E29.ext E26).keep K33)
  have E38 : Exa Z T33.heap b19 "com/example/outfall/outfall/rules/PumpingSchedule$Range" := ((E30.ext E26).keep K33)
  have E39 : Exa Z T33.heap b26 "com/example/outfall/outfall/rules/PumpingSchedule$Range" := (A26.keep K33)
  obtain ⟨T34, h34, X34, e34, E34, A34, D34, -, st34⟩ := newO X33 hx hZ hown (hw _ (List.mem_of_getElem? (i := 52) rfl)) (hw _ (List.mem_of_getElem? (i := 53) rfl)) (hw _ (List.mem_of_getElem? (i := 54) rfl)) rfl (g := (mkF m 81 #[.val (.long t1), .second, .val (.long c1), .second, .val (.long t2), .second, .val (.long c2), .second, .val (.ref b1), .val (.ref b4), .val (.ref b13), .val (.ref b19), .val (.ref b26), .unset, .unset, .unset, .unset] [])) rfl (hb hby at_81) (by decide) (by decide)
  obtain ⟨b34, g34⟩ : ∃ z, z = T33.heap.size := ⟨_, rfl⟩
  rw [← g34] at A34 D34 st34
  have ne34_b1 : b1 ≠ b34 := by rw [g34]; exact Nat.ne_of_lt E35.lt
  have ne34_b4 : b4 ≠ b34 := by rw [g34]; exact Nat.ne_of_lt E36.lt
  have ne34_b13 : b13 ≠ b34 := by rw [g34]; exact Nat.ne_of_lt E37.lt
  have ne34_b19 : b19 ≠ b34 := by rw [g34]; exact Nat.ne_of_lt E38.lt
  have ne34_b26 : b26 ≠ b34 := by rw [g34]; exact Nat.ne_of_lt E39.lt
  have ge34 : n0 ≤ b34 := Nat.le_trans (Nat.le_trans (Nat.le_trans (Nat.le_trans (Nat.le_trans (Nat.le_trans (Nat.le_trans (Nat.le_trans (Nat.le_trans (Nat.le_trans (Nat.le_trans (Nat.le_trans (Nat.le_trans Z0 E1.1) K3.1) E4.1) E6.1) E7.1) K8.1) E13.1) K18.1) E19.1) K25.1) E26.1) K33.1) (Nat.le_of_eq g34.symm)
  have sz34 : h0.size ≤ b34 := Nat.le_trans (Nat.le_trans (Nat.le_trans (Nat.le_trans (Nat.le_trans (Nat.le_trans (Nat.le_trans (Nat.le_trans (Nat.le_trans (Nat.le_trans (Nat.le_trans (Nat.le_trans (Nat.le_trans (Nat.le_refl h0.size) E1.1) K3.1) E4.1) E6.1) E7.1) K8.1) E13.1) K18.1) E19.1) K25.1) E26.1) K33.1) (Nat.le_of_eq g34.symm)
  refine own_stW st34 ?_
  show own_GW p e below s _ _ _ (T34.setTop (mkF m 84 #[.val (.long t1), .second, .val (.long c1), .second, .val (.long t2), .second, .val (.long c2), .second, .val (.ref b1), .val (.ref b4), .val (.ref b13), .val (.ref b19), .val (.ref b26), .unset, .unset, .unset, .unset] [(.ref b34)]))
  refine own_stW (fun zt zk => XS.dup X34.here hx rfl (hb hby at_84) rfl rfl zk) ?_
  show own_GW p e below s _ _ _ (T34.setTop (mkF m 85 #[.val (.long t1), .second, .val (.long c1), .second, .val (.long t2), .second, .val (.long c2), .second, .val (.ref b1), .val (.ref b4), .val (.ref b13), .val (.ref b19), .val (.ref b26), .unset, .unset, .unset, .unset] [(.ref b34), (.ref b34)]))
  refine own_stW (fun zt zk => XS.lload X34.here hx rfl (hb hby at_85) rfl zk) ?_
  show own_GW p e below s _ _ _ (T34.setTop (mkF m 87 #[.val (.long t1), .second, .val (.long c1), .second, .val (.long t2), .second, .val (.long c2), .second, .val (.ref b1), .val (.ref b4), .val (.ref b13), .val (.ref b19), .val (.ref b26), .unset, .unset, .unset, .unset] [(.long c2), (.ref b34), (.ref b34)]))
  obtain ⟨_, T40, L40, X40, hQ40, st40⟩ := own_callS X34 hx hZ (y := (⟨"com/example/outfall/outfall/rules/PeriodOverlapsPinLaw", "lo", "(J)I"⟩ : MethodName)) (argsL := [(.long c2)]) (rest := [(.ref b34), (.ref b34)]) 2 hown (hw _ (List.mem_of_getElem? (i := 55) rfl)) (hw _ (List.mem_of_getElem? (i := 56) rfl)) (hw _ (List.mem_of_getElem? (i := 57) rfl)) (hw _ (List.mem_of_getElem? (i := 58) rfl)) (by decide) (own_clo l Z a0 hw [] c2 h34 n0 (Nat.le_trans (Nat.le_trans (Nat.le_trans (Nat.le_trans (Nat.le_trans (Nat.le_trans (Nat.le_trans (Nat.le_trans (Nat.le_trans (Nat.le_trans (Nat.le_trans (Nat.le_trans (Nat.le_trans Z0 E1.1) K3.1) E4.1) E6.1) E7.1) K8.1) E13.1) K18.1) E19.1) K25.1) E26.1) K33.1) E34.1) ) (by decide) (by decide) e34 (g := (mkF m 87 #[.val (.long t1), .second, .val (.long c1), .second, .val (.long t2), .second, .val (.long c2), .second, .val (.ref b1), .val (.ref b4), .val (.ref b13), .val (.ref b19), .val (.ref b26), .unset, .unset, .unset, .unset] [(.long c2), (.ref b34), (.ref b34)])) rfl (by rw [hml]; rfl) own_pd1 rfl rfl (by show 2 * 0 + _ ≤ _; exact Nat.le_of_eq rfl) (hb hby at_87) (by decide) (by decide)
  obtain ⟨rfl, N40q, e40⟩ := hQ40
  have N40 := Fr.app N33 N40q
  refine own_stW st40 ?_
  show own_GW p e below s _ _ _ (T40.setTop (mkF m 90 #[.val (.long t1), .second, .val (.long c1), .second, .val (.long t2), .second, .val (.long c2), .second, .val (.ref b1), .val (.ref b4), .val (.ref b13), .val (.ref b19), .val (.ref b26), .unset, .unset, .unset, .unset] [(.int (own_lo c2)), (.ref b34), (.ref b34)]))
  refine own_stW (fun zt zk => XS.lload X40.here hx rfl (hb hby at_90) rfl zk) ?_
  show own_GW p e below s _ _ _ (T40.setTop (mkF m 92 #[.val (.long t1), .second, .val (.long c1), .second, .val (.long t2), .second, .val (.long c2), .second, .val (.ref b1), .val (.ref b4), .val (.ref b13), .val (.ref b19), .val (.ref b26), .unset, .unset, .unset, .unset] [(.long c2), (.int (own_lo c2)), (.ref b34), (.ref b34)]))
  obtain ⟨_, T41, L41, X41, hQ41, st41⟩ := own_callS X40 hx hZ (y := (⟨"com/example/outfall/outfall/rules/PeriodOverlapsPinLaw", "hi", "(J)I"⟩ : MethodName)) (argsL := [(.long c2)]) (rest := [(.int (own_lo c2)), (.ref b34), (.ref b34)]) 3 hown (hw _ (List.mem_of_getElem? (i := 67) rfl)) (hw _ (List.mem_of_getElem? (i := 68) rfl)) (hw _ (List.mem_of_getElem? (i := 57) rfl)) (hw _ (List.mem_of_getElem? (i := 69) rfl)) (by decide) (own_chi l Z a0 hw [] c2 h34 n0 (Nat.le_trans (Nat.le_trans (Nat.le_trans (Nat.le_trans (Nat.le_trans (Nat.le_trans (Nat.le_trans (Nat.le_trans (Nat.le_trans (Nat.le_trans (Nat.le_trans (Nat.le_trans (Nat.le_trans Z0 E1.1) K3.1) E4.1) E6.1) E7.1) K8.1) E13.1) K18.1) E19.1) K25.1) E26.1) K33.1) E34.1) ) (by decide) (by decide) e40 (g := (mkF m 92 #[.val (.long t1), .second, .val (.long c1), .second, .val (.long t2), .second, .val (.long c2), .second, .val (.ref b1), .val (.ref b4), .val (.ref b13), .val (.ref b19), .val (.ref b26), .unset, .unset, .unset, .unset] [(.long c2), (.int (own_lo c2)), (.ref b34), (.ref b34)])) rfl (by rw [hml]; rfl) own_pd1 rfl rfl (by show 2 * 0 + _ ≤ _; exact Nat.le_of_eq rfl) (hb hby at_92) (by decide) (by decide)
  obtain ⟨rfl, N41q, e41⟩ := hQ41
  have N41 := Fr.app N40 N41q
  refine own_stW st41 ?_
  show own_GW p e below s _ _ _ (T41.setTop (mkF m 95 #[.val (.long t1), .second, .val (.long c1), .second, .val (.long t2), .second, .val (.long c2), .second, .val (.ref b1), .val (.ref b4), .val (.ref b13), .val (.ref b19), .val (.ref b26), .unset, .unset, .unset, .unset] [(.int (own_hi c2)), (.int (own_lo c2)), (.ref b34), (.ref b34)]))
  obtain ⟨_, T42, L42, X42, hQ42, st42⟩ := own_callI X41 hx hZ (y := (⟨"com/example/outfall/outfall/rules/PumpingSchedule$Range", "<init>", "(II)V"⟩ : MethodName)) (a := b34) (argsL := [(.int (own_lo c2)), (.int (own_hi c2))]) (rest := [(.ref b34)]) 1 rfl hown (hw _ (List.mem_of_getElem? (i := 70) rfl)) (hw _ (List.mem_of_getElem? (i := 71) rfl)) (hw _ (List.mem_of_getElem? (i := 54) rfl)) (hw _ (List.mem_of_getElem? (i := 72) rfl)) (by decide) (own_rgi l Z a0 hw [] b34 (own_lo c2) (own_hi c2) h34 n0 (Nat.le_trans (Nat.le_trans (Nat.le_trans (Nat.le_trans (Nat.le_trans (Nat.le_trans (Nat.le_trans (Nat.le_trans (Nat.le_trans (Nat.le_trans (Nat.le_trans (Nat.le_trans (Nat.le_trans Z0 E1.1) K3.1) E4.1) E6.1) E7.1) K8.1) E13.1) K18.1) E19.1) K25.1) E26.1) K33.1) E34.1) A34 (D34 (Or.inr (hw _ (List.mem_of_getElem? (i := 75) rfl))) (ty := .int) (by decide)) (D34 (Or.inr (hw _ (List.mem_of_getElem? (i := 77) rfl))) (ty := .int) (by decide)) ge34 (own_lo1 _) (own_lohi _ _)) (by decide) (by decide) e41 (g := (mkF m 95 #[.val (.long t1), .second, .val (.long c1), .second, .val (.long t2), .second, .val (.long c2), .second, .val (.ref b1), .val (.ref b4), .val (.ref b13), .val (.ref b19), .val (.ref b26), .unset, .unset, .unset, .unset] [(.int (own_hi c2)), (.int (own_lo c2)), (.ref b34), (.ref b34)])) rfl (by rw [hml]; rfl) own_pd7 rfl rfl (by show 2 * 0 + _ ≤ _; exact Nat.le_of_eq rfl) (hb hby at_95) (by decide) (by decide)
  obtain ⟨rfl, N42q, K42, q42_0, q42_1⟩ := hQ42
  have N42 := Fr.app N41 N42q
  refine own_stW st42 ?_
  show own_GW p e below s _ _ _ (T42.setTop (mkF m 98 #[.val (.long t1), .second, .val (.long c1), .second, .val (.long t2), .second, .val (.long c2), .second, .val (.ref b1), .val (.ref b4), .val (.ref b13), .val (.ref b19), .val (.ref b26), .unset, .unset, .unset, .unset] [(.ref b34)]))
  refine own_stW (fun zt zk => XS.astore X42.here hx rfl (hb hby at_98) rfl rfl (l' := #[.val (.long t1), .second, .val (.long c1), .second, .val (.long t2), .second, .val (.long c2), .second, .val (.ref b1), .val (.ref b4), .val (.ref b13), .val (.ref b19), .val (.ref b26), .val (.ref b34), .unset, .unset, .unset]) rfl zk) ?_
  show own_GW p e below s _ _ _ (T42.setTop (mkF m 100 #[.val (.long t1), .second, .val (.long c1), .second, .val (.long t2), .second, .val (.long c2), .second, .val (.ref b1), .val (.ref b4), .val (.ref b13), .val (.ref b19), .val (.ref b26), .val (.ref b34), .unset, .unset, .unset] []))
  have E44 : Exa Z T42.heap b1 "com/example/outfall/outfall/rules/Span" := ((E35.ext E34).keep K42)
  have E45 : Exa Z T42.heap b4 "com/example/outfall/outfall/rules/PumpingInterval" := ((E36.ext E34).keep K42)
  have E46 : Exa Z T42.heap b13 "com/example/outfall/outfall/rules/PumpingSchedule$Range" := ((E37.ext E34).keep K42)
  have E47 : Exa Z T42.heap b19 "com/example/outfall/outfall/rules/PumpingSchedule$Range" := ((E38.ext E34).keep K42)
  have E48 : Exa Z T42.heap b26 "com/example/outfall/outfall/rules/PumpingSchedule$Range" := ((E39.ext E34).keep K42)
  have E49 : Exa Z T42.heap b34 "com/example/outfall/outfall/rules/PumpingSchedule$Range" := (A34.keep K42)
  obtain ⟨T43, h43, X43, e43, E43, A43, D43, -, st43⟩ := newO X42 hx hZ hown (hw _ (List.mem_of_getElem? (i := 78) rfl)) (hw _ (List.mem_of_getElem? (i := 79) rfl)) (hw _ (List.mem_of_getElem? (i := 80) rfl)) rfl (g := (mkF m 100 #[.val (.long t1), .second, .val (.long c1), .second, .val (.long t2), .second, .val (.long c2), .second, .val (.ref b1), .val (.ref b4), .val (.ref b13), .val (.ref b19), .val (.ref b26), .val (.ref b34), .unset, .unset, .unset] [])) rfl (hb hby at_100) (by decide) (by decide)
  obtain ⟨b43, g43⟩ : ∃ z, z = T42.heap.size := ⟨_, rfl⟩
  rw [← g43] at A43 D43 st43
  have ne43_b1 : b1 ≠ b43 := by rw [g43]; exact Nat.ne_of_lt E44.lt
  have ne43_b4 : b4 ≠ b43 := by rw [g43]; exact Nat.ne_of_lt E45.lt
  have ne43_b13 : b13 ≠ b43 := by rw [g43]; exact Nat.ne_of_lt E46.lt
  have ne43_b19 : b19 ≠ b43 := by rw [g43]; exact Nat.ne_of_lt E47.lt
  have ne43_b26 : b26 ≠ b43 := by rw [g43]; exact Nat.ne_of_lt E48.lt
  have ne43_b34 : b34 ≠ b43 := by rw [g43]; exact Nat.ne_of_lt E49.lt
  have ge43 : n0 ≤ b43 := Nat.le_trans (Nat.le_trans (Nat.le_trans (Nat.le_trans (Nat.le_trans (Nat.le_trans (Nat.le_trans (Nat.le_trans (Nat.le_trans (Nat.le_trans (Nat.le_trans (Nat.le_trans (Nat.le_trans (Nat.le_trans (Nat.le_trans Z0 E1.1) K3.1) E4.1) E6.1) E7.1) K8.1) E13.1) K18.1) E19.1) K25.1) E26.1) K33.1) E34.1) K42.1) (Nat.le_of_eq g43.symm)
  have sz43 : h0.size ≤ b43 := Nat.le_trans (Nat.le_trans (Nat.le_trans (Nat.le_trans (Nat.le_trans (Nat.le_trans (Nat.le_trans (Nat.le_trans (Nat.le_trans (Nat.le_trans (Nat.le_trans (Nat.le_trans (Nat.le_trans (Nat.le_trans (Nat.le_trans (Nat.le_refl h0.size) E1.1) K3.1) E4.1) E6.1) E7.1) K8.1) E13.1) K18.1) E19.1) K25.1) E26.1) K33.1) E34.1) K42.1) (Nat.le_of_eq g43.symm)
  refine own_stW st43 ?_
  show own_GW p e below s _ _ _ (T43.setTop (mkF m 103 #[.val (.long t1), .second, .val (.long c1), .second, .val (.long t2), .second, .val (.long c2), .second, .val (.ref b1), .val (.ref b4), .val (.ref b13), .val (.ref b19), .val (.ref b26), .val (.ref b34), .unset, .unset, .unset] [(.ref b43)]))
  refine own_stW (fun zt zk => XS.dup X43.here hx rfl (hb hby at_103) rfl rfl zk) ?_
  show own_GW p e below s _ _ _ (T43.setTop (mkF m 104 #[.val (.long t1), .second, .val (.long c1), .second, .val (.long t2), .second, .val (.long c2), .second, .val (.ref b1), .val (.ref b4), .val (.ref b13), .val (.ref b19), .val (.ref b26), .val (.ref b34), .unset, .unset, .unset] [(.ref b43), (.ref b43)]))
  refine own_stW (fun zt zk => XS.aload X43.here hx rfl (hb hby at_104) rfl rfl zk) ?_
  show own_GW p e below s _ _ _ (T43.setTop (mkF m 106 #[.val (.long t1), .second, .val (.long c1), .second, .val (.long t2), .second, .val (.long c2), .second, .val (.ref b1), .val (.ref b4), .val (.ref b13), .val (.ref b19), .val (.ref b26), .val (.ref b34), .unset, .unset, .unset] [(.ref b13), (.ref b43), (.ref b43)]))
  refine own_stW (fun zt zk => XS.aload X43.here hx rfl (hb hby at_106) rfl rfl zk) ?_
  show own_GW p e below s _ _ _ (T43.setTop (mkF m 108 #[.val (.long t1), .second, .val (.long c1), .second, .val (.long t2), .second, .val (.long c2), .second, .val (.ref b1), .val (.ref b4), .val (.ref b13), .val (.ref b19), .val (.ref b26), .val (.ref b34), .unset, .unset, .unset] [(.ref b19), (.ref b13), (.ref b43), (.ref b43)]))
  refine own_stW (fun zt zk => XS.aload X43.here hx rfl (hb hby at_108) rfl rfl zk) ?_
  show own_GW p e below s _ _ _ (T43.setTop (mkF m 110 #[.val (.long t1), .second, .val (.long c1), .second, .val (.long t2), .second, .val (.long c2), .second, .val (.ref b1), .val (.ref b4), .val (.ref b13), .val (.ref b19), .val (.ref b26), .val (.ref b34), .unset, .unset, .unset] [(.ref b4), (.ref b19), (.ref b13), (.ref b43), (.ref b43)]))
  obtain ⟨_, T50, L50, X50, hQ50, hS, hZ, hown, st50⟩ := own_callIW X43 hx hZ hS (y := (⟨"com/example/outfall/outfall/rules/PumpingSchedule$Period", "<init>", "(Lcom/example/outfall/outfall/rules/PumpingSchedule$Range;Lcom/example/outfall/outfall/rules/PumpingSchedule$Range;Lcom/example/outfall/outfall/rules/PumpingInterval;)V"⟩ : MethodName)) (a := b43) (argsL := [(.ref b13), (.ref b19), (.ref b4)]) (rest := [(.ref b43)]) 1 rfl hown (hw _ (List.mem_of_getElem? (i := 81) rfl)) (hw _ (List.mem_of_getElem? (i := 82) rfl)) (hw _ (List.mem_of_getElem? (i := 80) rfl)) (hw _ (List.mem_of_getElem? (i := 83) rfl)) (by decide) (own_pdi l Z a0 hw [] b43 b13 b19 b4 h43 n0 (Nat.le_trans (Nat.le_trans (Nat.le_trans (Nat.le_trans (Nat.le_trans (Nat.le_trans (Nat.le_trans (Nat.le_trans (Nat.le_trans (Nat.le_trans (Nat.le_trans (Nat.le_trans (Nat.le_trans (Nat.le_trans (Nat.le_trans Z0 E1.1) K3.1) E4.1) E6.1) E7.1) K8.1) E13.1) K18.1) E19.1) K25.1) E26.1) K33.1) E34.1) K42.1) E43.1) A43 (D43 (Or.inr (hw _ (List.mem_of_getElem? (i := 90) rfl))) (ty := (.object "com/example/outfall/outfall/rules/PumpingSchedule$Range")) (by decide)) (D43 (Or.inr (hw _ (List.mem_of_getElem? (i := 92) rfl))) (ty := (.object "com/example/outfall/outfall/rules/PumpingSchedule$Range")) (by decide)) (D43 (Or.inr (hw _ (List.mem_of_getElem? (i := 94) rfl))) (ty := (.object "com/example/outfall/outfall/rules/PumpingInterval")) (by decide)) ge43) (by decide) (by decide) e43 (Nat.le_trans (Nat.le_trans (Nat.le_trans (Nat.le_trans (Nat.le_trans (Nat.le_trans (Nat.le_trans (Nat.le_trans (Nat.le_trans (Nat.le_refl T8.heap.size) E13.1) K18.1) E19.1) K25.1) E26.1) K33.1) E34.1) K42.1) E43.1) (g := (mkF m 110 #[.val (.long t1), .second, .val (.long c1), .second, .val (.long t2), .second, .val (.long c2), .second, .val (.ref b1), .val (.ref b4), .val (.ref b13), .val (.ref b19), .val (.ref b26), .val (.ref b34), .unset, .unset, .unset] [(.ref b4), (.ref b19), (.ref b13), (.ref b43), (.ref b43)])) rfl (by rw [hml]; rfl) own_pd8 rfl rfl (by show 2 * 0 + _ ≤ _; exact Nat.le_of_eq rfl) (hb hby at_110) (by decide) (by decide)
  obtain ⟨rfl, N50q, K50, q50_0, q50_1⟩ := hQ50
  have N50 := Fr.app N42 N50q
  refine own_stW st50 ?_
  show own_GW p e below s _ _ _ (T50.setTop (mkF m 113 #[.val (.long t1), .second, .val (.long c1), .second, .val (.long t2), .second, .val (.long c2), .second, .val (.ref b1), .val (.ref b4), .val (.ref b13), .val (.ref b19), .val (.ref b26), .val (.ref b34), .unset, .unset, .unset] [(.ref b43)]))
  refine own_stW (fun zt zk => XS.astore X50.here hx rfl (hb hby at_113) rfl rfl (l' := #[.val (.long t1), .second, .val (.long c1), .second, .val (.long t2), .second, .val (.long c2), .second, .val (.ref b1), .val (.ref b4), .val (.ref b13), .val (.ref b19), .val (.ref b26), .val (.ref b34), .val (.ref b43), .unset, .unset]) rfl zk) ?_
  show own_GW p e below s _ _ _ (T50.setTop (mkF m 115 #[.val (.long t1), .second, .val (.long c1), .second, .val (.long t2), .second, .val (.long c2), .second, .val (.ref b1), .val (.ref b4), .val (.ref b13), .val (.ref b19), .val (.ref b26), .val (.ref b34), .val (.ref b43), .unset, .unset] []))
  have E52 : Exa Z T50.heap b1 "com/example/outfall/outfall/rules/Span" := ((E44.ext E43).keep K50)
  have E53 : Exa Z T50.heap b4 "com/example/outfall/outfall/rules/PumpingInterval" := ((E45.ext E43).keep K50)
  have E54 : Exa Z T50.heap b13 "com/example/outfall/outfall/rules/PumpingSchedule$Range" := ((E46.ext E43).keep K50)
  have E55 : Exa Z T50.heap b19 "com/example/outfall/outfall/rules/PumpingSchedule$Range" := ((E47.ext E43).keep K50)
  have E56 : Exa Z T50.heap b26 "com/example/outfall/outfall/rules/PumpingSchedule$Range" := ((E48.ext E43).keep K50)
  have E57 : Exa Z T50.heap b34 "com/example/outfall/outfall/rules/PumpingSchedule$Range" := ((E49.ext E43).keep K50)
  have E58 : Exa Z T50.heap b43 "com/example/outfall/outfall/rules/PumpingSchedule$Period" := (A43.keep K50)
  obtain ⟨T51, h51, X51, e51, E51, A51, D51, -, st51⟩ := newO X50 hx hZ hown (hw _ (List.mem_of_getElem? (i := 78) rfl)) (hw _ (List.mem_of_getElem? (i := 79) rfl)) (hw _ (List.mem_of_getElem? (i := 80) rfl)) rfl (g := (mkF m 115 #[.val (.long t1), .second, .val (.long c1), .second, .val (.long t2), .second, .val (.long c2), .second, .val (.ref b1), .val (.ref b4), .val (.ref b13), .val (.ref b19), .val (.ref b26), .val (.ref b34), .val (.ref b43), .unset, .unset] [])) rfl (hb hby at_115) (by decide) (by decide)
  obtain ⟨b51, g51⟩ : ∃ z, z = T50.heap.size := ⟨_, rfl⟩
  rw [← g51] at A51 D51 st51
  have ne51_b1 : b1 ≠ b51 := by rw [g51]; exact Nat.ne_of_lt E52.lt
  have ne51_b4 : b4 ≠ b51 := by rw [g51]; exact Nat.ne_of_lt E53.lt
  have ne51_b13 : b13 ≠ b51 := by rw [g51]; exact Nat.ne_of_lt E54.lt
  have ne51_b19 : b19 ≠ b51 := by rw [g51]; exact Nat.ne_of_lt E55.lt
  have ne51_b26 : b26 ≠ b51 := by rw [g51]; exact Nat.ne_of_lt E56.lt
  have ne51_b34 : b34 ≠ b51 := by rw [g51]; exact Nat.ne_of_lt E57.lt
  have ne51_b43 : b43 ≠ b51 := by rw [g51]; exact Nat.ne_of_lt E58.lt
  have ge51 : n0 ≤ b51 := Nat.le_trans (Nat.le_trans (Nat.le_trans (Nat.le_trans (Nat.le_trans (Nat.le_trans (Nat.le_trans (Nat.le_trans (Nat.le_trans (Nat.le_trans (Nat.le_trans (Nat.le_trans (Nat.le_trans (Nat.le_trans (Nat.le_trans (Nat.le_trans (Nat.le_trans Z0 E1.1) K3.1) E4.1) E6.1) E7.1) K8.1) E13.1) K18.1) E19.1) K25.1) E26.1) K33.1) E34.1) K42.1) E43.1) K50.1) (Nat.le_of_eq g51.symm)
  have sz51 : h0.size ≤ b51 := Nat.le_trans (Nat.le_trans (Nat.le_trans (Nat.le_trans (Nat.le_trans (Nat.le_trans (Nat.le_trans (Nat.le_trans (Nat.le_trans (Nat.le_trans (Nat.le_trans (Nat.le_trans (Nat.le_trans (Nat.le_trans (Nat.le_trans (Nat.le_trans (Nat.le_trans (Nat.le_refl h0.size) E1.1) K3.1) E4.1) E6.1) E7.1) K8.1) E13.1) K18.1) E19.1) K25.1) E26.1) K33.1) E34.1) K42.1) E43.1) K50.1) (Nat.le_of_eq g51.symm)
  refine own_stW st51 ?_
  show own_GW p e below s _ _ _ (T51.setTop (mkF m 118 #[.val (.long t1), .second, .val (.long c1), .second, .val (.long t2), .second, .val (.long c2), .second, .val (.ref b1), .val (.ref b4), .val (.ref b13), .val (.ref b19), .val (.ref b26), .val (.ref b34), .val (.ref b43), .unset, .unset] [(.ref b51)]))
  refine own_stW (fun zt zk => XS.dup X51.here hx rfl (hb hby at_118) rfl rfl zk) ?_
  show own_GW p e below s _ _ _ (T51.setTop (mkF m 119 #[.val (.long t1), .second, .val (.long c1), .second, .val (.long t2), .second, .val (.long c2), .second, .val (.ref b1), .val (.ref b4), .val (.ref b13), .val (.ref b19), .val (.ref b26), .val (.ref b34), .val (.ref b43), .unset, .unset] [(.ref b51), (.ref b51)]))
  refine own_stW (fun zt zk => XS.aload X51.here hx rfl (hb hby at_119) rfl rfl zk) ?_
  show own_GW p e below s _ _ _ (T51.setTop (mkF m 121 #[.val (.long t1), .second, .val (.long c1), .second, .val (.long t2), .second, .val (.long c2), .second, .val (.ref b1), .val (.ref b4), .val (.ref b13), .val (.ref b19), .val (.ref b26), .val (.ref b34), .val (.ref b43), .unset, .unset] [(.ref b26), (.ref b51), (.ref b51)]))
  refine own_stW (fun zt zk => XS.aload X51.here hx rfl (hb hby at_121) rfl rfl zk) ?_
  show own_GW p e below s _ _ _ (T51.setTop (mkF m 123 #[.val (.long t1), .second, .val (.long c1), .second, .val (.long t2), .second, .val (.long c2), .second, .val (.ref b1), .val (.ref b4), .val (.ref b13), .val (.ref b19), .val (.ref b26), .val (.ref b34), .val (.ref b43), .unset, .unset] [(.ref b34), (.ref b26), (.ref b51), (.ref b51)]))
  refine own_stW (fun zt zk => XS.aload X51.here hx rfl (hb hby at_123) rfl rfl zk) ?_
  show own_GW p e below s _ _ _ (T51.setTop (mkF m 125 #[.val (.long t1), .second, .val (.long c1), .second, .val (.long t2), .second, .val (.long c2), .second, .val (.ref b1), .val (.ref b4), .val (.ref b13), .val (.ref b19), .val (.ref b26), .val (.ref b34), .val (.ref b43), .unset, .unset] [(.ref b4), (.ref b34), (.ref b26), (.ref b51), (.ref b51)]))
  obtain ⟨_, T59, L59, X59, hQ59, hS, hZ, hown, st59⟩ := own_callIW X51 hx hZ hS (y := (⟨"com/example/outfall/outfall/rules/PumpingSchedule$Period", "<init>", "(Lcom/example/outfall/outfall/rules/PumpingSchedule$Range;Lcom/example/outfall/outfall/rules/PumpingSchedule$Range;Lcom/example/outfall/outfall/rules/PumpingInterval;)V"⟩ : MethodName)) (a := b51) (argsL := [(.ref b26), (.ref b34), (.ref b4)]) (rest := [(.ref b51)]) 1 rfl hown (hw _ (List.mem_of_getElem? (i := 81) rfl)) (hw _ (List.mem_of_getElem? (i := 82) rfl)) (hw _ (List.mem_of_getElem? (i := 80) rfl)) (hw _ (List.mem_of_getElem? (i := 83) rfl)) (by decide) (own_pdi l Z a0 hw [] b51 b26 b34 b4 h51 n0 (Nat.le_trans (Nat.le_trans (Nat.le_trans (Nat.le_trans (Nat.le_trans (Nat.le_trans (Nat.le_trans (Nat.le_trans (Nat.le_trans (Nat.le_trans (Nat.le_trans (Nat.le_trans (Nat.le_trans (Nat.le_trans (Nat.le_trans (Nat.le_trans (Nat.le_trans Z0 E1.1) K3.1) E4.1) E6.1) E7.1) K8.1) E13.1) K18.1) E19.1) K25.1) E26.1) K33.1) E34.1) K42.1) E43.1) K50.1) E51.1) A51 (D51 (Or.inr (hw _ (List.mem_of_getElem? (i := 90) rfl))) (ty := (.object "com/example/outfall/outfall/rules/PumpingSchedule$Range")) (by decide)) (D51 (Or.inr (hw _ (List.mem_of_getElem? (i := 92) rfl))) (ty := (.object "com/example/outfall/outfall/rules/PumpingSchedule$Range")) (by decide)) (D51 (Or.inr (hw _ (List.mem_of_getElem? (i := 94) rfl))) (ty := (.object "com/example/outfall/outfall/rules/PumpingInterval")) (by decide)) ge51) (by decide) (by decide) e51 (Nat.le_trans (Nat.le_refl T50.heap.size) E51.1) (g := (mkF m 125 #[.val (.long t1), .second, .val (.long c1), .second, .val (.long t2), .second, .val (.long c2), .second, .val (.ref b1), .val (.ref b4), .val (.ref b13), .val (.ref b19), .val (.ref b26), .val (.ref b34), .val (.ref b43), .unset, .unset] [(.ref b4), (.ref b34), (.ref b26), (.ref b51), (.ref b51)])) rfl (by rw [hml]; rfl) own_pd8 rfl rfl (by show 2 * 0 + _ ≤ _; exact Nat.le_of_eq rfl) (hb hby at_125) (by decide) (by decide)
  obtain ⟨rfl, N59q, K59, q59_0, q59_1⟩ := hQ59
  have N59 := Fr.app N50 N59q
  refine own_stW st59 ?_
  show own_GW p e below s _ _ _ (T59.setTop (mkF m 128 #[.val (.long t1), .second, .val (.long c1), .second, .val (.long t2), .second, .val (.long c2), .second, .val (.ref b1), .val (.ref b4), .val (.ref b13), .val (.ref b19), .val (.ref b26), .val (.ref b34), .val (.ref b43), .unset, .unset] [(.ref b51)]))
  refine own_stW (fun zt zk => XS.astore X59.here hx rfl (hb hby at_128) rfl rfl (l' := #[.val (.long t1), .second, .val (.long c1), .second, .val (.long t2), .second, .val (.long c2), .second, .val (.ref b1), .val (.ref b4), .val (.ref b13), .val (.ref b19), .val (.ref b26), .val (.ref b34), .val (.ref b43), .val (.ref b51), .unset]) rfl zk) ?_
  show own_GW p e below s _ _ _ (T59.setTop (mkF m 130 #[.val (.long t1), .second, .val (.long c1), .second, .val (.long t2), .second, .val (.long c2), .second, .val (.ref b1), .val (.ref b4), .val (.ref b13), .val (.ref b19), .val (.ref b26), .val (.ref b34), .val (.ref b43), .val (.ref b51), .unset] []))
  refine own_stW (fun zt zk => XS.lloadN X59.here hx rfl (hb hby at_130) rfl zk) ?_
  show own_GW p e below s _ _ _ (T59.setTop (mkF m 131 #[.val (.long t1), .second, .val (.long c1), .second, .val (.long t2), .second, .val (.long c2), .second, .val (.ref b1), .val (.ref b4), .val (.ref b13), .val (.ref b19), .val (.ref b26), .val (.ref b34), .val (.ref b43), .val (.ref b51), .unset] [(.long t1)]))
  refine own_stW (fun zt zk => XS.lload X59.here hx rfl (hb hby at_131) rfl zk) ?_
  show own_GW p e below s _ _ _ (T59.setTop (mkF m 133 #[.val (.long t1), .second, .val (.long c1), .second, .val (.long t2), .second, .val (.long c2), .second, .val (.ref b1), .val (.ref b4), .val (.ref b13), .val (.ref b19), .val (.ref b26), .val (.ref b34), .val (.ref b43), .val (.ref b51), .unset] [(.long t2), (.long t1)]))
  obtain ⟨_, T60, L60, X60, hQ60, st60⟩ := own_callS X59 hx hZ (y := (⟨"com/example/outfall/outfall/rules/PeriodOverlapsPinLaw", "meet", "(JJ)Z"⟩ : MethodName)) (argsL := [(.long t1), (.long t2)]) (rest := []) 0 hown (hw _ (List.mem_of_getElem? (i := 95) rfl)) (hw _ (List.mem_of_getElem? (i := 96) rfl)) (hw _ (List.mem_of_getElem? (i := 57) rfl)) (hw _ (List.mem_of_getElem? (i := 97) rfl)) (by decide) (own_cmeet l Z a0 hw [] t1 t2 T59.heap n0 (Nat.le_trans (Nat.le_trans (Nat.le_trans (Nat.le_trans (Nat.le_trans (Nat.le_trans (Nat.le_trans (Nat.le_trans (Nat.le_trans (Nat.le_trans (Nat.le_trans (Nat.le_trans (Nat.le_trans (Nat.le_trans (Nat.le_trans (Nat.le_trans (Nat.le_trans (Nat.le_trans Z0 E1.1) K3.1) E4.1) E6.1) E7.1) K8.1) E13.1) K18.1) E19.1) K25.1) E26.1) K33.1) E34.1) K42.1) E43.1) K50.1) E51.1) K59.1) ) (by decide) (by decide) rfl (g := (mkF m 133 #[.val (.long t1), .second, .val (.long c1), .second, .val (.long t2), .second, .val (.long c2), .second, .val (.ref b1), .val (.ref b4), .val (.ref b13), .val (.ref b19), .val (.ref b26), .val (.ref b34), .val (.ref b43), .val (.ref b51), .unset] [(.long t2), (.long t1)])) rfl (by rw [hml]; rfl) own_pd9 rfl rfl (by show 2 * 0 + _ ≤ _; exact Nat.le_of_eq rfl) (hb hby at_133) (by decide) (by decide)
  obtain ⟨rfl, N60q, e60⟩ := hQ60
  have N60 := Fr.app N59 N60q
  refine own_stW st60 ?_
  show own_GW p e below s _ _ _ (T60.setTop (mkF m 136 #[.val (.long t1), .second, .val (.long c1), .second, .val (.long t2), .second, .val (.long c2), .second, .val (.ref b1), .val (.ref b4), .val (.ref b13), .val (.ref b19), .val (.ref b26), .val (.ref b34), .val (.ref b43), .val (.ref b51), .unset] [(.int (own_b (¬ ((own_mini (own_hi t1) (own_hi t2)) < (own_maxi (own_lo t1) (own_lo t2))))))]))
  by_cases hc136_61 : (¬ ((own_mini (own_hi t1) (own_hi t2)) < (own_maxi (own_lo t1) (own_lo t2))))
  · refine own_stW (fun zt zk => XS.ifNo X60.here hx rfl (hb hby at_136) rfl ((if0 _ _).trans (feq (own_bn hc136_61)).1) zk) ?_
    show own_GW p e below s _ _ _ (T60.setTop (mkF m 139 #[.val (.long t1), .second, .val (.long c1), .second, .val (.long t2), .second, .val (.long c2), .second, .val (.ref b1), .val (.ref b4), .val (.ref b13), .val (.ref b19), .val (.ref b26), .val (.ref b34), .val (.ref b43), .val (.ref b51), .unset] []))
    refine own_stW (fun zt zk => XS.lloadN X60.here hx rfl (hb hby at_139) rfl zk) ?_
    show own_GW p e below s _ _ _ (T60.setTop (mkF m 140 #[.val (.long t1), .second, .val (.long c1), .second, .val (.long t2), .second, .val (.long c2), .second, .val (.ref b1), .val (.ref b4), .val (.ref b13), .val (.ref b19), .val (.ref b26), .val (.ref b34), .val (.ref b43), .val (.ref b51), .unset] [(.long c1)]))
    refine own_stW (fun zt zk => XS.lload X60.here hx rfl (hb hby at_140) rfl zk) ?_
    show own_GW p e below s _ _ _ (T60.setTop (mkF m 142 #[.val (.long t1), .second, .val (.long c1), .second, .val (.long t2), .second, .val (.long c2), .second, .val (.ref b1), .val (.ref b4), .val (.ref b13), .val (.ref b19), .val (.ref b26), .val (.ref b34), .val (.ref b43), .val (.ref b51), .unset] [(.long c2), (.long c1)]))
    obtain ⟨_, T62, L62, X62, hQ62, st62⟩ := own_callS X60 hx hZ (y := (⟨"com/example/outfall/outfall/rules/PeriodOverlapsPinLaw", "meet", "(JJ)Z"⟩ : MethodName)) (argsL := [(.long c1), (.long c2)]) (rest := []) 0 hown (hw _ (List.mem_of_getElem? (i := 95) rfl)) (hw _ (List.mem_of_getElem? (i := 96) rfl)) (hw _ (List.mem_of_getElem? (i := 57) rfl)) (hw _ (List.mem_of_getElem? (i := 97) rfl)) (by decide) (own_cmeet l Z a0 hw [] c1 c2 T59.heap n0 (Nat.le_trans (Nat.le_trans (Nat.le_trans (Nat.le_trans (Nat.le_trans (Nat.le_trans (Nat.le_trans (Nat.le_trans (Nat.le_trans (Nat.le_trans (Nat.le_trans (Nat.le_trans (Nat.le_trans (Nat.le_trans (Nat.le_trans (Nat.le_trans (Nat.le_trans (Nat.le_trans Z0 E1.1) K3.1) E4.1) E6.1) E7.1) K8.1) E13.1) K18.1) E19.1) K25.1) E26.1) K33.1) E34.1) K42.1) E43.1) K50.1) E51.1) K59.1) ) (by decide) (by decide) e60 (g := (mkF m 142 #[.val (.long t1), .second, .val (.long c1), .second, .val (.long t2), .second, .val (.long c2), .second, .val (.ref b1), .val (.ref b4), .val (.ref b13), .val (.ref b19), .val (.ref b26), .val (.ref b34), .val (.ref b43), .val (.ref b51), .unset] [(.long c2), (.long c1)])) rfl (by rw [hml]; rfl) own_pd9 rfl rfl (by show 2 * 0 + _ ≤ _; exact Nat.le_of_eq rfl) (hb hby at_142) (by decide) (by decide)
    obtain ⟨rfl, N62q, e62⟩ := hQ62
    have N62 := Fr.app N60 N62q
    refine own_stW st62 ?_
    show own_GW p e below s _ _ _ (T62.setTop (mkF m 145 #[.val (.long t1), .second, .val (.long c1), .second, .val (.long t2), .second, .val (.long c2), .second, .val (.ref b1), .val (.ref b4), .val (.ref b13), .val (.ref b19), .val (.ref b26), .val (.ref b34), .val (.ref b43), .val (.ref b51), .unset] [(.int (own_b (¬ ((own_mini (own_hi c1) (own_hi c2)) < (own_maxi (own_lo c1) (own_lo c2))))))]))
    by_cases hc145_63 : (¬ ((own_mini (own_hi c1) (own_hi c2)) < (own_maxi (own_lo c1) (own_lo c2))))
    · refine own_stW (fun zt zk => XS.ifNo X62.here hx rfl (hb hby at_145) rfl ((if0 _ _).trans (feq (own_bn hc145_63)).1) zk) ?_
      show own_GW p e below s _ _ _ (T62.setTop (mkF m 148 #[.val (.long t1), .second, .val (.long c1), .second, .val (.long t2), .second, .val (.long c2), .second, .val (.ref b1), .val (.ref b4), .val (.ref b13), .val (.ref b19), .val (.ref b26), .val (.ref b34), .val (.ref b43), .val (.ref b51), .unset] []))
      refine own_stW (fun zt zk => XS.iconst X62.here hx rfl (hb hby at_148) zk) ?_
      show own_GW p e below s _ _ _ (T62.setTop (mkF m 149 #[.val (.long t1), .second, .val (.long c1), .second, .val (.long t2), .second, .val (.long c2), .second, .val (.ref b1), .val (.ref b4), .val (.ref b13), .val (.ref b19), .val (.ref b26), .val (.ref b34), .val (.ref b43), .val (.ref b51), .unset] [(.int (1 : Int32))]))
      refine own_stW (fun zt zk => XS.goto X62.here hx rfl (pc0 := 149) (pc' := 153) rfl (hb hby at_149) (by decide) (by decide) zk) ?_
      show own_GW p e below s _ _ _ (T62.setTop (mkF m 153 #[.val (.long t1), .second, .val (.long c1), .second, .val (.long t2), .second, .val (.long c2), .second, .val (.ref b1), .val (.ref b4), .val (.ref b13), .val (.ref b19), .val (.ref b26), .val (.ref b34), .val (.ref b43), .val (.ref b51), .unset] [(.int (1 : Int32))]))
      refine own_stW (fun zt zk => XS.istore X62.here hx rfl (hb hby at_153) rfl (l' := #[.val (.long t1), .second, .val (.long c1), .second, .val (.long t2), .second, .val (.long c2), .second, .val (.ref b1), .val (.ref b4), .val (.ref b13), .val (.ref b19), .val (.ref b26), .val (.ref b34), .val (.ref b43), .val (.ref b51), .val (.int (1 : Int32))]) rfl zk) ?_
      show own_GW p e below s _ _ _ (T62.setTop (mkF m 155 #[.val (.long t1), .second, .val (.long c1), .second, .val (.long t2), .second, .val (.long c2), .second, .val (.ref b1), .val (.ref b4), .val (.ref b13), .val (.ref b19), .val (.ref b26), .val (.ref b34), .val (.ref b43), .val (.ref b51), .val (.int (1 : Int32))] []))
      refine own_stW (fun zt zk => XS.aload X62.here hx rfl (hb hby at_155) rfl rfl zk) ?_
      show own_GW p e below s _ _ _ (T62.setTop (mkF m 157 #[.val (.long t1), .second, .val (.long c1), .second, .val (.long t2), .second, .val (.long c2), .second, .val (.ref b1), .val (.ref b4), .val (.ref b13), .val (.ref b19), .val (.ref b26), .val (.ref b34), .val (.ref b43), .val (.ref b51), .val (.int (1 : Int32))] [(.ref b43)]))
      refine own_stW (fun zt zk => XS.aload X62.here hx rfl (hb hby at_157) rfl rfl zk) ?_
      show own_GW p e below s _ _ _ (T62.setTop (mkF m 159 #[.val (.long t1), .second, .val (.long c1), .second, .val (.long t2), .second, .val (.long c2), .second, .val (.ref b1), .val (.ref b4), .val (.ref b13), .val (.ref b19), .val (.ref b26), .val (.ref b34), .val (.ref b43), .val (.ref b51), .val (.int (1 : Int32))] [(.ref b51), (.ref b43)]))
      have F65 : Fld Z T59.heap b43 "com/example/outfall/outfall/rules/PumpingSchedule$Period" "tanks" "Lcom/example/outfall/outfall/rules/PumpingSchedule$Range;" (.ref b13) := ((q50_0.ext E51).keep K59 (ninS ne51_b43 nin0))
      have F66 : Fld Z T59.heap b43 "com/example/outfall/outfall/rules/PumpingSchedule$Period" "capacity" "Lcom/example/outfall/outfall/rules/PumpingSchedule$Range;" (.ref b19) := ((q50_1.ext E51).keep K59 (ninS ne51_b43 nin0))
      have F67 : Fld Z T59.heap b13 "com/example/outfall/outfall/rules/PumpingSchedule$Range" "least" "I" (.int (own_lo t1)) := ((((((((((q18_0.ext E19).keep K25 (ninS ne19_b13 nin0)).ext E26).keep K33 (ninS ne26_b13 nin0)).ext E34).keep K42 (ninS ne34_b13 nin0)).ext E43).keep K50 (ninS ne43_b13 nin0)).ext E51).keep K59 (ninS ne51_b13 nin0))
      have F68 : Fld Z T59.heap b13 "com/example/outfall/outfall/rules/PumpingSchedule$Range" "most" "I" (.int (own_hi t1)) := ((((((((((q18_1.ext E19).keep K25 (ninS ne19_b13 nin0)).ext E26).keep K33 (ninS ne26_b13 nin0)).ext E34).keep K42 (ninS ne34_b13 nin0)).ext E43).keep K50 (ninS ne43_b13 nin0)).ext E51).keep K59 (ninS ne51_b13 nin0))
      have F69 : Fld Z T59.heap b26 "com/example/outfall/outfall/rules/PumpingSchedule$Range" "least" "I" (.int (own_lo t2)) := ((((((q33_0.ext E34).keep K42 (ninS ne34_b26 nin0)).ext E43).keep K50 (ninS ne43_b26 nin0)).ext E51).keep K59 (ninS ne51_b26 nin0))
      have F70 : Fld Z T59.heap b26 "com/example/outfall/outfall/rules/PumpingSchedule$Range" "most" "I" (.int (own_hi t2)) := ((((((q33_1.ext E34).keep K42 (ninS ne34_b26 nin0)).ext E43).keep K50 (ninS ne43_b26 nin0)).ext E51).keep K59 (ninS ne51_b26 nin0))
      have F71 : Fld Z T59.heap b19 "com/example/outfall/outfall/rules/PumpingSchedule$Range" "least" "I" (.int (own_lo c1)) := ((((((((q25_0.ext E26).keep K33 (ninS ne26_b19 nin0)).ext E34).keep K42 (ninS ne34_b19 nin0)).ext E43).keep K50 (ninS ne43_b19 nin0)).ext E51).keep K59 (ninS ne51_b19 nin0))
      have F72 : Fld Z T59.heap b19 "com/example/outfall/outfall/rules/PumpingSchedule$Range" "most" "I" (.int (own_hi c1)) := ((((((((q25_1.ext E26).keep K33 (ninS ne26_b19 nin0)).ext E34).keep K42 (ninS ne34_b19 nin0)).ext E43).keep K50 (ninS ne43_b19 nin0)).ext E51).keep K59 (ninS ne51_b19 nin0))
      have F73 : Fld Z T59.heap b34 "com/example/outfall/outfall/rules/PumpingSchedule$Range" "least" "I" (.int (own_lo c2)) := ((((q42_0.ext E43).keep K50 (ninS ne43_b34 nin0)).ext E51).keep K59 (ninS ne51_b34 nin0))
      have F74 : Fld Z T59.heap b34 "com/example/outfall/outfall/rules/PumpingSchedule$Range" "most" "I" (.int (own_hi c2)) := ((((q42_1.ext E43).keep K50 (ninS ne43_b34 nin0)).ext E51).keep K59 (ninS ne51_b34 nin0))
      have E75 : Exa Z T59.heap b13 "com/example/outfall/outfall/rules/PumpingSchedule$Range" := ((E54.ext E51).keep K59)
      have E76 : Exa Z T59.heap b26 "com/example/outfall/outfall/rules/PumpingSchedule$Range" := ((E56.ext E51).keep K59)
      have E77 : Exa Z T59.heap b19 "com/example/outfall/outfall/rules/PumpingSchedule$Range" := ((E55.ext E51).keep K59)
      have E78 : Exa Z T59.heap b34 "com/example/outfall/outfall/rules/PumpingSchedule$Range" := ((E57.ext E51).keep K59)
      have E79 : Exa Z T59.heap b43 "com/example/outfall/outfall/rules/PumpingSchedule$Period" := ((E58.ext E51).keep K59)
      obtain ⟨_, T64, L64, X64, hQ64, st64⟩ := own_callV X62 hx hZ (C := "com/example/outfall/outfall/rules/PumpingSchedule$Period") (y := (⟨"com/example/outfall/outfall/rules/PumpingSchedule$Period", "overlaps", "(Lcom/example/outfall/outfall/rules/PumpingSchedule$Period;)Z"⟩ : MethodName)) (z := (⟨"com/example/outfall/outfall/rules/PumpingSchedule$Period", "overlaps", "(Lcom/example/outfall/outfall/rules/PumpingSchedule$Period;)Z"⟩ : MethodName)) (a := b43) (argsL := [(.ref b51)]) (rest := []) 0 hown (hw _ (List.mem_of_getElem? (i := 98) rfl)) (hw _ (List.mem_of_getElem? (i := 99) rfl)) (own_nf hZ (hw _ (List.mem_of_getElem? (i := 101) rfl))) (hw _ (List.mem_of_getElem? (i := 101) rfl)) (hw _ (List.mem_of_getElem? (i := 100) rfl)) (hw _ (List.mem_of_getElem? (i := 80) rfl)) (hw _ (List.mem_of_getElem? (i := 102) rfl)) (by decide) (own_pov l Z a0 hw [] b43 b51 b13 b26 b19 b34 (own_lo t1) (own_hi t1) (own_lo t2) (own_hi t2) (own_lo c1) (own_hi c1) (own_lo c2) (own_hi c2) T59.heap n0 (Nat.le_trans (Nat.le_trans (Nat.le_trans (Nat.le_trans (Nat.le_trans (Nat.le_trans (Nat.le_trans (Nat.le_trans (Nat.le_trans (Nat.le_trans (Nat.le_trans (Nat.le_trans (Nat.le_trans (Nat.le_trans (Nat.le_trans (Nat.le_trans (Nat.le_trans (Nat.le_trans Z0 E1.1) K3.1) E4.1) E6.1) E7.1) K8.1) E13.1) K18.1) E19.1) K25.1) E26.1) K33.1) E34.1) K42.1) E43.1) K50.1) E51.1) K59.1) F65 q59_0 F66 q59_1 E75 F67 F68 E76 F69 F70 E77 F71 F72 E78 F73 F74) (by decide) (by decide) e62 E79 (g := (mkF m 159 #[.val (.long t1), .second, .val (.long c1), .second, .val (.long t2), .second, .val (.long c2), .second, .val (.ref b1), .val (.ref b4), .val (.ref b13), .val (.ref b19), .val (.ref b26), .val (.ref b34), .val (.ref b43), .val (.ref b51), .val (.int (1 : Int32))] [(.ref b51), (.ref b43)])) rfl (by rw [hml]; rfl) own_pd10 rfl rfl (by show 2 * 0 + _ ≤ _; exact Nat.le_of_eq rfl) (hb hby at_159) (by decide) (by decide)
      obtain ⟨rfl, N64q, e64⟩ := hQ64
      have N64 := Fr.app N62 N64q
      refine own_stW st64 ?_
      show own_GW p e below s _ _ _ (T64.setTop (mkF m 162 #[.val (.long t1), .second, .val (.long c1), .second, .val (.long t2), .second, .val (.long c2), .second, .val (.ref b1), .val (.ref b4), .val (.ref b13), .val (.ref b19), .val (.ref b26), .val (.ref b34), .val (.ref b43), .val (.ref b51), .val (.int (1 : Int32))] [(.int (own_b ((¬ ((own_hi t2) < (own_lo t1)) ∧ ¬ ((own_hi t1) < (own_lo t2))) ∧ (¬ ((own_hi c2) < (own_lo c1)) ∧ ¬ ((own_hi c1) < (own_lo c2))))))]))
      refine own_stW (fun zt zk => XS.iload X64.here hx rfl (hb hby at_162) rfl zk) ?_
      show own_GW p e below s _ _ _ (T64.setTop (mkF m 164 #[.val (.long t1), .second, .val (.long c1), .second, .val (.long t2), .second, .val (.long c2), .second, .val (.ref b1), .val (.ref b4), .val (.ref b13), .val (.ref b19), .val (.ref b26), .val (.ref b34), .val (.ref b43), .val (.ref b51), .val (.int (1 : Int32))] [(.int (1 : Int32)), (.int (own_b ((¬ ((own_hi t2) < (own_lo t1)) ∧ ¬ ((own_hi t1) < (own_lo t2))) ∧ (¬ ((own_hi c2) < (own_lo c1)) ∧ ¬ ((own_hi c1) < (own_lo c2))))))]))
      have hc164_80 : (own_b ((¬ ((own_hi t2) < (own_lo t1)) ∧ ¬ ((own_hi t1) < (own_lo t2))) ∧ (¬ ((own_hi c2) < (own_lo c1)) ∧ ¬ ((own_hi c1) < (own_lo c2))))) = (1 : Int32) := own_b1 ⟨Classical.not_not.mp (mt (own_ov (own_lo t1) (own_hi t1) (own_lo t2) (own_hi t2) (own_lohi _ _) (own_lohi _ _)).mpr hc136_61), Classical.not_not.mp (mt (own_ov (own_lo c1) (own_hi c1) (own_lo c2) (own_hi c2) (own_lohi _ _) (own_lohi _ _)).mpr hc145_63)⟩
      refine own_stW (fun zt zk => XS.icmpNo X64.here hx rfl (hb hby at_164) rfl (teq hc164_80).2 zk) ?_
      show own_GW p e below s _ _ _ (T64.setTop (mkF m 167 #[.val (.long t1), .second, .val (.long c1), .second, .val (.long t2), .second, .val (.long c2), .second, .val (.ref b1), .val (.ref b4), .val (.ref b13), .val (.ref b19), .val (.ref b26), .val (.ref b34), .val (.ref b43), .val (.ref b51), .val (.int (1 : Int32))] []))
      refine own_stW (fun zt zk => XS.iconst X64.here hx rfl (hb hby at_167) zk) ?_
      show own_GW p e below s _ _ _ (T64.setTop (mkF m 168 #[.val (.long t1), .second, .val (.long c1), .second, .val (.long t2), .second, .val (.long c2), .second, .val (.ref b1), .val (.ref b4), .val (.ref b13), .val (.ref b19), .val (.ref b26), .val (.ref b34), .val (.ref b43), .val (.ref b51), .val (.int (1 : Int32))] [(.int (1 : Int32))]))
      refine own_stW (fun zt zk => XS.goto X64.here hx rfl (pc0 := 168) (pc' := 172) rfl (hb hby at_168) (by decide) (by decide) zk) ?_
      show own_GW p e below s _ _ _ (T64.setTop (mkF m 172 #[.val (.long t1), .second, .val (.long c1), .second, .val (.long t2), .second, .val (.long c2), .second, .val (.ref b1), .val (.ref b4), .val (.ref b13), .val (.ref b19), .val (.ref b26), .val (.ref b34), .val (.ref b43), .val (.ref b51), .val (.int (1 : Int32))] [(.int (1 : Int32))]))
      refine own_retZW X64 hx hlk hS (by rw [e64]; exact (Nat.le_refl T59.heap.size)) hret (by decide) (hb hby at_172) (by decide) (by decide) ?_
      show Q_own_law Z t1 c1 t2 c2 dy h0 n0 (some (.int (1 : Int32))) T64.heap _
      rw [e64]
      exact ⟨rfl, N64⟩
    · refine own_stW (fun zt zk => XS.ifYes X62.here hx rfl (pc0 := 145) (pc' := 152) rfl (hb hby at_145) rfl ((if0 _ _).trans (teq (own_b0 hc145_63)).1) (by decide) (by decide) zk) ?_
      show own_GW p e below s _ _ _ (T62.setTop (mkF m 152 #[.val (.long t1), .second, .val (.long c1), .second, .val (.long t2), .second, .val (.long c2), .second, .val (.ref b1), .val (.ref b4), .val (.ref b13), .val (.ref b19), .val (.ref b26), .val (.ref b34), .val (.ref b43), .val (.ref b51), .unset] []))
      refine own_stW (fun zt zk => XS.iconst X62.here hx rfl (hb hby at_152) zk) ?_
      show own_GW p e below s _ _ _ (T62.setTop (mkF m 153 #[.val (.long t1), .second, .val (.long c1), .second, .val (.long t2), .second, .val (.long c2), .second, .val (.ref b1), .val (.ref b4), .val (.ref b13), .val (.ref b19), .val (.ref b26), .val (.ref b34), .val (.ref b43), .val (.ref b51), .unset] [(.int (0 : Int32))]))
      refine own_stW (fun zt zk => XS.istore X62.here hx rfl (hb hby at_153) rfl (l' := #[.val (.long t1), .second, .val (.long c1), .second, .val (.long t2), .second, .val (.long c2), .second, .val (.ref b1), .val (.ref b4), .val (.ref b13), .val (.ref b19), .val (.ref b26), .val (.ref b34), .val (.ref b43), .val (.ref b51), .val (.int (0 : Int32))]) rfl zk) ?_
      show own_GW p e below s _ _ _ (T62.setTop (mkF m 155 #[.val (.long t1), .second, .val (.long c1), .second, .val (.long t2), .second, .val (.long c2), .second, .val (.ref b1), .val (.ref b4), .val (.ref b13), .val (.ref b19), .val (.ref b26), .val (.ref b34), .val (.ref b43), .val (.ref b51), .val (.int (0 : Int32))] []))
      refine own_stW (fun zt zk => XS.aload X62.here hx rfl (hb hby at_155) rfl rfl zk) ?_
      show own_GW p e below s _ _ _ (T62.setTop (mkF m 157 #[.val (.long t1), .second, .val (.long c1), .second, .val (.long t2), .second, .val (.long c2), .second, .val (.ref b1), .val (.ref b4), .val (.ref b13), .val (.ref b19), .val (.ref b26), .val (.ref b34), .val (.ref b43), .val (.ref b51), .val (.int (0 : Int32))] [(.ref b43)]))
      refine own_stW (fun zt zk => XS.aload X62.here hx rfl (hb hby at_157) rfl rfl zk) ?_
      show own_GW p e below s _ _ _ (T62.setTop (mkF m 159 #[.val (.long t1), .second, .val (.long c1), .second, .val (.long t2), .second, .val (.long c2), .second, .val (.ref b1), .val (.ref b4), .val (.ref b13), .val (.ref b19), .val (.ref b26), .val (.ref b34), .val (.ref b43), .val (.ref b51), .val (.int (0 : Int32))] [(.ref b51), (.ref b43)]))
      have F82 : Fld Z T59.heap b43 "com/example/outfall/outfall/rules/PumpingSchedule$Period" "tanks" "Lcom/example/outfall/outfall/rules/PumpingSchedule$Range;" (.ref b13) := ((q50_0.ext E51).keep K59 (ninS ne51_b43 nin0))
      have F83 : Fld Z T59.heap b43 "com/example/outfall/outfall/rules/PumpingSchedule$Period" "capacity" "Lcom/example/outfall/outfall/rules/PumpingSchedule$Range;" (.ref b19) := ((q50_1.ext E51).keep K59 (ninS ne51_b43 nin0))
      have F84 : Fld Z T59.heap b13 "com/example/outfall/outfall/rules/PumpingSchedule$Range" "least" "I" (.int (own_lo t1)) := ((((((((((q18_0.ext E19).keep K25 (ninS ne19_b13 nin0)).ext E26).keep K33 (ninS ne26_b13 nin0)).ext E34).keep K42 (ninS ne34_b13 nin0)).ext E43).keep K50 (ninS ne43_b13 nin0)).ext E51).keep K59 (ninS ne51_b13 nin0))
      have F85 : Fld Z T59.heap b13 "com/example/outfall/outfall/rules/PumpingSchedule$Range" "most" "I" (.int (own_hi t1)) := ((((((((((q18_1.ext E19).keep K25 (ninS ne19_b13 nin0)).ext E26).keep K33 (ninS ne26_b13 nin0)).ext E34).keep K42 (ninS ne34_b13 nin0)).ext E43).keep K50 (ninS ne43_b13 nin0)).ext E51).keep K59 (ninS ne51_b13 nin0))
      have F86 : Fld Z T59.heap b26 "com/example/outfall/outfall/rules/PumpingSchedule$Range" "least" "I" (.int (own_lo t2)) := ((((((q33_0.ext E34).keep K42 (ninS ne34_b26 nin0)).ext E43).keep K50 (ninS ne43_b26 nin0)).ext E51).keep K59 (ninS ne51_b26 nin0))
      have F87 : Fld Z T59.heap b26 "com/example/outfall/outfall/rules/PumpingSchedule$Range" "most" "I" (.int (own_hi t2)) := ((((((q33_1.ext E34).keep K42 (ninS ne34_b26 nin0)).ext E43).keep K50 (ninS ne43_b26 nin0)).ext E51).keep K59 (ninS ne51_b26 nin0))
      have F88 : Fld Z T59.heap b19 "com/example/outfall/outfall/rules/PumpingSchedule$Range" "least" "I" (.int (own_lo c1)) := ((((((((q25_0.ext E26).keep K33 (ninS ne26_b19 nin0)).ext E34).keep K42 (ninS ne34_b19 nin0)).ext E43).keep K50 (ninS ne43_b19 nin0)).ext E51).keep K59 (ninS ne51_b19 nin0))
      have F89 : Fld Z T59.heap b19 "com/example/outfall/outfall/rules/PumpingSchedule$Range" "most" "I" (.int (own_hi c1)) := ((((((((q25_1.ext E26).keep K33 (ninS ne26_b19 nin0)).ext E34).keep K42 (ninS ne34_b19 nin0)).ext E43).keep K50 (ninS ne43_b19 nin0)).ext E51).keep K59 (ninS ne51_b19 nin0))
      have F90 : Fld Z T59.heap b34 "com/example/outfall/outfall/rules/PumpingSchedule$Range" "least" "I" (.int (own_lo c2)) := ((((q42_0.ext E43).keep K50 (ninS ne43_b34 nin0)).ext E51).keep K59 (ninS ne51_b34 nin0))
      have F91 : Fld Z T59.heap b34 "com/example/outfall/outfall/rules/PumpingSchedule$Range" "most" "I" (.int (own_hi c2)) := ((((q42_1.ext E43).keep K50 (ninS ne43_b34 nin0)).ext E51).keep K59 (ninS ne51_b34 nin0))
      have E92 : Exa Z T59.heap b13 "com/example/outfall/outfall/rules/PumpingSchedule$Range" := ((E54.ext E51).keep K59)
      have E93 : Exa Z T59.heap b26 "com/example/outfall/outfall/rules/PumpingSchedule$Range" := ((E56.ext E51).keep K59)
      have E94 : Exa Z T59.heap b19 "com/example/outfall/outfall/rules/PumpingSchedule$Range" := ((E55.ext E51).keep K59)
      have E95 : Exa Z T59.heap b34 "com/example/outfall/outfall/rules/PumpingSchedule$Range" := ((E57.ext E51).keep K59)
      have E96 : Exa Z T59.heap b43 "com/example/outfall/outfall/rules/PumpingSchedule$Period" := ((E58.ext E51).keep K59)
      obtain ⟨_, T81, L81, X81, hQ81, st81⟩ := own_callV X62 hx hZ (C := "com/example/outfall/outfall/rules/PumpingSchedule$Period") (y := (⟨"com/example/outfall/outfall/rules/PumpingSchedule$Period", "overlaps", "(Lcom/example/outfall/outfall/rules/PumpingSchedule$Period;)Z"⟩ : MethodName)) (z := (⟨"com/example/outfall/outfall/rules/PumpingSchedule$Period", "overlaps", "(Lcom/example/outfall/outfall/rules/PumpingSchedule$Period;)Z"⟩ : MethodName)) (a := b43) (argsL := [(.ref b51)]) (rest := []) 0 hown (hw _ (List.mem_of_getElem? (i := 98) rfl)) (hw _ (List.mem_of_getElem? (i := 99) rfl)) (own_nf hZ (hw _ (List.mem_of_getElem? (i := 101) rfl))) (hw _ (List.mem_of_getElem? (i := 101) rfl)) (hw _ (List.mem_of_getElem? (i := 100) rfl)) (hw _ (List.mem_of_getElem? (i := 80) rfl)) (hw _ (List.mem_of_getElem? (i := 102) rfl)) (by decide) (own_pov l Z a0 hw [] b43 b51 b13 b26 b19 b34 (own_lo t1) (own_hi t1) (own_lo t2) (own_hi t2) (own_lo c1) (own_hi c1) (own_lo c2) (own_hi c2) T59.heap n0 (Nat.le_trans (Nat.le_trans (Nat.le_trans (Nat.le_trans (Nat.le_trans (Nat.le_trans (Nat.le_trans (Nat.le_trans (Nat.le_trans (Nat.le_trans (Nat.le_trans (Nat.le_trans (Nat.le_trans (Nat.le_trans (Nat.le_trans (Nat.le_trans (Nat.le_trans (Nat.le_trans Z0 E1.1) K3.1) E4.1) E6.1) E7.1) K8.1) E13.1) K18.1) E19.1) K25.1) E26.1) K33.1) E34.1) K42.1) E43.1) K50.1) E51.1) K59.1) F82 q59_0 F83 q59_1 E92 F84 F85 E93 F86 F87 E94 F88 F89 E95 F90 F91) (by decide) (by decide) e62 E96 (g := (mkF m 159 #[.val (.long t1), .second, .val (.long c1), .second, .val (.long t2), .second, .val (.long c2), .second, .val (.ref b1), .val (.ref b4), .val (.ref b13), .val (.ref b19), .val (.ref b26), .val (.ref b34), .val (.ref b43), .val (.ref b51), .val (.int (0 : Int32))] [(.ref b51), (.ref b43)])) rfl (by rw [hml]; rfl) own_pd10 rfl rfl (by show 2 * 0 + _ ≤ _; exact Nat.le_of_eq rfl) (hb hby at_159) (by decide) (by decide)
      obtain ⟨rfl, N81q, e81⟩ := hQ81
      have N81 := Fr.app N62 N81q
      refine own_stW st81 ?_
      show own_GW p e below s _ _ _ (T81.setTop (mkF m 162 #[.val (.long t1), .second, .val (.long c1), .second, .val (.long t2), .second, .val (.long c2), .second, .val (.ref b1), .val (.ref b4), .val (.ref b13), .val (.ref b19), .val (.ref b26), .val (.ref b34), .val (.ref b43), .val (.ref b51), .val (.int (0 : Int32))] [(.int (own_b ((¬ ((own_hi t2) < (own_lo t1)) ∧ ¬ ((own_hi t1) < (own_lo t2))) ∧ (¬ ((own_hi c2) < (own_lo c1)) ∧ ¬ ((own_hi c1) < (own_lo c2))))))]))
      refine own_stW (fun zt zk => XS.iload X81.here hx rfl (hb hby at_162) rfl zk) ?_
      show own_GW p e below s _ _ _ (T81.setTop (mkF m 164 #[.val (.long t1), .second, .val (.long c1), .second, .val (.long t2), .second, .val (.long c2), .second, .val (.ref b1), .val (.ref b4), .val (.ref b13), .val (.ref b19), .val (.ref b26), .val (.ref b34), .val (.ref b43), .val (.ref b51), .val (.int (0 : Int32))] [(.int (0 : Int32)), (.int (own_b ((¬ ((own_hi t2) < (own_lo t1)) ∧ ¬ ((own_hi t1) < (own_lo t2))) ∧ (¬ ((own_hi c2) < (own_lo c1)) ∧ ¬ ((own_hi c1) < (own_lo c2))))))]))
      have hc164_97 : ¬ (((¬ ((own_hi t2) < (own_lo t1)) ∧ ¬ ((own_hi t1) < (own_lo t2))) ∧ (¬ ((own_hi c2) < (own_lo c1)) ∧ ¬ ((own_hi c1) < (own_lo c2))))) := (fun q => (own_ov (own_lo c1) (own_hi c1) (own_lo c2) (own_hi c2) (own_lohi _ _) (own_lohi _ _)).mp (Classical.not_not.mp hc145_63) q.2)
      refine own_stW (fun zt zk => XS.icmpNo X81.here hx rfl (hb hby at_164) rfl (teq (own_b0 hc164_97)).2 zk) ?_
      show own_GW p e below s _ _ _ (T81.setTop (mkF m 167 #[.val (.long t1), .second, .val (.long c1), .second, .val (.long t2), .second, .val (.long c2), .second, .val (.ref b1), .val (.ref b4), .val (.ref b13), .val (.ref b19), .val (.ref b26), .val (.ref b34), .val (.ref b43), .val (.ref b51), .val (.int (0 : Int32))] []))
      refine own_stW (fun zt zk => XS.iconst X81.here hx rfl (hb hby at_167) zk) ?_
      show own_GW p e below s _ _ _ (T81.setTop (mkF m 168 #[.val (.long t1), .second, .val (.long c1), .second, .val (.long t2), .second, .val (.long c2), .second, .val (.ref b1), .val (.ref b4), .val (.ref b13), .val (.ref b19), .val (.ref b26), .val (.ref b34), .val (.ref b43), .val (.ref b51), .val (.int (0 : Int32))] [(.int (1 : Int32))]))
      refine own_stW (fun zt zk => XS.goto X81.here hx rfl (pc0 := 168) (pc' := 172) rfl (hb hby at_168) (by decide) (by decide) zk) ?_
      show own_GW p e below s _ _ _ (T81.setTop (mkF m 172 #[.val (.long t1), .second, .val (.long c1), .second, .val (.long t2), .second, .val (.long c2), .second, .val (.ref b1), .val (.ref b4), .val (.ref b13), .val (.ref b19), .val (.ref b26), .val (.ref b34), .val (.ref b43), .val (.ref b51), .val (.int (0 : Int32))] [(.int (1 : Int32))]))
      refine own_retZW X81 hx hlk hS (by rw [e81]; exact (Nat.le_refl T59.heap.size)) hret (by decide) (hb hby at_172) (by decide) (by decide) ?_
      show Q_own_law Z t1 c1 t2 c2 dy h0 n0 (some (.int (1 : Int32))) T81.heap _
      rw [e81]
      exact ⟨rfl, N81⟩
  · refine own_stW (fun zt zk => XS.ifYes X60.here hx rfl (pc0 := 136) (pc' := 152) rfl (hb hby at_136) rfl ((if0 _ _).trans (teq (own_b0 hc136_61)).1) (by decide) (by decide) zk) ?_
    show own_GW p e below s _ _ _ (T60.setTop (mkF m 152 #[.val (.long t1), .second, .val (.long c1), .second, .val (.long t2), .second, .val (.long c2), .second, .val (.ref b1), .val (.ref b4), .val (.ref b13), .val (.ref b19), .val (.ref b26), .val (.ref b34), .val (.ref b43), .val (.ref b51), .unset] []))
    refine own_stW (fun zt zk => XS.iconst X60.here hx rfl (hb hby at_152) zk) ?_
    show own_GW p e below s _ _ _ (T60.setTop (mkF m 153 #[.val (.long t1), .second, .val (.long c1), .second, .val (.long t2), .second, .val (.long c2), .second, .val (.ref b1), .val (.ref b4), .val (.ref b13), .val (.ref b19), .val (.ref b26), .val (.ref b34), .val (.ref b43), .val (.ref b51), .unset] [(.int (0 : Int32))]))
    refine own_stW (fun zt zk => XS.istore X60.here hx rfl (hb hby at_153) rfl (l' := #[.val (.long t1), .second, .val (.long c1), .second, .val (.long t2), .second, .val (.long c2), .second, .val (.ref b1), .val (.ref b4), .val (.ref b13), .val (.ref b19), .val (.ref b26), .val (.ref b34), .val (.ref b43), .val (.ref b51), .val (.int (0 : Int32))]) rfl zk) ?_
    show own_GW p e below s _ _ _ (T60.setTop (mkF m 155 #[.val (.long t1), .second, .val (.long c1), .second, .val (.long t2), .second, .val (.long c2), .second, .val (.ref b1), .val (.ref b4), .val (.ref b13), .val (.ref b19), .val (.ref b26), .val (.ref b34), .val (.ref b43), .val (.ref b51), .val (.int (0 : Int32))] []))
    refine own_stW (fun zt zk => XS.aload X60.here hx rfl (hb hby at_155) rfl rfl zk) ?_
    show own_GW p e below s _ _ _ (T60.setTop (mkF m 157 #[.val (.long t1), .second, .val (.long c1), .second, .val (.long t2), .second, .val (.long c2), .second, .val (.ref b1), .val (.ref b4), .val (.ref b13), .val (.ref b19), .val (.ref b26), .val (.ref b34), .val (.ref b43), .val (.ref b51), .val (.int (0 : Int32))] [(.ref b43)]))
    refine own_stW (fun zt zk => XS.aload X60.here hx rfl (hb hby at_157) rfl rfl zk) ?_
    show own_GW p e below s _ _ _ (T60.setTop (mkF m 159 #[.val (.long t1), .second, .val (.long c1), .second, .val (.long t2), .second, .val (.long c2), .second, .val (.ref b1), .val (.ref b4), .val (.ref b13), .val (.ref b19), .val (.ref b26), .val (.ref b34), .val (.ref b43), .val (.ref b51), .val (.int (0 : Int32))] [(.ref b51), (.ref b43)]))
    have F99 : Fld Z T59.heap b43 "com/example/outfall/outfall/rules/PumpingSchedule$Period" "tanks" "Lcom/example/outfall/outfall/rules/PumpingSchedule$Range;" (.ref b13) := ((q50_0.ext E51).keep K59 (ninS ne51_b43 nin0))
    have F100 : Fld Z T59.heap b43 "com/example/outfall/outfall/rules/PumpingSchedule$Period" "capacity" "Lcom/example/outfall/outfall/rules/PumpingSchedule$Range;" (.ref b19) := ((q50_1.ext E51).keep K59 (ninS ne51_b43 nin0))
    have F101 : Fld Z T59.heap b13 "com/example/outfall/outfall/rules/PumpingSchedule$Range" "least" "I" (.int (own_lo t1)) := ((((((((((q18_0.ext E19).keep K25 (ninS ne19_b13 nin0)).ext E26).keep K33 (ninS ne26_b13 nin0)).ext E34).keep K42 (ninS ne34_b13 nin0)).ext E43).keep K50 (ninS ne43_b13 nin0)).ext E51).keep K59 (ninS ne51_b13 nin0))
    have F102 : Fld Z T59.heap b13 "com/example/outfall/outfall/rules/PumpingSchedule$Range" "most" "I" (.int (own_hi t1)) := ((((((((((q18_1.ext E19).keep K25 (ninS ne19_b13 nin0)).ext E26).keep K33 (ninS ne26_b13 nin0)).ext E34).keep K42 (ninS ne34_b13 nin0)).ext E43).keep K50 (ninS ne43_b13 nin0)).ext E51).keep K59 (ninS ne51_b13 nin0))
    have F103 : Fld Z T59.heap b26 "com/example/outfall/outfall/rules/PumpingSchedule$Range" "least" "I" (.int (own_lo t2)) := ((((((q33_0.ext E34).keep K42 (ninS ne34_b26 nin0)).ext E43).keep K50 (ninS ne43_b26 nin0)).ext E51).keep K59 (ninS ne51_b26 nin0))
    have F104 : Fld Z T59.heap b26 "com/example/outfall/outfall/rules/PumpingSchedule$Range" "most" "I" (.int (own_hi t2)) := ((((((q33_1.ext E34).keep K42 (ninS ne34_b26 nin0)).ext E43).keep K50 (ninS ne43_b26 nin0)).ext E51).keep K59 (ninS ne51_b26 nin0))
    have F105 : Fld Z T59.heap b19 "com/example/outfall/outfall/rules/PumpingSchedule$Range" "least" "I" (.int (own_lo c1)) := ((((((((q25_0.ext E26).keep K33 (ninS ne26_b19 nin0)).ext E34).keep K42 (ninS ne34_b19 nin0)).ext E43).keep K50 (ninS ne43_b19 nin0)).ext E51).keep K59 (ninS ne51_b19 nin0))
    have F106 : Fld Z T59.heap b19 "com/example/outfall/outfall/rules/PumpingSchedule$Range" "most" "I" (.int (own_hi c1)) := ((((((((q25_1.ext E26).keep K33 (ninS ne26_b19 nin0)).ext E34).keep K42 (ninS ne34_b19 nin0)).ext E43).keep K50 (ninS ne43_b19 nin0)).ext E51).keep K59 (ninS ne51_b19 nin0))
    have F107 : Fld Z T59.heap b34 "com/example/outfall/outfall/rules/PumpingSchedule$Range" "least" "I" (.int (own_lo c2)) := ((((q42_0.ext E43).keep K50 (ninS ne43_b34 nin0)).ext E51).keep K59 (ninS ne51_b34 nin0))
    have F108 : Fld Z T59.heap b34 "com/example/outfall/outfall/rules/PumpingSchedule$Range" "most" "I" (.int (own_hi c2)) := ((((q42_1.ext E43).keep K50 (ninS ne43_b34 nin0)).ext E51).keep K59 (ninS ne51_b34 nin0))
    have E109 : Exa Z T59.heap b13 "com/example/outfall/outfall/rules/PumpingSchedule$Range" := ((E54.ext E51).keep K59)
    have E110 : Exa Z T59.heap b26 "com/example/outfall/outfall/rules/PumpingSchedule$Range" := ((E56.ext E51).keep K59)
    have E111 : Exa Z T59.heap b19 "com/example/outfall/outfall/rules/PumpingSchedule$Range" := ((E55.ext E51).keep K59)
    have E112 : Exa Z T59.heap b34 "com/example/outfall/outfall/rules/PumpingSchedule$Range" := ((E57.ext E51).keep K59)
    have E113 : Exa Z T59.heap b43 "com/example/outfall/outfall/rules/PumpingSchedule$Period" := ((E58.ext E51).keep K59)
    obtain ⟨_, T98, L98, X98, hQ98, st98⟩ := own_callV X60 hx hZ (C := "com/example/outfall/outfall/rules/PumpingSchedule$Period") (y := (⟨"com/example/outfall/outfall/rules/PumpingSchedule$Period", "overlaps", "(Lcom/example/outfall/outfall/rules/PumpingSchedule$Period;)Z"⟩ : MethodName)) (z := (⟨"com/example/outfall/outfall/rules/PumpingSchedule$Period", "overlaps", "(Lcom/example/outfall/outfall/rules/PumpingSchedule$Period;)Z"⟩ : MethodName)) (a := b43) (argsL := [(.ref b51)]) (rest := []) 0 hown (hw _ (List.mem_of_getElem? (i := 98) rfl)) (hw _ (List.mem_of_getElem? (i := 99) rfl)) (own_nf hZ (hw _ (List.mem_of_getElem? (i := 101) rfl))) (hw _ (List.mem_of_getElem? (i := 101) rfl)) (hw _ (List.mem_of_getElem? (i := 100) rfl)) (hw _ (List.mem_of_getElem? (i := 80) rfl)) (hw _ (List.mem_of_getElem? (i := 102) rfl)) (by decide) (own_pov l Z a0 hw [] b43 b51 b13 b26 b19 b34 (own_lo t1) (own_hi t1) (own_lo t2) (own_hi t2) (own_lo c1) (own_hi c1) (own_lo c2) (own_hi c2) T59.heap n0 (Nat.le_trans (Nat.le_trans (Nat.le_trans (Nat.le_trans (Nat.le_trans (Nat.le_trans (Nat.le_trans (Nat.le_trans (Nat.le_trans (Nat.le_trans (Nat.le_trans (Nat.le_trans (Nat.le_trans (Nat.le_trans (Nat.le_trans (Nat.le_trans (Nat.le_trans (Nat.le_trans Z0 E1.1) K3.1) E4.1) E6.1) E7.1) K8.1) E13.1) K18.1) E19.1) K25.1) E26.1) K33.1) E34.1) K42.1) E43.1) K50.1) E51.1) K59.1) F99 q59_0 F100 q59_1 E109 F101 F102 E110 F103 F104 E111 F105 F106 E112 F107 F108) (by decide) (by decide) e60 E113 (g := (mkF m 159 #[.val (.long t1), .second, .val (.long c1), .second, .val (.long t2), .second, .val (.long c2), .second, .val (.ref b1), .val (.ref b4), .val (.ref b13), .val (.ref b19), .val (.ref b26), .val (.ref b34), .val (.ref b43), .val (.ref b51), .val (.int (0 : Int32))] [(.ref b51), (.ref b43)])) rfl (by rw [hml]; rfl) own_pd10 rfl rfl (by show 2 * 0 + _ ≤ _; exact Nat.le_of_eq rfl) (hb hby at_159) (by decide) (by decide)
    obtain ⟨rfl, N98q, e98⟩ := hQ98
    have N98 := Fr.app N60 N98q
    refine own_stW st98 ?_
    show own_GW p e below s _ _ _ (T98.setTop (mkF m 162 #[.val (.long t1), .second, .val (.long c1), .second, .val (.long t2), .second, .val (.long c2), .second, .val (.ref b1), .val (.ref b4), .val (.ref b13), .val (.ref b19), .val (.ref b26), .val (.ref b34), .val (.ref b43), .val (.ref b51), .val (.int (0 : Int32))] [(.int (own_b ((¬ ((own_hi t2) < (own_lo t1)) ∧ ¬ ((own_hi t1) < (own_lo t2))) ∧ (¬ ((own_hi c2) < (own_lo c1)) ∧ ¬ ((own_hi c1) < (own_lo c2))))))]))
    refine own_stW (fun zt zk => XS.iload X98.here hx rfl (hb hby at_162) rfl zk) ?_
    show own_GW p e below s _ _ _ (T98.setTop (mkF m 164 #[.val (.long t1), .second, .val (.long c1), .second, .val (.long t2), .second, .val (.long c2), .second, .val (.ref b1), .val (.ref b4), .val (.ref b13), .val (.ref b19), .val (.ref b26), .val (.ref b34), .val (.ref b43), .val (.ref b51), .val (.int (0 : Int32))] [(.int (0 : Int32)), (.int (own_b ((¬ ((own_hi t2) < (own_lo t1)) ∧ ¬ ((own_hi t1) < (own_lo t2))) ∧ (¬ ((own_hi c2) < (own_lo c1)) ∧ ¬ ((own_hi c1) < (own_lo c2))))))]))
    have hc164_114 : ¬ (((¬ ((own_hi t2) < (own_lo t1)) ∧ ¬ ((own_hi t1) < (own_lo t2))) ∧ (¬ ((own_hi c2) < (own_lo c1)) ∧ ¬ ((own_hi c1) < (own_lo c2))))) := (fun q => (own_ov (own_lo t1) (own_hi t1) (own_lo t2) (own_hi t2) (own_lohi _ _) (own_lohi _ _)).mp (Classical.not_not.mp hc136_61) q.1)
    refine own_stW (fun zt zk => XS.icmpNo X98.here hx rfl (hb hby at_164) rfl (teq (own_b0 hc164_114)).2 zk) ?_
    show own_GW p e below s _ _ _ (T98.setTop (mkF m 167 #[.val (.long t1), .second, .val (.long c1), .second, .val (.long t2), .second, .val (.long c2), .second, .val (.ref b1), .val (.ref b4), .val (.ref b13), .val (.ref b19), .val (.ref b26), .val (.ref b34), .val (.ref b43), .val (.ref b51), .val (.int (0 : Int32))] []))
    refine own_stW (fun zt zk => XS.iconst X98.here hx rfl (hb hby at_167) zk) ?_
    show own_GW p e below s _ _ _ (T98.setTop (mkF m 168 #[.val (.long t1), .second, .val (.long c1), .second, .val (.long t2), .second, .val (.long c2), .second, .val (.ref b1), .val (.ref b4), .val (.ref b13), .val (.ref b19), .val (.ref b26), .val (.ref b34), .val (.ref b43), .val (.ref b51), .val (.int (0 : Int32))] [(.int (1 : Int32))]))
    refine own_stW (fun zt zk => XS.goto X98.here hx rfl (pc0 := 168) (pc' := 172) rfl (hb hby at_168) (by decide) (by decide) zk) ?_
    show own_GW p e below s _ _ _ (T98.setTop (mkF m 172 #[.val (.long t1), .second, .val (.long c1), .second, .val (.long t2), .second, .val (.long c2), .second, .val (.ref b1), .val (.ref b4), .val (.ref b13), .val (.ref b19), .val (.ref b26), .val (.ref b34), .val (.ref b43), .val (.ref b51), .val (.int (0 : Int32))] [(.int (1 : Int32))]))
    refine own_retZW X98 hx hlk hS (by rw [e98]; exact (Nat.le_refl T59.heap.size)) hret (by decide) (hb hby at_172) (by decide) (by decide) ?_
    show Q_own_law Z t1 c1 t2 c2 dy h0 n0 (some (.int (1 : Int32))) T98.heap _
    rw [e98]
    exact ⟨rfl, N98⟩
set_option maxRecDepth 65536 in
set_option maxHeartbeats 40000000 in
theorem comes_1 {Post : Tables → Env → Array Value → State → Outcome → State → Prop} (hpost : ∀ tb e args s v u, (limb_1_1.after args s (.returned v) u = true ∧ limb_1_2.after args s (.returned v) u = true ∧ True) → ReturnedEndW s (.returned v) u (Jvm.fieldLocs frame_1_writes args s ++ Jvm.arrayLocs frame_1_arrays args s ++ Jvm.staticLocs frame_1_statics s) 48 9408 → Post tb e args s (.returned v) u) :
    ArmFor flags0 classFile x code maxLocals ret World_1 tables_1 room_1 Calls_1 rest_1 Pre_1 Post := by
  intro l hfl _ _ p e ha hc hk s m args below hf hA hF happ hP
  obtain ⟨hcalls, hrest, hpre⟩ := hP
  obtain ⟨-, -, -, hnamed, -, -, -, hat⟩ := (Spec.applies_iff hf).mp happ
  obtain ⟨hg, hn⟩ := and_e (Cond.before_iff.mp (show (Jvm.Cond.and given_1 narrow_1).before args s = true from hpre))
  obtain ⟨k1, k2⟩ := and_e hg
  obtain ⟨j0, i0⟩ := and_e k2
  obtain ⟨j1, i1⟩ := and_e i0
  obtain ⟨j2, i2⟩ := and_e i1
  obtain ⟨w0, w1, w2, w3, rfl⟩ : ∃ w0 w1 w2 w3 : Value, args = #[w0, w1, w2, w3] := by
    have hs : args.size = 4 := by simpa [Cond.value, given_1] using k1
    obtain ⟨L⟩ := args
    match L, hs with
    | [w0, w1, w2, w3], _ => exact ⟨w0, w1, w2, w3, rfl⟩
  have hw := fun d (hd : d ∈ tables_1) => atoms_spec (ws := Jvm.Cond.code x code maxLocals ret :: tables_1) hat d (List.mem_cons_of_mem _ hd)
  have hfit : Fit s := fun {y c} hc i hi => by
    obtain ⟨ha, rfl⟩ := Array.getElem?_eq_some_iff.mp hc
    have q := List.all_eq_true.mp ((Array.all_eq_true_iff_forall_mem.mp hF) _ (Array.getElem_mem ha)) i (List.mem_range.mpr hi)
    simpa [Array.getElem?_eq_getElem hi] using q
  obtain ⟨y0, z0⟩ := isL_v j0
  obtain rfl : w0 = (.long y0) := Option.some.inj z0
  obtain ⟨y1, z1⟩ := isL_v j1
  obtain rfl : w1 = (.long y1) := Option.some.inj z1
  obtain ⟨y2, z2⟩ := isL_v j2
  obtain rfl : w2 = (.long y2) := Option.some.inj z2
  obtain ⟨y3, z3⟩ := isL_v i2
  obtain rfl : w3 = (.long y3) := Option.some.inj z3
  obtain ⟨dy, edy⟩ := exa_v (show (Jvm.Cond.exactly (Jvm.Term.static "com/example/outfall/outfall/rules/Span$Unit" "DAYS" "Lcom/example/outfall/outfall/rules/Span$Unit;") "com/example/outfall/outfall/rules/Span$Unit").value _ s none s [] = some true from hn)
  have S0 : Sta s s.heap "com/example/outfall/outfall/rules/Span$Unit" "DAYS" "Lcom/example/outfall/outfall/rules/Span$Unit;" (.ref dy) := Sta.start edy (Or.inr ⟨hw _ (List.mem_of_getElem? (i := 4) rfl), hw _ (List.mem_of_getElem? (i := 5) rfl)⟩)
  obtain ⟨n, o, h1, h2, h3, _, L, rfl, ⟨rfl, N⟩, hq⟩ := own_law l s _ hw tables_1 y0 y1 y2 y3 dy s.heap s.heap.size (Nat.le_refl _) S0 (Old.start s) p e ha hc hk s m _ below hf ((Spec.applies_iff_loose hf).mp happ).1 ⟨rfl, State.Warmed39.refl s, rfl⟩ trivial
  refine ⟨n, _, h1, h2, h3, hpost _ _ _ _ _ _ ⟨Cond.after_iff.mpr rfl, Cond.after_iff.mpr (eq_i res_at (Term.int_eval (1)) rfl), trivial⟩ ⟨hq.1, hq.2.1, hq.2.2.1, (hq.2.2.2.sift fun y hy => Or.inr (N y hy)).mono (by decide) (by decide)⟩⟩
theorem main_1_1 : Claimed_1_1 := comes_1 fun _ _ _ _ _ _ h hF => ⟨h.1, hF⟩
theorem main_1_2 : Claimed_1_2 := comes_1 fun _ _ _ _ _ _ h hF => ⟨h.2.1, hF⟩
end Jvm.Pilot.@@N@@
namespace Jvm.Pilot.@@N@@
open Jvm Jvm.ClassFile Sem Op Lib Jvm.Free Jvm.Stand Jvm.Pilot.@@N@@.Jvm.D
/-! MADE BY PROGRAM (witnessworld.py) out of the Statement's table words and the real class files: 22 classes; the members and pool entries that the words name. The judged class is class 1, her method 4. -/
namespace start1
open Jvm.ClassFile
def u (s : String) : CpInfo := .utf8 (stringToUtf16 s)
/-- a pool by its gaps: so many unusable entries, then the entry; so many at the end -/
def gap : Nat → List CpInfo → List CpInfo
  | 0, r => r
  | n + 1, r => .unusable :: gap n r
def poolList (es : List (Nat × CpInfo)) (last : Nat) : List CpInfo := es.foldr (fun e r => gap e.1 (e.2 :: r)) (gap last [])
def pool (es : List (Nat × CpInfo)) (last : Nat) : Array CpInfo := ⟨poolList es last⟩
def fileOf (pool : Array CpInfo) (this : Nat) (attrs : Array Attribute := #[]) (ms : Array MethodInfo := #[]) (fl : Nat := 33) (sup : Nat := 0) (ifs : Array Nat := #[]) (fds : Array FieldInfo := #[]) : ClassFile where
  minorVersion := 0
  majorVersion := 65
  constantPool := pool
  accessFlags := fl
  thisClass := this
  superClass := sup
  interfaces := ifs
  fields := fds
  methods := ms
  attributes := attrs
def plain (name : String) (sup : Option ClassId) : Class where
  name := name
  kind := .ordinary
  loader := none
  accessFlags := 33
  super := sup
  interfaces := #[]
  cf := none
  fields := #[]
  methods := #[]
  instanceTypes := #[]
  staticTypes := #[]
  resolved := #[]
  callSites := []
  init := .initialized
  statics := none
  mirror := none

def pool0 : Array CpInfo := pool [(5, u "<init>"), (0, u "()V"), (1, .class_ 10), (1, u "java/lang/Object")] 113

def k0c0 : Code := { maxStack := 0, maxLocals := 1, code := object_method_1_code, exceptionTable := #[], attributes := #[] }
def k0m0 : Method := { name := "<init>", desc := "()V", sig := { parameters := [], returnType := none }, accessFlags := 1, code := some k0c0 }
/-- java/lang/Object -/
def k0 : Class := { plain "java/lang/Object" none with
  accessFlags := 33
  interfaces := #[]
  cf := some (fileOf pool0 8 #[] #[{ accessFlags := 1, nameIndex := 5, descriptorIndex := 6, attributes := #[] }] 33 0 #[] #[])
  fields := #[]
  methods := #[k0m0]
  instanceTypes := #[]
  staticTypes := #[]
  resolved := Array.replicate 124 none
  statics := none }

def pool1 : Array CpInfo := pool [(2, .class_ 4), (1, u "java/lang/Object"), (0, u "<init>"), (0, u "()V"), (0, .integer 2147483647), (0, .methodref 9 10), (0, .class_ 11), (0, .nameAndType 12 13), (0, u "java/lang/Math"), (0, u "max"), (0, u "(II)I"), (0, .methodref 9 15), (0, .nameAndType 16 13), (0, u "min"), (0, .methodref 18 19), (0, .class_ 20), (0, .nameAndType 21 22), (0, u "com/example/outfall/outfall/rules/PeriodOverlapsPinLaw"), (0, u "lo"), (0, u "(J)I"), (0, .methodref 18 24), (0, .nameAndType 25 22), (0, u "hi"), (0, .class_ 27), (0, u "com/example/outfall/outfall/rules/Span"), (0, .fieldref 29 30), (0, .class_ 31), (0, .nameAndType 32 33), (0, u "com/example/outfall/outfall/rules/Span$Unit"), (0, u "DAYS"), (0, u "Lcom/example/outfall/outfall/rules/Span$Unit;"), (0, .methodref 26 35), (0, .nameAndType 5 36), (0, u "(ILcom/example/outfall/outfall/rules/Span$Unit;)V"), (0, .class_ 38), (0, u "com/example/outfall/outfall/rules/PumpingInterval"), (0, .string 40), (0, u "c"), (0, .string 42), (0, u "w"), (0, .methodref 37 44), (0, .nameAndType 5 45), (0, u "(Lcom/example/outfall/outfall/rules/Span;Ljava/lang/String;Ljava/lang/String;)V"), (0, .class_ 47), (0, u "com/example/outfall/outfall/rules/PumpingSchedule$Range"), (0, .methodref 46 49), (0, .nameAndType 5 50), (0, u "(II)V"), (0, .class_ 52), (0, u "com/example/outfall/outfall/rules/PumpingSchedule$Period"), (0, .methodref 51 54), (0, .nameAndType 5 55), (0, u "(Lcom/example/outfall/outfall/rules/PumpingSchedule$Range;Lcom/example/outfall/outfall/rules/PumpingSchedule$Range;Lcom/example/outfall/outfall/rules/PumpingInterval;)V"), (0, .methodref 18 57), (0, .nameAndType 58 59), (0, u "meet"), (0, u "(JJ)Z"), (0, .methodref 51 61), (0, .nameAndType 62 63), (0, u "overlaps"), (0, u "(Lcom/example/outfall/outfall/rules/PumpingSchedule$Period;)Z"), (3, u "law"), (0, u "(JJJJ)Z")] 8

def k1m0 : Method := { name := "<init>", desc := "()V", sig := { parameters := [], returnType := none }, accessFlags := 1, code := none }
def k1c1 : Code := { maxStack := 4, maxLocals := 4, code := method_2_code, exceptionTable := #[], attributes := #[] }
def k1m1 : Method := { name := "lo", desc := "(J)I", sig := { parameters := [.long], returnType := some .int }, accessFlags := 10, code := some k1c1 }
def k1c2 : Code := { maxStack := 4, maxLocals := 4, code := method_3_code, exceptionTable := #[], attributes := #[] }
def k1m2 : Method := { name := "hi", desc := "(J)I", sig := { parameters := [.long], returnType := some .int }, accessFlags := 10, code := some k1c2 }
def k1c3 : Code := { maxStack := 4, maxLocals := 4, code := method_4_code, exceptionTable := #[], attributes := #[] }
def k1m3 : Method := { name := "meet", desc := "(JJ)Z", sig := { parameters := [.long, .long], returnType := some .boolean }, accessFlags := 10, code := some k1c3 }
def k1c4 : Code := { maxStack := 5, maxLocals := 17, code := code, exceptionTable := #[], attributes := #[] }
def k1m4 : Method := { name := "law", desc := "(JJJJ)Z", sig := { parameters := [.long, .long, .long, .long], returnType := some .boolean }, accessFlags := 9, code := some k1c4 }
/-- com/example/outfall/outfall/rules/PeriodOverlapsPinLaw -/
def k1 : Class := { plain "com/example/outfall/outfall/rules/PeriodOverlapsPinLaw" (some 0) with
  accessFlags := 49
  interfaces := #[]
  cf := some (fileOf pool1 18 #[] #[{ accessFlags := 1, nameIndex := 5, descriptorIndex := 6, attributes := #[] }, { accessFlags := 10, nameIndex := 21, descriptorIndex := 22, attributes := #[] }, { accessFlags := 10, nameIndex := 25, descriptorIndex := 22, attributes := #[] }, { accessFlags := 10, nameIndex := 58, descriptorIndex := 59, attributes := #[] }, { accessFlags := 9, nameIndex := 67, descriptorIndex := 68, attributes := #[] }] 49 2 #[] #[])
  fields := #[]
  methods := #[k1m0, k1m1, k1m2, k1m3, k1m4]
  instanceTypes := #[]
  staticTypes := #[]
  resolved := Array.replicate 77 none
  statics := none }

def pool2 : Array CpInfo := pool [(1, .methodref 2 3), (0, .class_ 4), (0, .nameAndType 5 6), (0, u "java/lang/Object"), (0, u "<init>"), (0, u "()V"), (0, .class_ 8), (0, u "java/lang/Record")] 13

def k2c0 : Code := { maxStack := 1, maxLocals := 1, code := jdk_30_method_1_code, exceptionTable := #[], attributes := #[] }
def k2m0 : Method := { name := "<init>", desc := "()V", sig := { parameters := [], returnType := none }, accessFlags := 4, code := some k2c0 }
/-- java/lang/Record -/
def k2 : Class := { plain "java/lang/Record" (some 0) with
  accessFlags := 1057
  interfaces := #[]
  cf := some (fileOf pool2 7 #[] #[{ accessFlags := 4, nameIndex := 5, descriptorIndex := 6, attributes := #[] }] 1057 2 #[] #[])
  fields := #[]
  methods := #[k2m0]
  instanceTypes := #[]
  staticTypes := #[]
  resolved := Array.replicate 22 none
  statics := none }

def pool3 : Array CpInfo := pool [(1, .methodref 2 3), (0, .class_ 4), (0, .nameAndType 5 6), (0, u "java/lang/Record"), (0, u "<init>"), (0, u "()V"), (0, .string 8), (0, u "unit"), (0, .methodref 10 11), (0, .class_ 12), (0, .nameAndType 13 14), (0, u "java/util/Objects"), (0, u "requireNonNull"), (0, u "(Ljava/lang/Object;Ljava/lang/String;)Ljava/lang/Object;"), (9, .fieldref 25 26), (0, .class_ 27), (0, .nameAndType 28 29), (0, u "com/example/outfall/outfall/rules/Span"), (0, u "amount"), (0, u "I"), (0, .fieldref 25 31), (0, .nameAndType 8 32), (0, u "Lcom/example/outfall/outfall/rules/Span$Unit;"), (3, .class_ 38), (1, u "com/example/outfall/outfall/rules/Span$Unit"), (51, u "(ILcom/example/outfall/outfall/rules/Span$Unit;)V")] 40

def k3c0 : Code := { maxStack := 3, maxLocals := 3, code := prog_46_method_1_code, exceptionTable := #[], attributes := #[] }
def k3m0 : Method := { name := "<init>", desc := "(ILcom/example/outfall/outfall/rules/Span$Unit;)V", sig := { parameters := [.int, (.object "com/example/outfall/outfall/rules/Span$Unit")], returnType := none }, accessFlags := 1, code := some k3c0 }
/-- com/example/outfall/outfall/rules/Span -/
def k3 : Class := { plain "com/example/outfall/outfall/rules/Span" (some 2) with
  accessFlags := 49
  interfaces := #[]
  cf := some (fileOf pool3 25 #[.nestMembers #[36]] #[{ accessFlags := 1, nameIndex := 5, descriptorIndex := 90, attributes := #[] }] 49 2 #[] #[{ accessFlags := 18, nameIndex := 28, descriptorIndex := 29, attributes := #[] }, { accessFlags := 18, nameIndex := 8, descriptorIndex := 32, attributes := #[] }])
  fields := #[{ name := "amount", type := .int, accessFlags := 18, slot := 0, constantValue := 0 }, { name := "unit", type := (.object "com/example/outfall/outfall/rules/Span$Unit"), accessFlags := 18, slot := 1, constantValue := 0 }]
  methods := #[k3m0]
  instanceTypes := #[.int, (.object "com/example/outfall/outfall/rules/Span$Unit")]
  staticTypes := #[]
  resolved := Array.replicate 131 none
  statics := none }

def pool4 : Array CpInfo := pool [(1, .class_ 2), (0, u "java/lang/constant/Constable"), (0, .class_ 4), (0, u "java/lang/Object")] 6

/-- java/lang/constant/Constable -/
def k4 : Class := { plain "java/lang/constant/Constable" (some 0) with
  accessFlags := 1537
  interfaces := #[]
  cf := some (fileOf pool4 1 #[] #[] 1537 3 #[] #[])
  fields := #[]
  methods := #[]
  instanceTypes := #[]
  staticTypes := #[]
  resolved := Array.replicate 11 none
  statics := none }

def pool5 : Array CpInfo := pool [(1, .class_ 2), (0, u "java/lang/Comparable"), (0, .class_ 4), (0, u "java/lang/Object")] 7

/-- java/lang/Comparable -/
def k5 : Class := { plain "java/lang/Comparable" (some 0) with
  accessFlags := 1537
  interfaces := #[]
  cf := some (fileOf pool5 1 #[] #[] 1537 3 #[] #[])
  fields := #[]
  methods := #[]
  instanceTypes := #[]
  staticTypes := #[]
  resolved := Array.replicate 12 none
  statics := none }

def pool6 : Array CpInfo := pool [(1, .class_ 2), (0, u "java/io/Serializable"), (0, .class_ 4), (0, u "java/lang/Object")] 2

/-- java/io/Serializable -/
def k6 : Class := { plain "java/io/Serializable" (some 0) with
  accessFlags := 1537
  interfaces := #[]
  cf := some (fileOf pool6 1 #[] #[] 1537 3 #[] #[])
  fields := #[]
  methods := #[]
  instanceTypes := #[]
  staticTypes := #[]
  resolved := Array.replicate 7 none
  statics := none }

def pool7 : Array CpInfo := pool [(2, .class_ 4), (1, u "java/lang/Enum"), (0, u "name"), (0, u "Ljava/lang/String;"), (2, u "ordinal"), (0, u "I"), (1, .class_ 14), (1, u "java/lang/Object"), (4, u "hash"), (86, .class_ 108), (1, u "java/lang/Enum$EnumDesc"), (2, .class_ 112), (0, u "java/lang/constant/Constable"), (0, .class_ 114), (0, u "java/lang/Comparable"), (0, .class_ 116), (0, u "java/io/Serializable")] 87

/-- java/lang/Enum -/
def k7 : Class := { plain "java/lang/Enum" (some 0) with
  accessFlags := 1057
  interfaces := #[4, 5, 6]
  cf := some (fileOf pool7 2 #[.nestMembers #[106]] #[] 1057 12 #[111, 113, 115] #[{ accessFlags := 18, nameIndex := 5, descriptorIndex := 6, attributes := #[] }, { accessFlags := 18, nameIndex := 9, descriptorIndex := 10, attributes := #[] }, { accessFlags := 2, nameIndex := 19, descriptorIndex := 10, attributes := #[] }])
  fields := #[{ name := "name", type := (.object "java/lang/String"), accessFlags := 18, slot := 0, constantValue := 0 }, { name := "ordinal", type := .int, accessFlags := 18, slot := 1, constantValue := 0 }, { name := "hash", type := .int, accessFlags := 2, slot := 2, constantValue := 0 }]
  methods := #[]
  instanceTypes := #[(.object "java/lang/String"), .int, .int]
  staticTypes := #[]
  resolved := Array.replicate 204 none
  statics := none }

def pool8 : Array CpInfo := pool [(1, .class_ 2), (0, u "com/example/outfall/outfall/rules/Span$Unit"), (2, u "DAYS"), (0, u "Lcom/example/outfall/outfall/rules/Span$Unit;"), (2, u "WORKING_DAYS"), (2, u "WEEKS"), (2, u "MONTHS"), (2, u "YEARS"), (2, u "$VALUES"), (0, u "[Lcom/example/outfall/outfall/rules/Span$Unit;"), (6, .class_ 31), (1, u "java/lang/Enum"), (28, .class_ 61), (0, u "com/example/outfall/outfall/rules/Span")] 2

/-- com/example/outfall/outfall/rules/Span$Unit -/
def k8 : Class := { plain "com/example/outfall/outfall/rules/Span$Unit" (some 7) with
  accessFlags := 16433
  interfaces := #[]
  cf := some (fileOf pool8 1 #[.nestHost 60] #[] 16433 29 #[] #[{ accessFlags := 16409, nameIndex := 5, descriptorIndex := 6, attributes := #[] }, { accessFlags := 16409, nameIndex := 9, descriptorIndex := 6, attributes := #[] }, { accessFlags := 16409, nameIndex := 12, descriptorIndex := 6, attributes := #[] }, { accessFlags := 16409, nameIndex := 15, descriptorIndex := 6, attributes := #[] }, { accessFlags := 16409, nameIndex := 18, descriptorIndex := 6, attributes := #[] }, { accessFlags := 4122, nameIndex := 21, descriptorIndex := 22, attributes := #[] }])
  fields := #[{ name := "DAYS", type := (.object "com/example/outfall/outfall/rules/Span$Unit"), accessFlags := 16409, slot := 0, constantValue := 0 }, { name := "WORKING_DAYS", type := (.object "com/example/outfall/outfall/rules/Span$Unit"), accessFlags := 16409, slot := 1, constantValue := 0 }, { name := "WEEKS", type := (.object "com/example/outfall/outfall/rules/Span$Unit"), accessFlags := 16409, slot := 2, constantValue := 0 }, { name := "MONTHS", type := (.object "com/example/outfall/outfall/rules/Span$Unit"), accessFlags := 16409, slot := 3, constantValue := 0 }, { name := "YEARS", type := (.object "com/example/outfall/outfall/rules/Span$Unit"), accessFlags := 16409, slot := 4, constantValue := 0 }, { name := "$VALUES", type := (.array (.object "com/example/outfall/outfall/rules/Span$Unit")), accessFlags := 4122, slot := 5, constantValue := 0 }]
  methods := #[]
  instanceTypes := #[(.object "java/lang/String"), .int, .int]
  staticTypes := #[(.object "com/example/outfall/outfall/rules/Span$Unit"), (.object "com/example/outfall/outfall/rules/Span$Unit"), (.object "com/example/outfall/outfall/rules/Span$Unit"), (.object "com/example/outfall/outfall/rules/Span$Unit"), (.object "com/example/outfall/outfall/rules/Span$Unit"), (.array (.object "com/example/outfall/outfall/rules/Span$Unit"))]
  resolved := Array.replicate 64 none
  statics := some 0 }

def pool9 : Array CpInfo := pool [(2, .class_ 4), (1, u "java/lang/CharSequence"), (42, .class_ 48), (0, u "java/lang/CharSequence$1CodePointIterator"), (10, .class_ 60), (0, u "java/lang/CharSequence$1CharIterator"), (5, .class_ 67), (0, u "java/lang/Object")] 63

/-- java/lang/CharSequence -/
def k9 : Class := { plain "java/lang/CharSequence" (some 0) with
  accessFlags := 1537
  interfaces := #[]
  cf := some (fileOf pool9 2 #[.nestMembers #[47, 59]] #[] 1537 66 #[] #[])
  fields := #[]
  methods := #[]
  instanceTypes := #[]
  staticTypes := #[]
  resolved := Array.replicate 131 none
  statics := none }

def pool10 : Array CpInfo := pool [(1, .class_ 2), (0, u "java/lang/constant/ConstantDesc"), (0, .class_ 4), (0, u "java/lang/Object")] 32

/-- java/lang/constant/ConstantDesc -/
def k10 : Class := { plain "java/lang/constant/ConstantDesc" (some 0) with
  accessFlags := 1537
  interfaces := #[]
  cf := some (fileOf pool10 1 #[] #[] 1537 3 #[] #[])
  fields := #[]
  methods := #[]
  instanceTypes := #[]
  staticTypes := #[]
  resolved := Array.replicate 37 none
  statics := none }

def pool11 : Array CpInfo := pool [(2, .class_ 4), (1, u "java/lang/Object"), (0, u "<init>"), (0, u "()V"), (3, .class_ 12), (1, u "java/lang/String"), (0, u "value"), (0, u "[B"), (2, u "coder"), (0, u "B"), (2, u "hash"), (0, u "I"), (2, u "hashIsZero"), (0, u "Z"), (13, u "COMPACT_STRINGS"), (534, .class_ 576), (0, u "java/lang/CharSequence"), (22, u "CASE_INSENSITIVE_ORDER"), (0, u "Ljava/util/Comparator;"), (500, u "serialPersistentFields"), (0, u "[Ljava/io/ObjectStreamField;"), (0, .class_ 1104), (0, u "java/lang/String$CaseInsensitiveComparator"), (1, .class_ 1107), (0, u "java/io/Serializable"), (0, .class_ 1109), (0, u "java/lang/Comparable"), (0, .class_ 1111), (0, u "java/lang/constant/Constable"), (0, .class_ 1113), (0, u "java/lang/constant/ConstantDesc"), (2, u "serialVersionUID"), (0, u "J"), (3, u "REPL"), (0, u "C"), (2, u "LATIN1"), (1, u "UTF16")] 323

def k11m0 : Method := { name := "<init>", desc := "()V", sig := { parameters := [], returnType := none }, accessFlags := 1, code := none }
/-- java/lang/String -/
def k11 : Class := { plain "java/lang/String" (some 0) with
  accessFlags := 49
  interfaces := #[6, 5, 9, 4, 10]
  cf := some (fileOf pool11 10 #[.nestMembers #[1103]] #[{ accessFlags := 1, nameIndex := 5, descriptorIndex := 6, attributes := #[] }] 49 2 #[1106, 1108, 575, 1110, 1112] #[{ accessFlags := 18, nameIndex := 13, descriptorIndex := 14, attributes := #[] }, { accessFlags := 18, nameIndex := 17, descriptorIndex := 18, attributes := #[] }, { accessFlags := 2, nameIndex := 21, descriptorIndex := 22, attributes := #[] }, { accessFlags := 2, nameIndex := 25, descriptorIndex := 26, attributes := #[] }, { accessFlags := 26, nameIndex := 1116, descriptorIndex := 1117, attributes := #[] }, { accessFlags := 24, nameIndex := 40, descriptorIndex := 26, attributes := #[] }, { accessFlags := 26, nameIndex := 1101, descriptorIndex := 1102, attributes := #[] }, { accessFlags := 26, nameIndex := 1121, descriptorIndex := 1122, attributes := #[] }, { accessFlags := 25, nameIndex := 599, descriptorIndex := 600, attributes := #[] }, { accessFlags := 24, nameIndex := 1125, descriptorIndex := 18, attributes := #[] }, { accessFlags := 24, nameIndex := 1127, descriptorIndex := 18, attributes := #[] }])
  fields := #[{ name := "value", type := (.array .byte), accessFlags := 18, slot := 0, constantValue := 0 }, { name := "coder", type := .byte, accessFlags := 18, slot := 1, constantValue := 0 }, { name := "hash", type := .int, accessFlags := 2, slot := 2, constantValue := 0 }, { name := "hashIsZero", type := .boolean, accessFlags := 2, slot := 3, constantValue := 0 }, { name := "serialVersionUID", type := .long, accessFlags := 26, slot := 0, constantValue := 0 }, { name := "COMPACT_STRINGS", type := .boolean, accessFlags := 24, slot := 1, constantValue := 0 }, { name := "serialPersistentFields", type := (.array (.object "java/io/ObjectStreamField")), accessFlags := 26, slot := 2, constantValue := 0 }, { name := "REPL", type := .char, accessFlags := 26, slot := 3, constantValue := 0 }, { name := "CASE_INSENSITIVE_ORDER", type := (.object "java/util/Comparator"), accessFlags := 25, slot := 4, constantValue := 0 }, { name := "LATIN1", type := .byte, accessFlags := 24, slot := 5, constantValue := 0 }, { name := "UTF16", type := .byte, accessFlags := 24, slot := 6, constantValue := 0 }]
  methods := #[k11m0]
  instanceTypes := #[(.array .byte), .byte, .int, .boolean]
  staticTypes := #[.long, .boolean, (.array (.object "java/io/ObjectStreamField")), .char, (.object "java/util/Comparator"), .byte, .byte]
  resolved := Array.replicate 1451 none
  statics := none }

def pool12 : Array CpInfo := pool [(2, .class_ 4), (1, u "java/lang/Object"), (0, u "<init>"), (0, u "()V"), (35, .class_ 44), (1, u "java/util/Objects"), (0, u "requireNonNull"), (48, u "(Ljava/lang/Object;Ljava/lang/String;)Ljava/lang/Object;")] 89

def k12m0 : Method := { name := "<init>", desc := "()V", sig := { parameters := [], returnType := none }, accessFlags := 2, code := none }
def k12c1 : Code := { maxStack := 3, maxLocals := 2, code := jdk_31_method_11_code, exceptionTable := #[], attributes := #[] }
def k12m1 : Method := { name := "requireNonNull", desc := "(Ljava/lang/Object;Ljava/lang/String;)Ljava/lang/Object;", sig := { parameters := [(.object "java/lang/Object"), (.object "java/lang/String")], returnType := some (.object "java/lang/Object") }, accessFlags := 9, code := some k12c1 }
/-- java/util/Objects -/
def k12 : Class := { plain "java/util/Objects" (some 0) with
  accessFlags := 49
  interfaces := #[]
  cf := some (fileOf pool12 42 #[] #[{ accessFlags := 2, nameIndex := 5, descriptorIndex := 6, attributes := #[] }, { accessFlags := 9, nameIndex := 45, descriptorIndex := 94, attributes := #[] }] 49 2 #[] #[])
  fields := #[]
  methods := #[k12m0, k12m1]
  instanceTypes := #[]
  staticTypes := #[]
  resolved := Array.replicate 184 none
  statics := none }

def pool13 : Array CpInfo := pool [(1, .methodref 2 3), (0, .class_ 4), (0, .nameAndType 5 6), (0, u "java/lang/Record"), (0, u "<init>"), (0, u "()V"), (0, .string 8), (0, u "every"), (0, .methodref 10 11), (0, .class_ 12), (0, .nameAndType 13 14), (0, u "java/util/Objects"), (0, u "requireNonNull"), (0, u "(Ljava/lang/Object;Ljava/lang/String;)Ljava/lang/Object;"), (0, .string 16), (0, u "citation"), (0, .string 18), (0, u "words"), (0, .fieldref 20 21), (0, .class_ 22), (0, .nameAndType 8 23), (0, u "com/example/outfall/outfall/rules/PumpingInterval"), (0, u "Lcom/example/outfall/outfall/rules/Span;"), (0, .fieldref 20 25), (0, .nameAndType 16 26), (0, u "Ljava/lang/String;"), (0, .fieldref 20 28), (0, .nameAndType 18 26), (29, u "(Lcom/example/outfall/outfall/rules/Span;Ljava/lang/String;Ljava/lang/String;)V")] 39

def k13c0 : Code := { maxStack := 2, maxLocals := 4, code := prog_36_method_1_code, exceptionTable := #[], attributes := #[] }
def k13m0 : Method := { name := "<init>", desc := "(Lcom/example/outfall/outfall/rules/Span;Ljava/lang/String;Ljava/lang/String;)V", sig := { parameters := [(.object "com/example/outfall/outfall/rules/Span"), (.object "java/lang/String"), (.object "java/lang/String")], returnType := none }, accessFlags := 1, code := some k13c0 }
/-- com/example/outfall/outfall/rules/PumpingInterval -/
def k13 : Class := { plain "com/example/outfall/outfall/rules/PumpingInterval" (some 2) with
  accessFlags := 49
  interfaces := #[]
  cf := some (fileOf pool13 20 #[] #[{ accessFlags := 1, nameIndex := 5, descriptorIndex := 58, attributes := #[] }] 49 2 #[] #[{ accessFlags := 18, nameIndex := 8, descriptorIndex := 23, attributes := #[] }, { accessFlags := 18, nameIndex := 16, descriptorIndex := 26, attributes := #[] }, { accessFlags := 18, nameIndex := 18, descriptorIndex := 26, attributes := #[] }])
  fields := #[{ name := "every", type := (.object "com/example/outfall/outfall/rules/Span"), accessFlags := 18, slot := 0, constantValue := 0 }, { name := "citation", type := (.object "java/lang/String"), accessFlags := 18, slot := 1, constantValue := 0 }, { name := "words", type := (.object "java/lang/String"), accessFlags := 18, slot := 2, constantValue := 0 }]
  methods := #[k13m0]
  instanceTypes := #[(.object "com/example/outfall/outfall/rules/Span"), (.object "java/lang/String"), (.object "java/lang/String")]
  staticTypes := #[]
  resolved := Array.replicate 98 none
  statics := none }

def pool14 : Array CpInfo := pool [(1, .methodref 2 3), (0, .class_ 4), (0, .nameAndType 5 6), (0, u "java/lang/Record"), (0, u "<init>"), (0, u "()V"), (9, .fieldref 17 18), (0, .class_ 19), (0, .nameAndType 20 21), (0, u "com/example/outfall/outfall/rules/PumpingSchedule$Range"), (0, u "least"), (0, u "I"), (0, .fieldref 17 23), (0, .nameAndType 24 21), (0, u "most"), (17, u "(II)V"), (2, u "ANY"), (0, u "Lcom/example/outfall/outfall/rules/PumpingSchedule$Range;"), (6, u "overlaps"), (0, u "(Lcom/example/outfall/outfall/rules/PumpingSchedule$Range;)Z"), (7, .class_ 63), (0, u "com/example/outfall/outfall/rules/PumpingSchedule")] 28

def k14c0 : Code := { maxStack := 4, maxLocals := 3, code := prog_39_method_1_code, exceptionTable := #[], attributes := #[] }
def k14m0 : Method := { name := "<init>", desc := "(II)V", sig := { parameters := [.int, .int], returnType := none }, accessFlags := 1, code := some k14c0 }
def k14c1 : Code := { maxStack := 2, maxLocals := 2, code := prog_39_method_3_code, exceptionTable := #[], attributes := #[] }
def k14m1 : Method := { name := "overlaps", desc := "(Lcom/example/outfall/outfall/rules/PumpingSchedule$Range;)Z", sig := { parameters := [(.object "com/example/outfall/outfall/rules/PumpingSchedule$Range")], returnType := some .boolean }, accessFlags := 0, code := some k14c1 }
/-- com/example/outfall/outfall/rules/PumpingSchedule$Range -/
def k14 : Class := { plain "com/example/outfall/outfall/rules/PumpingSchedule$Range" (some 2) with
  accessFlags := 49
  interfaces := #[]
  cf := some (fileOf pool14 17 #[.nestHost 62] #[{ accessFlags := 1, nameIndex := 5, descriptorIndex := 42, attributes := #[] }, { accessFlags := 0, nameIndex := 53, descriptorIndex := 54, attributes := #[] }] 49 2 #[] #[{ accessFlags := 18, nameIndex := 20, descriptorIndex := 21, attributes := #[] }, { accessFlags := 18, nameIndex := 24, descriptorIndex := 21, attributes := #[] }, { accessFlags := 25, nameIndex := 45, descriptorIndex := 46, attributes := #[] }])
  fields := #[{ name := "least", type := .int, accessFlags := 18, slot := 0, constantValue := 0 }, { name := "most", type := .int, accessFlags := 18, slot := 1, constantValue := 0 }, { name := "ANY", type := (.object "com/example/outfall/outfall/rules/PumpingSchedule$Range"), accessFlags := 25, slot := 0, constantValue := 0 }]
  methods := #[k14m0, k14m1]
  instanceTypes := #[.int, .int]
  staticTypes := #[(.object "com/example/outfall/outfall/rules/PumpingSchedule$Range")]
  resolved := Array.replicate 92 none
  statics := none }

def pool15 : Array CpInfo := pool [(1, .class_ 2), (0, u "java/lang/Math"), (1, .class_ 6), (1, u "java/lang/Object"), (0, u "<init>"), (0, u "()V"), (89, .class_ 100), (1, u "java/lang/Math$RandomNumberGeneratorHolder"), (71, u "negativeZeroFloatBits"), (0, u "J"), (2, u "negativeZeroDoubleBits"), (21, u "max"), (2, u "min"), (43, u "$assertionsDisabled"), (0, u "Z"), (88, u "(II)I"), (2, u "twoToTheDoubleScaleDown"), (0, u "D"), (4, u "twoToTheDoubleScaleUp"), (9, u "E"), (3, u "PI"), (2, u "TAU"), (2, u "DEGREES_TO_RADIANS"), (0, u "RADIANS_TO_DEGREES")] 94

def k15m0 : Method := { name := "<init>", desc := "()V", sig := { parameters := [], returnType := none }, accessFlags := 2, code := none }
def k15c1 : Code := { maxStack := 2, maxLocals := 2, code := jdk_29_method_65_code, exceptionTable := #[], attributes := #[] }
def k15m1 : Method := { name := "max", desc := "(II)I", sig := { parameters := [.int, .int], returnType := some .int }, accessFlags := 9, code := some k15c1 }
def k15c2 : Code := { maxStack := 2, maxLocals := 2, code := jdk_29_method_69_code, exceptionTable := #[], attributes := #[] }
def k15m2 : Method := { name := "min", desc := "(II)I", sig := { parameters := [.int, .int], returnType := some .int }, accessFlags := 9, code := some k15c2 }
/-- java/lang/Math -/
def k15 : Class := { plain "java/lang/Math" (some 0) with
  accessFlags := 49
  interfaces := #[]
  cf := some (fileOf pool15 1 #[.nestMembers #[98]] #[{ accessFlags := 2, nameIndex := 7, descriptorIndex := 8, attributes := #[] }, { accessFlags := 9, nameIndex := 198, descriptorIndex := 335, attributes := #[] }, { accessFlags := 9, nameIndex := 201, descriptorIndex := 335, attributes := #[] }] 49 4 #[] #[{ accessFlags := 25, nameIndex := 354, descriptorIndex := 339, attributes := #[] }, { accessFlags := 25, nameIndex := 358, descriptorIndex := 339, attributes := #[] }, { accessFlags := 25, nameIndex := 361, descriptorIndex := 339, attributes := #[] }, { accessFlags := 26, nameIndex := 364, descriptorIndex := 339, attributes := #[] }, { accessFlags := 26, nameIndex := 365, descriptorIndex := 339, attributes := #[] }, { accessFlags := 26, nameIndex := 172, descriptorIndex := 173, attributes := #[] }, { accessFlags := 26, nameIndex := 176, descriptorIndex := 173, attributes := #[] }, { accessFlags := 8, nameIndex := 344, descriptorIndex := 339, attributes := #[] }, { accessFlags := 8, nameIndex := 338, descriptorIndex := 339, attributes := #[] }, { accessFlags := 4120, nameIndex := 245, descriptorIndex := 246, attributes := #[] }])
  fields := #[{ name := "E", type := .double, accessFlags := 25, slot := 0, constantValue := 0 }, { name := "PI", type := .double, accessFlags := 25, slot := 1, constantValue := 0 }, { name := "TAU", type := .double, accessFlags := 25, slot := 2, constantValue := 0 }, { name := "DEGREES_TO_RADIANS", type := .double, accessFlags := 26, slot := 3, constantValue := 0 }, { name := "RADIANS_TO_DEGREES", type := .double, accessFlags := 26, slot := 4, constantValue := 0 }, { name := "negativeZeroFloatBits", type := .long, accessFlags := 26, slot := 5, constantValue := 0 }, { name := "negativeZeroDoubleBits", type := .long, accessFlags := 26, slot := 6, constantValue := 0 }, { name := "twoToTheDoubleScaleUp", type := .double, accessFlags := 8, slot := 7, constantValue := 0 }, { name := "twoToTheDoubleScaleDown", type := .double, accessFlags := 8, slot := 8, constantValue := 0 }, { name := "$assertionsDisabled", type := .boolean, accessFlags := 4120, slot := 9, constantValue := 0 }]
  methods := #[k15m0, k15m1, k15m2]
  instanceTypes := #[]
  staticTypes := #[.double, .double, .double, .double, .double, .long, .long, .double, .double, .boolean]
  resolved := Array.replicate 460 none
  statics := none }

def pool16 : Array CpInfo := pool [(1, .methodref 2 3), (0, .class_ 4), (0, .nameAndType 5 6), (0, u "java/lang/Record"), (0, u "<init>"), (0, u "()V"), (0, .string 8), (0, u "tanks"), (0, .methodref 10 11), (0, .class_ 12), (0, .nameAndType 13 14), (0, u "java/util/Objects"), (0, u "requireNonNull"), (0, u "(Ljava/lang/Object;Ljava/lang/String;)Ljava/lang/Object;"), (0, .string 16), (0, u "capacity"), (0, .string 18), (0, u "interval"), (0, .fieldref 20 21), (0, .class_ 22), (0, .nameAndType 8 23), (0, u "com/example/outfall/outfall/rules/PumpingSchedule$Period"), (0, u "Lcom/example/outfall/outfall/rules/PumpingSchedule$Range;"), (0, .fieldref 20 25), (0, .nameAndType 16 23), (0, .fieldref 20 27), (0, .nameAndType 18 28), (0, u "Lcom/example/outfall/outfall/rules/PumpingInterval;"), (1, .class_ 32), (1, u "com/example/outfall/outfall/rules/PumpingSchedule$Range"), (2, .methodref 30 36), (0, .nameAndType 37 38), (0, u "overlaps"), (0, u "(Lcom/example/outfall/outfall/rules/PumpingSchedule$Range;)Z"), (12, u "(Lcom/example/outfall/outfall/rules/PumpingSchedule$Range;Lcom/example/outfall/outfall/rules/PumpingSchedule$Range;Lcom/example/outfall/outfall/rules/PumpingInterval;)V"), (6, u "(Lcom/example/outfall/outfall/rules/PumpingSchedule$Period;)Z"), (8, .class_ 68), (0, u "com/example/outfall/outfall/rules/PumpingSchedule")] 22

def k16c0 : Code := { maxStack := 2, maxLocals := 4, code := prog_38_method_1_code, exceptionTable := #[], attributes := #[] }
def k16m0 : Method := { name := "<init>", desc := "(Lcom/example/outfall/outfall/rules/PumpingSchedule$Range;Lcom/example/outfall/outfall/rules/PumpingSchedule$Range;Lcom/example/outfall/outfall/rules/PumpingInterval;)V", sig := { parameters := [(.object "com/example/outfall/outfall/rules/PumpingSchedule$Range"), (.object "com/example/outfall/outfall/rules/PumpingSchedule$Range"), (.object "com/example/outfall/outfall/rules/PumpingInterval")], returnType := none }, accessFlags := 1, code := some k16c0 }
def k16c1 : Code := { maxStack := 2, maxLocals := 2, code := prog_38_method_3_code, exceptionTable := #[], attributes := #[] }
def k16m1 : Method := { name := "overlaps", desc := "(Lcom/example/outfall/outfall/rules/PumpingSchedule$Period;)Z", sig := { parameters := [(.object "com/example/outfall/outfall/rules/PumpingSchedule$Period")], returnType := some .boolean }, accessFlags := 0, code := some k16c1 }
/-- com/example/outfall/outfall/rules/PumpingSchedule$Period -/
def k16 : Class := { plain "com/example/outfall/outfall/rules/PumpingSchedule$Period" (some 2) with
  accessFlags := 49
  interfaces := #[]
  cf := some (fileOf pool16 20 #[.nestHost 67] #[{ accessFlags := 1, nameIndex := 5, descriptorIndex := 51, attributes := #[] }, { accessFlags := 0, nameIndex := 37, descriptorIndex := 58, attributes := #[] }] 49 2 #[] #[{ accessFlags := 18, nameIndex := 8, descriptorIndex := 23, attributes := #[] }, { accessFlags := 18, nameIndex := 16, descriptorIndex := 23, attributes := #[] }, { accessFlags := 18, nameIndex := 18, descriptorIndex := 28, attributes := #[] }])
  fields := #[{ name := "tanks", type := (.object "com/example/outfall/outfall/rules/PumpingSchedule$Range"), accessFlags := 18, slot := 0, constantValue := 0 }, { name := "capacity", type := (.object "com/example/outfall/outfall/rules/PumpingSchedule$Range"), accessFlags := 18, slot := 1, constantValue := 0 }, { name := "interval", type := (.object "com/example/outfall/outfall/rules/PumpingInterval"), accessFlags := 18, slot := 2, constantValue := 0 }]
  methods := #[k16m0, k16m1]
  instanceTypes := #[(.object "com/example/outfall/outfall/rules/PumpingSchedule$Range"), (.object "com/example/outfall/outfall/rules/PumpingSchedule$Range"), (.object "com/example/outfall/outfall/rules/PumpingInterval")]
  staticTypes := #[]
  resolved := Array.replicate 91 none
  statics := none }

def pool17 : Array CpInfo := pool [(1, u "java/lang/Cloneable"), (0, .class_ 1), (0, u "java/lang/Object"), (0, .class_ 3)] 3

/-- java/lang/Cloneable -/
def k17 : Class := { plain "java/lang/Cloneable" (some 0) with
  accessFlags := 1537
  interfaces := #[]
  cf := some (fileOf pool17 2 #[] #[] 1537 4 #[] #[])
  fields := #[]
  methods := #[]
  instanceTypes := #[]
  staticTypes := #[]
  resolved := Array.replicate 8 none
  statics := none }

/-- the primitive byte -/
def k18 : Class := { plain "byte" none with kind := .primitive 'B', accessFlags := 0x411 }
/-- [B -/
def k19 : Class := { plain "[B" (some 0) with kind := .array 18 .byte, interfaces := #[17, 6], accessFlags := 1041 }

/-- the primitive int -/
def k20 : Class := { plain "int" none with kind := .primitive 'I', accessFlags := 0x411 }
/-- [I -/
def k21 : Class := { plain "[I" (some 0) with kind := .array 20 .int, interfaces := #[17, 6], accessFlags := 1041 }

def heap : Heap := #[{ cls := 8, slots := #[.ref 1, .null, .null, .null, .null, .null], vm := .statics 8 },
  { cls := 8, slots := #[.null, .int 0, .int 0], vm := .none }]
def classes : Array Class := #[k0, k1, k2, k3, k4, k5, k6, k7, k8, k9, k10, k11, k12, k13, k14, k15, k16, k17, k18, k19, k20, k21]
def interned : List (Array UInt16 × Addr) := []
def slotsUsed : Nat := 9
def theMethod : MethodId := ⟨1, 4⟩
def args0 : Array Value := #[.long 5, .long 7, .long 9, .long 4]
def aboutOver (below : List Frame) : State where
  vm := { classes := classes, interned := interned.toArray }
  heap := heap
  slotsUsed := slotsUsed
  threads := #[{ frames := .invoking theMethod args0 :: below }]
def below0 : List Frame := [.native { method := ⟨0, 0⟩, args := #[] }]
def about1 : State := aboutOver below0
def p0 : Program := .bare "" "" ""
def e0 : Env := launch0.env 0 0 0
theorem w_frames : about1.frames = Frame.invoking theMethod args0 :: below0 := rfl
set_option maxRecDepth 65536 in
theorem w_args : argsFit about1.vm theMethod args0 = true := by decide +kernel
set_option maxRecDepth 65536 in
theorem w_heap : heapFits about1 = true := by decide +kernel
set_option maxRecDepth 65536 in
theorem w_runnable : about1.curStatus? = some .runnable := by decide +kernel
set_option maxRecDepth 65536 in
theorem w_alone : about1.alone = true := by decide +kernel
set_option maxRecDepth 65536 in
theorem w_named : about1.methodNamed? x = some theMethod := by decide +kernel
set_option maxRecDepth 65536 in
theorem w_hears : about1.hears theMethod below0 = true := by decide +kernel
set_option maxRecDepth 65536 in
theorem w_ripe : about1.ripe theMethod args0 below0 = true := by decide +kernel
theorem w_running : about1.status = .running := rfl
set_option maxRecDepth 65536 in
theorem w_room : about1.hasRoom e0.platform room_1 = true :=
  launch0.hasRoom_least _ room_1 (by decide +kernel) (by decide +kernel) (by decide +kernel) (by decide +kernel) (by decide +kernel) (by decide +kernel)
theorem allAtoms_all (ts : List Jvm.Cond) (a : Array Jvm.Value) (st : Jvm.State) : (allAtoms ts).before a st = ts.all (fun c => c.before a st) := by
  induction ts with
  | nil => rfl
  | cons c t ih =>
    show (Jvm.Cond.and c (allAtoms t)).before a st = _
    rw [Jvm.Cond.before_and, ih, List.all_cons]
def words1 : List Jvm.Cond := Jvm.Cond.code x code maxLocals ret :: tables_1
/-- a 'code' word, met by the world's own term for the bytes: nothing is compared byte by byte -/
theorem code_word {y : MethodName} {bytes : ByteArray} {mx : Nat} {rt : Option FieldType} {a : Array Value} {s : State} {m : MethodId} {meth : Method} {c : Code} (h1 : s.methodNamed? y = some m) (h2 : s.vm.method? m = some meth) (h3 : meth.code = some c) (h4 : c.code = bytes)
    (h5 : (c.maxLocals == mx && c.exceptionTable.isEmpty && decide (c.maxStack ≤ mostOperands) && decide (meth.sig.returnType = rt) && !meth.locks && decide (parseMethodDescriptor y.desc = some meth.sig)) = true) : (Jvm.Cond.code y bytes mx rt).before a s = true := by
  simp only [Bool.and_eq_true, beq_iff_eq, Bool.not_eq_true', decide_eq_true_eq] at h5
  obtain ⟨⟨⟨⟨⟨g1, g2⟩, g3⟩, g4⟩, g5⟩, g6⟩ := h5
  simp [Cond.before, Cond.holds, Cond.value, h1, h2, h3, h4, g1, g2, g3, g4, g5, g6]
def isCode : Jvm.Cond → Bool
  | .code _ _ _ _ => true
  | _ => false
theorem all_split {L : List Jvm.Cond} {P : Jvm.Cond → Bool} (h1 : L.all (fun c => isCode c || P c) = true) (h2 : ∀ c ∈ L.filter isCode, P c = true) : L.all P = true := by
  refine List.all_eq_true.mpr fun c hc => ?_
  have h := List.all_eq_true.mp h1 c hc
  rcases Bool.eq_false_or_eq_true (isCode c) with hi | hi
  · exact h2 c (List.mem_filter.mpr ⟨hc, hi⟩)
  · simpa [hi] using h
set_option maxRecDepth 65536 in
theorem w_c0 : (Jvm.Cond.code x code maxLocals ret).before args0 about1 = true := code_word (m := ⟨1, 4⟩) (meth := k1m4) (c := k1c4) (by decide +kernel) rfl rfl rfl (by decide +kernel)
set_option maxRecDepth 65536 in
theorem w_c1 : (Jvm.Cond.code ({ cls := "com/example/outfall/outfall/rules/Span", name := "<init>", desc := "(ILcom/example/outfall/outfall/rules/Span$Unit;)V" } : Jvm.MethodName) prog_46_method_1_code (3 : Nat) (Option.none : Option Jvm.ClassFile.FieldType)).before args0 about1 = true := code_word (m := ⟨3, 0⟩) (meth := k3m0) (c := k3c0) (by decide +kernel) rfl rfl rfl (by decide +kernel)
set_option maxRecDepth 65536 in
theorem w_c2 : (Jvm.Cond.code ({ cls := "java/lang/Record", name := "<init>", desc := "()V" } : Jvm.MethodName) jdk_30_method_1_code (1 : Nat) (Option.none : Option Jvm.ClassFile.FieldType)).before args0 about1 = true := code_word (m := ⟨2, 0⟩) (meth := k2m0) (c := k2c0) (by decide +kernel) rfl rfl rfl (by decide +kernel)
set_option maxRecDepth 65536 in
theorem w_c3 : (Jvm.Cond.code ({ cls := "java/lang/Object", name := "<init>", desc := "()V" } : Jvm.MethodName) object_method_1_code (1 : Nat) (Option.none : Option Jvm.ClassFile.FieldType)).before args0 about1 = true := code_word (m := ⟨0, 0⟩) (meth := k0m0) (c := k0c0) (by decide +kernel) rfl rfl rfl (by decide +kernel)
set_option maxRecDepth 65536 in
theorem w_c4 : (Jvm.Cond.code ({ cls := "java/util/Objects", name := "requireNonNull", desc := "(Ljava/lang/Object;Ljava/lang/String;)Ljava/lang/Object;" } : Jvm.MethodName) jdk_31_method_11_code (2 : Nat) (Option.some (Jvm.ClassFile.FieldType.object "java/lang/Object"))).before args0 about1 = true := code_word (m := ⟨12, 1⟩) (meth := k12m1) (c := k12c1) (by decide +kernel) rfl rfl rfl (by decide +kernel)
set_option maxRecDepth 65536 in
theorem w_c5 : (Jvm.Cond.code ({ cls := "com/example/outfall/outfall/rules/PumpingInterval", name := "<init>", desc := "(Lcom/example/outfall/outfall/rules/Span;Ljava/lang/String;Ljava/lang/String;)V" } : Jvm.MethodName) prog_36_method_1_code (4 : Nat) (Option.none : Option Jvm.ClassFile.FieldType)).before args0 about1 = true := code_word (m := ⟨13, 0⟩) (meth := k13m0) (c := k13c0) (by decide +kernel) rfl rfl rfl (by decide +kernel)
set_option maxRecDepth 65536 in
theorem w_c6 : (Jvm.Cond.code ({ cls := "com/example/outfall/outfall/rules/PeriodOverlapsPinLaw", name := "lo", desc := "(J)I" } : Jvm.MethodName) method_2_code (4 : Nat) (Option.some Jvm.ClassFile.FieldType.int)).before args0 about1 = true := code_word (m := ⟨1, 1⟩) (meth := k1m1) (c := k1c1) (by decide +kernel) rfl rfl rfl (by decide +kernel)
set_option maxRecDepth 65536 in
theorem w_c7 : (Jvm.Cond.code ({ cls := "java/lang/Math", name := "max", desc := "(II)I" } : Jvm.MethodName) jdk_29_method_65_code (2 : Nat) (Option.some Jvm.ClassFile.FieldType.int)).before args0 about1 = true := code_word (m := ⟨15, 1⟩) (meth := k15m1) (c := k15c1) (by decide +kernel) rfl rfl rfl (by decide +kernel)
set_option maxRecDepth 65536 in
theorem w_c8 : (Jvm.Cond.code ({ cls := "java/lang/Math", name := "min", desc := "(II)I" } : Jvm.MethodName) jdk_29_method_69_code (2 : Nat) (Option.some Jvm.ClassFile.FieldType.int)).before args0 about1 = true := code_word (m := ⟨15, 2⟩) (meth := k15m2) (c := k15c2) (by decide +kernel) rfl rfl rfl (by decide +kernel)
set_option maxRecDepth 65536 in
theorem w_c9 : (Jvm.Cond.code ({ cls := "com/example/outfall/outfall/rules/PeriodOverlapsPinLaw", name := "hi", desc := "(J)I" } : Jvm.MethodName) method_3_code (4 : Nat) (Option.some Jvm.ClassFile.FieldType.int)).before args0 about1 = true := code_word (m := ⟨1, 2⟩) (meth := k1m2) (c := k1c2) (by decide +kernel) rfl rfl rfl (by decide +kernel)
set_option maxRecDepth 65536 in
theorem w_c10 : (Jvm.Cond.code ({ cls := "com/example/outfall/outfall/rules/PumpingSchedule$Range", name := "<init>", desc := "(II)V" } : Jvm.MethodName) prog_39_method_1_code (3 : Nat) (Option.none : Option Jvm.ClassFile.FieldType)).before args0 about1 = true := code_word (m := ⟨14, 0⟩) (meth := k14m0) (c := k14c0) (by decide +kernel) rfl rfl rfl (by decide +kernel)
set_option maxRecDepth 65536 in
theorem w_c11 : (Jvm.Cond.code ({ cls := "com/example/outfall/outfall/rules/PumpingSchedule$Period", name := "<init>", desc := "(Lcom/example/outfall/outfall/rules/PumpingSchedule$Range;Lcom/example/outfall/outfall/rules/PumpingSchedule$Range;Lcom/example/outfall/outfall/rules/PumpingInterval;)V" } : Jvm.MethodName) prog_38_method_1_code (4 : Nat) (Option.none : Option Jvm.ClassFile.FieldType)).before args0 about1 = true := code_word (m := ⟨16, 0⟩) (meth := k16m0) (c := k16c0) (by decide +kernel) rfl rfl rfl (by decide +kernel)
set_option maxRecDepth 65536 in
theorem w_c12 : (Jvm.Cond.code ({ cls := "com/example/outfall/outfall/rules/PeriodOverlapsPinLaw", name := "meet", desc := "(JJ)Z" } : Jvm.MethodName) method_4_code (4 : Nat) (Option.some Jvm.ClassFile.FieldType.boolean)).before args0 about1 = true := code_word (m := ⟨1, 3⟩) (meth := k1m3) (c := k1c3) (by decide +kernel) rfl rfl rfl (by decide +kernel)
set_option maxRecDepth 65536 in
theorem w_c13 : (Jvm.Cond.code ({ cls := "com/example/outfall/outfall/rules/PumpingSchedule$Period", name := "overlaps", desc := "(Lcom/example/outfall/outfall/rules/PumpingSchedule$Period;)Z" } : Jvm.MethodName) prog_38_method_3_code (2 : Nat) (Option.some Jvm.ClassFile.FieldType.boolean)).before args0 about1 = true := code_word (m := ⟨16, 1⟩) (meth := k16m1) (c := k16c1) (by decide +kernel) rfl rfl rfl (by decide +kernel)
set_option maxRecDepth 65536 in
theorem w_c14 : (Jvm.Cond.code ({ cls := "com/example/outfall/outfall/rules/PumpingSchedule$Range", name := "overlaps", desc := "(Lcom/example/outfall/outfall/rules/PumpingSchedule$Range;)Z" } : Jvm.MethodName) prog_39_method_3_code (2 : Nat) (Option.some Jvm.ClassFile.FieldType.boolean)).before args0 about1 = true := code_word (m := ⟨14, 1⟩) (meth := k14m1) (c := k14c1) (by decide +kernel) rfl rfl rfl (by decide +kernel)
def codes1 : List Jvm.Cond := [Jvm.Cond.code x code maxLocals ret, Jvm.Cond.code ({ cls := "com/example/outfall/outfall/rules/Span", name := "<init>", desc := "(ILcom/example/outfall/outfall/rules/Span$Unit;)V" } : Jvm.MethodName) prog_46_method_1_code (3 : Nat) (Option.none : Option Jvm.ClassFile.FieldType), Jvm.Cond.code ({ cls := "java/lang/Record", name := "<init>", desc := "()V" } : Jvm.MethodName) jdk_30_method_1_code (1 : Nat) (Option.none : Option Jvm.ClassFile.FieldType), Jvm.Cond.code ({ cls := "java/lang/Object", name := "<init>", desc := "()V" } : Jvm.MethodName) object_method_1_code (1 : Nat) (Option.none : Option Jvm.ClassFile.FieldType), Jvm.Cond.code ({ cls := "java/util/Objects", name := "requireNonNull", desc := "(Ljava/lang/Object;Ljava/lang/String;)Ljava/lang/Object;" } : Jvm.MethodName) jdk_31_method_11_code (2 : Nat) (Option.some (Jvm.ClassFile.FieldType.object "java/lang/Object")), Jvm.Cond.code ({ cls := "com/example/outfall/outfall/rules/PumpingInterval", name := "<init>", desc := "(Lcom/example/outfall/outfall/rules/Span;Ljava/lang/String;Ljava/lang/String;)V" } : Jvm.MethodName) prog_36_method_1_code (4 : Nat) (Option.none : Option Jvm.ClassFile.FieldType), Jvm.Cond.code ({ cls := "com/example/outfall/outfall/rules/PeriodOverlapsPinLaw", name := "lo", desc := "(J)I" } : Jvm.MethodName) method_2_code (4 : Nat) (Option.some Jvm.ClassFile.FieldType.int), Jvm.Cond.code ({ cls := "java/lang/Math", name := "max", desc := "(II)I" } : Jvm.MethodName) jdk_29_method_65_code (2 : Nat) (Option.some Jvm.ClassFile.FieldType.int), Jvm.Cond.code ({ cls := "java/lang/Math", name := "min", desc := "(II)I" } : Jvm.MethodName) jdk_29_method_69_code (2 : Nat) (Option.some Jvm.ClassFile.FieldType.int), Jvm.Cond.code ({ cls := "com/example/outfall/outfall/rules/PeriodOverlapsPinLaw", name := "hi", desc := "(J)I" } : Jvm.MethodName) method_3_code (4 : Nat) (Option.some Jvm.ClassFile.FieldType.int), Jvm.Cond.code ({ cls := "com/example/outfall/outfall/rules/PumpingSchedule$Range", name := "<init>", desc := "(II)V" } : Jvm.MethodName) prog_39_method_1_code (3 : Nat) (Option.none : Option Jvm.ClassFile.FieldType), Jvm.Cond.code ({ cls := "com/example/outfall/outfall/rules/PumpingSchedule$Period", name := "<init>", desc := "(Lcom/example/outfall/outfall/rules/PumpingSchedule$Range;Lcom/example/outfall/outfall/rules/PumpingSchedule$Range;Lcom/example/outfall/outfall/rules/PumpingInterval;)V" } : Jvm.MethodName) prog_38_method_1_code (4 : Nat) (Option.none : Option Jvm.ClassFile.FieldType), Jvm.Cond.code ({ cls := "com/example/outfall/outfall/rules/PeriodOverlapsPinLaw", name := "meet", desc := "(JJ)Z" } : Jvm.MethodName) method_4_code (4 : Nat) (Option.some Jvm.ClassFile.FieldType.boolean), Jvm.Cond.code ({ cls := "com/example/outfall/outfall/rules/PumpingSchedule$Period", name := "overlaps", desc := "(Lcom/example/outfall/outfall/rules/PumpingSchedule$Period;)Z" } : Jvm.MethodName) prog_38_method_3_code (2 : Nat) (Option.some Jvm.ClassFile.FieldType.boolean), Jvm.Cond.code ({ cls := "com/example/outfall/outfall/rules/PumpingSchedule$Range", name := "overlaps", desc := "(Lcom/example/outfall/outfall/rules/PumpingSchedule$Range;)Z" } : Jvm.MethodName) prog_39_method_3_code (2 : Nat) (Option.some Jvm.ClassFile.FieldType.boolean)]
set_option maxRecDepth 65536 in
theorem codes_eq : words1.filter isCode = codes1 := rfl
theorem w_codes : ∀ c ∈ words1.filter isCode, c.before args0 about1 = true := by
  rw [codes_eq]
  intro c hc
  simp only [codes1, List.mem_cons, List.not_mem_nil, or_false] at hc
  rcases hc with rfl | rfl | rfl | rfl | rfl | rfl | rfl | rfl | rfl | rfl | rfl | rfl | rfl | rfl | rfl
  · exact w_c0
  · exact w_c1
  · exact w_c2
  · exact w_c3
  · exact w_c4
  · exact w_c5
  · exact w_c6
  · exact w_c7
  · exact w_c8
  · exact w_c9
  · exact w_c10
  · exact w_c11
  · exact w_c12
  · exact w_c13
  · exact w_c14
set_option maxRecDepth 65536 in
theorem w_t1 : (words1.take 24).all (fun c => isCode c || c.before args0 about1) = true := by decide +kernel
set_option maxRecDepth 65536 in
theorem w_t2 : ((words1.drop 24).take 24).all (fun c => isCode c || c.before args0 about1) = true := by decide +kernel
set_option maxRecDepth 65536 in
theorem w_t3 : (((words1.drop 24).drop 24).take 24).all (fun c => isCode c || c.before args0 about1) = true := by decide +kernel
set_option maxRecDepth 65536 in
theorem w_t4 : ((((words1.drop 24).drop 24).drop 24).take 24).all (fun c => isCode c || c.before args0 about1) = true := by decide +kernel
set_option maxRecDepth 65536 in
theorem w_t5 : ((((words1.drop 24).drop 24).drop 24).drop 24).all (fun c => isCode c || c.before args0 about1) = true := by decide +kernel
theorem w_tables : (allAtoms (Jvm.Cond.code x code maxLocals ret :: tables_1)).before args0 about1 = true := by
  rw [allAtoms_all]
  show words1.all (fun c => c.before args0 about1) = true
  refine all_split ?_ w_codes
  rw [← List.take_append_drop 24 words1, List.all_append, w_t1, ← List.take_append_drop 24 (words1.drop 24), List.all_append, w_t2, ← List.take_append_drop 24 ((words1.drop 24).drop 24), List.all_append, w_t3, ← List.take_append_drop 24 (((words1.drop 24).drop 24).drop 24), List.all_append, w_t4, w_t5]
  rfl
set_option maxRecDepth 65536 in
theorem w_case : (Jvm.Cond.and given_1 narrow_1).before args0 about1 = true := by decide +kernel
theorem w_applies : (headSpec (Jvm.Cond.code x code maxLocals ret :: tables_1) room_1).applies x e0.platform about1 = true :=
  (Spec.applies_iff w_frames).mpr ⟨w_running, w_runnable, w_alone, w_named, w_hears, w_ripe, w_room, w_tables⟩
theorem atStart : AtStart classFile x code maxLocals ret World_1 tables_1 room_1 Calls_1 rest_1 Pre_1 launch0 p0 e0 about1 theMethod args0 below0 :=
  ⟨lists_1, trivial, launch0.admits_env _ _ _, launch0.least_env, fairChoices_fair.cas, fairChoices_fair.clock, w_frames, w_args, w_heap, w_applies, trivial, trivial, w_case⟩
end start1
theorem witness_1 : WitnessClaimed_1 := ⟨start1.p0, start1.e0, start1.about1, start1.theMethod, start1.args0, start1.below0, start1.atStart⟩
end Jvm.Pilot.@@N@@
