import JvmDerived
import JvmDerived.Pilot.@@N@@Statement
import JvmDerived.Pilot.@@N@@Code
set_option linter.unusedVariables false
set_option linter.unusedSimpArgs false
namespace Jvm.Pilot.@@N@@
open Jvm Jvm.ClassFile Sem Op Lib Jvm.Free Jvm.Stand Jvm.LawKit Jvm.RoadKit Bundle Jvm.Pilot.@@N@@.Jvm.D
section OwnKit
variable {p : Program} {l : Launch} {e : Env} {R : Room} {s : State} {m : MethodId} {args : Array Value} {below : List Frame} {meth : Method} {c : Code} {T : State} {locs : List Loc} {cells slots : Nat} {Z : State} {a0 : Array Value} {h : Heap}
/-- the walk from A ends well: it returns, what it returns and leaves is as Q says -/
def own_G (p : Program) (e : Env) (below : List Frame) (s : State) (Q : Option Value → Heap → List Loc → Prop) (ce sl : Nat) (A : State) : Prop :=
  ∃ s₂ o, Steps p.tables e below A s₂ ∧ s₂.status = .running ∧ Ended s₂ below o ∧ ∃ v L, o = .returned v ∧ Q v s₂.heap L ∧ FrameEnd s o s₂ L ce sl
theorem own_st {Q : Option Value → Heap → List Loc → Prop} {ce sl : Nat} {A B : State} (k : ∀ t, Steps p.tables e below B t → Steps p.tables e below A t) (g : own_G p e below s Q ce sl B) : own_G p e below s Q ce sl A := by
  obtain ⟨s₂, o, h1, h2⟩ := g
  exact ⟨s₂, o, k _ h1, h2⟩
theorem own_ret {Q : Option Value → Heap → List Loc → Prop} {ce sl : Nat} (X : Stand p l e R s m args below meth c T locs cells slots) (hx : p.tables.exec = Jvm.exec) (hlk : meth.locks = false) {pc : Nat} {Ls : Array Slot} {w : Value} {t : FieldType} {i : Instr} {rest : List Value} (hret : meth.sig.returnType = some t) (hn : narrow t w = w)
    (hi : (i = .ireturn ∧ (t = .int ∨ t = .boolean ∨ t = .byte ∨ t = .char ∨ t = .short) ∧ ∃ z, w = .int z) ∨ (i = .lreturn ∧ t = .long ∧ ∃ z, w = .long z) ∨ (i = .dreturn ∧ t = .double ∧ ∃ z, w = .double z) ∨ (i = .freturn ∧ t = .float ∧ ∃ z, w = .float z) ∨ (i = .areturn ∧ t.isReference = true ∧ w.isRef = true))
    (hd : decode c.code pc = .ok (i, 1)) (hc : cells ≤ ce) (hs : slots ≤ sl) (hQ : Q (some w) T.heap locs) : own_G p e below s Q ce sl (T.setTop (mkF m pc Ls (w :: rest))) := by
  obtain ⟨fs, hr, hrun, hended, hW, hsame⟩ := X.leave (v := some w) (fun q => by rw [hret] at q; cases q) hlk
  exact ⟨_, _, retOut X hx hret hn hi hd hr, hrun, hended, _, _, rfl, hQ, ⟨_, rfl⟩, hW, hsame.mono hc hs⟩
theorem own_retI {Q : Option Value → Heap → List Loc → Prop} {ce sl : Nat} (X : Stand p l e R s m args below meth c T locs cells slots) (hx : p.tables.exec = Jvm.exec) (hlk : meth.locks = false) {pc : Nat} {Ls : Array Slot} {z : Int32} {rest : List Value} (hret : meth.sig.returnType = some .int)
    (hd : decode c.code pc = .ok (.ireturn, 1)) (hc : cells ≤ ce) (hs : slots ≤ sl) (hQ : Q (some (.int z)) T.heap locs) : own_G p e below s Q ce sl (T.setTop (mkF m pc Ls (.int z :: rest))) :=
  own_ret X hx hlk hret rfl (Or.inl ⟨rfl, Or.inl rfl, z, rfl⟩) hd hc hs hQ
theorem own_retZ {Q : Option Value → Heap → List Loc → Prop} {ce sl : Nat} (X : Stand p l e R s m args below meth c T locs cells slots) (hx : p.tables.exec = Jvm.exec) (hlk : meth.locks = false) {pc : Nat} {Ls : Array Slot} {z : Int32} {rest : List Value} (hret : meth.sig.returnType = some .boolean) (hn : z = 0 ∨ z = 1)
    (hd : decode c.code pc = .ok (.ireturn, 1)) (hc : cells ≤ ce) (hs : slots ≤ sl) (hQ : Q (some (.int z)) T.heap locs) : own_G p e below s Q ce sl (T.setTop (mkF m pc Ls (.int z :: rest))) :=
  own_ret X hx hlk hret (by rcases hn with rfl | rfl <;> rfl) (Or.inl ⟨rfl, Or.inr (Or.inl rfl), z, rfl⟩) hd hc hs hQ
theorem own_retJ {Q : Option Value → Heap → List Loc → Prop} {ce sl : Nat} (X : Stand p l e R s m args below meth c T locs cells slots) (hx : p.tables.exec = Jvm.exec) (hlk : meth.locks = false) {pc : Nat} {Ls : Array Slot} {z : Int64} {rest : List Value} (hret : meth.sig.returnType = some .long)
    (hd : decode c.code pc = .ok (.lreturn, 1)) (hc : cells ≤ ce) (hs : slots ≤ sl) (hQ : Q (some (.long z)) T.heap locs) : own_G p e below s Q ce sl (T.setTop (mkF m pc Ls (.long z :: rest))) :=
  own_ret X hx hlk hret rfl (Or.inr (Or.inl ⟨rfl, rfl, z, rfl⟩)) hd hc hs hQ
theorem own_retA {Q : Option Value → Heap → List Loc → Prop} {ce sl : Nat} (X : Stand p l e R s m args below meth c T locs cells slots) (hx : p.tables.exec = Jvm.exec) (hlk : meth.locks = false) {pc : Nat} {Ls : Array Slot} {w : Value} {t : FieldType} {rest : List Value} (hret : meth.sig.returnType = some t) (ht : t.isReference = true) (hw : w.isRef = true)
    (hd : decode c.code pc = .ok (.areturn, 1)) (hc : cells ≤ ce) (hs : slots ≤ sl) (hQ : Q (some w) T.heap locs) : own_G p e below s Q ce sl (T.setTop (mkF m pc Ls (w :: rest))) :=
  own_ret X hx hlk hret (by cases w <;> first | rfl | (cases t <;> first | rfl | cases ht)) (Or.inr (Or.inr (Or.inr (Or.inr ⟨rfl, ht, hw⟩)))) hd hc hs hQ
theorem own_retV {Q : Option Value → Heap → List Loc → Prop} {ce sl : Nat} (X : Stand p l e R s m args below meth c T locs cells slots) (hx : p.tables.exec = Jvm.exec) (hlk : meth.locks = false) {pc : Nat} {Ls : Array Slot} (hret : meth.sig.returnType = none)
    (hd : decode c.code pc = .ok (.return_, 1)) (hc : cells ≤ ce) (hs : slots ≤ sl) (hQ : Q none T.heap locs) : own_G p e below s Q ce sl (T.setTop (mkF m pc Ls [])) := by
  obtain ⟨fs, hr, hrun, hended, hW, hsame⟩ := X.leave (v := none) (fun _ => rfl) hlk
  exact ⟨_, _, X.returnOut hx hret hd hr, hrun, hended, _, _, rfl, hQ, ⟨_, rfl⟩, hW, hsame.mono hc hs⟩
/-- a contract out of the walk of its body -/
theorem own_met {y : MethodName} {bytes : ByteArray} {maxL : Nat} {ret : Option FieldType} {ws : List Jvm.Cond} {rm : Room} {as' : Array Value} {h0 : Heap} {Q : Option Value → Heap → List Loc → Prop} {ce sl : Nat} (hp : plainFor y = true)
    (body : ∀ (p : Program) (e : Env) (s : State) (m : MethodId) (below : List Frame) (meth : Method) (c : Code) (T : State), p.tables.exec = Jvm.exec → c.code = bytes → c.maxLocals = maxL → s.vm.findClass y.cls = some m.cls → meth.name = y.name → meth.sig.returnType = ret → meth.locks = false → Z.Warmed39 s.vm → T.heap = h0 →
      Stand p l e rm s m as' below meth c T [] 0 0 → own_G p e below s Q ce sl (T.setTop (entryFrame m as' maxL))) :
    MetFree l y (head1 (Jvm.Cond.code y bytes maxL ret :: ws) rm) (fun a U => a = as' ∧ Z.Warmed39 U.vm ∧ U.heap = h0) (fun _ _ _ _ _ => True) (fun _ U o U' => ∃ v L, o = .returned v ∧ Q v U'.heap L ∧ FrameEnd U o U' L ce sl) := by
  refine MetFree.of_bodySF hp hisR ?_
  intro p e s m args below meth c s₁ Bd hml0 hP hK
  obtain ⟨rfl, hZ, hh⟩ := hP
  exact body p e s m below meth c s₁ Bd.exec Bd.bytes hml0 (findClass_of_methodNamed Bd.named) (name_of_methodNamed Bd.named Bd.method).1 Bd.returns Bd.notSynchronized hZ (by rw [← hh, Bd.state]; rfl) (Stand.of_body Bd)
theorem own_callS (X : Stand p l e R s m args below meth c T locs cells slots) (hx : p.tables.exec = Jvm.exec) (hZ : Z.Warmed39 s.vm) {own : String} {index : Nat} {y : MethodName} {bytes : ByteArray} {maxL : Nat} {ret : Option FieldType} {rm : Room} {Q : Option Value → Heap → List Loc → Prop} {argsL rest : List Value} (W : Nat)
    (hown : s.vm.findClass own = some m.cls) (wl : (Jvm.Cond.methodLink own index y).before a0 Z = true) (wst : (Jvm.Cond.static y).before a0 Z = true) (wz : (Jvm.Cond.initialized y.cls).before a0 Z = true) (wc : (Jvm.Cond.code y bytes maxL ret).before a0 Z = true) (hy : y.cls ≠ "java/lang/invoke/MethodHandle" ∧ y.cls ≠ "java/lang/invoke/VarHandle")
    (hM : MetFree l y (head1 [Jvm.Cond.code y bytes maxL ret] rm) (fun a U => a = argsL.toArray ∧ Z.Warmed39 U.vm ∧ U.heap = h) (fun _ _ _ _ _ => True) (fun _ U o U' => ∃ v L, o = .returned v ∧ Q v U'.heap L ∧ FrameEnd U o U' L rm.cells rm.slots))
    (hf : rm.frames + 1 ≤ R.frames) (hl : W + (maxL + 11) + rm.locals ≤ R.locals) (eT : T.heap = h) {g : JFrame} (hg : g.method = m) (hsize : g.locals.size = c.maxLocals) {ps : List FieldType} {r : Option FieldType} (hpd : parseMethodDescriptor y.desc = some ⟨ps, r⟩) (hlen : argsL.length = ps.length)
    (hstack : g.stack = argsL.reverse ++ rest) (hW : 2 * g.monitorRoom + (rest.map fun v => v.category).sum ≤ W) (hdg : decode c.code g.pc = .ok (.invokestatic index, 3)) (hc : cells + rm.cells ≤ R.cells) (hs : slots + rm.slots ≤ R.slots) :
    ∃ v T' L, Stand p l e R s m args below meth c T' (locs ++ L) (cells + rm.cells) (slots + rm.slots) ∧ Q v T'.heap L ∧ ∀ t, Steps p.tables e below (T'.setTop { g with pc := g.pc + 3, stack := v.toList ++ rest }) t → Steps p.tables e below (T.setTop g) t := by
  obtain ⟨v, _, ⟨T', L', k', n'⟩, -, X', ⟨L, hQ, l1, y1, z1⟩, st⟩ := Jvm.LawKit.callS X hx (y := y) hown (mvT hZ wl) (mvT hZ wst) (mvT hZ wz) (mvT hZ wc) hy (backOf (W := W) hM hZ wc wz hf hl) hg hsize (lenOf hpd hlen) hstack hW hdg (fun _ _ => ⟨rfl, eT, hc, hs⟩)
  dsimp only [Pt.U, Pt.locs, Pt.cells, Pt.slots] at X' l1 y1 z1 st hQ
  subst l1 y1 z1
  exact ⟨v, T', L, X', hQ, st⟩
theorem own_callI (X : Stand p l e R s m args below meth c T locs cells slots) (hx : p.tables.exec = Jvm.exec) (hZ : Z.Warmed39 s.vm) {own : String} {index : Nat} {y : MethodName} {bytes : ByteArray} {maxL : Nat} {rm : Room} {Q : Option Value → Heap → List Loc → Prop} {a : Addr} {argsL rest : List Value} (W : Nat)
    (hy1 : y.name = "<init>") (hown : s.vm.findClass own = some m.cls) (wl : (Jvm.Cond.methodLink own index y).before a0 Z = true) (wi : (Jvm.Cond.instanceMethod y).before a0 Z = true) (wz : (Jvm.Cond.initialized y.cls).before a0 Z = true) (wc : (Jvm.Cond.code y bytes maxL none).before a0 Z = true) (hy : y.cls ≠ "java/lang/invoke/MethodHandle" ∧ y.cls ≠ "java/lang/invoke/VarHandle")
    (hM : MetFree l y (head1 [Jvm.Cond.code y bytes maxL none] rm) (fun b U => b = (Value.ref a :: argsL).toArray ∧ Z.Warmed39 U.vm ∧ U.heap = h) (fun _ _ _ _ _ => True) (fun _ U o U' => ∃ v L, o = .returned v ∧ Q v U'.heap L ∧ FrameEnd U o U' L rm.cells rm.slots))
    (hf : rm.frames + 1 ≤ R.frames) (hl : W + (maxL + 11) + rm.locals ≤ R.locals) (eT : T.heap = h) {g : JFrame} (hg : g.method = m) (hsize : g.locals.size = c.maxLocals) {ps : List FieldType} {r : Option FieldType} (hpd : parseMethodDescriptor y.desc = some ⟨ps, r⟩) (hlen : argsL.length = ps.length)
    (hstack : g.stack = argsL.reverse ++ .ref a :: rest) (hW : 2 * g.monitorRoom + (rest.map fun v => v.category).sum ≤ W) (hdg : decode c.code g.pc = .ok (.invokespecial index, 3)) (hc : cells + rm.cells ≤ R.cells) (hs : slots + rm.slots ≤ R.slots) :
    ∃ v T' L, Stand p l e R s m args below meth c T' (locs ++ L) (cells + rm.cells) (slots + rm.slots) ∧ Q v T'.heap L ∧ ∀ t, Steps p.tables e below (T'.setTop { g with pc := g.pc + 3, stack := v.toList ++ rest }) t → Steps p.tables e below (T.setTop g) t := by
  obtain ⟨v, _, ⟨T', L', k', n'⟩, -, X', ⟨L, hQ, l1, y1, z1⟩, st⟩ := X.specialBack hx (y := y) hy1 hown (mvT hZ wl) (mvT hZ wi) (mvT hZ wc) hy (backOf (W := W) hM hZ wc wz hf hl) hg hsize (Steps.refl _) (a := a) (lenOf hpd hlen) hstack hW hdg (fun _ _ => ⟨rfl, eT, hc, hs⟩)
  dsimp only [Pt.U, Pt.locs, Pt.cells, Pt.slots] at X' l1 y1 z1 st hQ
  subst l1 y1 z1
  exact ⟨v, T', L, X', hQ, fun t k => st.trans k⟩
theorem own_callV (X : Stand p l e R s m args below meth c T locs cells slots) (hx : p.tables.exec = Jvm.exec) (hZ : Z.Warmed39 s.vm) {own C : String} {index : Nat} {y z : MethodName} {bytes : ByteArray} {maxL : Nat} {ret : Option FieldType} {rm : Room} {Q : Option Value → Heap → List Loc → Prop} {a : Addr} {argsL rest : List Value} (W : Nat)
    (hown : s.vm.findClass own = some m.cls) (wl : (Jvm.Cond.methodLink own index y).before a0 Z = true) (wd : (Jvm.Cond.declares y).before a0 Z = true) (hnf : NotFace s y) (wsel : (Jvm.Cond.selects C y z).before a0 Z = true) (wi : (Jvm.Cond.instanceMethod z).before a0 Z = true) (wz : (Jvm.Cond.initialized z.cls).before a0 Z = true) (wc : (Jvm.Cond.code z bytes maxL ret).before a0 Z = true) (hy : y.cls ≠ "java/lang/invoke/MethodHandle" ∧ y.cls ≠ "java/lang/invoke/VarHandle")
    (hM : MetFree l z (head1 [Jvm.Cond.code z bytes maxL ret] rm) (fun b U => b = (Value.ref a :: argsL).toArray ∧ Z.Warmed39 U.vm ∧ U.heap = h) (fun _ _ _ _ _ => True) (fun _ U o U' => ∃ v L, o = .returned v ∧ Q v U'.heap L ∧ FrameEnd U o U' L rm.cells rm.slots))
    (hf : rm.frames + 1 ≤ R.frames) (hl : W + (maxL + 11) + rm.locals ≤ R.locals) (eT : T.heap = h) (E : Exa Z h a C) {g : JFrame} (hg : g.method = m) (hsize : g.locals.size = c.maxLocals) {ps : List FieldType} {r : Option FieldType} (hpd : parseMethodDescriptor y.desc = some ⟨ps, r⟩) (hlen : argsL.length = ps.length)
    (hstack : g.stack = argsL.reverse ++ .ref a :: rest) (hW : 2 * g.monitorRoom + (rest.map fun v => v.category).sum ≤ W) (hdg : decode c.code g.pc = .ok (.invokevirtual index, 3)) (hc : cells + rm.cells ≤ R.cells) (hs : slots + rm.slots ≤ R.slots) :
    ∃ v T' L, Stand p l e R s m args below meth c T' (locs ++ L) (cells + rm.cells) (slots + rm.slots) ∧ Q v T'.heap L ∧ ∀ t, Steps p.tables e below (T'.setTop { g with pc := g.pc + 3, stack := v.toList ++ rest }) t → Steps p.tables e below (T.setTop g) t := by
  obtain ⟨cq, kq, qa, qb, qc⟩ := isOf hZ eT E
  obtain ⟨v, _, ⟨T', L', k', n'⟩, -, X', ⟨L, hQ, l1, y1, z1⟩, st⟩ := X.virtualBack hx (y := y) (z := z) hown (mvT hZ wl) (mvT hZ wd) hnf (mvT hZ wsel) (mvT hZ wi) hy (backOf (W := W) hM hZ wc wz hf hl) qa qc hg hsize (Steps.refl _) (lenOf hpd hlen) hstack hW hdg (fun _ _ => ⟨rfl, eT, hc, hs⟩)
  dsimp only [Pt.U, Pt.locs, Pt.cells, Pt.slots] at X' l1 y1 z1 st hQ
  subst l1 y1 z1
  exact ⟨v, T', L, X', hQ, fun t k => st.trans k⟩
theorem own_nf {y : MethodName} {C : String} (hZ : Z.Warmed39 s.vm) (w : (Jvm.Cond.selects C y y).before a0 Z = true) : NotFace s y := notFace_of_selects (args := #[]) (mvT hZ w)
theorem own_selP {y y0 : MethodName} {C : String} (hZ : Z.Warmed39 s.vm) (w0 : (Jvm.Cond.selects C y0 y0).before a0 Z = true) (hc : y0.cls = y.cls) (wp : (Jvm.Cond.privateMethod y).before a0 Z = true) (wi : (Jvm.Cond.instanceMethod y).before a0 Z = true) (hy : y.cls ≠ "java/lang/invoke/MethodHandle" ∧ y.cls ≠ "java/lang/invoke/VarHandle") :
    (Jvm.Cond.selects y.cls y y).before args s = true := by
  obtain ⟨c2, r2, m2, q1, q2, q3, q4, kP, hkP, hkPi⟩ := Cond.selects_spec (mvT (args := args) hZ w0)
  exact selects_self_of_private (hc ▸ findClass_of_methodNamed q3) hkP hkPi (Cond.privateMethod_at (mvP hZ wp (args := #[]))) (mvT hZ wi) hy
theorem own_callP (X : Stand p l e R s m args below meth c T locs cells slots) (hx : p.tables.exec = Jvm.exec) (hZ : Z.Warmed39 s.vm) {own C C0 : String} {index : Nat} {y y0 : MethodName} {bytes : ByteArray} {maxL : Nat} {ret : Option FieldType} {rm : Room} {Q : Option Value → Heap → List Loc → Prop} {a : Addr} {argsL rest : List Value} (W : Nat)
    (hown : s.vm.findClass own = some m.cls) (wl : (Jvm.Cond.methodLink own index y).before a0 Z = true) (w0 : (Jvm.Cond.selects C0 y0 y0).before a0 Z = true) (hc0 : y0.cls = y.cls) (wp : (Jvm.Cond.privateMethod y).before a0 Z = true) (wi : (Jvm.Cond.instanceMethod y).before a0 Z = true) (wz : (Jvm.Cond.initialized y.cls).before a0 Z = true) (wc : (Jvm.Cond.code y bytes maxL ret).before a0 Z = true) (hy : y.cls ≠ "java/lang/invoke/MethodHandle" ∧ y.cls ≠ "java/lang/invoke/VarHandle")
    (hM : MetFree l y (head1 [Jvm.Cond.code y bytes maxL ret] rm) (fun b U => b = (Value.ref a :: argsL).toArray ∧ Z.Warmed39 U.vm ∧ U.heap = h) (fun _ _ _ _ _ => True) (fun _ U o U' => ∃ v L, o = .returned v ∧ Q v U'.heap L ∧ FrameEnd U o U' L rm.cells rm.slots))
    (hf : rm.frames + 1 ≤ R.frames) (hl : W + (maxL + 11) + rm.locals ≤ R.locals) (eT : T.heap = h) (E : Exa Z h a C) {g : JFrame} (hg : g.method = m) (hsize : g.locals.size = c.maxLocals) {ps : List FieldType} {r : Option FieldType} (hpd : parseMethodDescriptor y.desc = some ⟨ps, r⟩) (hlen : argsL.length = ps.length)
    (hstack : g.stack = argsL.reverse ++ .ref a :: rest) (hW : 2 * g.monitorRoom + (rest.map fun v => v.category).sum ≤ W) (hdg : decode c.code g.pc = .ok (.invokevirtual index, 3)) (hc : cells + rm.cells ≤ R.cells) (hs : slots + rm.slots ≤ R.slots) :
    ∃ v T' L, Stand p l e R s m args below meth c T' (locs ++ L) (cells + rm.cells) (slots + rm.slots) ∧ Q v T'.heap L ∧ ∀ t, Steps p.tables e below (T'.setTop { g with pc := g.pc + 3, stack := v.toList ++ rest }) t → Steps p.tables e below (T.setTop g) t := by
  obtain ⟨cq, q1, q2⟩ := E.cell
  obtain ⟨v, _, ⟨T', L', k', n'⟩, -, X', ⟨L, hQ, l1, y1, z1⟩, st⟩ := X.privateBack hx (y := y) hown (mvT hZ wl) (mvT hZ wi) (own_selP hZ w0 hc0 wp wi hy) (Cond.privateMethod_at (mvP hZ wp (args := #[]))) (mvT hZ wc) hy (backOf (W := W) hM hZ wc wz hf hl) hg hsize (Steps.refl _) (a := a) (by rw [eT]; exact q1) q2 (lenOf hpd hlen) hstack hW hdg (fun _ _ => ⟨rfl, eT, hc, hs⟩)
  dsimp only [Pt.U, Pt.locs, Pt.cells, Pt.slots] at X' l1 y1 z1 st hQ
  subst l1 y1 z1
  exact ⟨v, T', L, X', hQ, fun t k => st.trans k⟩
theorem own_callF (X : Stand p l e R s m args below meth c T locs cells slots) (hx : p.tables.exec = Jvm.exec) (hZ : Z.Warmed39 s.vm) {own C : String} {index count : Nat} {xi y : MethodName} {bytes : ByteArray} {maxL : Nat} {ret : Option FieldType} {rm : Room} {Q : Option Value → Heap → List Loc → Prop} {a : Addr} {argsL rest : List Value} (W : Nat)
    (hown : s.vm.findClass own = some m.cls) (wl : (Jvm.Cond.methodLink own index xi).before a0 Z = true) (wd : (Jvm.Cond.declares xi).before a0 Z = true) (wf : (Jvm.Cond.interfaceMethod xi.cls xi.cls xi.name xi.desc).before args s = true) (wsel : (Jvm.Cond.selects C xi y).before a0 Z = true) (wi : (Jvm.Cond.instanceMethod y).before a0 Z = true) (wp : (Jvm.Cond.publicMethod y).before a0 Z = true) (wu : (Jvm.Cond.unhidden C xi.name xi.desc).before a0 Z = true) (wk : (Jvm.Cond.castable C xi.cls).before a0 Z = true) (wz : (Jvm.Cond.initialized y.cls).before a0 Z = true) (wc : (Jvm.Cond.code y bytes maxL ret).before a0 Z = true) (hy : xi.cls ≠ "java/lang/invoke/MethodHandle" ∧ xi.cls ≠ "java/lang/invoke/VarHandle")
    (hM : MetFree l y (head1 [Jvm.Cond.code y bytes maxL ret] rm) (fun b U => b = (Value.ref a :: argsL).toArray ∧ Z.Warmed39 U.vm ∧ U.heap = h) (fun _ _ _ _ _ => True) (fun _ U o U' => ∃ v L, o = .returned v ∧ Q v U'.heap L ∧ FrameEnd U o U' L rm.cells rm.slots))
    (hf : rm.frames + 1 ≤ R.frames) (hl : W + (maxL + 11) + rm.locals ≤ R.locals) (eT : T.heap = h) (E : Exa Z h a C) {g : JFrame} (hg : g.method = m) (hsize : g.locals.size = c.maxLocals) {ps : List FieldType} {r : Option FieldType} (hpd : parseMethodDescriptor xi.desc = some ⟨ps, r⟩) (hlen : argsL.length = ps.length)
    (hstack : g.stack = argsL.reverse ++ .ref a :: rest) (hW : 2 * g.monitorRoom + (rest.map fun v => v.category).sum ≤ W) (hdg : decode c.code g.pc = .ok (.invokeinterface index count, 5)) (hc : cells + rm.cells ≤ R.cells) (hs : slots + rm.slots ≤ R.slots) :
    ∃ v T' L, Stand p l e R s m args below meth c T' (locs ++ L) (cells + rm.cells) (slots + rm.slots) ∧ Q v T'.heap L ∧ ∀ t, Steps p.tables e below (T'.setTop { g with pc := g.pc + 5, stack := v.toList ++ rest }) t → Steps p.tables e below (T.setTop g) t := by
  obtain ⟨cq, kq, qa, qb, qc⟩ := isOf hZ eT E
  obtain ⟨v, _, ⟨T', L', k', n'⟩, -, X', ⟨L, hQ, l1, y1, z1⟩, st⟩ := X.interfaceBack hx (xi := xi) (y := y) hown (mvT hZ wl) (mvT hZ wd) wf (mvT hZ wsel) (mvT hZ wi) (mvT hZ wp) (mvT hZ wu) (mvT hZ wk) hy (backOf (W := W) hM hZ wc wz hf hl) qa qb qc hg hsize (Steps.refl _) (lenOf hpd hlen) hstack hW hdg (fun _ _ => ⟨rfl, eT, hc, hs⟩)
  dsimp only [Pt.U, Pt.locs, Pt.cells, Pt.slots] at X' l1 y1 z1 st hQ
  subst l1 y1 z1
  exact ⟨v, T', L, X', hQ, fun t k => st.trans k⟩
/-- a truth as Java's int -/
def own_b (P : Prop) [Decidable P] : Int32 := if P then 1 else 0
theorem own_b1 {P : Prop} [Decidable P] (h : P) : own_b P = 1 := if_pos h
theorem own_b0 {P : Prop} [Decidable P] (h : ¬ P) : own_b P = 0 := if_neg h
theorem own_b01 (P : Prop) [Decidable P] : own_b P = 0 ∨ own_b P = 1 := by
  by_cases h : P
  · exact Or.inr (own_b1 h)
  · exact Or.inl (own_b0 h)
theorem own_bn {P : Prop} [Decidable P] (h : P) : ¬ own_b P = 0 := by rw [own_b1 h]; decide
theorem own_narZ {z : Int32} (h : z = 0 ∨ z = 1) : narrow .boolean (.int z) = .int z := by rcases h with rfl | rfl <;> rfl
theorem own_fitZ {z : Int32} (h : z = 0 ∨ z = 1) : fits .boolean (.int z) = true := by rcases h with rfl | rfl <;> rfl
end OwnKit
def own_ushr (z : Int64) (q : Int32) : Int64 := ((z.toUInt64 >>> (q &&& 0x3f).toInt64.toUInt64).toInt64)
def own_out (z : Int64) : Int64 :=
  let a := (z ^^^ own_ushr z (30 : Int32)) * (-4658895280553007687 : Int64)
  let b := (a ^^^ own_ushr a (27 : Int32)) * (-7723592293110705685 : Int64)
  b ^^^ own_ushr b (31 : Int32)
def own_draw (sd k : Int64) : Int64 := own_ushr (own_out (sd + k * (-7046029254386353131 : Int64))) (33 : Int32)
theorem own_ushr_bv (z : Int64) (q : Int32) (k : Nat) (hk : q.toBitVec.toNat % 64 = k) : (own_ushr z q).toBitVec = z.toBitVec >>> k := by
  have h5 := (sm64 q k hk).2
  apply BitVec.eq_of_toNat_eq
  show (z.toBitVec >>> ((q &&& 0x3f).toInt64.toBitVec % 64)).toNat = _
  rw [BitVec.ushiftRight_eq', BitVec.toNat_ushiftRight, BitVec.toNat_ushiftRight, BitVec.toNat_umod, (sm64 q k hk).1, BitVec.toNat_ofNat]
  congr 1
  show k % 2 ^ 64 % 64 = k
  omega
theorem own_xs_inj (k : Nat) (hk : 22 ≤ k) (x y : BitVec 64) (h : x ^^^ (x >>> k) = y ^^^ (y >>> k)) : x = y := by
  have key : ∀ z : BitVec 64, z = (z ^^^ (z >>> k)) ^^^ ((z ^^^ (z >>> k)) >>> k) ^^^ ((z ^^^ (z >>> k)) >>> (2 * k)) := by
    intro z
    apply BitVec.eq_of_getLsbD_eq
    intro i hi
    simp only [BitVec.getLsbD_xor, BitVec.getLsbD_ushiftRight]
    rw [show k + (k + i) = 2 * k + i by omega, show k + (2 * k + i) = 3 * k + i by omega, BitVec.getLsbD_of_ge z (3 * k + i) (by omega)]
    cases z.getLsbD i <;> cases z.getLsbD (k + i) <;> cases z.getLsbD (2 * k + i) <;> rfl
  rw [key x, key y, h]
theorem own_xs (x y : Int64) (q : Int32) (k : Nat) (hk : q.toBitVec.toNat % 64 = k) (h22 : 22 ≤ k) (h : x ^^^ own_ushr x q = y ^^^ own_ushr y q) : x = y := by
  have h' := congrArg Int64.toBitVec h
  have e : ∀ z : Int64, (z ^^^ own_ushr z q).toBitVec = z.toBitVec ^^^ (z.toBitVec >>> k) := fun z => by
    rw [← own_ushr_bv z q k hk]; rfl
  rw [e, e] at h'
  exact Int64.toBitVec_inj.mp (own_xs_inj k h22 _ _ h')
theorem own_mulc (x y c d : Int64) (hc : c * d = 1) (h : x * c = y * c) : x = y := by
  have h' := congrArg (· * d) h
  simp only [Int64.mul_assoc, hc, Int64.mul_one] at h'
  exact h'
theorem own_out_inj (x y : Int64) (h : own_out x = own_out y) : x = y := by
  have h1 := own_xs _ _ (31 : Int32) 31 (by decide) (by decide) h
  have h2 := own_mulc _ _ (-7723592293110705685 : Int64) (3573116690164977347 : Int64) (by decide) h1
  have h3 := own_xs _ _ (27 : Int32) 27 (by decide) (by decide) h2
  have h4 := own_mulc _ _ (-4658895280553007687 : Int64) (-7575587736534282103 : Int64) (by decide) h3
  exact own_xs _ _ (30 : Int32) 30 (by decide) (by decide) h4
theorem own_key_inj (sd x y : Int64) (h : own_out (sd + x * (-7046029254386353131 : Int64)) = own_out (sd + y * (-7046029254386353131 : Int64))) : x = y := by
  have h1 := own_out_inj _ _ h
  have h2 : x * (-7046029254386353131 : Int64) = y * (-7046029254386353131 : Int64) := by
    have := congrArg (· - sd) h1
    simpa [Int64.add_comm sd, Int64.add_sub_cancel] using this
  exact own_mulc _ _ (-7046029254386353131 : Int64) (-1018231460777725123 : Int64) (by decide) h2
theorem own_pigeon : ∀ (m n : Nat) (f : Nat → Nat), (∀ i, i < n → f i < m) → (∀ i j, i < n → j < n → f i = f j → i = j) → n ≤ m := by
  intro m
  induction m with
  | zero =>
    intro n f h1 _
    rcases Nat.eq_zero_or_pos n with h | h
    · omega
    · exact absurd (h1 0 h) (by omega)
  | succ m ih =>
    intro n f h1 h2
    rcases n with _ | n
    · omega
    · have := ih n (fun i => if f i = m then f n else f i) (fun i hi => by
        have a := h1 i (by omega)
        have b := h1 n (by omega)
        have c := h2 i n (by omega) (by omega)
        show (if f i = m then f n else f i) < m
        split
        · rcases Nat.lt_or_ge (f n) m with q | q
          · exact q
          · have := c (by omega)
            omega
        · omega) (fun i j hi hj h => by
        have a := h2 i j (by omega) (by omega)
        have b := h2 i n (by omega) (by omega)
        have c := h2 j n (by omega) (by omega)
        have h' : (if f i = m then f n else f i) = (if f j = m then f n else f j) := h
        split at h' <;> split at h'
        · exact a (by omega)
        · have := c h'.symm
          omega
        · have := b h'
          omega
        · exact a h')
      omega
theorem own_first (P : Nat → Prop) : ∀ n, P n → ∃ k, k ≤ n ∧ P k ∧ ∀ j, j < k → ¬ P j := by
  intro n
  induction n using Nat.strongRecOn with
  | _ n ih =>
    intro hn
    by_cases h : ∃ j, j < n ∧ P j
    · obtain ⟨j, hj, pj⟩ := h
      obtain ⟨k, h1, h2⟩ := ih j hj pj
      exact ⟨k, by omega, h2⟩
    · exact ⟨n, Nat.le_refl _, hn, fun j hj pj => h ⟨j, hj, pj⟩⟩
theorem own_ofNat_inj {i j : Nat} (hi : i < 9223372036854775808) (hj : j < 9223372036854775808) (h : Int64.ofNat i = Int64.ofNat j) : i = j := by
  have := congrArg Int64.toInt h
  rw [Int64.toInt_ofNat_of_lt hi, Int64.toInt_ofNat_of_lt hj] at this
  omega
/-- a draw: the upper 31 bits of the output -/
theorem own_draw_nat (sd k : Int64) : (own_draw sd k).toInt = ((own_out (sd + k * (-7046029254386353131 : Int64))).toBitVec.toNat / 8589934592 : Nat) := by
  have h := c_lushr (own_out (sd + k * (-7046029254386353131 : Int64))) (33 : Int32) 33 (by decide) (by decide)
  show ((_ : Int64)).toInt = _
  unfold own_draw own_ushr
  rw [h]
  generalize own_out (sd + k * (-7046029254386353131 : Int64)) = z
  have : z.toInt % 18446744073709551616 = z.toBitVec.toNat := by
    show z.toBitVec.toInt % _ = _
    have := z.toBitVec.isLt
    rw [BitVec.toInt_eq_toNat_cond]; split <;> omega
  rw [this]
  exact (Int.natCast_ediv _ _).symm
theorem own_draw_rng (sd k : Int64) : 0 ≤ (own_draw sd k).toInt ∧ (own_draw sd k).toInt < 2147483648 := by
  have h := (own_out (sd + k * (-7046029254386353131 : Int64))).toBitVec.isLt
  rw [own_draw_nat]
  omega
/-- among the first 2^63 - 1 draws one lies below any limit above 2^30 -/
theorem own_some (sd lim : Int64) (hl : 1073741824 < lim.toInt) : ∃ k : Nat, (1 ≤ k ∧ own_draw sd (Int64.ofNat k) < lim) ∧ k < 9223372036854775808 ∧ ∀ j, j < k → ¬ (1 ≤ j ∧ own_draw sd (Int64.ofNat j) < lim) := by
  have : ∃ n, n < 9223372036854775808 ∧ (1 ≤ n ∧ own_draw sd (Int64.ofNat n) < lim) := by
    apply Classical.byContradiction
    intro hno
    have hrej : ∀ n, 1 ≤ n → n < 9223372036854775808 → 1073741825 * 8589934592 ≤ (own_out (sd + Int64.ofNat n * (-7046029254386353131 : Int64))).toBitVec.toNat := by
      intro n h1 h2
      have h3 : ¬ (own_draw sd (Int64.ofNat n) < lim) := fun q => hno ⟨n, h2, h1, q⟩
      rw [Int64.lt_iff_toInt_lt, own_draw_nat] at h3
      omega
    have := own_pigeon 9223372028264841216 9223372036854775807 (fun i => (own_out (sd + Int64.ofNat (i + 1) * (-7046029254386353131 : Int64))).toBitVec.toNat - 9223372045444710400) (fun i hi => by
      have h1 := hrej (i + 1) (by omega) (by omega)
      have h2 := (own_out (sd + Int64.ofNat (i + 1) * (-7046029254386353131 : Int64))).toBitVec.isLt
      show _ - _ < _
      omega) (fun i j hi hj h => by
      have h1 := hrej (i + 1) (by omega) (by omega)
      have h2 := hrej (j + 1) (by omega) (by omega)
      have h3 : (own_out (sd + Int64.ofNat (i + 1) * (-7046029254386353131 : Int64))).toBitVec.toNat = (own_out (sd + Int64.ofNat (j + 1) * (-7046029254386353131 : Int64))).toBitVec.toNat := by
        have h' : (own_out (sd + Int64.ofNat (i + 1) * (-7046029254386353131 : Int64))).toBitVec.toNat - 9223372045444710400 = (own_out (sd + Int64.ofNat (j + 1) * (-7046029254386353131 : Int64))).toBitVec.toNat - 9223372045444710400 := h
        omega
      have h4 := own_key_inj sd _ _ (Int64.toBitVec_inj.mp (BitVec.eq_of_toNat_eq h3))
      have := own_ofNat_inj (by omega) (by omega) h4
      omega)
    omega
  obtain ⟨n, h1, h2⟩ := this
  obtain ⟨k, h3, h4, h5⟩ := own_first (fun k => 1 ≤ k ∧ own_draw sd (Int64.ofNat k) < lim) n h2
  exact ⟨k, h4, by omega, h5⟩
def own_remJ (x y : Int64) : Int64 := x - (x / y) * y
def own_lim (bd : Int32) : Int64 := (2147483648 : Int64) - ((2147483648 : Int64) - ((2147483648 : Int64) / bd.toInt64) * bd.toInt64)
def own_fl (d : Int64) (bd : Int32) : Int64 := ((d / bd.toInt64) * bd.toInt64) + bd.toInt64
def own_pv (sd : Int64) (bd : Int32) (k : Nat) : Int32 := (own_remJ (own_draw sd (Int64.ofNat k)) bd.toInt64).toInt32
theorem own_bd (x : Int32) : 1 ≤ ((1 : Int32) + ((x &&& (2147483647 : Int32)) % (2147483647 : Int32))).toInt := by
  have h1 := c_mask x 2147483647 31 (by decide) (by decide)
  generalize x &&& (2147483647 : Int32) = y at *
  have h2 := (c_irem y 2147483647 2147483647 (by decide)).1 (by omega)
  have h3 := c_iadd 1 (y % 2147483647)
  have i1 : (1 : Int32).toInt = 1 := by decide
  have r1 := rng32 ((1 : Int32) + (y % 2147483647))
  omega
theorem own_lim_eq (bd : Int32) (h : 1 ≤ bd.toInt) : (own_lim bd).toInt = (2147483648 / bd.toInt) * bd.toInt := by
  have i1 : (2147483648 : Int64).toInt = 2147483648 := by decide
  have h1 := (c_lrem 2147483648 bd.toInt64 bd.toInt (c_i2l bd)).1 (by omega)
  rw [i1] at h1
  have h2 := c_lsub 2147483648 ((2147483648 : Int64) - ((2147483648 : Int64) / bd.toInt64) * bd.toInt64)
  have r := rng64 ((2147483648 : Int64) - ((2147483648 : Int64) - ((2147483648 : Int64) / bd.toInt64) * bd.toInt64))
  unfold own_lim
  have h3 := Int.emod_add_mul_ediv 2147483648 bd.toInt
  rw [Int.mul_comm bd.toInt] at h3
  have h4 := Int.emod_nonneg 2147483648 (show bd.toInt ≠ 0 by omega)
  have h5 := Int.emod_lt_of_pos 2147483648 (show 0 < bd.toInt by omega)
  have r5 := rng32 bd
  omega
theorem own_limR (bd : Int32) (h : 1 ≤ bd.toInt) : 1073741824 < (own_lim bd).toInt := by
  rw [own_lim_eq bd h]
  have r5 := rng32 bd
  have h3 := Int.emod_add_mul_ediv 2147483648 bd.toInt
  rw [Int.mul_comm bd.toInt] at h3
  have h5 := Int.emod_lt_of_pos 2147483648 (show 0 < bd.toInt by omega)
  rcases Int.lt_or_le 1073741824 bd.toInt with q | q
  · have h6 : 1 ≤ 2147483648 / bd.toInt := (Int.le_ediv_iff_mul_le (by omega)).mpr (by omega)
    have h7 := Int.mul_le_mul_of_nonneg_right h6 (show 0 ≤ bd.toInt by omega)
    omega
  · omega
theorem own_full (d : Int64) (bd : Int32) (h : 1 ≤ bd.toInt) (h0 : 0 ≤ d.toInt) (h1 : d.toInt < 2147483648) : ¬ ((2147483648 : Int64) < own_fl d bd) ↔ d < own_lim bd := by
  have i1 : (2147483648 : Int64).toInt = 2147483648 := by decide
  have e := c_i2l bd
  have r5 := rng32 bd
  have hq := (c_ldiv d bd.toInt64 bd.toInt e (fun q => by rw [q] at e; exact absurd e (by rw [show (-1 : Int64).toInt = -1 from by decide]; omega))).1 h0
  have hm := c_lmul (d / bd.toInt64) bd.toInt64
  rw [hq, e] at hm
  have a1 := Int.ediv_mul_le d.toInt (show bd.toInt ≠ 0 by omega)
  have a2 := Int.lt_ediv_add_one_mul_self d.toInt (show 0 < bd.toInt by omega)
  have a3 : 0 ≤ d.toInt / bd.toInt * bd.toInt := Int.mul_nonneg (Int.ediv_nonneg h0 (by omega)) (by omega)
  have rm := rng64 ((d / bd.toInt64) * bd.toInt64)
  have hm' : ((d / bd.toInt64) * bd.toInt64).toInt = d.toInt / bd.toInt * bd.toInt := by omega
  have ha := c_ladd ((d / bd.toInt64) * bd.toInt64) bd.toInt64
  rw [hm', e] at ha
  have ra := rng64 (((d / bd.toInt64) * bd.toInt64) + bd.toInt64)
  have hf : (own_fl d bd).toInt = d.toInt / bd.toInt * bd.toInt + bd.toInt := by unfold own_fl; omega
  rw [Int64.lt_iff_toInt_lt, Int64.lt_iff_toInt_lt, own_lim_eq bd h, hf, i1]
  have b1 := Int.ediv_mul_le 2147483648 (show bd.toInt ≠ 0 by omega)
  rw [Int.add_mul, Int.one_mul] at a2
  constructor
  · intro q
    have q2 : (d.toInt / bd.toInt + 1) * bd.toInt ≤ 2147483648 := by rw [Int.add_mul, Int.one_mul]; omega
    have q3 := (Int.le_ediv_iff_mul_le (show 0 < bd.toInt by omega)).mpr q2
    have q4 := Int.mul_le_mul_of_nonneg_right q3 (show 0 ≤ bd.toInt by omega)
    rw [Int.add_mul, Int.one_mul] at q4
    omega
  · intro q
    have q3 : d.toInt / bd.toInt < 2147483648 / bd.toInt := Int.lt_of_mul_lt_mul_right (show d.toInt / bd.toInt * bd.toInt < 2147483648 / bd.toInt * bd.toInt by omega) (show 0 ≤ bd.toInt by omega)
    have q4 := Int.mul_le_mul_of_nonneg_right (show d.toInt / bd.toInt + 1 ≤ 2147483648 / bd.toInt by omega) (show 0 ≤ bd.toInt by omega)
    rw [Int.add_mul, Int.one_mul] at q4
    omega
theorem own_not3 (k : Nat) (h : k < 9223372036854775808) (h3 : 3 ≤ k) : ¬ (Int64.ofNat k < (3 : Int64)) := by
  rw [Int64.lt_iff_toInt_lt, Int64.toInt_ofNat_of_lt h, show (3 : Int64).toInt = 3 from by decide]
  omega
theorem own_nzb {bd : Int32} (h : 1 ≤ bd.toInt) : ¬ (bd.toInt64 = (0 : Int64)) := fun q => by
  have e := c_i2l bd
  rw [q] at e
  exact absurd e (by rw [show (0 : Int64).toInt = 0 from by decide]; omega)
theorem own_pvR (sd : Int64) (bd : Int32) (k : Nat) (h : 1 ≤ bd.toInt) : ¬ (own_pv sd bd k < (0 : Int32)) ∧ own_pv sd bd k < bd := by
  have i0 : (0 : Int32).toInt = 0 := by decide
  have d0 := own_draw_rng sd (Int64.ofNat k)
  have h1 := (c_lrem (own_draw sd (Int64.ofNat k)) bd.toInt64 bd.toInt (c_i2l bd)).1 d0.1
  have h4 := Int.emod_nonneg (own_draw sd (Int64.ofNat k)).toInt (show bd.toInt ≠ 0 by omega)
  have h5 := Int.emod_lt_of_pos (own_draw sd (Int64.ofNat k)).toInt (show 0 < bd.toInt by omega)
  have r5 := rng32 bd
  have h6 := c_l2i (own_remJ (own_draw sd (Int64.ofNat k)) bd.toInt64)
  have r6 := rng32 (own_remJ (own_draw sd (Int64.ofNat k)) bd.toInt64).toInt32
  rw [Int32.lt_iff_toInt_lt, Int32.lt_iff_toInt_lt]
  unfold own_pv
  unfold own_remJ at h6 r6 ⊢
  omega
theorem own_pn0 : plainFor (⟨"java/lang/Record", "<init>", "()V"⟩ : MethodName) = true := plainFor_of_name (by first | (simp [plainName, overriddenIn]; done) | decide +kernel)
theorem dd_jdk_30m1_0 : decode jdk_30_method_1_code 0 = .ok (.aload_n 0, 1) := by decide +kernel
theorem dd_jdk_30m1_1 : decode jdk_30_method_1_code 1 = .ok (.invokespecial 1, 3) := by decide +kernel
theorem dd_jdk_30m1_4 : decode jdk_30_method_1_code 4 = .ok (.return_, 1) := by decide +kernel
theorem ef_own_rec (m : MethodId) (z0 : Addr) : entryFrame m #[(.ref z0)] 1 = mkF m 0 #[.val (.ref z0)] [] := by first | (simp [entryFrame, mkF, argsToLocals, Value.category]; done) | rfl
def Q_own_rec (Z : State) (a : Addr) (h0 : Heap) (n0 : Nat) (zv : Option Value) (zh : Heap) (zL : List Loc) : Prop := zv = none ∧ Fr n0 zL ∧ zh = h0
set_option maxRecDepth 65536 in
set_option maxHeartbeats 40000000 in
theorem own_rec (l : Launch) (Z : State) (a0 : Array Value) (hw : ∀ d ∈ tables_1, d.before a0 Z = true) (ws : List Jvm.Cond) (a : Addr) (h0 : Heap) (n0 : Nat) (Z0 : n0 ≤ h0.size)  :
    MetFree l (⟨"java/lang/Record", "<init>", "()V"⟩ : MethodName) (head1 (Jvm.Cond.code (⟨"java/lang/Record", "<init>", "()V"⟩ : MethodName) jdk_30_method_1_code 1 none :: ws) ({ frames := 1, cells := 0, slots := 0, locals := 12 } : Room)) (fun za zU => za = #[(.ref a)] ∧ Z.Warmed39 zU.vm ∧ zU.heap = h0) (fun _ _ _ _ _ => True) (fun _ zU zo zU' => ∃ zv zL, zo = .returned zv ∧ Q_own_rec Z a h0 n0 zv zU'.heap zL ∧ FrameEnd zU zo zU' zL ({ frames := 1, cells := 0, slots := 0, locals := 12 } : Room).cells ({ frames := 1, cells := 0, slots := 0, locals := 12 } : Room).slots) := by
  refine own_met (y := (⟨"java/lang/Record", "<init>", "()V"⟩ : MethodName)) own_pn0 ?_
  intro p e s m below meth c T0 hx hby hml hown hnm hret hlk hZ e0 X0
  have N0 := Fr.nil n0
  refine own_st (fun zt zk => castTop (ef_own_rec m a) zk) ?_
  show own_G p e below s _ _ _ (T0.setTop (mkF m 0 #[.val (.ref a)] []))
  refine own_st (fun zt zk => XS.aloadN X0.here hx rfl (hb hby dd_jdk_30m1_0) rfl rfl zk) ?_
  show own_G p e below s _ _ _ (T0.setTop (mkF m 1 #[.val (.ref a)] [(.ref a)]))
  obtain ⟨T1, X1, e1, st1⟩ := initO X0 hx hZ hown (hw _ (List.mem_of_getElem? (i := 18) rfl)) (hw _ (List.mem_of_getElem? (i := 19) rfl)) (hw _ (List.mem_of_getElem? (i := 20) rfl)) e0 (g := (mkF m 1 #[.val (.ref a)] [(.ref a)])) rfl (by rw [hml]; rfl) rfl (hb hby dd_jdk_30m1_1) (by decide) (W := 0) (by show 2 * 0 + _ ≤ _; exact Nat.le_of_eq rfl) (by decide)
  refine own_st st1 ?_
  show own_G p e below s _ _ _ (T1.setTop (mkF m 4 #[.val (.ref a)] []))
  refine own_retV X1 hx hlk hret (hb hby dd_jdk_30m1_4) (by decide) (by decide) ?_
  show Q_own_rec Z a h0 n0 none T1.heap _
  rw [e1]
  exact ⟨rfl, N0, rfl⟩
theorem own_pn1 : plainFor (⟨"com/example/veiled_crown/veiledcrown/engine/ChanceState", "<init>", "(JJ)V"⟩ : MethodName) = true := plainFor_of_name (by first | (simp [plainName, overriddenIn]; done) | decide +kernel)
theorem dd_prog_16m1_0 : decode prog_16_method_1_code 0 = .ok (.aload_n 0, 1) := by decide +kernel
theorem dd_prog_16m1_1 : decode prog_16_method_1_code 1 = .ok (.invokespecial 1, 3) := by decide +kernel
theorem own_pd0 : parseMethodDescriptor "()V" = some ⟨[], none⟩ := by decide +kernel
theorem dd_prog_16m1_4 : decode prog_16_method_1_code 4 = .ok (.aload_n 0, 1) := by decide +kernel
theorem dd_prog_16m1_5 : decode prog_16_method_1_code 5 = .ok (.lload_n 1, 1) := by decide +kernel
theorem dd_prog_16m1_6 : decode prog_16_method_1_code 6 = .ok (.putfield 7, 3) := by decide +kernel
theorem dd_prog_16m1_9 : decode prog_16_method_1_code 9 = .ok (.aload_n 0, 1) := by decide +kernel
theorem dd_prog_16m1_10 : decode prog_16_method_1_code 10 = .ok (.lload_n 3, 1) := by decide +kernel
theorem dd_prog_16m1_11 : decode prog_16_method_1_code 11 = .ok (.putfield 13, 3) := by decide +kernel
theorem dd_prog_16m1_14 : decode prog_16_method_1_code 14 = .ok (.return_, 1) := by decide +kernel
theorem ef_own_csi (m : MethodId) (z0 : Addr) (z1 : Int64) (z2 : Int64) : entryFrame m #[(.ref z0), (.long z1), (.long z2)] 5 = mkF m 0 #[.val (.ref z0), .val (.long z1), .second, .val (.long z2), .second] [] := by first | (simp [entryFrame, mkF, argsToLocals, Value.category]; done) | rfl
def Q_own_csi (Z : State) (a : Addr) (sd : Int64) (dr : Int64) (h0 : Heap) (n0 : Nat) (zv : Option Value) (zh : Heap) (zL : List Loc) : Prop := zv = none ∧ Fr n0 zL ∧ Keep h0 zh [a] ∧ Fld Z zh a "com/example/veiled_crown/veiledcrown/engine/ChanceState" "seed" "J" (.long sd) ∧ Fld Z zh a "com/example/veiled_crown/veiledcrown/engine/ChanceState" "draws" "J" (.long dr)
set_option maxRecDepth 65536 in
set_option maxHeartbeats 40000000 in
theorem own_csi (l : Launch) (Z : State) (a0 : Array Value) (hw : ∀ d ∈ tables_1, d.before a0 Z = true) (ws : List Jvm.Cond) (a : Addr) (sd : Int64) (dr : Int64) (h0 : Heap) (n0 : Nat) (Z0 : n0 ≤ h0.size) (p0_ : Exa Z h0 a "com/example/veiled_crown/veiledcrown/engine/ChanceState") (p1_ : Fld Z h0 a "com/example/veiled_crown/veiledcrown/engine/ChanceState" "seed" "J" (.long (0 : Int64))) (p2_ : Fld Z h0 a "com/example/veiled_crown/veiledcrown/engine/ChanceState" "draws" "J" (.long (0 : Int64))) (p3_ : n0 ≤ a) :
    MetFree l (⟨"com/example/veiled_crown/veiledcrown/engine/ChanceState", "<init>", "(JJ)V"⟩ : MethodName) (head1 (Jvm.Cond.code (⟨"com/example/veiled_crown/veiledcrown/engine/ChanceState", "<init>", "(JJ)V"⟩ : MethodName) prog_16_method_1_code 5 none :: ws) ({ frames := 2, cells := 0, slots := 0, locals := 24 } : Room)) (fun za zU => za = #[(.ref a), (.long sd), (.long dr)] ∧ Z.Warmed39 zU.vm ∧ zU.heap = h0) (fun _ _ _ _ _ => True) (fun _ zU zo zU' => ∃ zv zL, zo = .returned zv ∧ Q_own_csi Z a sd dr h0 n0 zv zU'.heap zL ∧ FrameEnd zU zo zU' zL ({ frames := 2, cells := 0, slots := 0, locals := 24 } : Room).cells ({ frames := 2, cells := 0, slots := 0, locals := 24 } : Room).slots) := by
  refine own_met (y := (⟨"com/example/veiled_crown/veiledcrown/engine/ChanceState", "<init>", "(JJ)V"⟩ : MethodName)) own_pn1 ?_
  intro p e s m below meth c T0 hx hby hml hown hnm hret hlk hZ e0 X0
  have N0 := Fr.nil n0
  refine own_st (fun zt zk => castTop (ef_own_csi m a sd dr) zk) ?_
  show own_G p e below s _ _ _ (T0.setTop (mkF m 0 #[.val (.ref a), .val (.long sd), .second, .val (.long dr), .second] []))
  refine own_st (fun zt zk => XS.aloadN X0.here hx rfl (hb hby dd_prog_16m1_0) rfl rfl zk) ?_
  show own_G p e below s _ _ _ (T0.setTop (mkF m 1 #[.val (.ref a), .val (.long sd), .second, .val (.long dr), .second] [(.ref a)]))
  obtain ⟨_, T1, L1, X1, hQ1, st1⟩ := own_callI X0 hx hZ (y := (⟨"java/lang/Record", "<init>", "()V"⟩ : MethodName)) (a := a) (argsL := []) (rest := []) 0 rfl hown (hw _ (List.mem_of_getElem? (i := 13) rfl)) (hw _ (List.mem_of_getElem? (i := 14) rfl)) (hw _ (List.mem_of_getElem? (i := 16) rfl)) (hw _ (List.mem_of_getElem? (i := 17) rfl)) (by decide) (own_rec l Z a0 hw [] a h0 n0 Z0 ) (by decide) (by decide) e0 (g := (mkF m 1 #[.val (.ref a), .val (.long sd), .second, .val (.long dr), .second] [(.ref a)])) rfl (by rw [hml]; rfl) own_pd0 rfl rfl (by show 2 * 0 + _ ≤ _; exact Nat.le_of_eq rfl) (hb hby dd_prog_16m1_1) (by decide) (by decide)
  obtain ⟨rfl, N1q, e1⟩ := hQ1
  have N1 := Fr.app N0 N1q
  refine own_st st1 ?_
  show own_G p e below s _ _ _ (T1.setTop (mkF m 4 #[.val (.ref a), .val (.long sd), .second, .val (.long dr), .second] []))
  refine own_st (fun zt zk => XS.aloadN X1.here hx rfl (hb hby dd_prog_16m1_4) rfl rfl zk) ?_
  show own_G p e below s _ _ _ (T1.setTop (mkF m 5 #[.val (.ref a), .val (.long sd), .second, .val (.long dr), .second] [(.ref a)]))
  refine own_st (fun zt zk => XS.lloadN X1.here hx rfl (hb hby dd_prog_16m1_5) rfl zk) ?_
  show own_G p e below s _ _ _ (T1.setTop (mkF m 6 #[.val (.ref a), .val (.long sd), .second, .val (.long dr), .second] [(.long sd), (.ref a)]))
  obtain ⟨T2, h2, X2, e2, W2, st2⟩ := putF X1 hx hZ hown (host := "") (Or.inl (hw _ (List.mem_of_getElem? (i := 21) rfl))) Via.refl e1 p1_ p0_ (Or.inr ⟨(hw _ (List.mem_of_getElem? (i := 22) rfl)), rfl, hnm⟩) (hw _ (List.mem_of_getElem? (i := 8) rfl)) (ty := .long) (by decide) rfl rfl (g := (mkF m 6 #[.val (.ref a), .val (.long sd), .second, .val (.long dr), .second] [(.long sd), (.ref a)])) rfl rfl (hb hby dd_prog_16m1_6)
  refine own_st st2 ?_
  have N2 := Fr.snoc X2 N1 p3_
  show own_G p e below s _ _ _ (T2.setTop (mkF m 9 #[.val (.ref a), .val (.long sd), .second, .val (.long dr), .second] []))
  refine own_st (fun zt zk => XS.aloadN X2.here hx rfl (hb hby dd_prog_16m1_9) rfl rfl zk) ?_
  show own_G p e below s _ _ _ (T2.setTop (mkF m 10 #[.val (.ref a), .val (.long sd), .second, .val (.long dr), .second] [(.ref a)]))
  refine own_st (fun zt zk => XS.lloadN X2.here hx rfl (hb hby dd_prog_16m1_10) rfl zk) ?_
  show own_G p e below s _ _ _ (T2.setTop (mkF m 11 #[.val (.ref a), .val (.long sd), .second, .val (.long dr), .second] [(.long dr), (.ref a)]))
  have F3 : Fld Z h2 a "com/example/veiled_crown/veiledcrown/engine/ChanceState" "draws" "J" (.long (0 : Int64)) := (Fld.other W2 p2_ (Or.inr (slot_ne (Or.inr (hw _ (List.mem_of_getElem? (i := 24) rfl))) (Or.inr (hw _ (List.mem_of_getElem? (i := 22) rfl))) (by decide) (t := .long) (t' := .long) (by decide) (by decide))))
  have E4 : Exa Z h2 a "com/example/veiled_crown/veiledcrown/engine/ChanceState" := (p0_.wr W2)
  obtain ⟨T5, h5, X5, e5, W5, st5⟩ := putF X2 hx hZ hown (host := "") (Or.inl (hw _ (List.mem_of_getElem? (i := 23) rfl))) Via.refl e2 F3 E4 (Or.inr ⟨(hw _ (List.mem_of_getElem? (i := 24) rfl)), rfl, hnm⟩) (hw _ (List.mem_of_getElem? (i := 8) rfl)) (ty := .long) (by decide) rfl rfl (g := (mkF m 11 #[.val (.ref a), .val (.long sd), .second, .val (.long dr), .second] [(.long dr), (.ref a)])) rfl rfl (hb hby dd_prog_16m1_11)
  refine own_st st5 ?_
  have N5 := Fr.snoc X5 N2 p3_
  show own_G p e below s _ _ _ (T5.setTop (mkF m 14 #[.val (.ref a), .val (.long sd), .second, .val (.long dr), .second] []))
  have F6 : Fld Z h5 a "com/example/veiled_crown/veiledcrown/engine/ChanceState" "seed" "J" (.long sd) := (Fld.other W5 (Fld.same W2 p1_) (Or.inr (slot_ne (Or.inr (hw _ (List.mem_of_getElem? (i := 22) rfl))) (Or.inr (hw _ (List.mem_of_getElem? (i := 24) rfl))) (by decide) (t := .long) (t' := .long) (by decide) (by decide))))
  have F7 : Fld Z h5 a "com/example/veiled_crown/veiledcrown/engine/ChanceState" "draws" "J" (.long dr) := (Fld.same W5 F3)
  refine own_retV X5 hx hlk hret (hb hby dd_prog_16m1_14) (by decide) (by decide) ?_
  show Q_own_csi Z a sd dr h0 n0 none T5.heap _
  rw [e5]
  exact ⟨rfl, N5, (((Keep.refl _ _).wr W2 (Or.inl (List.mem_of_getElem? (i := 0) rfl))).wr W5 (Or.inl (List.mem_of_getElem? (i := 0) rfl))), F6, F7⟩
theorem own_pn2 : plainFor (⟨"com/example/veiled_crown/veiledcrown/engine/ChanceState", "seed", "()J"⟩ : MethodName) = true := plainFor_of_name (by first | (simp [plainName, overriddenIn]; done) | decide +kernel)
theorem dd_prog_16m5_0 : decode prog_16_method_5_code 0 = .ok (.aload_n 0, 1) := by decide +kernel
theorem dd_prog_16m5_1 : decode prog_16_method_5_code 1 = .ok (.getfield 7, 3) := by decide +kernel
theorem dd_prog_16m5_4 : decode prog_16_method_5_code 4 = .ok (.lreturn, 1) := by decide +kernel
theorem ef_own_gs (m : MethodId) (z0 : Addr) : entryFrame m #[(.ref z0)] 1 = mkF m 0 #[.val (.ref z0)] [] := by first | (simp [entryFrame, mkF, argsToLocals, Value.category]; done) | rfl
def Q_own_gs (Z : State) (a : Addr) (v1 : Int64) (h0 : Heap) (n0 : Nat) (zv : Option Value) (zh : Heap) (zL : List Loc) : Prop := zv = some (.long v1) ∧ Fr n0 zL ∧ zh = h0
set_option maxRecDepth 65536 in
set_option maxHeartbeats 40000000 in
theorem own_gs (l : Launch) (Z : State) (a0 : Array Value) (hw : ∀ d ∈ tables_1, d.before a0 Z = true) (ws : List Jvm.Cond) (a : Addr) (v1 : Int64) (h0 : Heap) (n0 : Nat) (Z0 : n0 ≤ h0.size) (p0_ : Fld Z h0 a "com/example/veiled_crown/veiledcrown/engine/ChanceState" "seed" "J" (.long v1)) :
    MetFree l (⟨"com/example/veiled_crown/veiledcrown/engine/ChanceState", "seed", "()J"⟩ : MethodName) (head1 (Jvm.Cond.code (⟨"com/example/veiled_crown/veiledcrown/engine/ChanceState", "seed", "()J"⟩ : MethodName) prog_16_method_5_code 1 (some .long) :: ws) ({ frames := 0, cells := 0, slots := 0, locals := 0 } : Room)) (fun za zU => za = #[(.ref a)] ∧ Z.Warmed39 zU.vm ∧ zU.heap = h0) (fun _ _ _ _ _ => True) (fun _ zU zo zU' => ∃ zv zL, zo = .returned zv ∧ Q_own_gs Z a v1 h0 n0 zv zU'.heap zL ∧ FrameEnd zU zo zU' zL ({ frames := 0, cells := 0, slots := 0, locals := 0 } : Room).cells ({ frames := 0, cells := 0, slots := 0, locals := 0 } : Room).slots) := by
  refine own_met (y := (⟨"com/example/veiled_crown/veiledcrown/engine/ChanceState", "seed", "()J"⟩ : MethodName)) own_pn2 ?_
  intro p e s m below meth c T0 hx hby hml hown hnm hret hlk hZ e0 X0
  have N0 := Fr.nil n0
  refine own_st (fun zt zk => castTop (ef_own_gs m a) zk) ?_
  show own_G p e below s _ _ _ (T0.setTop (mkF m 0 #[.val (.ref a)] []))
  refine own_st (fun zt zk => XS.aloadN X0.here hx rfl (hb hby dd_prog_16m5_0) rfl rfl zk) ?_
  show own_G p e below s _ _ _ (T0.setTop (mkF m 1 #[.val (.ref a)] [(.ref a)]))
  obtain ⟨T1, X1, e1, st1⟩ := getF X0 hx hZ hown (host := "") (Or.inl (hw _ (List.mem_of_getElem? (i := 21) rfl))) Via.refl e0 p0_ (g := (mkF m 1 #[.val (.ref a)] [(.ref a)])) rfl rfl (hb hby dd_prog_16m5_1)
  refine own_st st1 ?_
  show own_G p e below s _ _ _ (T1.setTop (mkF m 4 #[.val (.ref a)] [(.long v1)]))
  refine own_retJ X1 hx hlk hret (hb hby dd_prog_16m5_4) (by decide) (by decide) ?_
  show Q_own_gs Z a v1 h0 n0 (some (.long v1)) T1.heap _
  rw [e1]
  exact ⟨rfl, N0, rfl⟩
theorem own_pn3 : plainFor (⟨"com/example/veiled_crown/veiledcrown/engine/ChanceState", "draws", "()J"⟩ : MethodName) = true := plainFor_of_name (by first | (simp [plainName, overriddenIn]; done) | decide +kernel)
theorem dd_prog_16m6_0 : decode prog_16_method_6_code 0 = .ok (.aload_n 0, 1) := by decide +kernel
theorem dd_prog_16m6_1 : decode prog_16_method_6_code 1 = .ok (.getfield 13, 3) := by decide +kernel
theorem dd_prog_16m6_4 : decode prog_16_method_6_code 4 = .ok (.lreturn, 1) := by decide +kernel
theorem ef_own_gd (m : MethodId) (z0 : Addr) : entryFrame m #[(.ref z0)] 1 = mkF m 0 #[.val (.ref z0)] [] := by first | (simp [entryFrame, mkF, argsToLocals, Value.category]; done) | rfl
def Q_own_gd (Z : State) (a : Addr) (v1 : Int64) (h0 : Heap) (n0 : Nat) (zv : Option Value) (zh : Heap) (zL : List Loc) : Prop := zv = some (.long v1) ∧ Fr n0 zL ∧ zh = h0
set_option maxRecDepth 65536 in
set_option maxHeartbeats 40000000 in
theorem own_gd (l : Launch) (Z : State) (a0 : Array Value) (hw : ∀ d ∈ tables_1, d.before a0 Z = true) (ws : List Jvm.Cond) (a : Addr) (v1 : Int64) (h0 : Heap) (n0 : Nat) (Z0 : n0 ≤ h0.size) (p0_ : Fld Z h0 a "com/example/veiled_crown/veiledcrown/engine/ChanceState" "draws" "J" (.long v1)) :
    MetFree l (⟨"com/example/veiled_crown/veiledcrown/engine/ChanceState", "draws", "()J"⟩ : MethodName) (head1 (Jvm.Cond.code (⟨"com/example/veiled_crown/veiledcrown/engine/ChanceState", "draws", "()J"⟩ : MethodName) prog_16_method_6_code 1 (some .long) :: ws) ({ frames := 0, cells := 0, slots := 0, locals := 0 } : Room)) (fun za zU => za = #[(.ref a)] ∧ Z.Warmed39 zU.vm ∧ zU.heap = h0) (fun _ _ _ _ _ => True) (fun _ zU zo zU' => ∃ zv zL, zo = .returned zv ∧ Q_own_gd Z a v1 h0 n0 zv zU'.heap zL ∧ FrameEnd zU zo zU' zL ({ frames := 0, cells := 0, slots := 0, locals := 0 } : Room).cells ({ frames := 0, cells := 0, slots := 0, locals := 0 } : Room).slots) := by
  refine own_met (y := (⟨"com/example/veiled_crown/veiledcrown/engine/ChanceState", "draws", "()J"⟩ : MethodName)) own_pn3 ?_
  intro p e s m below meth c T0 hx hby hml hown hnm hret hlk hZ e0 X0
  have N0 := Fr.nil n0
  refine own_st (fun zt zk => castTop (ef_own_gd m a) zk) ?_
  show own_G p e below s _ _ _ (T0.setTop (mkF m 0 #[.val (.ref a)] []))
  refine own_st (fun zt zk => XS.aloadN X0.here hx rfl (hb hby dd_prog_16m6_0) rfl rfl zk) ?_
  show own_G p e below s _ _ _ (T0.setTop (mkF m 1 #[.val (.ref a)] [(.ref a)]))
  obtain ⟨T1, X1, e1, st1⟩ := getF X0 hx hZ hown (host := "") (Or.inl (hw _ (List.mem_of_getElem? (i := 23) rfl))) Via.refl e0 p0_ (g := (mkF m 1 #[.val (.ref a)] [(.ref a)])) rfl rfl (hb hby dd_prog_16m6_1)
  refine own_st st1 ?_
  show own_G p e below s _ _ _ (T1.setTop (mkF m 4 #[.val (.ref a)] [(.long v1)]))
  refine own_retJ X1 hx hlk hret (hb hby dd_prog_16m6_4) (by decide) (by decide) ?_
  show Q_own_gd Z a v1 h0 n0 (some (.long v1)) T1.heap _
  rw [e1]
  exact ⟨rfl, N0, rfl⟩
theorem own_pn4 : plainFor (⟨"com/example/veiled_crown/veiledcrown/engine/Chance", "<init>", "(Lcom/example/veiled_crown/veiledcrown/engine/ChanceState;)V"⟩ : MethodName) = true := plainFor_of_name (by first | (simp [plainName, overriddenIn]; done) | decide +kernel)
theorem dd_prog_14m2_0 : decode prog_14_method_2_code 0 = .ok (.aload_n 0, 1) := by decide +kernel
theorem dd_prog_14m2_1 : decode prog_14_method_2_code 1 = .ok (.invokespecial 12, 3) := by decide +kernel
theorem dd_prog_14m2_4 : decode prog_14_method_2_code 4 = .ok (.aload_n 0, 1) := by decide +kernel
theorem dd_prog_14m2_5 : decode prog_14_method_2_code 5 = .ok (.aload_n 1, 1) := by decide +kernel
theorem dd_prog_14m2_6 : decode prog_14_method_2_code 6 = .ok (.invokevirtual 17, 3) := by decide +kernel
theorem own_pd1 : parseMethodDescriptor "()J" = some ⟨[], some .long⟩ := by decide +kernel
theorem dd_prog_14m2_9 : decode prog_14_method_2_code 9 = .ok (.putfield 21, 3) := by decide +kernel
theorem dd_prog_14m2_12 : decode prog_14_method_2_code 12 = .ok (.aload_n 0, 1) := by decide +kernel
theorem dd_prog_14m2_13 : decode prog_14_method_2_code 13 = .ok (.aload_n 1, 1) := by decide +kernel
theorem dd_prog_14m2_14 : decode prog_14_method_2_code 14 = .ok (.invokevirtual 24, 3) := by decide +kernel
theorem dd_prog_14m2_17 : decode prog_14_method_2_code 17 = .ok (.putfield 27, 3) := by decide +kernel
theorem dd_prog_14m2_20 : decode prog_14_method_2_code 20 = .ok (.return_, 1) := by decide +kernel
theorem ef_own_chs (m : MethodId) (z0 : Addr) (z1 : Addr) : entryFrame m #[(.ref z0), (.ref z1)] 2 = mkF m 0 #[.val (.ref z0), .val (.ref z1)] [] := by first | (simp [entryFrame, mkF, argsToLocals, Value.category]; done) | rfl
def Q_own_chs (Z : State) (a : Addr) (b : Addr) (sd : Int64) (dr : Int64) (h0 : Heap) (n0 : Nat) (zv : Option Value) (zh : Heap) (zL : List Loc) : Prop := zv = none ∧ Fr n0 zL ∧ Keep h0 zh [a] ∧ Fld Z zh a "com/example/veiled_crown/veiledcrown/engine/Chance" "seed" "J" (.long sd) ∧ Fld Z zh a "com/example/veiled_crown/veiledcrown/engine/Chance" "draws" "J" (.long dr)
set_option maxRecDepth 65536 in
set_option maxHeartbeats 40000000 in
theorem own_chs (l : Launch) (Z : State) (a0 : Array Value) (hw : ∀ d ∈ tables_1, d.before a0 Z = true) (ws : List Jvm.Cond) (a : Addr) (b : Addr) (sd : Int64) (dr : Int64) (h0 : Heap) (n0 : Nat) (Z0 : n0 ≤ h0.size) (p0_ : Exa Z h0 a "com/example/veiled_crown/veiledcrown/engine/Chance") (p1_ : Exa Z h0 b "com/example/veiled_crown/veiledcrown/engine/ChanceState") (p2_ : Fld Z h0 a "com/example/veiled_crown/veiledcrown/engine/Chance" "seed" "J" (.long (0 : Int64))) (p3_ : Fld Z h0 a "com/example/veiled_crown/veiledcrown/engine/Chance" "draws" "J" (.long (0 : Int64))) (p4_ : Fld Z h0 b "com/example/veiled_crown/veiledcrown/engine/ChanceState" "seed" "J" (.long sd)) (p5_ : Fld Z h0 b "com/example/veiled_crown/veiledcrown/engine/ChanceState" "draws" "J" (.long dr)) (p6_ : n0 ≤ a) (p7_ : a ≠ b) :
    MetFree l (⟨"com/example/veiled_crown/veiledcrown/engine/Chance", "<init>", "(Lcom/example/veiled_crown/veiledcrown/engine/ChanceState;)V"⟩ : MethodName) (head1 (Jvm.Cond.code (⟨"com/example/veiled_crown/veiledcrown/engine/Chance", "<init>", "(Lcom/example/veiled_crown/veiledcrown/engine/ChanceState;)V"⟩ : MethodName) prog_14_method_2_code 2 none :: ws) ({ frames := 1, cells := 0, slots := 0, locals := 13 } : Room)) (fun za zU => za = #[(.ref a), (.ref b)] ∧ Z.Warmed39 zU.vm ∧ zU.heap = h0) (fun _ _ _ _ _ => True) (fun _ zU zo zU' => ∃ zv zL, zo = .returned zv ∧ Q_own_chs Z a b sd dr h0 n0 zv zU'.heap zL ∧ FrameEnd zU zo zU' zL ({ frames := 1, cells := 0, slots := 0, locals := 13 } : Room).cells ({ frames := 1, cells := 0, slots := 0, locals := 13 } : Room).slots) := by
  refine own_met (y := (⟨"com/example/veiled_crown/veiledcrown/engine/Chance", "<init>", "(Lcom/example/veiled_crown/veiledcrown/engine/ChanceState;)V"⟩ : MethodName)) own_pn4 ?_
  intro p e s m below meth c T0 hx hby hml hown hnm hret hlk hZ e0 X0
  have N0 := Fr.nil n0
  refine own_st (fun zt zk => castTop (ef_own_chs m a b) zk) ?_
  show own_G p e below s _ _ _ (T0.setTop (mkF m 0 #[.val (.ref a), .val (.ref b)] []))
  refine own_st (fun zt zk => XS.aloadN X0.here hx rfl (hb hby dd_prog_14m2_0) rfl rfl zk) ?_
  show own_G p e below s _ _ _ (T0.setTop (mkF m 1 #[.val (.ref a), .val (.ref b)] [(.ref a)]))
  obtain ⟨T1, X1, e1, st1⟩ := initO X0 hx hZ hown (hw _ (List.mem_of_getElem? (i := 28) rfl)) (hw _ (List.mem_of_getElem? (i := 19) rfl)) (hw _ (List.mem_of_getElem? (i := 20) rfl)) e0 (g := (mkF m 1 #[.val (.ref a), .val (.ref b)] [(.ref a)])) rfl (by rw [hml]; rfl) rfl (hb hby dd_prog_14m2_1) (by decide) (W := 0) (by show 2 * 0 + _ ≤ _; exact Nat.le_of_eq rfl) (by decide)
  refine own_st st1 ?_
  show own_G p e below s _ _ _ (T1.setTop (mkF m 4 #[.val (.ref a), .val (.ref b)] []))
  refine own_st (fun zt zk => XS.aloadN X1.here hx rfl (hb hby dd_prog_14m2_4) rfl rfl zk) ?_
  show own_G p e below s _ _ _ (T1.setTop (mkF m 5 #[.val (.ref a), .val (.ref b)] [(.ref a)]))
  refine own_st (fun zt zk => XS.aloadN X1.here hx rfl (hb hby dd_prog_14m2_5) rfl rfl zk) ?_
  show own_G p e below s _ _ _ (T1.setTop (mkF m 6 #[.val (.ref a), .val (.ref b)] [(.ref b), (.ref a)]))
  obtain ⟨_, T2, L2, X2, hQ2, st2⟩ := own_callV X1 hx hZ (C := "com/example/veiled_crown/veiledcrown/engine/ChanceState") (y := (⟨"com/example/veiled_crown/veiledcrown/engine/ChanceState", "seed", "()J"⟩ : MethodName)) (z := (⟨"com/example/veiled_crown/veiledcrown/engine/ChanceState", "seed", "()J"⟩ : MethodName)) (a := b) (argsL := []) (rest := [(.ref a)]) 1 hown (hw _ (List.mem_of_getElem? (i := 29) rfl)) (hw _ (List.mem_of_getElem? (i := 30) rfl)) (own_nf hZ (hw _ (List.mem_of_getElem? (i := 32) rfl))) (hw _ (List.mem_of_getElem? (i := 32) rfl)) (hw _ (List.mem_of_getElem? (i := 31) rfl)) (hw _ (List.mem_of_getElem? (i := 9) rfl)) (hw _ (List.mem_of_getElem? (i := 33) rfl)) (by decide) (own_gs l Z a0 hw [] b sd h0 n0 Z0 p4_) (by decide) (by decide) e1 p1_ (g := (mkF m 6 #[.val (.ref a), .val (.ref b)] [(.ref b), (.ref a)])) rfl (by rw [hml]; rfl) own_pd1 rfl rfl (by show 2 * 0 + _ ≤ _; exact Nat.le_of_eq rfl) (hb hby dd_prog_14m2_6) (by decide) (by decide)
  obtain ⟨rfl, N2q, e2⟩ := hQ2
  have N2 := Fr.app N0 N2q
  refine own_st st2 ?_
  show own_G p e below s _ _ _ (T2.setTop (mkF m 9 #[.val (.ref a), .val (.ref b)] [(.long sd), (.ref a)]))
  obtain ⟨T3, h3, X3, e3, W3, st3⟩ := putF X2 hx hZ hown (host := "") (Or.inl (hw _ (List.mem_of_getElem? (i := 34) rfl))) Via.refl e2 p2_ p0_ (Or.inr ⟨(hw _ (List.mem_of_getElem? (i := 35) rfl)), rfl, hnm⟩) (hw _ (List.mem_of_getElem? (i := 2) rfl)) (ty := .long) (by decide) rfl rfl (g := (mkF m 9 #[.val (.ref a), .val (.ref b)] [(.long sd), (.ref a)])) rfl rfl (hb hby dd_prog_14m2_9)
  refine own_st st3 ?_
  have N3 := Fr.snoc X3 N2 p6_
  show own_G p e below s _ _ _ (T3.setTop (mkF m 12 #[.val (.ref a), .val (.ref b)] []))
  refine own_st (fun zt zk => XS.aloadN X3.here hx rfl (hb hby dd_prog_14m2_12) rfl rfl zk) ?_
  show own_G p e below s _ _ _ (T3.setTop (mkF m 13 #[.val (.ref a), .val (.ref b)] [(.ref a)]))
  refine own_st (fun zt zk => XS.aloadN X3.here hx rfl (hb hby dd_prog_14m2_13) rfl rfl zk) ?_
  show own_G p e below s _ _ _ (T3.setTop (mkF m 14 #[.val (.ref a), .val (.ref b)] [(.ref b), (.ref a)]))
  have F5 : Fld Z h3 b "com/example/veiled_crown/veiledcrown/engine/ChanceState" "draws" "J" (.long dr) := (Fld.other W3 p5_ (Or.inl (Ne.symm p7_)))
  have E6 : Exa Z h3 b "com/example/veiled_crown/veiledcrown/engine/ChanceState" := (p1_.wr W3)
  obtain ⟨_, T4, L4, X4, hQ4, st4⟩ := own_callV X3 hx hZ (C := "com/example/veiled_crown/veiledcrown/engine/ChanceState") (y := (⟨"com/example/veiled_crown/veiledcrown/engine/ChanceState", "draws", "()J"⟩ : MethodName)) (z := (⟨"com/example/veiled_crown/veiledcrown/engine/ChanceState", "draws", "()J"⟩ : MethodName)) (a := b) (argsL := []) (rest := [(.ref a)]) 1 hown (hw _ (List.mem_of_getElem? (i := 36) rfl)) (hw _ (List.mem_of_getElem? (i := 37) rfl)) (own_nf hZ (hw _ (List.mem_of_getElem? (i := 39) rfl))) (hw _ (List.mem_of_getElem? (i := 39) rfl)) (hw _ (List.mem_of_getElem? (i := 38) rfl)) (hw _ (List.mem_of_getElem? (i := 9) rfl)) (hw _ (List.mem_of_getElem? (i := 40) rfl)) (by decide) (own_gd l Z a0 hw [] b dr h3 n0 (Nat.le_trans Z0 (Nat.le_of_eq W3.size.symm)) F5) (by decide) (by decide) e3 E6 (g := (mkF m 14 #[.val (.ref a), .val (.ref b)] [(.ref b), (.ref a)])) rfl (by rw [hml]; rfl) own_pd1 rfl rfl (by show 2 * 0 + _ ≤ _; exact Nat.le_of_eq rfl) (hb hby dd_prog_14m2_14) (by decide) (by decide)
  obtain ⟨rfl, N4q, e4⟩ := hQ4
  have N4 := Fr.app N3 N4q
  refine own_st st4 ?_
  show own_G p e below s _ _ _ (T4.setTop (mkF m 17 #[.val (.ref a), .val (.ref b)] [(.long dr), (.ref a)]))
  have F7 : Fld Z h3 a "com/example/veiled_crown/veiledcrown/engine/Chance" "draws" "J" (.long (0 : Int64)) := (Fld.other W3 p3_ (Or.inr (slot_ne (Or.inl (hw _ (List.mem_of_getElem? (i := 42) rfl))) (Or.inr (hw _ (List.mem_of_getElem? (i := 35) rfl))) (by decide) (t := .long) (t' := .long) (by decide) (by decide))))
  have E8 : Exa Z h3 a "com/example/veiled_crown/veiledcrown/engine/Chance" := (p0_.wr W3)
  obtain ⟨T9, h9, X9, e9, W9, st9⟩ := putF X4 hx hZ hown (host := "") (Or.inl (hw _ (List.mem_of_getElem? (i := 41) rfl))) Via.refl e4 F7 E8 (Or.inl (hw _ (List.mem_of_getElem? (i := 42) rfl))) (hw _ (List.mem_of_getElem? (i := 2) rfl)) (ty := .long) (by decide) rfl rfl (g := (mkF m 17 #[.val (.ref a), .val (.ref b)] [(.long dr), (.ref a)])) rfl rfl (hb hby dd_prog_14m2_17)
  refine own_st st9 ?_
  have N9 := Fr.snoc X9 N4 p6_
  show own_G p e below s _ _ _ (T9.setTop (mkF m 20 #[.val (.ref a), .val (.ref b)] []))
  have F10 : Fld Z h9 a "com/example/veiled_crown/veiledcrown/engine/Chance" "seed" "J" (.long sd) := (Fld.other W9 (Fld.same W3 p2_) (Or.inr (slot_ne (Or.inr (hw _ (List.mem_of_getElem? (i := 35) rfl))) (Or.inl (hw _ (List.mem_of_getElem? (i := 42) rfl))) (by decide) (t := .long) (t' := .long) (by decide) (by decide))))
  have F11 : Fld Z h9 a "com/example/veiled_crown/veiledcrown/engine/Chance" "draws" "J" (.long dr) := (Fld.same W9 F7)
  refine own_retV X9 hx hlk hret (hb hby dd_prog_14m2_20) (by decide) (by decide) ?_
  show Q_own_chs Z a b sd dr h0 n0 none T9.heap _
  rw [e9]
  exact ⟨rfl, N9, (((Keep.refl _ _).wr W3 (Or.inl (List.mem_of_getElem? (i := 0) rfl))).wr W9 (Or.inl (List.mem_of_getElem? (i := 0) rfl))), F10, F11⟩
theorem own_pn5 : plainFor (⟨"com/example/veiled_crown/veiledcrown/engine/Chance", "<init>", "(J)V"⟩ : MethodName) = true := plainFor_of_name (by first | (simp [plainName, overriddenIn]; done) | decide +kernel)
theorem dd_prog_14m1_0 : decode prog_14_method_1_code 0 = .ok (.aload_n 0, 1) := by decide +kernel
theorem dd_prog_14m1_1 : decode prog_14_method_1_code 1 = .ok (.new 1, 3) := by decide +kernel
theorem dd_prog_14m1_4 : decode prog_14_method_1_code 4 = .ok (.dup, 1) := by decide +kernel
theorem dd_prog_14m1_5 : decode prog_14_method_1_code 5 = .ok (.lload_n 1, 1) := by decide +kernel
theorem dd_prog_14m1_6 : decode prog_14_method_1_code 6 = .ok (.lconst 0, 1) := by decide +kernel
theorem dd_prog_14m1_7 : decode prog_14_method_1_code 7 = .ok (.invokespecial 3, 3) := by decide +kernel
theorem own_pd2 : parseMethodDescriptor "(JJ)V" = some ⟨[.long, .long], none⟩ := by decide +kernel
theorem dd_prog_14m1_10 : decode prog_14_method_1_code 10 = .ok (.invokespecial 7, 3) := by decide +kernel
theorem own_pd3 : parseMethodDescriptor "(Lcom/example/veiled_crown/veiledcrown/engine/ChanceState;)V" = some ⟨[(.object "com/example/veiled_crown/veiledcrown/engine/ChanceState")], none⟩ := by decide +kernel
theorem dd_prog_14m1_13 : decode prog_14_method_1_code 13 = .ok (.return_, 1) := by decide +kernel
theorem ef_own_chi (m : MethodId) (z0 : Addr) (z1 : Int64) : entryFrame m #[(.ref z0), (.long z1)] 3 = mkF m 0 #[.val (.ref z0), .val (.long z1), .second] [] := by first | (simp [entryFrame, mkF, argsToLocals, Value.category]; done) | rfl
def Q_own_chi (Z : State) (a : Addr) (sd : Int64) (h0 : Heap) (n0 : Nat) (zv : Option Value) (zh : Heap) (zL : List Loc) : Prop := zv = none ∧ Fr n0 zL ∧ Keep h0 zh [a] ∧ Fld Z zh a "com/example/veiled_crown/veiledcrown/engine/Chance" "seed" "J" (.long sd) ∧ Fld Z zh a "com/example/veiled_crown/veiledcrown/engine/Chance" "draws" "J" (.long (0 : Int64))
set_option maxRecDepth 65536 in
set_option maxHeartbeats 40000000 in
theorem own_chi (l : Launch) (Z : State) (a0 : Array Value) (hw : ∀ d ∈ tables_1, d.before a0 Z = true) (ws : List Jvm.Cond) (a : Addr) (sd : Int64) (h0 : Heap) (n0 : Nat) (Z0 : n0 ≤ h0.size) (p0_ : Exa Z h0 a "com/example/veiled_crown/veiledcrown/engine/Chance") (p1_ : Fld Z h0 a "com/example/veiled_crown/veiledcrown/engine/Chance" "seed" "J" (.long (0 : Int64))) (p2_ : Fld Z h0 a "com/example/veiled_crown/veiledcrown/engine/Chance" "draws" "J" (.long (0 : Int64))) (p3_ : n0 ≤ a) :
    MetFree l (⟨"com/example/veiled_crown/veiledcrown/engine/Chance", "<init>", "(J)V"⟩ : MethodName) (head1 (Jvm.Cond.code (⟨"com/example/veiled_crown/veiledcrown/engine/Chance", "<init>", "(J)V"⟩ : MethodName) prog_14_method_1_code 3 none :: ws) ({ frames := 3, cells := 1, slots := 2, locals := 42 } : Room)) (fun za zU => za = #[(.ref a), (.long sd)] ∧ Z.Warmed39 zU.vm ∧ zU.heap = h0) (fun _ _ _ _ _ => True) (fun _ zU zo zU' => ∃ zv zL, zo = .returned zv ∧ Q_own_chi Z a sd h0 n0 zv zU'.heap zL ∧ FrameEnd zU zo zU' zL ({ frames := 3, cells := 1, slots := 2, locals := 42 } : Room).cells ({ frames := 3, cells := 1, slots := 2, locals := 42 } : Room).slots) := by
  refine own_met (y := (⟨"com/example/veiled_crown/veiledcrown/engine/Chance", "<init>", "(J)V"⟩ : MethodName)) own_pn5 ?_
  intro p e s m below meth c T0 hx hby hml hown hnm hret hlk hZ e0 X0
  have N0 := Fr.nil n0
  refine own_st (fun zt zk => castTop (ef_own_chi m a sd) zk) ?_
  show own_G p e below s _ _ _ (T0.setTop (mkF m 0 #[.val (.ref a), .val (.long sd), .second] []))
  refine own_st (fun zt zk => XS.aloadN X0.here hx rfl (hb hby dd_prog_14m1_0) rfl rfl zk) ?_
  show own_G p e below s _ _ _ (T0.setTop (mkF m 1 #[.val (.ref a), .val (.long sd), .second] [(.ref a)]))
  obtain ⟨T1, h1, X1, e1, E1, A1, D1, -, st1⟩ := newO X0 hx hZ hown (hw _ (List.mem_of_getElem? (i := 7) rfl)) (hw _ (List.mem_of_getElem? (i := 8) rfl)) (hw _ (List.mem_of_getElem? (i := 9) rfl)) e0 (g := (mkF m 1 #[.val (.ref a), .val (.long sd), .second] [(.ref a)])) rfl (hb hby dd_prog_14m1_1) (by decide) (by decide)
  obtain ⟨b1, g1⟩ : ∃ z, z = h0.size := ⟨_, rfl⟩
  rw [← g1] at A1 D1 st1
  have ne1_a : a ≠ b1 := by rw [g1]; exact Nat.ne_of_lt p0_.lt
  have ge1 : n0 ≤ b1 := Nat.le_trans Z0 (Nat.le_of_eq g1.symm)
  have sz1 : h0.size ≤ b1 := Nat.le_trans (Nat.le_refl h0.size) (Nat.le_of_eq g1.symm)
  refine own_st st1 ?_
  show own_G p e below s _ _ _ (T1.setTop (mkF m 4 #[.val (.ref a), .val (.long sd), .second] [(.ref b1), (.ref a)]))
  refine own_st (fun zt zk => XS.dup X1.here hx rfl (hb hby dd_prog_14m1_4) rfl rfl zk) ?_
  show own_G p e below s _ _ _ (T1.setTop (mkF m 5 #[.val (.ref a), .val (.long sd), .second] [(.ref b1), (.ref b1), (.ref a)]))
  refine own_st (fun zt zk => XS.lloadN X1.here hx rfl (hb hby dd_prog_14m1_5) rfl zk) ?_
  show own_G p e below s _ _ _ (T1.setTop (mkF m 6 #[.val (.ref a), .val (.long sd), .second] [(.long sd), (.ref b1), (.ref b1), (.ref a)]))
  refine own_st (fun zt zk => XS.lconst X1.here hx rfl (hb hby dd_prog_14m1_6) zk) ?_
  show own_G p e below s _ _ _ (T1.setTop (mkF m 7 #[.val (.ref a), .val (.long sd), .second] [(.long (0 : Int64)), (.long sd), (.ref b1), (.ref b1), (.ref a)]))
  obtain ⟨_, T2, L2, X2, hQ2, st2⟩ := own_callI X1 hx hZ (y := (⟨"com/example/veiled_crown/veiledcrown/engine/ChanceState", "<init>", "(JJ)V"⟩ : MethodName)) (a := b1) (argsL := [(.long sd), (.long (0 : Int64))]) (rest := [(.ref b1), (.ref a)]) 2 rfl hown (hw _ (List.mem_of_getElem? (i := 10) rfl)) (hw _ (List.mem_of_getElem? (i := 11) rfl)) (hw _ (List.mem_of_getElem? (i := 9) rfl)) (hw _ (List.mem_of_getElem? (i := 12) rfl)) (by decide) (own_csi l Z a0 hw [] b1 sd (0 : Int64) h1 n0 (Nat.le_trans Z0 E1.1) A1 (D1 (Or.inr (hw _ (List.mem_of_getElem? (i := 22) rfl))) (ty := .long) (by decide)) (D1 (Or.inr (hw _ (List.mem_of_getElem? (i := 24) rfl))) (ty := .long) (by decide)) ge1) (by decide) (by decide) e1 (g := (mkF m 7 #[.val (.ref a), .val (.long sd), .second] [(.long (0 : Int64)), (.long sd), (.ref b1), (.ref b1), (.ref a)])) rfl (by rw [hml]; rfl) own_pd2 rfl rfl (by show 2 * 0 + _ ≤ _; exact Nat.le_of_eq rfl) (hb hby dd_prog_14m1_7) (by decide) (by decide)
  obtain ⟨rfl, N2q, K2, q2_0, q2_1⟩ := hQ2
  have N2 := Fr.app N0 N2q
  refine own_st st2 ?_
  show own_G p e below s _ _ _ (T2.setTop (mkF m 10 #[.val (.ref a), .val (.long sd), .second] [(.ref b1), (.ref a)]))
  have F4 : Fld Z T2.heap a "com/example/veiled_crown/veiledcrown/engine/Chance" "seed" "J" (.long (0 : Int64)) := ((p1_.ext E1).keep K2 (ninS ne1_a nin0))
  have F5 : Fld Z T2.heap a "com/example/veiled_crown/veiledcrown/engine/Chance" "draws" "J" (.long (0 : Int64)) := ((p2_.ext E1).keep K2 (ninS ne1_a nin0))
  have E6 : Exa Z T2.heap a "com/example/veiled_crown/veiledcrown/engine/Chance" := ((p0_.ext E1).keep K2)
  have E7 : Exa Z T2.heap b1 "com/example/veiled_crown/veiledcrown/engine/ChanceState" := (A1.keep K2)
  obtain ⟨_, T3, L3, X3, hQ3, st3⟩ := own_callI X2 hx hZ (y := (⟨"com/example/veiled_crown/veiledcrown/engine/Chance", "<init>", "(Lcom/example/veiled_crown/veiledcrown/engine/ChanceState;)V"⟩ : MethodName)) (a := a) (argsL := [(.ref b1)]) (rest := []) 0 rfl hown (hw _ (List.mem_of_getElem? (i := 25) rfl)) (hw _ (List.mem_of_getElem? (i := 26) rfl)) (hw _ (List.mem_of_getElem? (i := 3) rfl)) (hw _ (List.mem_of_getElem? (i := 27) rfl)) (by decide) (own_chs l Z a0 hw [] a b1 sd (0 : Int64) T2.heap n0 (Nat.le_trans (Nat.le_trans Z0 E1.1) K2.1) E6 E7 F4 F5 q2_0 q2_1 p3_ ne1_a) (by decide) (by decide) rfl (g := (mkF m 10 #[.val (.ref a), .val (.long sd), .second] [(.ref b1), (.ref a)])) rfl (by rw [hml]; rfl) own_pd3 rfl rfl (by show 2 * 0 + _ ≤ _; exact Nat.le_of_eq rfl) (hb hby dd_prog_14m1_10) (by decide) (by decide)
  obtain ⟨rfl, N3q, K3, q3_0, q3_1⟩ := hQ3
  have N3 := Fr.app N2 N3q
  refine own_st st3 ?_
  show own_G p e below s _ _ _ (T3.setTop (mkF m 13 #[.val (.ref a), .val (.long sd), .second] []))
  refine own_retV X3 hx hlk hret (hb hby dd_prog_14m1_13) (by decide) (by decide) ?_
  show Q_own_chi Z a sd h0 n0 none T3.heap _
  exact ⟨rfl, N3, ((((Keep.refl _ _).ext E1).trans K2 (allS (Or.inr sz1) all0)).trans K3 (allS (Or.inl (List.mem_of_getElem? (i := 0) rfl)) all0)), q3_0, q3_1⟩
theorem own_pn6 : plainFor (⟨"com/example/veiled_crown/veiledcrown/engine/Chance", "next", "()J"⟩ : MethodName) = true := plainFor_of_name (by first | (simp [plainName, overriddenIn]; done) | decide +kernel)
theorem dd_prog_14m7_0 : decode prog_14_method_7_code 0 = .ok (.aload_n 0, 1) := by decide +kernel
theorem dd_prog_14m7_1 : decode prog_14_method_7_code 1 = .ok (.dup, 1) := by decide +kernel
theorem dd_prog_14m7_2 : decode prog_14_method_7_code 2 = .ok (.getfield 27, 3) := by decide +kernel
theorem dd_prog_14m7_5 : decode prog_14_method_7_code 5 = .ok (.lconst 1, 1) := by decide +kernel
theorem dd_prog_14m7_6 : decode prog_14_method_7_code 6 = .ok (.ladd, 1) := by decide +kernel
theorem dd_prog_14m7_7 : decode prog_14_method_7_code 7 = .ok (.putfield 27, 3) := by decide +kernel
theorem dd_prog_14m7_10 : decode prog_14_method_7_code 10 = .ok (.aload_n 0, 1) := by decide +kernel
theorem dd_prog_14m7_11 : decode prog_14_method_7_code 11 = .ok (.getfield 21, 3) := by decide +kernel
theorem dd_prog_14m7_14 : decode prog_14_method_7_code 14 = .ok (.aload_n 0, 1) := by decide +kernel
theorem dd_prog_14m7_15 : decode prog_14_method_7_code 15 = .ok (.getfield 27, 3) := by decide +kernel
theorem dd_prog_14m7_18 : decode prog_14_method_7_code 18 = .ok (.ldc2_w 59, 3) := by decide +kernel
theorem dd_prog_14m7_21 : decode prog_14_method_7_code 21 = .ok (.lmul, 1) := by decide +kernel
theorem dd_prog_14m7_22 : decode prog_14_method_7_code 22 = .ok (.ladd, 1) := by decide +kernel
theorem dd_prog_14m7_23 : decode prog_14_method_7_code 23 = .ok (.lstore_n 1, 1) := by decide +kernel
theorem dd_prog_14m7_24 : decode prog_14_method_7_code 24 = .ok (.lload_n 1, 1) := by decide +kernel
theorem dd_prog_14m7_25 : decode prog_14_method_7_code 25 = .ok (.lload_n 1, 1) := by decide +kernel
theorem dd_prog_14m7_26 : decode prog_14_method_7_code 26 = .ok (.bipush 30, 2) := by decide +kernel
theorem dd_prog_14m7_28 : decode prog_14_method_7_code 28 = .ok (.lushr, 1) := by decide +kernel
theorem dd_prog_14m7_29 : decode prog_14_method_7_code 29 = .ok (.lxor, 1) := by decide +kernel
theorem dd_prog_14m7_30 : decode prog_14_method_7_code 30 = .ok (.ldc2_w 61, 3) := by decide +kernel
theorem dd_prog_14m7_33 : decode prog_14_method_7_code 33 = .ok (.lmul, 1) := by decide +kernel
theorem dd_prog_14m7_34 : decode prog_14_method_7_code 34 = .ok (.lstore_n 1, 1) := by decide +kernel
theorem dd_prog_14m7_35 : decode prog_14_method_7_code 35 = .ok (.lload_n 1, 1) := by decide +kernel
theorem dd_prog_14m7_36 : decode prog_14_method_7_code 36 = .ok (.lload_n 1, 1) := by decide +kernel
theorem dd_prog_14m7_37 : decode prog_14_method_7_code 37 = .ok (.bipush 27, 2) := by decide +kernel
theorem dd_prog_14m7_39 : decode prog_14_method_7_code 39 = .ok (.lushr, 1) := by decide +kernel
theorem dd_prog_14m7_40 : decode prog_14_method_7_code 40 = .ok (.lxor, 1) := by decide +kernel
theorem dd_prog_14m7_41 : decode prog_14_method_7_code 41 = .ok (.ldc2_w 63, 3) := by decide +kernel
theorem dd_prog_14m7_44 : decode prog_14_method_7_code 44 = .ok (.lmul, 1) := by decide +kernel
theorem dd_prog_14m7_45 : decode prog_14_method_7_code 45 = .ok (.lstore_n 1, 1) := by decide +kernel
theorem dd_prog_14m7_46 : decode prog_14_method_7_code 46 = .ok (.lload_n 1, 1) := by decide +kernel
theorem dd_prog_14m7_47 : decode prog_14_method_7_code 47 = .ok (.lload_n 1, 1) := by decide +kernel
theorem dd_prog_14m7_48 : decode prog_14_method_7_code 48 = .ok (.bipush 31, 2) := by decide +kernel
theorem dd_prog_14m7_50 : decode prog_14_method_7_code 50 = .ok (.lushr, 1) := by decide +kernel
theorem dd_prog_14m7_51 : decode prog_14_method_7_code 51 = .ok (.lxor, 1) := by decide +kernel
theorem dd_prog_14m7_52 : decode prog_14_method_7_code 52 = .ok (.lreturn, 1) := by decide +kernel
theorem ef_own_nxt (m : MethodId) (z0 : Addr) : entryFrame m #[(.ref z0)] 3 = mkF m 0 #[.val (.ref z0), .unset, .unset] [] := by first | (simp [entryFrame, mkF, argsToLocals, Value.category]; done) | rfl
def Q_own_nxt (Z : State) (a : Addr) (sd : Int64) (dr : Int64) (h0 : Heap) (n0 : Nat) (zv : Option Value) (zh : Heap) (zL : List Loc) : Prop := zv = some (.long (own_out (sd + ((dr + (1 : Int64)) * (-7046029254386353131 : Int64))))) ∧ Fr n0 zL ∧ Keep h0 zh [a] ∧ Fld Z zh a "com/example/veiled_crown/veiledcrown/engine/Chance" "seed" "J" (.long sd) ∧ Fld Z zh a "com/example/veiled_crown/veiledcrown/engine/Chance" "draws" "J" (.long (dr + (1 : Int64)))
set_option maxRecDepth 65536 in
set_option maxHeartbeats 40000000 in
theorem own_nxt (l : Launch) (Z : State) (a0 : Array Value) (hw : ∀ d ∈ tables_1, d.before a0 Z = true) (ws : List Jvm.Cond) (a : Addr) (sd : Int64) (dr : Int64) (h0 : Heap) (n0 : Nat) (Z0 : n0 ≤ h0.size) (p0_ : Exa Z h0 a "com/example/veiled_crown/veiledcrown/engine/Chance") (p1_ : Fld Z h0 a "com/example/veiled_crown/veiledcrown/engine/Chance" "seed" "J" (.long sd)) (p2_ : Fld Z h0 a "com/example/veiled_crown/veiledcrown/engine/Chance" "draws" "J" (.long dr)) (p3_ : n0 ≤ a) :
    MetFree l (⟨"com/example/veiled_crown/veiledcrown/engine/Chance", "next", "()J"⟩ : MethodName) (head1 (Jvm.Cond.code (⟨"com/example/veiled_crown/veiledcrown/engine/Chance", "next", "()J"⟩ : MethodName) prog_14_method_7_code 3 (some .long) :: ws) ({ frames := 0, cells := 0, slots := 0, locals := 0 } : Room)) (fun za zU => za = #[(.ref a)] ∧ Z.Warmed39 zU.vm ∧ zU.heap = h0) (fun _ _ _ _ _ => True) (fun _ zU zo zU' => ∃ zv zL, zo = .returned zv ∧ Q_own_nxt Z a sd dr h0 n0 zv zU'.heap zL ∧ FrameEnd zU zo zU' zL ({ frames := 0, cells := 0, slots := 0, locals := 0 } : Room).cells ({ frames := 0, cells := 0, slots := 0, locals := 0 } : Room).slots) := by
  refine own_met (y := (⟨"com/example/veiled_crown/veiledcrown/engine/Chance", "next", "()J"⟩ : MethodName)) own_pn6 ?_
  intro p e s m below meth c T0 hx hby hml hown hnm hret hlk hZ e0 X0
  have N0 := Fr.nil n0
  refine own_st (fun zt zk => castTop (ef_own_nxt m a) zk) ?_
  show own_G p e below s _ _ _ (T0.setTop (mkF m 0 #[.val (.ref a), .unset, .unset] []))
  refine own_st (fun zt zk => XS.aloadN X0.here hx rfl (hb hby dd_prog_14m7_0) rfl rfl zk) ?_
  show own_G p e below s _ _ _ (T0.setTop (mkF m 1 #[.val (.ref a), .unset, .unset] [(.ref a)]))
  refine own_st (fun zt zk => XS.dup X0.here hx rfl (hb hby dd_prog_14m7_1) rfl rfl zk) ?_
  show own_G p e below s _ _ _ (T0.setTop (mkF m 2 #[.val (.ref a), .unset, .unset] [(.ref a), (.ref a)]))
  obtain ⟨T1, X1, e1, st1⟩ := getF X0 hx hZ hown (host := "") (Or.inl (hw _ (List.mem_of_getElem? (i := 41) rfl))) Via.refl e0 p2_ (g := (mkF m 2 #[.val (.ref a), .unset, .unset] [(.ref a), (.ref a)])) rfl rfl (hb hby dd_prog_14m7_2)
  refine own_st st1 ?_
  show own_G p e below s _ _ _ (T1.setTop (mkF m 5 #[.val (.ref a), .unset, .unset] [(.long dr), (.ref a)]))
  refine own_st (fun zt zk => XS.lconst X1.here hx rfl (hb hby dd_prog_14m7_5) zk) ?_
  show own_G p e below s _ _ _ (T1.setTop (mkF m 6 #[.val (.ref a), .unset, .unset] [(.long (1 : Int64)), (.long dr), (.ref a)]))
  refine own_st (fun zt zk => XS.ladd X1.here hx rfl (hb hby dd_prog_14m7_6) rfl zk) ?_
  show own_G p e below s _ _ _ (T1.setTop (mkF m 7 #[.val (.ref a), .unset, .unset] [(.long (dr + (1 : Int64))), (.ref a)]))
  obtain ⟨T2, h2, X2, e2, W2, st2⟩ := putF X1 hx hZ hown (host := "") (Or.inl (hw _ (List.mem_of_getElem? (i := 41) rfl))) Via.refl e1 p2_ p0_ (Or.inl (hw _ (List.mem_of_getElem? (i := 42) rfl))) (hw _ (List.mem_of_getElem? (i := 2) rfl)) (ty := .long) (by decide) rfl rfl (g := (mkF m 7 #[.val (.ref a), .unset, .unset] [(.long (dr + (1 : Int64))), (.ref a)])) rfl rfl (hb hby dd_prog_14m7_7)
  refine own_st st2 ?_
  have N2 := Fr.snoc X2 N0 p3_
  show own_G p e below s _ _ _ (T2.setTop (mkF m 10 #[.val (.ref a), .unset, .unset] []))
  refine own_st (fun zt zk => XS.aloadN X2.here hx rfl (hb hby dd_prog_14m7_10) rfl rfl zk) ?_
  show own_G p e below s _ _ _ (T2.setTop (mkF m 11 #[.val (.ref a), .unset, .unset] [(.ref a)]))
  have F3 : Fld Z h2 a "com/example/veiled_crown/veiledcrown/engine/Chance" "seed" "J" (.long sd) := (Fld.other W2 p1_ (Or.inr (slot_ne (Or.inr (hw _ (List.mem_of_getElem? (i := 35) rfl))) (Or.inl (hw _ (List.mem_of_getElem? (i := 42) rfl))) (by decide) (t := .long) (t' := .long) (by decide) (by decide))))
  obtain ⟨T4, X4, e4, st4⟩ := getF X2 hx hZ hown (host := "") (Or.inl (hw _ (List.mem_of_getElem? (i := 34) rfl))) Via.refl e2 F3 (g := (mkF m 11 #[.val (.ref a), .unset, .unset] [(.ref a)])) rfl rfl (hb hby dd_prog_14m7_11)
  refine own_st st4 ?_
  show own_G p e below s _ _ _ (T4.setTop (mkF m 14 #[.val (.ref a), .unset, .unset] [(.long sd)]))
  refine own_st (fun zt zk => XS.aloadN X4.here hx rfl (hb hby dd_prog_14m7_14) rfl rfl zk) ?_
  show own_G p e below s _ _ _ (T4.setTop (mkF m 15 #[.val (.ref a), .unset, .unset] [(.ref a), (.long sd)]))
  have F5 : Fld Z h2 a "com/example/veiled_crown/veiledcrown/engine/Chance" "draws" "J" (.long (dr + (1 : Int64))) := (Fld.same W2 p2_)
  obtain ⟨T6, X6, e6, st6⟩ := getF X4 hx hZ hown (host := "") (Or.inl (hw _ (List.mem_of_getElem? (i := 41) rfl))) Via.refl e4 F5 (g := (mkF m 15 #[.val (.ref a), .unset, .unset] [(.ref a), (.long sd)])) rfl rfl (hb hby dd_prog_14m7_15)
  refine own_st st6 ?_
  show own_G p e below s _ _ _ (T6.setTop (mkF m 18 #[.val (.ref a), .unset, .unset] [(.long (dr + (1 : Int64))), (.long sd)]))
  refine own_st (X6.ldc2Long hx hown (mvT hZ (hw _ (List.mem_of_getElem? (i := 52) rfl))) (g := (mkF m 18 #[.val (.ref a), .unset, .unset] [(.long (dr + (1 : Int64))), (.long sd)])) rfl (hb hby dd_prog_14m7_18)) ?_
  show own_G p e below s _ _ _ (T6.setTop (mkF m 21 #[.val (.ref a), .unset, .unset] [(.long (-7046029254386353131 : Int64)), (.long (dr + (1 : Int64))), (.long sd)]))
  refine own_st (fun zt zk => XS.lmul X6.here hx rfl (hb hby dd_prog_14m7_21) rfl zk) ?_
  show own_G p e below s _ _ _ (T6.setTop (mkF m 22 #[.val (.ref a), .unset, .unset] [(.long ((dr + (1 : Int64)) * (-7046029254386353131 : Int64))), (.long sd)]))
  refine own_st (fun zt zk => XS.ladd X6.here hx rfl (hb hby dd_prog_14m7_22) rfl zk) ?_
  show own_G p e below s _ _ _ (T6.setTop (mkF m 23 #[.val (.ref a), .unset, .unset] [(.long (sd + ((dr + (1 : Int64)) * (-7046029254386353131 : Int64))))]))
  refine own_st (fun zt zk => XS.lstoreN X6.here hx rfl (hb hby dd_prog_14m7_23) rfl (l' := #[.val (.ref a), .val (.long (sd + ((dr + (1 : Int64)) * (-7046029254386353131 : Int64)))), .second]) rfl zk) ?_
  show own_G p e below s _ _ _ (T6.setTop (mkF m 24 #[.val (.ref a), .val (.long (sd + ((dr + (1 : Int64)) * (-7046029254386353131 : Int64)))), .second] []))
  refine own_st (fun zt zk => XS.lloadN X6.here hx rfl (hb hby dd_prog_14m7_24) rfl zk) ?_
  show own_G p e below s _ _ _ (T6.setTop (mkF m 25 #[.val (.ref a), .val (.long (sd + ((dr + (1 : Int64)) * (-7046029254386353131 : Int64)))), .second] [(.long (sd + ((dr + (1 : Int64)) * (-7046029254386353131 : Int64))))]))
  refine own_st (fun zt zk => XS.lloadN X6.here hx rfl (hb hby dd_prog_14m7_25) rfl zk) ?_
  show own_G p e below s _ _ _ (T6.setTop (mkF m 26 #[.val (.ref a), .val (.long (sd + ((dr + (1 : Int64)) * (-7046029254386353131 : Int64)))), .second] [(.long (sd + ((dr + (1 : Int64)) * (-7046029254386353131 : Int64)))), (.long (sd + ((dr + (1 : Int64)) * (-7046029254386353131 : Int64))))]))
  refine own_st (fun zt zk => XS.bipush X6.here hx rfl (hb hby dd_prog_14m7_26) zk) ?_
  show own_G p e below s _ _ _ (T6.setTop (mkF m 28 #[.val (.ref a), .val (.long (sd + ((dr + (1 : Int64)) * (-7046029254386353131 : Int64)))), .second] [(.int (30 : Int32)), (.long (sd + ((dr + (1 : Int64)) * (-7046029254386353131 : Int64)))), (.long (sd + ((dr + (1 : Int64)) * (-7046029254386353131 : Int64))))]))
  refine own_st (fun zt zk => XS.lushr X6.here hx rfl (hb hby dd_prog_14m7_28) rfl zk) ?_
  show own_G p e below s _ _ _ (T6.setTop (mkF m 29 #[.val (.ref a), .val (.long (sd + ((dr + (1 : Int64)) * (-7046029254386353131 : Int64)))), .second] [(.long (((sd + ((dr + (1 : Int64)) * (-7046029254386353131 : Int64))).toUInt64 >>> ((30 : Int32) &&& 0x3f).toInt64.toUInt64).toInt64)), (.long (sd + ((dr + (1 : Int64)) * (-7046029254386353131 : Int64))))]))
  refine own_st (fun zt zk => XS.lxor X6.here hx rfl (hb hby dd_prog_14m7_29) rfl zk) ?_
  show own_G p e below s _ _ _ (T6.setTop (mkF m 30 #[.val (.ref a), .val (.long (sd + ((dr + (1 : Int64)) * (-7046029254386353131 : Int64)))), .second] [(.long ((sd + ((dr + (1 : Int64)) * (-7046029254386353131 : Int64))) ^^^ (((sd + ((dr + (1 : Int64)) * (-7046029254386353131 : Int64))).toUInt64 >>> ((30 : Int32) &&& 0x3f).toInt64.toUInt64).toInt64)))]))
  refine own_st (X6.ldc2Long hx hown (mvT hZ (hw _ (List.mem_of_getElem? (i := 53) rfl))) (g := (mkF m 30 #[.val (.ref a), .val (.long (sd + ((dr + (1 : Int64)) * (-7046029254386353131 : Int64)))), .second] [(.long ((sd + ((dr + (1 : Int64)) * (-7046029254386353131 : Int64))) ^^^ (((sd + ((dr + (1 : Int64)) * (-7046029254386353131 : Int64))).toUInt64 >>> ((30 : Int32) &&& 0x3f).toInt64.toUInt64).toInt64)))])) rfl (hb hby dd_prog_14m7_30)) ?_
  show own_G p e below s _ _ _ (T6.setTop (mkF m 33 #[.val (.ref a), .val (.long (sd + ((dr + (1 : Int64)) * (-7046029254386353131 : Int64)))), .second] [(.long (-4658895280553007687 : Int64)), (.long ((sd + ((dr + (1 : Int64)) * (-7046029254386353131 : Int64))) ^^^ (((sd + ((dr + (1 : Int64)) * (-7046029254386353131 : Int64))).toUInt64 >>> ((30 : Int32) &&& 0x3f).toInt64.toUInt64).toInt64)))]))
  refine own_st (fun zt zk => XS.lmul X6.here hx rfl (hb hby dd_prog_14m7_33) rfl zk) ?_
  show own_G p e below s _ _ _ (T6.setTop (mkF m 34 #[.val (.ref a), .val (.long (sd + ((dr + (1 : Int64)) * (-7046029254386353131 : Int64)))), .second] [(.long (((sd + ((dr + (1 : Int64)) * (-7046029254386353131 : Int64))) ^^^ (((sd + ((dr + (1 : Int64)) * (-7046029254386353131 : Int64))).toUInt64 >>> ((30 : Int32) &&& 0x3f).toInt64.toUInt64).toInt64)) * (-4658895280553007687 : Int64)))]))
  refine own_st (fun zt zk => XS.lstoreN X6.here hx rfl (hb hby dd_prog_14m7_34) rfl (l' := #[.val (.ref a), .val (.long (((sd + ((dr + (1 : Int64)) * (-7046029254386353131 : Int64))) ^^^ (((sd + ((dr + (1 : Int64)) * (-7046029254386353131 : Int64))).toUInt64 >>> ((30 : Int32) &&& 0x3f).toInt64.toUInt64).toInt64)) * (-4658895280553007687 : Int64))), .second]) rfl zk) ?_
  show own_G p e below s _ _ _ (T6.setTop (mkF m 35 #[.val (.ref a), .val (.long (((sd + ((dr + (1 : Int64)) * (-7046029254386353131 : Int64))) ^^^ (((sd + ((dr + (1 : Int64)) * (-7046029254386353131 : Int64))).toUInt64 >>> ((30 : Int32) &&& 0x3f).toInt64.toUInt64).toInt64)) * (-4658895280553007687 : Int64))), .second] []))
  refine own_st (fun zt zk => XS.lloadN X6.here hx rfl (hb hby dd_prog_14m7_35) rfl zk) ?_
  show own_G p e below s _ _ _ (T6.setTop (mkF m 36 #[.val (.ref a), .val (.long (((sd + ((dr + (1 : Int64)) * (-7046029254386353131 : Int64))) ^^^ (((sd + ((dr + (1 : Int64)) * (-7046029254386353131 : Int64))).toUInt64 >>> ((30 : Int32) &&& 0x3f).toInt64.toUInt64).toInt64)) * (-4658895280553007687 : Int64))), .second] [(.long (((sd + ((dr + (1 : Int64)) * (-7046029254386353131 : Int64))) ^^^ (((sd + ((dr + (1 : Int64)) * (-7046029254386353131 : Int64))).toUInt64 >>> ((30 : Int32) &&& 0x3f).toInt64.toUInt64).toInt64)) * (-4658895280553007687 : Int64)))]))
  refine own_st (fun zt zk => XS.lloadN X6.here hx rfl (hb hby dd_prog_14m7_36) rfl zk) ?_
  show own_G p e below s _ _ _ (T6.setTop (mkF m 37 #[.val (.ref a), .val (.long (((sd + ((dr + (1 : Int64)) * (-7046029254386353131 : Int64))) ^^^ (((sd + ((dr + (1 : Int64)) * (-7046029254386353131 : Int64))).toUInt64 >>> ((30 : Int32) &&& 0x3f).toInt64.toUInt64).toInt64)) * (-4658895280553007687 : Int64))), .second] [(.long (((sd + ((dr + (1 : Int64)) * (-7046029254386353131 : Int64))) ^^^ (((sd + ((dr + (1 : Int64)) * (-7046029254386353131 : Int64))).toUInt64 >>> ((30 : Int32) &&& 0x3f).toInt64.toUInt64).toInt64)) * (-4658895280553007687 : Int64))), (.long (((sd + ((dr + (1 : Int64)) * (-7046029254386353131 : Int64))) ^^^ (((sd + ((dr + (1 : Int64)) * (-7046029254386353131 : Int64))).toUInt64 >>> ((30 : Int32) &&& 0x3f).toInt64.toUInt64).toInt64)) * (-4658895280553007687 : Int64)))]))
  refine own_st (fun zt zk => XS.bipush X6.here hx rfl (hb hby dd_prog_14m7_37) zk) ?_
  show own_G p e below s _ _ _ (T6.setTop (mkF m 39 #[.val (.ref a), .val (.long (((sd + ((dr + (1 : Int64)) * (-7046029254386353131 : Int64))) ^^^ (((sd + ((dr + (1 : Int64)) * (-7046029254386353131 : Int64))).toUInt64 >>> ((30 : Int32) &&& 0x3f).toInt64.toUInt64).toInt64)) * (-4658895280553007687 : Int64))), .second] [(.int (27 : Int32)), (.long (((sd + ((dr + (1 : Int64)) * (-7046029254386353131 : Int64))) ^^^ (((sd + ((dr + (1 : Int64)) * (-7046029254386353131 : Int64))).toUInt64 >>> ((30 : Int32) &&& 0x3f).toInt64.toUInt64).toInt64)) * (-4658895280553007687 : Int64))), (.long (((sd + ((dr + (1 : Int64)) * (-7046029254386353131 : Int64))) ^^^ (((sd + ((dr + (1 : Int64)) * (-7046029254386353131 : Int64))).toUInt64 >>> ((30 : Int32) &&& 0x3f).toInt64.toUInt64).toInt64)) * (-4658895280553007687 : Int64)))]))
  refine own_st (fun zt zk => XS.lushr X6.here hx rfl (hb hby dd_prog_14m7_39) rfl zk) ?_
  show own_G p e below s _ _ _ (T6.setTop (mkF m 40 #[.val (.ref a), .val (.long (((sd + ((dr + (1 : Int64)) * (-7046029254386353131 : Int64))) ^^^ (((sd + ((dr + (1 : Int64)) * (-7046029254386353131 : Int64))).toUInt64 >>> ((30 : Int32) &&& 0x3f).toInt64.toUInt64).toInt64)) * (-4658895280553007687 : Int64))), .second] [(.long (((((sd + ((dr + (1 : Int64)) * (-7046029254386353131 : Int64))) ^^^ (((sd + ((dr + (1 : Int64)) * (-7046029254386353131 : Int64))).toUInt64 >>> ((30 : Int32) &&& 0x3f).toInt64.toUInt64).toInt64)) * (-4658895280553007687 : Int64)).toUInt64 >>> ((27 : Int32) &&& 0x3f).toInt64.toUInt64).toInt64)), (.long (((sd + ((dr + (1 : Int64)) * (-7046029254386353131 : Int64))) ^^^ (((sd + ((dr + (1 : Int64)) * (-7046029254386353131 : Int64))).toUInt64 >>> ((30 : Int32) &&& 0x3f).toInt64.toUInt64).toInt64)) * (-4658895280553007687 : Int64)))]))
  refine own_st (fun zt zk => XS.lxor X6.here hx rfl (hb hby dd_prog_14m7_40) rfl zk) ?_
  show own_G p e below s _ _ _ (T6.setTop (mkF m 41 #[.val (.ref a), .val (.long (((sd + ((dr + (1 : Int64)) * (-7046029254386353131 : Int64))) ^^^ (((sd + ((dr + (1 : Int64)) * (-7046029254386353131 : Int64))).toUInt64 >>> ((30 : Int32) &&& 0x3f).toInt64.toUInt64).toInt64)) * (-4658895280553007687 : Int64))), .second] [(.long ((((sd + ((dr + (1 : Int64)) * (-7046029254386353131 : Int64))) ^^^ (((sd + ((dr + (1 : Int64)) * (-7046029254386353131 : Int64))).toUInt64 >>> ((30 : Int32) &&& 0x3f).toInt64.toUInt64).toInt64)) * (-4658895280553007687 : Int64)) ^^^ (((((sd + ((dr + (1 : Int64)) * (-7046029254386353131 : Int64))) ^^^ (((sd + ((dr + (1 : Int64)) * (-7046029254386353131 : Int64))).toUInt64 >>> ((30 : Int32) &&& 0x3f).toInt64.toUInt64).toInt64)) * (-4658895280553007687 : Int64)).toUInt64 >>> ((27 : Int32) &&& 0x3f).toInt64.toUInt64).toInt64)))]))
  refine own_st (X6.ldc2Long hx hown (mvT hZ (hw _ (List.mem_of_getElem? (i := 54) rfl))) (g := (mkF m 41 #[.val (.ref a), .val (.long (((sd + ((dr + (1 : Int64)) * (-7046029254386353131 : Int64))) ^^^ (((sd + ((dr + (1 : Int64)) * (-7046029254386353131 : Int64))).toUInt64 >>> ((30 : Int32) &&& 0x3f).toInt64.toUInt64).toInt64)) * (-4658895280553007687 : Int64))), .second] [(.long ((((sd + ((dr + (1 : Int64)) * (-7046029254386353131 : Int64))) ^^^ (((sd + ((dr + (1 : Int64)) * (-7046029254386353131 : Int64))).toUInt64 >>> ((30 : Int32) &&& 0x3f).toInt64.toUInt64).toInt64)) * (-4658895280553007687 : Int64)) ^^^ (((((sd + ((dr + (1 : Int64)) * (-7046029254386353131 : Int64))) ^^^ (((sd + ((dr + (1 : Int64)) * (-7046029254386353131 : Int64))).toUInt64 >>> ((30 : Int32) &&& 0x3f).toInt64.toUInt64).toInt64)) * (-4658895280553007687 : Int64)).toUInt64 >>> ((27 : Int32) &&& 0x3f).toInt64.toUInt64).toInt64)))])) rfl (hb hby dd_prog_14m7_41)) ?_
  show own_G p e below s _ _ _ (T6.setTop (mkF m 44 #[.val (.ref a), .val (.long (((sd + ((dr + (1 : Int64)) * (-7046029254386353131 : Int64))) ^^^ (((sd + ((dr + (1 : Int64)) * (-7046029254386353131 : Int64))).toUInt64 >>> ((30 : Int32) &&& 0x3f).toInt64.toUInt64).toInt64)) * (-4658895280553007687 : Int64))), .second] [(.long (-7723592293110705685 : Int64)), (.long ((((sd + ((dr + (1 : Int64)) * (-7046029254386353131 : Int64))) ^^^ (((sd + ((dr + (1 : Int64)) * (-7046029254386353131 : Int64))).toUInt64 >>> ((30 : Int32) &&& 0x3f).toInt64.toUInt64).toInt64)) * (-4658895280553007687 : Int64)) ^^^ (((((sd + ((dr + (1 : Int64)) * (-7046029254386353131 : Int64))) ^^^ (((sd + ((dr + (1 : Int64)) * (-7046029254386353131 : Int64))).toUInt64 >>> ((30 : Int32) &&& 0x3f).toInt64.toUInt64).toInt64)) * (-4658895280553007687 : Int64)).toUInt64 >>> ((27 : Int32) &&& 0x3f).toInt64.toUInt64).toInt64)))]))
  refine own_st (fun zt zk => XS.lmul X6.here hx rfl (hb hby dd_prog_14m7_44) rfl zk) ?_
  show own_G p e below s _ _ _ (T6.setTop (mkF m 45 #[.val (.ref a), .val (.long (((sd + ((dr + (1 : Int64)) * (-7046029254386353131 : Int64))) ^^^ (((sd + ((dr + (1 : Int64)) * (-7046029254386353131 : Int64))).toUInt64 >>> ((30 : Int32) &&& 0x3f).toInt64.toUInt64).toInt64)) * (-4658895280553007687 : Int64))), .second] [(.long (((((sd + ((dr + (1 : Int64)) * (-7046029254386353131 : Int64))) ^^^ (((sd + ((dr + (1 : Int64)) * (-7046029254386353131 : Int64))).toUInt64 >>> ((30 : Int32) &&& 0x3f).toInt64.toUInt64).toInt64)) * (-4658895280553007687 : Int64)) ^^^ (((((sd + ((dr + (1 : Int64)) * (-7046029254386353131 : Int64))) ^^^ (((sd + ((dr + (1 : Int64)) * (-7046029254386353131 : Int64))).toUInt64 >>> ((30 : Int32) &&& 0x3f).toInt64.toUInt64).toInt64)) * (-4658895280553007687 : Int64)).toUInt64 >>> ((27 : Int32) &&& 0x3f).toInt64.toUInt64).toInt64)) * (-7723592293110705685 : Int64)))]))
  refine own_st (fun zt zk => XS.lstoreN X6.here hx rfl (hb hby dd_prog_14m7_45) rfl (l' := #[.val (.ref a), .val (.long (((((sd + ((dr + (1 : Int64)) * (-7046029254386353131 : Int64))) ^^^ (((sd + ((dr + (1 : Int64)) * (-7046029254386353131 : Int64))).toUInt64 >>> ((30 : Int32) &&& 0x3f).toInt64.toUInt64).toInt64)) * (-4658895280553007687 : Int64)) ^^^ (((((sd + ((dr + (1 : Int64)) * (-7046029254386353131 : Int64))) ^^^ (((sd + ((dr + (1 : Int64)) * (-7046029254386353131 : Int64))).toUInt64 >>> ((30 : Int32) &&& 0x3f).toInt64.toUInt64).toInt64)) * (-4658895280553007687 : Int64)).toUInt64 >>> ((27 : Int32) &&& 0x3f).toInt64.toUInt64).toInt64)) * (-7723592293110705685 : Int64))), .second]) rfl zk) ?_
  show own_G p e below s _ _ _ (T6.setTop (mkF m 46 #[.val (.ref a), .val (.long (((((sd + ((dr + (1 : Int64)) * (-7046029254386353131 : Int64))) ^^^ (((sd + ((dr + (1 : Int64)) * (-7046029254386353131 : Int64))).toUInt64 >>> ((30 : Int32) &&& 0x3f).toInt64.toUInt64).toInt64)) * (-4658895280553007687 : Int64)) ^^^ (((((sd + ((dr + (1 : Int64)) * (-7046029254386353131 : Int64))) ^^^ (((sd + ((dr + (1 : Int64)) * (-7046029254386353131 : Int64))).toUInt64 >>> ((30 : Int32) &&& 0x3f).toInt64.toUInt64).toInt64)) * (-4658895280553007687 : Int64)).toUInt64 >>> ((27 : Int32) &&& 0x3f).toInt64.toUInt64).toInt64)) * (-7723592293110705685 : Int64))), .second] []))
  refine own_st (fun zt zk => XS.lloadN X6.here hx rfl (hb hby dd_prog_14m7_46) rfl zk) ?_
  show own_G p e below s _ _ _ (T6.setTop (mkF m 47 #[.val (.ref a), .val (.long (((((sd + ((dr + (1 : Int64)) * (-7046029254386353131 : Int64))) ^^^ (((sd + ((dr + (1 : Int64)) * (-7046029254386353131 : Int64))).toUInt64 >>> ((30 : Int32) &&& 0x3f).toInt64.toUInt64).toInt64)) * (-4658895280553007687 : Int64)) ^^^ (((((sd + ((dr + (1 : Int64)) * (-7046029254386353131 : Int64))) ^^^ (((sd + ((dr + (1 : Int64)) * (-7046029254386353131 : Int64))).toUInt64 >>> ((30 : Int32) &&& 0x3f).toInt64.toUInt64).toInt64)) * (-4658895280553007687 : Int64)).toUInt64 >>> ((27 : Int32) &&& 0x3f).toInt64.toUInt64).toInt64)) * (-7723592293110705685 : Int64))), .second] [(.long (((((sd + ((dr + (1 : Int64)) * (-7046029254386353131 : Int64))) ^^^ (((sd + ((dr + (1 : Int64)) * (-7046029254386353131 : Int64))).toUInt64 >>> ((30 : Int32) &&& 0x3f).toInt64.toUInt64).toInt64)) * (-4658895280553007687 : Int64)) ^^^ (((((sd + ((dr + (1 : Int64)) * (-7046029254386353131 : Int64))) ^^^ (((sd + ((dr + (1 : Int64)) * (-7046029254386353131 : Int64))).toUInt64 >>> ((30 : Int32) &&& 0x3f).toInt64.toUInt64).toInt64)) * (-4658895280553007687 : Int64)).toUInt64 >>> ((27 : Int32) &&& 0x3f).toInt64.toUInt64).toInt64)) * (-7723592293110705685 : Int64)))]))
  refine own_st (fun zt zk => XS.lloadN X6.here hx rfl (hb hby dd_prog_14m7_47) rfl zk) ?_
  show own_G p e below s _ _ _ (T6.setTop (mkF m 48 #[.val (.ref a), .val (.long (((((sd + ((dr + (1 : Int64)) * (-7046029254386353131 : Int64))) ^^^ (((sd + ((dr + (1 : Int64)) * (-7046029254386353131 : Int64))).toUInt64 >>> ((30 : Int32) &&& 0x3f).toInt64.toUInt64).toInt64)) * (-4658895280553007687 : Int64)) ^^^ (((((sd + ((dr + (1 : Int64)) * (-7046029254386353131 : Int64))) ^^^ (((sd + ((dr + (1 : Int64)) * (-7046029254386353131 : Int64))).toUInt64 >>> ((30 : Int32) &&& 0x3f).toInt64.toUInt64).toInt64)) * (-4658895280553007687 : Int64)).toUInt64 >>> ((27 : Int32) &&& 0x3f).toInt64.toUInt64).toInt64)) * (-7723592293110705685 : Int64))), .second] [(.long (((((sd + ((dr + (1 : Int64)) * (-7046029254386353131 : Int64))) ^^^ (((sd + ((dr + (1 : Int64)) * (-7046029254386353131 : Int64))).toUInt64 >>> ((30 : Int32) &&& 0x3f).toInt64.toUInt64).toInt64)) * (-4658895280553007687 : Int64)) ^^^ (((((sd + ((dr + (1 : Int64)) * (-7046029254386353131 : Int64))) ^^^ (((sd + ((dr + (1 : Int64)) * (-7046029254386353131 : Int64))).toUInt64 >>> ((30 : Int32) &&& 0x3f).toInt64.toUInt64).toInt64)) * (-4658895280553007687 : Int64)).toUInt64 >>> ((27 : Int32) &&& 0x3f).toInt64.toUInt64).toInt64)) * (-7723592293110705685 : Int64))), (.long (((((sd + ((dr + (1 : Int64)) * (-7046029254386353131 : Int64))) ^^^ (((sd + ((dr + (1 : Int64)) * (-7046029254386353131 : Int64))).toUInt64 >>> ((30 : Int32) &&& 0x3f).toInt64.toUInt64).toInt64)) * (-4658895280553007687 : Int64)) ^^^ (((((sd + ((dr + (1 : Int64)) * (-7046029254386353131 : Int64))) ^^^ (((sd + ((dr + (1 : Int64)) * (-7046029254386353131 : Int64))).toUInt64 >>> ((30 : Int32) &&& 0x3f).toInt64.toUInt64).toInt64)) * (-4658895280553007687 : Int64)).toUInt64 >>> ((27 : Int32) &&& 0x3f).toInt64.toUInt64).toInt64)) * (-7723592293110705685 : Int64)))]))
  refine own_st (fun zt zk => XS.bipush X6.here hx rfl (hb hby dd_prog_14m7_48) zk) ?_
  show own_G p e below s _ _ _ (T6.setTop (mkF m 50 #[.val (.ref a), .val (.long (((((sd + ((dr + (1 : Int64)) * (-7046029254386353131 : Int64))) ^^^ (((sd + ((dr + (1 : Int64)) * (-7046029254386353131 : Int64))).toUInt64 >>> ((30 : Int32) &&& 0x3f).toInt64.toUInt64).toInt64)) * (-4658895280553007687 : Int64)) ^^^ (((((sd + ((dr + (1 : Int64)) * (-7046029254386353131 : Int64))) ^^^ (((sd + ((dr + (1 : Int64)) * (-7046029254386353131 : Int64))).toUInt64 >>> ((30 : Int32) &&& 0x3f).toInt64.toUInt64).toInt64)) * (-4658895280553007687 : Int64)).toUInt64 >>> ((27 : Int32) &&& 0x3f).toInt64.toUInt64).toInt64)) * (-7723592293110705685 : Int64))), .second] [(.int (31 : Int32)), (.long (((((sd + ((dr + (1 : Int64)) * (-7046029254386353131 : Int64))) ^^^ (((sd + ((dr + (1 : Int64)) * (-7046029254386353131 : Int64))).toUInt64 >>> ((30 : Int32) &&& 0x3f).toInt64.toUInt64).toInt64)) * (-4658895280553007687 : Int64)) ^^^ (((((sd + ((dr + (1 : Int64)) * (-7046029254386353131 : Int64))) ^^^ (((sd + ((dr + (1 : Int64)) * (-7046029254386353131 : Int64))).toUInt64 >>> ((30 : Int32) &&& 0x3f).toInt64.toUInt64).toInt64)) * (-4658895280553007687 : Int64)).toUInt64 >>> ((27 : Int32) &&& 0x3f).toInt64.toUInt64).toInt64)) * (-7723592293110705685 : Int64))), (.long (((((sd + ((dr + (1 : Int64)) * (-7046029254386353131 : Int64))) ^^^ (((sd + ((dr + (1 : Int64)) * (-7046029254386353131 : Int64))).toUInt64 >>> ((30 : Int32) &&& 0x3f).toInt64.toUInt64).toInt64)) * (-4658895280553007687 : Int64)) ^^^ (((((sd + ((dr + (1 : Int64)) * (-7046029254386353131 : Int64))) ^^^ (((sd + ((dr + (1 : Int64)) * (-7046029254386353131 : Int64))).toUInt64 >>> ((30 : Int32) &&& 0x3f).toInt64.toUInt64).toInt64)) * (-4658895280553007687 : Int64)).toUInt64 >>> ((27 : Int32) &&& 0x3f).toInt64.toUInt64).toInt64)) * (-7723592293110705685 : Int64)))]))
  refine own_st (fun zt zk => XS.lushr X6.here hx rfl (hb hby dd_prog_14m7_50) rfl zk) ?_
  show own_G p e below s _ _ _ (T6.setTop (mkF m 51 #[.val (.ref a), .val (.long (((((sd + ((dr + (1 : Int64)) * (-7046029254386353131 : Int64))) ^^^ (((sd + ((dr + (1 : Int64)) * (-7046029254386353131 : Int64))).toUInt64 >>> ((30 : Int32) &&& 0x3f).toInt64.toUInt64).toInt64)) * (-4658895280553007687 : Int64)) ^^^ (((((sd + ((dr + (1 : Int64)) * (-7046029254386353131 : Int64))) ^^^ (((sd + ((dr + (1 : Int64)) * (-7046029254386353131 : Int64))).toUInt64 >>> ((30 : Int32) &&& 0x3f).toInt64.toUInt64).toInt64)) * (-4658895280553007687 : Int64)).toUInt64 >>> ((27 : Int32) &&& 0x3f).toInt64.toUInt64).toInt64)) * (-7723592293110705685 : Int64))), .second] [(.long (((((((sd + ((dr + (1 : Int64)) * (-7046029254386353131 : Int64))) ^^^ (((sd + ((dr + (1 : Int64)) * (-7046029254386353131 : Int64))).toUInt64 >>> ((30 : Int32) &&& 0x3f).toInt64.toUInt64).toInt64)) * (-4658895280553007687 : Int64)) ^^^ (((((sd + ((dr + (1 : Int64)) * (-7046029254386353131 : Int64))) ^^^ (((sd + ((dr + (1 : Int64)) * (-7046029254386353131 : Int64))).toUInt64 >>> ((30 : Int32) &&& 0x3f).toInt64.toUInt64).toInt64)) * (-4658895280553007687 : Int64)).toUInt64 >>> ((27 : Int32) &&& 0x3f).toInt64.toUInt64).toInt64)) * (-7723592293110705685 : Int64)).toUInt64 >>> ((31 : Int32) &&& 0x3f).toInt64.toUInt64).toInt64)), (.long (((((sd + ((dr + (1 : Int64)) * (-7046029254386353131 : Int64))) ^^^ (((sd + ((dr + (1 : Int64)) * (-7046029254386353131 : Int64))).toUInt64 >>> ((30 : Int32) &&& 0x3f).toInt64.toUInt64).toInt64)) * (-4658895280553007687 : Int64)) ^^^ (((((sd + ((dr + (1 : Int64)) * (-7046029254386353131 : Int64))) ^^^ (((sd + ((dr + (1 : Int64)) * (-7046029254386353131 : Int64))).toUInt64 >>> ((30 : Int32) &&& 0x3f).toInt64.toUInt64).toInt64)) * (-4658895280553007687 : Int64)).toUInt64 >>> ((27 : Int32) &&& 0x3f).toInt64.toUInt64).toInt64)) * (-7723592293110705685 : Int64)))]))
  refine own_st (fun zt zk => XS.lxor X6.here hx rfl (hb hby dd_prog_14m7_51) rfl zk) ?_
  show own_G p e below s _ _ _ (T6.setTop (mkF m 52 #[.val (.ref a), .val (.long (((((sd + ((dr + (1 : Int64)) * (-7046029254386353131 : Int64))) ^^^ (((sd + ((dr + (1 : Int64)) * (-7046029254386353131 : Int64))).toUInt64 >>> ((30 : Int32) &&& 0x3f).toInt64.toUInt64).toInt64)) * (-4658895280553007687 : Int64)) ^^^ (((((sd + ((dr + (1 : Int64)) * (-7046029254386353131 : Int64))) ^^^ (((sd + ((dr + (1 : Int64)) * (-7046029254386353131 : Int64))).toUInt64 >>> ((30 : Int32) &&& 0x3f).toInt64.toUInt64).toInt64)) * (-4658895280553007687 : Int64)).toUInt64 >>> ((27 : Int32) &&& 0x3f).toInt64.toUInt64).toInt64)) * (-7723592293110705685 : Int64))), .second] [(.long ((((((sd + ((dr + (1 : Int64)) * (-7046029254386353131 : Int64))) ^^^ (((sd + ((dr + (1 : Int64)) * (-7046029254386353131 : Int64))).toUInt64 >>> ((30 : Int32) &&& 0x3f).toInt64.toUInt64).toInt64)) * (-4658895280553007687 : Int64)) ^^^ (((((sd + ((dr + (1 : Int64)) * (-7046029254386353131 : Int64))) ^^^ (((sd + ((dr + (1 : Int64)) * (-7046029254386353131 : Int64))).toUInt64 >>> ((30 : Int32) &&& 0x3f).toInt64.toUInt64).toInt64)) * (-4658895280553007687 : Int64)).toUInt64 >>> ((27 : Int32) &&& 0x3f).toInt64.toUInt64).toInt64)) * (-7723592293110705685 : Int64)) ^^^ (((((((sd + ((dr + (1 : Int64)) * (-7046029254386353131 : Int64))) ^^^ (((sd + ((dr + (1 : Int64)) * (-7046029254386353131 : Int64))).toUInt64 >>> ((30 : Int32) &&& 0x3f).toInt64.toUInt64).toInt64)) * (-4658895280553007687 : Int64)) ^^^ (((((sd + ((dr + (1 : Int64)) * (-7046029254386353131 : Int64))) ^^^ (((sd + ((dr + (1 : Int64)) * (-7046029254386353131 : Int64))).toUInt64 >>> ((30 : Int32) &&& 0x3f).toInt64.toUInt64).toInt64)) * (-4658895280553007687 : Int64)).toUInt64 >>> ((27 : Int32) &&& 0x3f).toInt64.toUInt64).toInt64)) * (-7723592293110705685 : Int64)).toUInt64 >>> ((31 : Int32) &&& 0x3f).toInt64.toUInt64).toInt64)))]))
  refine own_retJ X6 hx hlk hret (hb hby dd_prog_14m7_52) (by decide) (by decide) ?_
  show Q_own_nxt Z a sd dr h0 n0 (some (.long ((((((sd + ((dr + (1 : Int64)) * (-7046029254386353131 : Int64))) ^^^ (((sd + ((dr + (1 : Int64)) * (-7046029254386353131 : Int64))).toUInt64 >>> ((30 : Int32) &&& 0x3f).toInt64.toUInt64).toInt64)) * (-4658895280553007687 : Int64)) ^^^ (((((sd + ((dr + (1 : Int64)) * (-7046029254386353131 : Int64))) ^^^ (((sd + ((dr + (1 : Int64)) * (-7046029254386353131 : Int64))).toUInt64 >>> ((30 : Int32) &&& 0x3f).toInt64.toUInt64).toInt64)) * (-4658895280553007687 : Int64)).toUInt64 >>> ((27 : Int32) &&& 0x3f).toInt64.toUInt64).toInt64)) * (-7723592293110705685 : Int64)) ^^^ (((((((sd + ((dr + (1 : Int64)) * (-7046029254386353131 : Int64))) ^^^ (((sd + ((dr + (1 : Int64)) * (-7046029254386353131 : Int64))).toUInt64 >>> ((30 : Int32) &&& 0x3f).toInt64.toUInt64).toInt64)) * (-4658895280553007687 : Int64)) ^^^ (((((sd + ((dr + (1 : Int64)) * (-7046029254386353131 : Int64))) ^^^ (((sd + ((dr + (1 : Int64)) * (-7046029254386353131 : Int64))).toUInt64 >>> ((30 : Int32) &&& 0x3f).toInt64.toUInt64).toInt64)) * (-4658895280553007687 : Int64)).toUInt64 >>> ((27 : Int32) &&& 0x3f).toInt64.toUInt64).toInt64)) * (-7723592293110705685 : Int64)).toUInt64 >>> ((31 : Int32) &&& 0x3f).toInt64.toUInt64).toInt64)))) T6.heap _
  rw [e6]
  exact ⟨rfl, N2, ((Keep.refl _ _).wr W2 (Or.inl (List.mem_of_getElem? (i := 0) rfl))), F3, F5⟩
theorem own_pn7 : plainFor (⟨"com/example/veiled_crown/veiledcrown/engine/Chance", "nextLong", "()J"⟩ : MethodName) = true := plainFor_of_name (by first | (simp [plainName, overriddenIn]; done) | decide +kernel)
theorem dd_prog_14m5_0 : decode prog_14_method_5_code 0 = .ok (.aload_n 0, 1) := by decide +kernel
theorem dd_prog_14m5_1 : decode prog_14_method_5_code 1 = .ok (.invokevirtual 40, 3) := by decide +kernel
theorem dd_prog_14m5_4 : decode prog_14_method_5_code 4 = .ok (.lreturn, 1) := by decide +kernel
theorem ef_own_nlg (m : MethodId) (z0 : Addr) : entryFrame m #[(.ref z0)] 1 = mkF m 0 #[.val (.ref z0)] [] := by first | (simp [entryFrame, mkF, argsToLocals, Value.category]; done) | rfl
def Q_own_nlg (Z : State) (a : Addr) (sd : Int64) (dr : Int64) (h0 : Heap) (n0 : Nat) (zv : Option Value) (zh : Heap) (zL : List Loc) : Prop := zv = some (.long (own_out (sd + ((dr + (1 : Int64)) * (-7046029254386353131 : Int64))))) ∧ Fr n0 zL ∧ Keep h0 zh [a] ∧ Fld Z zh a "com/example/veiled_crown/veiledcrown/engine/Chance" "seed" "J" (.long sd) ∧ Fld Z zh a "com/example/veiled_crown/veiledcrown/engine/Chance" "draws" "J" (.long (dr + (1 : Int64)))
set_option maxRecDepth 65536 in
set_option maxHeartbeats 40000000 in
theorem own_nlg (l : Launch) (Z : State) (a0 : Array Value) (hw : ∀ d ∈ tables_1, d.before a0 Z = true) (ws : List Jvm.Cond) (a : Addr) (sd : Int64) (dr : Int64) (h0 : Heap) (n0 : Nat) (Z0 : n0 ≤ h0.size) (p0_ : Exa Z h0 a "com/example/veiled_crown/veiledcrown/engine/Chance") (p1_ : Fld Z h0 a "com/example/veiled_crown/veiledcrown/engine/Chance" "seed" "J" (.long sd)) (p2_ : Fld Z h0 a "com/example/veiled_crown/veiledcrown/engine/Chance" "draws" "J" (.long dr)) (p3_ : n0 ≤ a) :
    MetFree l (⟨"com/example/veiled_crown/veiledcrown/engine/Chance", "nextLong", "()J"⟩ : MethodName) (head1 (Jvm.Cond.code (⟨"com/example/veiled_crown/veiledcrown/engine/Chance", "nextLong", "()J"⟩ : MethodName) prog_14_method_5_code 1 (some .long) :: ws) ({ frames := 1, cells := 0, slots := 0, locals := 14 } : Room)) (fun za zU => za = #[(.ref a)] ∧ Z.Warmed39 zU.vm ∧ zU.heap = h0) (fun _ _ _ _ _ => True) (fun _ zU zo zU' => ∃ zv zL, zo = .returned zv ∧ Q_own_nlg Z a sd dr h0 n0 zv zU'.heap zL ∧ FrameEnd zU zo zU' zL ({ frames := 1, cells := 0, slots := 0, locals := 14 } : Room).cells ({ frames := 1, cells := 0, slots := 0, locals := 14 } : Room).slots) := by
  refine own_met (y := (⟨"com/example/veiled_crown/veiledcrown/engine/Chance", "nextLong", "()J"⟩ : MethodName)) own_pn7 ?_
  intro p e s m below meth c T0 hx hby hml hown hnm hret hlk hZ e0 X0
  have N0 := Fr.nil n0
  refine own_st (fun zt zk => castTop (ef_own_nlg m a) zk) ?_
  show own_G p e below s _ _ _ (T0.setTop (mkF m 0 #[.val (.ref a)] []))
  refine own_st (fun zt zk => XS.aloadN X0.here hx rfl (hb hby dd_prog_14m5_0) rfl rfl zk) ?_
  show own_G p e below s _ _ _ (T0.setTop (mkF m 1 #[.val (.ref a)] [(.ref a)]))
  obtain ⟨_, T1, L1, X1, hQ1, st1⟩ := own_callP X0 hx hZ (y := (⟨"com/example/veiled_crown/veiledcrown/engine/Chance", "next", "()J"⟩ : MethodName)) (y0 := (⟨"com/example/veiled_crown/veiledcrown/engine/Chance", "nextLong", "()J"⟩ : MethodName)) (a := a) (argsL := []) (rest := []) 0 hown (hw _ (List.mem_of_getElem? (i := 48) rfl)) (hw _ (List.mem_of_getElem? (i := 46) rfl)) rfl (hw _ (List.mem_of_getElem? (i := 50) rfl)) (hw _ (List.mem_of_getElem? (i := 49) rfl)) (hw _ (List.mem_of_getElem? (i := 3) rfl)) (hw _ (List.mem_of_getElem? (i := 51) rfl)) (by decide) (own_nxt l Z a0 hw [] a sd dr h0 n0 Z0 p0_ p1_ p2_ p3_) (by decide) (by decide) e0 p0_ (g := (mkF m 1 #[.val (.ref a)] [(.ref a)])) rfl (by rw [hml]; rfl) own_pd1 rfl rfl (by show 2 * 0 + _ ≤ _; exact Nat.le_of_eq rfl) (hb hby dd_prog_14m5_1) (by decide) (by decide)
  obtain ⟨rfl, N1q, K1, q1_0, q1_1⟩ := hQ1
  have N1 := Fr.app N0 N1q
  refine own_st st1 ?_
  show own_G p e below s _ _ _ (T1.setTop (mkF m 4 #[.val (.ref a)] [(.long (own_out (sd + ((dr + (1 : Int64)) * (-7046029254386353131 : Int64)))))]))
  refine own_retJ X1 hx hlk hret (hb hby dd_prog_14m5_4) (by decide) (by decide) ?_
  show Q_own_nlg Z a sd dr h0 n0 (some (.long (own_out (sd + ((dr + (1 : Int64)) * (-7046029254386353131 : Int64)))))) T1.heap _
  exact ⟨rfl, N1, ((Keep.refl _ _).trans K1 (allS (Or.inl (List.mem_of_getElem? (i := 0) rfl)) all0)), q1_0, q1_1⟩
theorem own_pn8 : plainFor (⟨"com/example/veiled_crown/veiledcrown/engine/ChancePickPinLaw", "fullBlock", "(JI)Z"⟩ : MethodName) = true := plainFor_of_name (by first | (simp [plainName, overriddenIn]; done) | decide +kernel)
theorem dd_method_2_0 : decode method_2_code 0 = .ok (.lload_n 0, 1) := by decide +kernel
theorem dd_method_2_1 : decode method_2_code 1 = .ok (.iload_n 2, 1) := by decide +kernel
theorem dd_method_2_2 : decode method_2_code 2 = .ok (.i2l, 1) := by decide +kernel
theorem dd_method_2_3 : decode method_2_code 3 = .ok (.ldiv, 1) := by decide +kernel
theorem dd_method_2_4 : decode method_2_code 4 = .ok (.lstore_n 3, 1) := by decide +kernel
theorem dd_method_2_5 : decode method_2_code 5 = .ok (.lload_n 3, 1) := by decide +kernel
theorem dd_method_2_6 : decode method_2_code 6 = .ok (.iload_n 2, 1) := by decide +kernel
theorem dd_method_2_7 : decode method_2_code 7 = .ok (.i2l, 1) := by decide +kernel
theorem dd_method_2_8 : decode method_2_code 8 = .ok (.lmul, 1) := by decide +kernel
theorem dd_method_2_9 : decode method_2_code 9 = .ok (.iload_n 2, 1) := by decide +kernel
theorem dd_method_2_10 : decode method_2_code 10 = .ok (.i2l, 1) := by decide +kernel
theorem dd_method_2_11 : decode method_2_code 11 = .ok (.ladd, 1) := by decide +kernel
theorem dd_method_2_12 : decode method_2_code 12 = .ok (.ldc2_w 7, 3) := by decide +kernel
theorem dd_method_2_15 : decode method_2_code 15 = .ok (.lcmp, 1) := by decide +kernel
theorem dd_method_2_16 : decode method_2_code 16 = .ok (.ifCond .gt 7, 3) := by decide +kernel
theorem dd_method_2_23 : decode method_2_code 23 = .ok (.iconst 0, 1) := by decide +kernel
theorem dd_method_2_24 : decode method_2_code 24 = .ok (.ireturn, 1) := by decide +kernel
theorem dd_method_2_19 : decode method_2_code 19 = .ok (.iconst 1, 1) := by decide +kernel
theorem dd_method_2_20 : decode method_2_code 20 = .ok (.goto 4, 3) := by decide +kernel
theorem ef_own_cful (m : MethodId) (z0 : Int64) (z1 : Int32) : entryFrame m #[(.long z0), (.int z1)] 5 = mkF m 0 #[.val (.long z0), .second, .val (.int z1), .unset, .unset] [] := by first | (simp [entryFrame, mkF, argsToLocals, Value.category]; done) | rfl
def Q_own_cful (Z : State) (d : Int64) (bd : Int32) (h0 : Heap) (n0 : Nat) (zv : Option Value) (zh : Heap) (zL : List Loc) : Prop := zv = some (.int (own_b (¬ ((2147483648 : Int64) < (own_fl d bd))))) ∧ Fr n0 zL ∧ zh = h0
set_option maxRecDepth 65536 in
set_option maxHeartbeats 40000000 in
theorem own_cful (l : Launch) (Z : State) (a0 : Array Value) (hw : ∀ d ∈ tables_1, d.before a0 Z = true) (ws : List Jvm.Cond) (d : Int64) (bd : Int32) (h0 : Heap) (n0 : Nat) (Z0 : n0 ≤ h0.size) (p0_ : ¬ (bd.toInt64 = (0 : Int64))) :
    MetFree l (⟨"com/example/veiled_crown/veiledcrown/engine/ChancePickPinLaw", "fullBlock", "(JI)Z"⟩ : MethodName) (head1 (Jvm.Cond.code (⟨"com/example/veiled_crown/veiledcrown/engine/ChancePickPinLaw", "fullBlock", "(JI)Z"⟩ : MethodName) method_2_code 5 (some .boolean) :: ws) ({ frames := 0, cells := 0, slots := 0, locals := 0 } : Room)) (fun za zU => za = #[(.long d), (.int bd)] ∧ Z.Warmed39 zU.vm ∧ zU.heap = h0) (fun _ _ _ _ _ => True) (fun _ zU zo zU' => ∃ zv zL, zo = .returned zv ∧ Q_own_cful Z d bd h0 n0 zv zU'.heap zL ∧ FrameEnd zU zo zU' zL ({ frames := 0, cells := 0, slots := 0, locals := 0 } : Room).cells ({ frames := 0, cells := 0, slots := 0, locals := 0 } : Room).slots) := by
  refine own_met (y := (⟨"com/example/veiled_crown/veiledcrown/engine/ChancePickPinLaw", "fullBlock", "(JI)Z"⟩ : MethodName)) own_pn8 ?_
  intro p e s m below meth c T0 hx hby hml hown hnm hret hlk hZ e0 X0
  have N0 := Fr.nil n0
  refine own_st (fun zt zk => castTop (ef_own_cful m d bd) zk) ?_
  show own_G p e below s _ _ _ (T0.setTop (mkF m 0 #[.val (.long d), .second, .val (.int bd), .unset, .unset] []))
  refine own_st (fun zt zk => XS.lloadN X0.here hx rfl (hb hby dd_method_2_0) rfl zk) ?_
  show own_G p e below s _ _ _ (T0.setTop (mkF m 1 #[.val (.long d), .second, .val (.int bd), .unset, .unset] [(.long d)]))
  refine own_st (fun zt zk => XS.iloadN X0.here hx rfl (hb hby dd_method_2_1) rfl zk) ?_
  show own_G p e below s _ _ _ (T0.setTop (mkF m 2 #[.val (.long d), .second, .val (.int bd), .unset, .unset] [(.int bd), (.long d)]))
  refine own_st (fun zt zk => XS.i2l X0.here hx rfl (hb hby dd_method_2_2) rfl zk) ?_
  show own_G p e below s _ _ _ (T0.setTop (mkF m 3 #[.val (.long d), .second, .val (.int bd), .unset, .unset] [(.long bd.toInt64), (.long d)]))
  refine own_st (fun zt zk => XS.ldiv X0.here hx rfl (hb hby dd_method_2_3) rfl p0_ zk) ?_
  show own_G p e below s _ _ _ (T0.setTop (mkF m 4 #[.val (.long d), .second, .val (.int bd), .unset, .unset] [(.long (d / bd.toInt64))]))
  refine own_st (fun zt zk => XS.lstoreN X0.here hx rfl (hb hby dd_method_2_4) rfl (l' := #[.val (.long d), .second, .val (.int bd), .val (.long (d / bd.toInt64)), .second]) rfl zk) ?_
  show own_G p e below s _ _ _ (T0.setTop (mkF m 5 #[.val (.long d), .second, .val (.int bd), .val (.long (d / bd.toInt64)), .second] []))
  refine own_st (fun zt zk => XS.lloadN X0.here hx rfl (hb hby dd_method_2_5) rfl zk) ?_
  show own_G p e below s _ _ _ (T0.setTop (mkF m 6 #[.val (.long d), .second, .val (.int bd), .val (.long (d / bd.toInt64)), .second] [(.long (d / bd.toInt64))]))
  refine own_st (fun zt zk => XS.iloadN X0.here hx rfl (hb hby dd_method_2_6) rfl zk) ?_
  show own_G p e below s _ _ _ (T0.setTop (mkF m 7 #[.val (.long d), .second, .val (.int bd), .val (.long (d / bd.toInt64)), .second] [(.int bd), (.long (d / bd.toInt64))]))
  refine own_st (fun zt zk => XS.i2l X0.here hx rfl (hb hby dd_method_2_7) rfl zk) ?_
  show own_G p e below s _ _ _ (T0.setTop (mkF m 8 #[.val (.long d), .second, .val (.int bd), .val (.long (d / bd.toInt64)), .second] [(.long bd.toInt64), (.long (d / bd.toInt64))]))
  refine own_st (fun zt zk => XS.lmul X0.here hx rfl (hb hby dd_method_2_8) rfl zk) ?_
  show own_G p e below s _ _ _ (T0.setTop (mkF m 9 #[.val (.long d), .second, .val (.int bd), .val (.long (d / bd.toInt64)), .second] [(.long ((d / bd.toInt64) * bd.toInt64))]))
  refine own_st (fun zt zk => XS.iloadN X0.here hx rfl (hb hby dd_method_2_9) rfl zk) ?_
  show own_G p e below s _ _ _ (T0.setTop (mkF m 10 #[.val (.long d), .second, .val (.int bd), .val (.long (d / bd.toInt64)), .second] [(.int bd), (.long ((d / bd.toInt64) * bd.toInt64))]))
  refine own_st (fun zt zk => XS.i2l X0.here hx rfl (hb hby dd_method_2_10) rfl zk) ?_
  show own_G p e below s _ _ _ (T0.setTop (mkF m 11 #[.val (.long d), .second, .val (.int bd), .val (.long (d / bd.toInt64)), .second] [(.long bd.toInt64), (.long ((d / bd.toInt64) * bd.toInt64))]))
  refine own_st (fun zt zk => XS.ladd X0.here hx rfl (hb hby dd_method_2_11) rfl zk) ?_
  show own_G p e below s _ _ _ (T0.setTop (mkF m 12 #[.val (.long d), .second, .val (.int bd), .val (.long (d / bd.toInt64)), .second] [(.long (((d / bd.toInt64) * bd.toInt64) + bd.toInt64))]))
  refine own_st (X0.ldc2Long hx hown (mvT hZ (hw _ (List.mem_of_getElem? (i := 72) rfl))) (g := (mkF m 12 #[.val (.long d), .second, .val (.int bd), .val (.long (d / bd.toInt64)), .second] [(.long (((d / bd.toInt64) * bd.toInt64) + bd.toInt64))])) rfl (hb hby dd_method_2_12)) ?_
  show own_G p e below s _ _ _ (T0.setTop (mkF m 15 #[.val (.long d), .second, .val (.int bd), .val (.long (d / bd.toInt64)), .second] [(.long (2147483648 : Int64)), (.long (((d / bd.toInt64) * bd.toInt64) + bd.toInt64))]))
  refine own_st (fun zt zk => XS.lcmp X0.here hx rfl (hb hby dd_method_2_15) rfl zk) ?_
  show own_G p e below s _ _ _ (T0.setTop (mkF m 16 #[.val (.long d), .second, .val (.int bd), .val (.long (d / bd.toInt64)), .second] [(.int (lcmpW (((d / bd.toInt64) * bd.toInt64) + bd.toInt64) (2147483648 : Int64)))]))
  by_cases hc16_1 : (2147483648 : Int64) < (((d / bd.toInt64) * bd.toInt64) + bd.toInt64)
  · refine own_st (fun zt zk => XS.ifYes X0.here hx rfl (pc0 := 16) (pc' := 23) rfl (hb hby dd_method_2_16) rfl ((if0 _ _).trans (tlt ((lw_gt (((d / bd.toInt64) * bd.toInt64) + bd.toInt64) (2147483648 : Int64)).mpr hc16_1)).2.2.1) (by decide) (by decide) zk) ?_
    show own_G p e below s _ _ _ (T0.setTop (mkF m 23 #[.val (.long d), .second, .val (.int bd), .val (.long (d / bd.toInt64)), .second] []))
    refine own_st (fun zt zk => XS.iconst X0.here hx rfl (hb hby dd_method_2_23) zk) ?_
    show own_G p e below s _ _ _ (T0.setTop (mkF m 24 #[.val (.long d), .second, .val (.int bd), .val (.long (d / bd.toInt64)), .second] [(.int (0 : Int32))]))
    refine own_retZ X0 hx hlk hret (by decide) (hb hby dd_method_2_24) (by decide) (by decide) ?_
    show Q_own_cful Z d bd h0 n0 (some (.int (0 : Int32))) T0.heap _
    rw [e0]
    exact ⟨(by simp [own_b, own_fl, hc16_1]), N0, rfl⟩
  · refine own_st (fun zt zk => XS.ifNo X0.here hx rfl (hb hby dd_method_2_16) rfl ((if0 _ _).trans (flt (mt (lw_gt (((d / bd.toInt64) * bd.toInt64) + bd.toInt64) (2147483648 : Int64)).mp hc16_1)).2.2.1) zk) ?_
    show own_G p e below s _ _ _ (T0.setTop (mkF m 19 #[.val (.long d), .second, .val (.int bd), .val (.long (d / bd.toInt64)), .second] []))
    refine own_st (fun zt zk => XS.iconst X0.here hx rfl (hb hby dd_method_2_19) zk) ?_
    show own_G p e below s _ _ _ (T0.setTop (mkF m 20 #[.val (.long d), .second, .val (.int bd), .val (.long (d / bd.toInt64)), .second] [(.int (1 : Int32))]))
    refine own_st (fun zt zk => XS.goto X0.here hx rfl (pc0 := 20) (pc' := 24) rfl (hb hby dd_method_2_20) (by decide) (by decide) zk) ?_
    show own_G p e below s _ _ _ (T0.setTop (mkF m 24 #[.val (.long d), .second, .val (.int bd), .val (.long (d / bd.toInt64)), .second] [(.int (1 : Int32))]))
    refine own_retZ X0 hx hlk hret (by decide) (hb hby dd_method_2_24) (by decide) (by decide) ?_
    show Q_own_cful Z d bd h0 n0 (some (.int (1 : Int32))) T0.heap _
    rw [e0]
    exact ⟨(by simp [own_b, own_fl, hc16_1]), N0, rfl⟩
theorem own_pn9 : plainFor (⟨"com/example/veiled_crown/veiledcrown/engine/Chance", "state", "()Lcom/example/veiled_crown/veiledcrown/engine/ChanceState;"⟩ : MethodName) = true := plainFor_of_name (by first | (simp [plainName, overriddenIn]; done) | decide +kernel)
theorem dd_prog_14m3_0 : decode prog_14_method_3_code 0 = .ok (.new 1, 3) := by decide +kernel
theorem dd_prog_14m3_3 : decode prog_14_method_3_code 3 = .ok (.dup, 1) := by decide +kernel
theorem dd_prog_14m3_4 : decode prog_14_method_3_code 4 = .ok (.aload_n 0, 1) := by decide +kernel
theorem dd_prog_14m3_5 : decode prog_14_method_3_code 5 = .ok (.getfield 21, 3) := by decide +kernel
theorem dd_prog_14m3_8 : decode prog_14_method_3_code 8 = .ok (.aload_n 0, 1) := by decide +kernel
theorem dd_prog_14m3_9 : decode prog_14_method_3_code 9 = .ok (.getfield 27, 3) := by decide +kernel
theorem dd_prog_14m3_12 : decode prog_14_method_3_code 12 = .ok (.invokespecial 3, 3) := by decide +kernel
theorem dd_prog_14m3_15 : decode prog_14_method_3_code 15 = .ok (.areturn, 1) := by decide +kernel
theorem ef_own_cst (m : MethodId) (z0 : Addr) : entryFrame m #[(.ref z0)] 1 = mkF m 0 #[.val (.ref z0)] [] := by first | (simp [entryFrame, mkF, argsToLocals, Value.category]; done) | rfl
def Q_own_cst (Z : State) (a : Addr) (sd : Int64) (dr : Int64) (h0 : Heap) (n0 : Nat) (zv : Option Value) (zh : Heap) (zL : List Loc) : Prop := ∃ nb : Addr, zv = some (.ref nb) ∧ Fr n0 zL ∧ Keep h0 zh [] ∧ h0.size ≤ nb ∧ Exa Z zh nb "com/example/veiled_crown/veiledcrown/engine/ChanceState" ∧ Fld Z zh nb "com/example/veiled_crown/veiledcrown/engine/ChanceState" "seed" "J" (.long sd) ∧ Fld Z zh nb "com/example/veiled_crown/veiledcrown/engine/ChanceState" "draws" "J" (.long dr)
set_option maxRecDepth 65536 in
set_option maxHeartbeats 40000000 in
theorem own_cst (l : Launch) (Z : State) (a0 : Array Value) (hw : ∀ d ∈ tables_1, d.before a0 Z = true) (ws : List Jvm.Cond) (a : Addr) (sd : Int64) (dr : Int64) (h0 : Heap) (n0 : Nat) (Z0 : n0 ≤ h0.size) (p0_ : Exa Z h0 a "com/example/veiled_crown/veiledcrown/engine/Chance") (p1_ : Fld Z h0 a "com/example/veiled_crown/veiledcrown/engine/Chance" "seed" "J" (.long sd)) (p2_ : Fld Z h0 a "com/example/veiled_crown/veiledcrown/engine/Chance" "draws" "J" (.long dr)) :
    MetFree l (⟨"com/example/veiled_crown/veiledcrown/engine/Chance", "state", "()Lcom/example/veiled_crown/veiledcrown/engine/ChanceState;"⟩ : MethodName) (head1 (Jvm.Cond.code (⟨"com/example/veiled_crown/veiledcrown/engine/Chance", "state", "()Lcom/example/veiled_crown/veiledcrown/engine/ChanceState;"⟩ : MethodName) prog_14_method_3_code 1 (some (.object "com/example/veiled_crown/veiledcrown/engine/ChanceState")) :: ws) ({ frames := 3, cells := 1, slots := 2, locals := 41 } : Room)) (fun za zU => za = #[(.ref a)] ∧ Z.Warmed39 zU.vm ∧ zU.heap = h0) (fun _ _ _ _ _ => True) (fun _ zU zo zU' => ∃ zv zL, zo = .returned zv ∧ Q_own_cst Z a sd dr h0 n0 zv zU'.heap zL ∧ FrameEnd zU zo zU' zL ({ frames := 3, cells := 1, slots := 2, locals := 41 } : Room).cells ({ frames := 3, cells := 1, slots := 2, locals := 41 } : Room).slots) := by
  refine own_met (y := (⟨"com/example/veiled_crown/veiledcrown/engine/Chance", "state", "()Lcom/example/veiled_crown/veiledcrown/engine/ChanceState;"⟩ : MethodName)) own_pn9 ?_
  intro p e s m below meth c T0 hx hby hml hown hnm hret hlk hZ e0 X0
  have N0 := Fr.nil n0
  refine own_st (fun zt zk => castTop (ef_own_cst m a) zk) ?_
  show own_G p e below s _ _ _ (T0.setTop (mkF m 0 #[.val (.ref a)] []))
  obtain ⟨T1, h1, X1, e1, E1, A1, D1, -, st1⟩ := newO X0 hx hZ hown (hw _ (List.mem_of_getElem? (i := 7) rfl)) (hw _ (List.mem_of_getElem? (i := 8) rfl)) (hw _ (List.mem_of_getElem? (i := 9) rfl)) e0 (g := (mkF m 0 #[.val (.ref a)] [])) rfl (hb hby dd_prog_14m3_0) (by decide) (by decide)
  obtain ⟨b1, g1⟩ : ∃ z, z = h0.size := ⟨_, rfl⟩
  rw [← g1] at A1 D1 st1
  have ne1_a : a ≠ b1 := by rw [g1]; exact Nat.ne_of_lt p0_.lt
  have ge1 : n0 ≤ b1 := Nat.le_trans Z0 (Nat.le_of_eq g1.symm)
  have sz1 : h0.size ≤ b1 := Nat.le_trans (Nat.le_refl h0.size) (Nat.le_of_eq g1.symm)
  refine own_st st1 ?_
  show own_G p e below s _ _ _ (T1.setTop (mkF m 3 #[.val (.ref a)] [(.ref b1)]))
  refine own_st (fun zt zk => XS.dup X1.here hx rfl (hb hby dd_prog_14m3_3) rfl rfl zk) ?_
  show own_G p e below s _ _ _ (T1.setTop (mkF m 4 #[.val (.ref a)] [(.ref b1), (.ref b1)]))
  refine own_st (fun zt zk => XS.aloadN X1.here hx rfl (hb hby dd_prog_14m3_4) rfl rfl zk) ?_
  show own_G p e below s _ _ _ (T1.setTop (mkF m 5 #[.val (.ref a)] [(.ref a), (.ref b1), (.ref b1)]))
  have F2 : Fld Z h1 a "com/example/veiled_crown/veiledcrown/engine/Chance" "seed" "J" (.long sd) := (p1_.ext E1)
  obtain ⟨T3, X3, e3, st3⟩ := getF X1 hx hZ hown (host := "") (Or.inl (hw _ (List.mem_of_getElem? (i := 34) rfl))) Via.refl e1 F2 (g := (mkF m 5 #[.val (.ref a)] [(.ref a), (.ref b1), (.ref b1)])) rfl rfl (hb hby dd_prog_14m3_5)
  refine own_st st3 ?_
  show own_G p e below s _ _ _ (T3.setTop (mkF m 8 #[.val (.ref a)] [(.long sd), (.ref b1), (.ref b1)]))
  refine own_st (fun zt zk => XS.aloadN X3.here hx rfl (hb hby dd_prog_14m3_8) rfl rfl zk) ?_
  show own_G p e below s _ _ _ (T3.setTop (mkF m 9 #[.val (.ref a)] [(.ref a), (.long sd), (.ref b1), (.ref b1)]))
  have F4 : Fld Z h1 a "com/example/veiled_crown/veiledcrown/engine/Chance" "draws" "J" (.long dr) := (p2_.ext E1)
  obtain ⟨T5, X5, e5, st5⟩ := getF X3 hx hZ hown (host := "") (Or.inl (hw _ (List.mem_of_getElem? (i := 41) rfl))) Via.refl e3 F4 (g := (mkF m 9 #[.val (.ref a)] [(.ref a), (.long sd), (.ref b1), (.ref b1)])) rfl rfl (hb hby dd_prog_14m3_9)
  refine own_st st5 ?_
  show own_G p e below s _ _ _ (T5.setTop (mkF m 12 #[.val (.ref a)] [(.long dr), (.long sd), (.ref b1), (.ref b1)]))
  obtain ⟨_, T6, L6, X6, hQ6, st6⟩ := own_callI X5 hx hZ (y := (⟨"com/example/veiled_crown/veiledcrown/engine/ChanceState", "<init>", "(JJ)V"⟩ : MethodName)) (a := b1) (argsL := [(.long sd), (.long dr)]) (rest := [(.ref b1)]) 1 rfl hown (hw _ (List.mem_of_getElem? (i := 10) rfl)) (hw _ (List.mem_of_getElem? (i := 11) rfl)) (hw _ (List.mem_of_getElem? (i := 9) rfl)) (hw _ (List.mem_of_getElem? (i := 12) rfl)) (by decide) (own_csi l Z a0 hw [] b1 sd dr h1 n0 (Nat.le_trans Z0 E1.1) A1 (D1 (Or.inr (hw _ (List.mem_of_getElem? (i := 22) rfl))) (ty := .long) (by decide)) (D1 (Or.inr (hw _ (List.mem_of_getElem? (i := 24) rfl))) (ty := .long) (by decide)) ge1) (by decide) (by decide) e5 (g := (mkF m 12 #[.val (.ref a)] [(.long dr), (.long sd), (.ref b1), (.ref b1)])) rfl (by rw [hml]; rfl) own_pd2 rfl rfl (by show 2 * 0 + _ ≤ _; exact Nat.le_of_eq rfl) (hb hby dd_prog_14m3_12) (by decide) (by decide)
  obtain ⟨rfl, N6q, K6, q6_0, q6_1⟩ := hQ6
  have N6 := Fr.app N0 N6q
  refine own_st st6 ?_
  show own_G p e below s _ _ _ (T6.setTop (mkF m 15 #[.val (.ref a)] [(.ref b1)]))
  have E7 : Exa Z T6.heap b1 "com/example/veiled_crown/veiledcrown/engine/ChanceState" := (A1.keep K6)
  refine own_retA X6 hx hlk hret rfl rfl (hb hby dd_prog_14m3_15) (by decide) (by decide) ?_
  show Q_own_cst Z a sd dr h0 n0 (some (.ref b1)) T6.heap _
  exact ⟨b1, rfl, N6, (((Keep.refl _ _).ext E1).trans K6 (allS (Or.inr sz1) all0)), sz1, E7, q6_0, q6_1⟩
theorem own_pn10 : plainFor (⟨"com/example/veiled_crown/veiledcrown/engine/Chance", "pick", "(I)I"⟩ : MethodName) = true := plainFor_of_name (by first | (simp [plainName, overriddenIn]; done) | decide +kernel)
theorem dd_prog_14m4_0 : decode prog_14_method_4_code 0 = .ok (.iload_n 1, 1) := by decide +kernel
theorem dd_prog_14m4_1 : decode prog_14_method_4_code 1 = .ok (.ifCond .gt 17, 3) := by decide +kernel
theorem dd_prog_14m4_18 : decode prog_14_method_4_code 18 = .ok (.ldc2_w 38, 3) := by decide +kernel
theorem dd_prog_14m4_21 : decode prog_14_method_4_code 21 = .ok (.ldc2_w 38, 3) := by decide +kernel
theorem dd_prog_14m4_24 : decode prog_14_method_4_code 24 = .ok (.iload_n 1, 1) := by decide +kernel
theorem dd_prog_14m4_25 : decode prog_14_method_4_code 25 = .ok (.i2l, 1) := by decide +kernel
theorem dd_prog_14m4_26 : decode prog_14_method_4_code 26 = .ok (.lrem, 1) := by decide +kernel
theorem dd_prog_14m4_27 : decode prog_14_method_4_code 27 = .ok (.lsub, 1) := by decide +kernel
theorem dd_prog_14m4_28 : decode prog_14_method_4_code 28 = .ok (.lstore_n 2, 1) := by decide +kernel
theorem dd_prog_14m4_29 : decode prog_14_method_4_code 29 = .ok (.aload_n 0, 1) := by decide +kernel
theorem dd_prog_14m4_30 : decode prog_14_method_4_code 30 = .ok (.invokevirtual 40, 3) := by decide +kernel
theorem dd_prog_14m4_33 : decode prog_14_method_4_code 33 = .ok (.bipush 33, 2) := by decide +kernel
theorem dd_prog_14m4_35 : decode prog_14_method_4_code 35 = .ok (.lushr, 1) := by decide +kernel
theorem dd_prog_14m4_36 : decode prog_14_method_4_code 36 = .ok (.lstore 4, 2) := by decide +kernel
theorem dd_prog_14m4_38 : decode prog_14_method_4_code 38 = .ok (.lload 4, 2) := by decide +kernel
theorem dd_prog_14m4_40 : decode prog_14_method_4_code 40 = .ok (.lload_n 2, 1) := by decide +kernel
theorem dd_prog_14m4_41 : decode prog_14_method_4_code 41 = .ok (.lcmp, 1) := by decide +kernel
theorem dd_prog_14m4_42 : decode prog_14_method_4_code 42 = .ok (.ifCond .ge (-13), 3) := by decide +kernel
theorem dd_prog_14m4_45 : decode prog_14_method_4_code 45 = .ok (.lload 4, 2) := by decide +kernel
theorem dd_prog_14m4_47 : decode prog_14_method_4_code 47 = .ok (.iload_n 1, 1) := by decide +kernel
theorem dd_prog_14m4_48 : decode prog_14_method_4_code 48 = .ok (.i2l, 1) := by decide +kernel
theorem dd_prog_14m4_49 : decode prog_14_method_4_code 49 = .ok (.lrem, 1) := by decide +kernel
theorem dd_prog_14m4_50 : decode prog_14_method_4_code 50 = .ok (.l2i, 1) := by decide +kernel
theorem dd_prog_14m4_51 : decode prog_14_method_4_code 51 = .ok (.ireturn, 1) := by decide +kernel
theorem ef_own_cpick (m : MethodId) (z0 : Addr) (z1 : Int32) : entryFrame m #[(.ref z0), (.int z1)] 6 = mkF m 0 #[.val (.ref z0), .val (.int z1), .unset, .unset, .unset, .unset] [] := by first | (simp [entryFrame, mkF, argsToLocals, Value.category]; done) | rfl
def Q_own_cpick (Z : State) (a : Addr) (bd : Int32) (sd : Int64) (kA : Nat) (h0 : Heap) (n0 : Nat) (zv : Option Value) (zh : Heap) (zL : List Loc) : Prop := zv = some (.int (own_pv sd bd kA)) ∧ Fr n0 zL ∧ Keep h0 zh [a] ∧ Fld Z zh a "com/example/veiled_crown/veiledcrown/engine/Chance" "seed" "J" (.long sd) ∧ Fld Z zh a "com/example/veiled_crown/veiledcrown/engine/Chance" "draws" "J" (.long (Int64.ofNat kA))
set_option maxRecDepth 65536 in
set_option maxHeartbeats 40000000 in
theorem own_cpick (l : Launch) (Z : State) (a0 : Array Value) (hw : ∀ d ∈ tables_1, d.before a0 Z = true) (ws : List Jvm.Cond) (a : Addr) (bd : Int32) (sd : Int64) (kA : Nat) (h0 : Heap) (n0 : Nat) (Z0 : n0 ≤ h0.size) (p0_ : Exa Z h0 a "com/example/veiled_crown/veiledcrown/engine/Chance") (p1_ : Fld Z h0 a "com/example/veiled_crown/veiledcrown/engine/Chance" "seed" "J" (.long sd)) (p2_ : Fld Z h0 a "com/example/veiled_crown/veiledcrown/engine/Chance" "draws" "J" (.long (0 : Int64))) (p3_ : n0 ≤ a) (p4_ : (0 : Int32) < bd) (p5_ : 1 ≤ kA) (p6_ : own_draw sd (Int64.ofNat kA) < (own_lim bd)) (p7_ : ∀ j, j < kA → ¬ (1 ≤ j ∧ own_draw sd (Int64.ofNat j) < (own_lim bd))) (p8_ : 1 ≤ bd.toInt) :
    MetFree l (⟨"com/example/veiled_crown/veiledcrown/engine/Chance", "pick", "(I)I"⟩ : MethodName) (head1 (Jvm.Cond.code (⟨"com/example/veiled_crown/veiledcrown/engine/Chance", "pick", "(I)I"⟩ : MethodName) prog_14_method_4_code 6 (some .int) :: ws) ({ frames := 1, cells := 0, slots := 0, locals := 14 } : Room)) (fun za zU => za = #[(.ref a), (.int bd)] ∧ Z.Warmed39 zU.vm ∧ zU.heap = h0) (fun _ _ _ _ _ => True) (fun _ zU zo zU' => ∃ zv zL, zo = .returned zv ∧ Q_own_cpick Z a bd sd kA h0 n0 zv zU'.heap zL ∧ FrameEnd zU zo zU' zL ({ frames := 1, cells := 0, slots := 0, locals := 14 } : Room).cells ({ frames := 1, cells := 0, slots := 0, locals := 14 } : Room).slots) := by
  refine own_met (y := (⟨"com/example/veiled_crown/veiledcrown/engine/Chance", "pick", "(I)I"⟩ : MethodName)) own_pn10 ?_
  intro p e s m below meth c T0 hx hby hml hown hnm hret hlk hZ e0 X0
  have N0 := Fr.nil n0
  refine own_st (fun zt zk => castTop (ef_own_cpick m a bd) zk) ?_
  show own_G p e below s _ _ _ (T0.setTop (mkF m 0 #[.val (.ref a), .val (.int bd), .unset, .unset, .unset, .unset] []))
  refine own_st (fun zt zk => XS.iloadN X0.here hx rfl (hb hby dd_prog_14m4_0) rfl zk) ?_
  show own_G p e below s _ _ _ (T0.setTop (mkF m 1 #[.val (.ref a), .val (.int bd), .unset, .unset, .unset, .unset] [(.int bd)]))
  refine own_st (fun zt zk => XS.ifYes X0.here hx rfl (pc0 := 1) (pc' := 18) rfl (hb hby dd_prog_14m4_1) rfl ((if0 _ _).trans (tlt p4_).2.2.1) (by decide) (by decide) zk) ?_
  show own_G p e below s _ _ _ (T0.setTop (mkF m 18 #[.val (.ref a), .val (.int bd), .unset, .unset, .unset, .unset] []))
  refine own_st (X0.ldc2Long hx hown (mvT hZ (hw _ (List.mem_of_getElem? (i := 60) rfl))) (g := (mkF m 18 #[.val (.ref a), .val (.int bd), .unset, .unset, .unset, .unset] [])) rfl (hb hby dd_prog_14m4_18)) ?_
  show own_G p e below s _ _ _ (T0.setTop (mkF m 21 #[.val (.ref a), .val (.int bd), .unset, .unset, .unset, .unset] [(.long (2147483648 : Int64))]))
  refine own_st (X0.ldc2Long hx hown (mvT hZ (hw _ (List.mem_of_getElem? (i := 60) rfl))) (g := (mkF m 21 #[.val (.ref a), .val (.int bd), .unset, .unset, .unset, .unset] [(.long (2147483648 : Int64))])) rfl (hb hby dd_prog_14m4_21)) ?_
  show own_G p e below s _ _ _ (T0.setTop (mkF m 24 #[.val (.ref a), .val (.int bd), .unset, .unset, .unset, .unset] [(.long (2147483648 : Int64)), (.long (2147483648 : Int64))]))
  refine own_st (fun zt zk => XS.iloadN X0.here hx rfl (hb hby dd_prog_14m4_24) rfl zk) ?_
  show own_G p e below s _ _ _ (T0.setTop (mkF m 25 #[.val (.ref a), .val (.int bd), .unset, .unset, .unset, .unset] [(.int bd), (.long (2147483648 : Int64)), (.long (2147483648 : Int64))]))
  refine own_st (fun zt zk => XS.i2l X0.here hx rfl (hb hby dd_prog_14m4_25) rfl zk) ?_
  show own_G p e below s _ _ _ (T0.setTop (mkF m 26 #[.val (.ref a), .val (.int bd), .unset, .unset, .unset, .unset] [(.long bd.toInt64), (.long (2147483648 : Int64)), (.long (2147483648 : Int64))]))
  refine own_st (fun zt zk => XS.lrem X0.here hx rfl (hb hby dd_prog_14m4_26) rfl (own_nzb p8_) zk) ?_
  show own_G p e below s _ _ _ (T0.setTop (mkF m 27 #[.val (.ref a), .val (.int bd), .unset, .unset, .unset, .unset] [(.long ((2147483648 : Int64) - ((2147483648 : Int64) / bd.toInt64) * bd.toInt64)), (.long (2147483648 : Int64))]))
  refine own_st (fun zt zk => XS.lsub X0.here hx rfl (hb hby dd_prog_14m4_27) rfl zk) ?_
  show own_G p e below s _ _ _ (T0.setTop (mkF m 28 #[.val (.ref a), .val (.int bd), .unset, .unset, .unset, .unset] [(.long ((2147483648 : Int64) - ((2147483648 : Int64) - ((2147483648 : Int64) / bd.toInt64) * bd.toInt64)))]))
  refine own_st (fun zt zk => XS.lstoreN X0.here hx rfl (hb hby dd_prog_14m4_28) rfl (l' := #[.val (.ref a), .val (.int bd), .val (.long ((2147483648 : Int64) - ((2147483648 : Int64) - ((2147483648 : Int64) / bd.toInt64) * bd.toInt64))), .second, .unset, .unset]) rfl zk) ?_
  show own_G p e below s _ _ _ (T0.setTop (mkF m 29 #[.val (.ref a), .val (.int bd), .val (.long ((2147483648 : Int64) - ((2147483648 : Int64) - ((2147483648 : Int64) / bd.toInt64) * bd.toInt64))), .second, .unset, .unset] []))
  show own_G p e below s _ _ _ (T0.setTop (mkF m 29 #[.val (.ref a), .val (.int bd), .val (.long (own_lim bd)), .second, .unset, .unset] []))
  refine own_st (fun zt zk => XS.aloadN X0.here hx rfl (hb hby dd_prog_14m4_29) rfl rfl zk) ?_
  show own_G p e below s _ _ _ (T0.setTop (mkF m 30 #[.val (.ref a), .val (.int bd), .val (.long (own_lim bd)), .second, .unset, .unset] [(.ref a)]))
  obtain ⟨_, T1, L1, X1, hQ1, st1⟩ := own_callP X0 hx hZ (y := (⟨"com/example/veiled_crown/veiledcrown/engine/Chance", "next", "()J"⟩ : MethodName)) (y0 := (⟨"com/example/veiled_crown/veiledcrown/engine/Chance", "nextLong", "()J"⟩ : MethodName)) (a := a) (argsL := []) (rest := []) 0 hown (hw _ (List.mem_of_getElem? (i := 48) rfl)) (hw _ (List.mem_of_getElem? (i := 46) rfl)) rfl (hw _ (List.mem_of_getElem? (i := 50) rfl)) (hw _ (List.mem_of_getElem? (i := 49) rfl)) (hw _ (List.mem_of_getElem? (i := 3) rfl)) (hw _ (List.mem_of_getElem? (i := 51) rfl)) (by decide) (own_nxt l Z a0 hw [] a sd (0 : Int64) h0 n0 Z0 p0_ p1_ p2_ p3_) (by decide) (by decide) e0 p0_ (g := (mkF m 30 #[.val (.ref a), .val (.int bd), .val (.long (own_lim bd)), .second, .unset, .unset] [(.ref a)])) rfl (by rw [hml]; rfl) own_pd1 rfl rfl (by show 2 * 0 + _ ≤ _; exact Nat.le_of_eq rfl) (hb hby dd_prog_14m4_30) (by decide) (by decide)
  obtain ⟨rfl, N1q, K1, q1_0, q1_1⟩ := hQ1
  have N1 := Fr.app N0 N1q
  refine own_st st1 ?_
  show own_G p e below s _ _ _ (T1.setTop (mkF m 33 #[.val (.ref a), .val (.int bd), .val (.long (own_lim bd)), .second, .unset, .unset] [(.long (own_out (sd + (((0 : Int64) + (1 : Int64)) * (-7046029254386353131 : Int64)))))]))
  refine own_st (fun zt zk => XS.bipush X1.here hx rfl (hb hby dd_prog_14m4_33) zk) ?_
  show own_G p e below s _ _ _ (T1.setTop (mkF m 35 #[.val (.ref a), .val (.int bd), .val (.long (own_lim bd)), .second, .unset, .unset] [(.int (33 : Int32)), (.long (own_out (sd + (((0 : Int64) + (1 : Int64)) * (-7046029254386353131 : Int64)))))]))
  refine own_st (fun zt zk => XS.lushr X1.here hx rfl (hb hby dd_prog_14m4_35) rfl zk) ?_
  show own_G p e below s _ _ _ (T1.setTop (mkF m 36 #[.val (.ref a), .val (.int bd), .val (.long (own_lim bd)), .second, .unset, .unset] [(.long (((own_out (sd + (((0 : Int64) + (1 : Int64)) * (-7046029254386353131 : Int64)))).toUInt64 >>> ((33 : Int32) &&& 0x3f).toInt64.toUInt64).toInt64))]))
  refine own_st (fun zt zk => XS.lstore X1.here hx rfl (hb hby dd_prog_14m4_36) rfl (l' := #[.val (.ref a), .val (.int bd), .val (.long (own_lim bd)), .second, .val (.long (((own_out (sd + (((0 : Int64) + (1 : Int64)) * (-7046029254386353131 : Int64)))).toUInt64 >>> ((33 : Int32) &&& 0x3f).toInt64.toUInt64).toInt64)), .second]) rfl zk) ?_
  show own_G p e below s _ _ _ (T1.setTop (mkF m 38 #[.val (.ref a), .val (.int bd), .val (.long (own_lim bd)), .second, .val (.long (((own_out (sd + (((0 : Int64) + (1 : Int64)) * (-7046029254386353131 : Int64)))).toUInt64 >>> ((33 : Int32) &&& 0x3f).toInt64.toUInt64).toInt64)), .second] []))
  have E2 : Exa Z T1.heap a "com/example/veiled_crown/veiledcrown/engine/Chance" := (p0_.keep K1)
  have hL : ∀ (n k : Nat) (kk : Int64) (T1 : State) (hp1 : Heap) (locs1 : List Loc) (X1 : Stand p l e ({ frames := 1, cells := 0, slots := 0, locals := 14 } : Room) s m #[(.ref a), (.int bd)] below meth c T1 locs1 0 0) (e1 : T1.heap = hp1) (N1 : Fr n0 locs1) (K1 : Keep h0 hp1 [a]) (E1 : Exa Z hp1 a "com/example/veiled_crown/veiledcrown/engine/Chance") (F1 : Fld Z hp1 a "com/example/veiled_crown/veiledcrown/engine/Chance" "seed" "J" (.long sd)) (F2 : Fld Z hp1 a "com/example/veiled_crown/veiledcrown/engine/Chance" "draws" "J" (.long kk)) (hkk : kk = Int64.ofNat k) (hn : k + n = kA) (h1k : 1 ≤ k), own_G p e below s (Q_own_cpick Z a bd sd kA h0 n0) ({ frames := 1, cells := 0, slots := 0, locals := 14 } : Room).cells ({ frames := 1, cells := 0, slots := 0, locals := 14 } : Room).slots (T1.setTop (mkF m 38 #[.val (.ref a), .val (.int bd), .val (.long (own_lim bd)), .second, .val (.long (own_draw sd kk)), .second] [])) := by
    intro n
    induction n with
    | zero =>
      intro k kk T1 hp1 locs1 X1 e1 N1 K1 E1 F1 F2 hkk hn h1k
      show own_G p e below s _ _ _ (T1.setTop (mkF m 38 #[.val (.ref a), .val (.int bd), .val (.long (own_lim bd)), .second, .val (.long (own_draw sd kk)), .second] []))
      refine own_st (fun zt zk => XS.lload X1.here hx rfl (hb hby dd_prog_14m4_38) rfl zk) ?_
      show own_G p e below s _ _ _ (T1.setTop (mkF m 40 #[.val (.ref a), .val (.int bd), .val (.long (own_lim bd)), .second, .val (.long (own_draw sd kk)), .second] [(.long (own_draw sd kk))]))
      refine own_st (fun zt zk => XS.lloadN X1.here hx rfl (hb hby dd_prog_14m4_40) rfl zk) ?_
      show own_G p e below s _ _ _ (T1.setTop (mkF m 41 #[.val (.ref a), .val (.int bd), .val (.long (own_lim bd)), .second, .val (.long (own_draw sd kk)), .second] [(.long (own_lim bd)), (.long (own_draw sd kk))]))
      refine own_st (fun zt zk => XS.lcmp X1.here hx rfl (hb hby dd_prog_14m4_41) rfl zk) ?_
      show own_G p e below s _ _ _ (T1.setTop (mkF m 42 #[.val (.ref a), .val (.int bd), .val (.long (own_lim bd)), .second, .val (.long (own_draw sd kk)), .second] [(.int (lcmpW (own_draw sd kk) (own_lim bd)))]))
      have hz : k = kA := by omega
      have hkA : kk = Int64.ofNat kA := by rw [hkk, hz]
      have hc42_3 : (own_draw sd kk) < (own_lim bd) := by rw [hkA]; exact p6_
      refine own_st (fun zt zk => XS.ifNo X1.here hx rfl (hb hby dd_prog_14m4_42) rfl ((if0 _ _).trans (tlt ((lw_lt (own_draw sd kk) (own_lim bd)).mpr hc42_3)).2.1) zk) ?_
      show own_G p e below s _ _ _ (T1.setTop (mkF m 45 #[.val (.ref a), .val (.int bd), .val (.long (own_lim bd)), .second, .val (.long (own_draw sd kk)), .second] []))
      refine own_st (fun zt zk => XS.lload X1.here hx rfl (hb hby dd_prog_14m4_45) rfl zk) ?_
      show own_G p e below s _ _ _ (T1.setTop (mkF m 47 #[.val (.ref a), .val (.int bd), .val (.long (own_lim bd)), .second, .val (.long (own_draw sd kk)), .second] [(.long (own_draw sd kk))]))
      refine own_st (fun zt zk => XS.iloadN X1.here hx rfl (hb hby dd_prog_14m4_47) rfl zk) ?_
      show own_G p e below s _ _ _ (T1.setTop (mkF m 48 #[.val (.ref a), .val (.int bd), .val (.long (own_lim bd)), .second, .val (.long (own_draw sd kk)), .second] [(.int bd), (.long (own_draw sd kk))]))
      refine own_st (fun zt zk => XS.i2l X1.here hx rfl (hb hby dd_prog_14m4_48) rfl zk) ?_
      show own_G p e below s _ _ _ (T1.setTop (mkF m 49 #[.val (.ref a), .val (.int bd), .val (.long (own_lim bd)), .second, .val (.long (own_draw sd kk)), .second] [(.long bd.toInt64), (.long (own_draw sd kk))]))
      refine own_st (fun zt zk => XS.lrem X1.here hx rfl (hb hby dd_prog_14m4_49) rfl (own_nzb p8_) zk) ?_
      show own_G p e below s _ _ _ (T1.setTop (mkF m 50 #[.val (.ref a), .val (.int bd), .val (.long (own_lim bd)), .second, .val (.long (own_draw sd kk)), .second] [(.long ((own_draw sd kk) - ((own_draw sd kk) / bd.toInt64) * bd.toInt64))]))
      refine own_st (fun zt zk => XS.l2i X1.here hx rfl (hb hby dd_prog_14m4_50) rfl zk) ?_
      show own_G p e below s _ _ _ (T1.setTop (mkF m 51 #[.val (.ref a), .val (.int bd), .val (.long (own_lim bd)), .second, .val (.long (own_draw sd kk)), .second] [(.int ((own_draw sd kk) - ((own_draw sd kk) / bd.toInt64) * bd.toInt64).toInt32)]))
      refine own_retI X1 hx hlk hret (hb hby dd_prog_14m4_51) (by decide) (by decide) ?_
      show Q_own_cpick Z a bd sd kA h0 n0 (some (.int ((own_draw sd kk) - ((own_draw sd kk) / bd.toInt64) * bd.toInt64).toInt32)) T1.heap _
      rw [e1]
      exact ⟨(by rw [hkA]; rfl), N1, K1, F1, (by rw [← hkA]; exact F2)⟩
    | succ n ih =>
      intro k kk T1 hp1 locs1 X1 e1 N1 K1 E1 F1 F2 hkk hn h1k
      show own_G p e below s _ _ _ (T1.setTop (mkF m 38 #[.val (.ref a), .val (.int bd), .val (.long (own_lim bd)), .second, .val (.long (own_draw sd kk)), .second] []))
      refine own_st (fun zt zk => XS.lload X1.here hx rfl (hb hby dd_prog_14m4_38) rfl zk) ?_
      show own_G p e below s _ _ _ (T1.setTop (mkF m 40 #[.val (.ref a), .val (.int bd), .val (.long (own_lim bd)), .second, .val (.long (own_draw sd kk)), .second] [(.long (own_draw sd kk))]))
      refine own_st (fun zt zk => XS.lloadN X1.here hx rfl (hb hby dd_prog_14m4_40) rfl zk) ?_
      show own_G p e below s _ _ _ (T1.setTop (mkF m 41 #[.val (.ref a), .val (.int bd), .val (.long (own_lim bd)), .second, .val (.long (own_draw sd kk)), .second] [(.long (own_lim bd)), (.long (own_draw sd kk))]))
      refine own_st (fun zt zk => XS.lcmp X1.here hx rfl (hb hby dd_prog_14m4_41) rfl zk) ?_
      show own_G p e below s _ _ _ (T1.setTop (mkF m 42 #[.val (.ref a), .val (.int bd), .val (.long (own_lim bd)), .second, .val (.long (own_draw sd kk)), .second] [(.int (lcmpW (own_draw sd kk) (own_lim bd)))]))
      by_cases hc42_4 : (own_draw sd kk) < (own_lim bd)
      · refine own_st (fun zt zk => XS.ifNo X1.here hx rfl (hb hby dd_prog_14m4_42) rfl ((if0 _ _).trans (tlt ((lw_lt (own_draw sd kk) (own_lim bd)).mpr hc42_4)).2.1) zk) ?_
        show own_G p e below s _ _ _ (T1.setTop (mkF m 45 #[.val (.ref a), .val (.int bd), .val (.long (own_lim bd)), .second, .val (.long (own_draw sd kk)), .second] []))
        have hz : k = kA := by
          rcases Nat.lt_or_ge k kA with q | q
          · exact absurd ⟨h1k, by rw [← hkk]; exact hc42_4⟩ (p7_ k q)
          · omega
        have hkA : kk = Int64.ofNat kA := by rw [hkk, hz]
        refine own_st (fun zt zk => XS.lload X1.here hx rfl (hb hby dd_prog_14m4_45) rfl zk) ?_
        show own_G p e below s _ _ _ (T1.setTop (mkF m 47 #[.val (.ref a), .val (.int bd), .val (.long (own_lim bd)), .second, .val (.long (own_draw sd kk)), .second] [(.long (own_draw sd kk))]))
        refine own_st (fun zt zk => XS.iloadN X1.here hx rfl (hb hby dd_prog_14m4_47) rfl zk) ?_
        show own_G p e below s _ _ _ (T1.setTop (mkF m 48 #[.val (.ref a), .val (.int bd), .val (.long (own_lim bd)), .second, .val (.long (own_draw sd kk)), .second] [(.int bd), (.long (own_draw sd kk))]))
        refine own_st (fun zt zk => XS.i2l X1.here hx rfl (hb hby dd_prog_14m4_48) rfl zk) ?_
        show own_G p e below s _ _ _ (T1.setTop (mkF m 49 #[.val (.ref a), .val (.int bd), .val (.long (own_lim bd)), .second, .val (.long (own_draw sd kk)), .second] [(.long bd.toInt64), (.long (own_draw sd kk))]))
        refine own_st (fun zt zk => XS.lrem X1.here hx rfl (hb hby dd_prog_14m4_49) rfl (own_nzb p8_) zk) ?_
        show own_G p e below s _ _ _ (T1.setTop (mkF m 50 #[.val (.ref a), .val (.int bd), .val (.long (own_lim bd)), .second, .val (.long (own_draw sd kk)), .second] [(.long ((own_draw sd kk) - ((own_draw sd kk) / bd.toInt64) * bd.toInt64))]))
        refine own_st (fun zt zk => XS.l2i X1.here hx rfl (hb hby dd_prog_14m4_50) rfl zk) ?_
        show own_G p e below s _ _ _ (T1.setTop (mkF m 51 #[.val (.ref a), .val (.int bd), .val (.long (own_lim bd)), .second, .val (.long (own_draw sd kk)), .second] [(.int ((own_draw sd kk) - ((own_draw sd kk) / bd.toInt64) * bd.toInt64).toInt32)]))
        refine own_retI X1 hx hlk hret (hb hby dd_prog_14m4_51) (by decide) (by decide) ?_
        show Q_own_cpick Z a bd sd kA h0 n0 (some (.int ((own_draw sd kk) - ((own_draw sd kk) / bd.toInt64) * bd.toInt64).toInt32)) T1.heap _
        rw [e1]
        exact ⟨(by rw [hkA]; rfl), N1, K1, F1, (by rw [← hkA]; exact F2)⟩
      · refine own_st (fun zt zk => XS.ifYes X1.here hx rfl (pc0 := 42) (pc' := 29) rfl (hb hby dd_prog_14m4_42) rfl ((if0 _ _).trans (flt (mt (lw_lt (own_draw sd kk) (own_lim bd)).mp hc42_4)).2.1) (by decide) (by decide) zk) ?_
        show own_G p e below s _ _ _ (T1.setTop (mkF m 29 #[.val (.ref a), .val (.int bd), .val (.long (own_lim bd)), .second, .val (.long (own_draw sd kk)), .second] []))
        refine own_st (fun zt zk => XS.aloadN X1.here hx rfl (hb hby dd_prog_14m4_29) rfl rfl zk) ?_
        show own_G p e below s _ _ _ (T1.setTop (mkF m 30 #[.val (.ref a), .val (.int bd), .val (.long (own_lim bd)), .second, .val (.long (own_draw sd kk)), .second] [(.ref a)]))
        obtain ⟨_, T5, L5, X5, hQ5, st5⟩ := own_callP X1 hx hZ (y := (⟨"com/example/veiled_crown/veiledcrown/engine/Chance", "next", "()J"⟩ : MethodName)) (y0 := (⟨"com/example/veiled_crown/veiledcrown/engine/Chance", "nextLong", "()J"⟩ : MethodName)) (a := a) (argsL := []) (rest := []) 0 hown (hw _ (List.mem_of_getElem? (i := 48) rfl)) (hw _ (List.mem_of_getElem? (i := 46) rfl)) rfl (hw _ (List.mem_of_getElem? (i := 50) rfl)) (hw _ (List.mem_of_getElem? (i := 49) rfl)) (hw _ (List.mem_of_getElem? (i := 3) rfl)) (hw _ (List.mem_of_getElem? (i := 51) rfl)) (by decide) (own_nxt l Z a0 hw [] a sd kk hp1 n0 (Nat.le_trans Z0 K1.1) E1 F1 F2 p3_) (by decide) (by decide) e1 E1 (g := (mkF m 30 #[.val (.ref a), .val (.int bd), .val (.long (own_lim bd)), .second, .val (.long (own_draw sd kk)), .second] [(.ref a)])) rfl (by rw [hml]; rfl) own_pd1 rfl rfl (by show 2 * 0 + _ ≤ _; exact Nat.le_of_eq rfl) (hb hby dd_prog_14m4_30) (by decide) (by decide)
        obtain ⟨rfl, N5q, K5, q5_0, q5_1⟩ := hQ5
        have N5 := Fr.app N1 N5q
        refine own_st st5 ?_
        show own_G p e below s _ _ _ (T5.setTop (mkF m 33 #[.val (.ref a), .val (.int bd), .val (.long (own_lim bd)), .second, .val (.long (own_draw sd kk)), .second] [(.long (own_out (sd + ((kk + (1 : Int64)) * (-7046029254386353131 : Int64)))))]))
        refine own_st (fun zt zk => XS.bipush X5.here hx rfl (hb hby dd_prog_14m4_33) zk) ?_
        show own_G p e below s _ _ _ (T5.setTop (mkF m 35 #[.val (.ref a), .val (.int bd), .val (.long (own_lim bd)), .second, .val (.long (own_draw sd kk)), .second] [(.int (33 : Int32)), (.long (own_out (sd + ((kk + (1 : Int64)) * (-7046029254386353131 : Int64)))))]))
        refine own_st (fun zt zk => XS.lushr X5.here hx rfl (hb hby dd_prog_14m4_35) rfl zk) ?_
        show own_G p e below s _ _ _ (T5.setTop (mkF m 36 #[.val (.ref a), .val (.int bd), .val (.long (own_lim bd)), .second, .val (.long (own_draw sd kk)), .second] [(.long (((own_out (sd + ((kk + (1 : Int64)) * (-7046029254386353131 : Int64)))).toUInt64 >>> ((33 : Int32) &&& 0x3f).toInt64.toUInt64).toInt64))]))
        refine own_st (fun zt zk => XS.lstore X5.here hx rfl (hb hby dd_prog_14m4_36) rfl (l' := #[.val (.ref a), .val (.int bd), .val (.long (own_lim bd)), .second, .val (.long (((own_out (sd + ((kk + (1 : Int64)) * (-7046029254386353131 : Int64)))).toUInt64 >>> ((33 : Int32) &&& 0x3f).toInt64.toUInt64).toInt64)), .second]) rfl zk) ?_
        show own_G p e below s _ _ _ (T5.setTop (mkF m 38 #[.val (.ref a), .val (.int bd), .val (.long (own_lim bd)), .second, .val (.long (((own_out (sd + ((kk + (1 : Int64)) * (-7046029254386353131 : Int64)))).toUInt64 >>> ((33 : Int32) &&& 0x3f).toInt64.toUInt64).toInt64)), .second] []))
        have E6 : Exa Z T5.heap a "com/example/veiled_crown/veiledcrown/engine/Chance" := (E1.keep K5)
        exact ih (k + 1) (kk + 1) T5 T5.heap _ X5 rfl N5 (K1.trans K5 (allS (Or.inl (List.mem_of_getElem? (i := 0) rfl)) all0)) E6 q5_0 q5_1 (by rw [hkk, Int64.ofNat_add]; rfl) (by omega) (by omega)
  exact hL (kA - 1) 1 _ T1 T1.heap _ X1 rfl N1 ((Keep.refl _ _).trans K1 (allS (Or.inl (List.mem_of_getElem? (i := 0) rfl)) all0)) E2 q1_0 q1_1 (by decide) (by omega) (by omega)
theorem own_pn11 : plainFor (⟨"com/example/veiled_crown/veiledcrown/engine/ChancePickPinLaw", "law", "(JI)Z"⟩ : MethodName) = true := plainFor_of_name (by first | (simp [plainName, overriddenIn]; done) | decide +kernel)
theorem own_pd4 : parseMethodDescriptor "(J)V" = some ⟨[.long], none⟩ := by decide +kernel
theorem own_pd5 : parseMethodDescriptor "(I)I" = some ⟨[.int], some .int⟩ := by decide +kernel
theorem own_pd6 : parseMethodDescriptor "()Lcom/example/veiled_crown/veiledcrown/engine/ChanceState;" = some ⟨[], some (.object "com/example/veiled_crown/veiledcrown/engine/ChanceState")⟩ := by decide +kernel
theorem own_pd7 : parseMethodDescriptor "(JI)Z" = some ⟨[.long, .int], some .boolean⟩ := by decide +kernel
theorem ef_own_law (m : MethodId) (z0 : Int64) (z1 : Int32) : entryFrame m #[(.long z0), (.int z1)] maxLocals = mkF m 0 #[.val (.long z0), .second, .val (.int z1), .unset, .unset, .unset, .unset, .unset, .unset, .unset, .unset, .unset, .unset, .unset] [] := by first | (simp [entryFrame, mkF, argsToLocals, Value.category, maxLocals]; done) | rfl
def Q_own_law (Z : State) (sd : Int64) (bq : Int32) (h0 : Heap) (n0 : Nat) (zv : Option Value) (zh : Heap) (zL : List Loc) : Prop := zv = some (.int (1 : Int32)) ∧ Fr n0 zL
set_option maxRecDepth 65536 in
set_option maxHeartbeats 40000000 in
theorem own_law (l : Launch) (Z : State) (a0 : Array Value) (hw : ∀ d ∈ tables_1, d.before a0 Z = true) (ws : List Jvm.Cond) (sd : Int64) (bq : Int32) (h0 : Heap) (n0 : Nat) (Z0 : n0 ≤ h0.size)  :
    MetFree l x (head1 (Jvm.Cond.code x code maxLocals ret :: ws) room_1) (fun za zU => za = #[(.long sd), (.int bq)] ∧ Z.Warmed39 zU.vm ∧ zU.heap = h0) (fun _ _ _ _ _ => True) (fun _ zU zo zU' => ∃ zv zL, zo = .returned zv ∧ Q_own_law Z sd bq h0 n0 zv zU'.heap zL ∧ FrameEnd zU zo zU' zL 5 10) := by
  refine own_met (y := x) own_pn11 ?_
  intro p e s m below meth c T0 hx hby hml hown hnm hret hlk hZ e0 X0
  have N0 := Fr.nil n0
  refine own_st (fun zt zk => castTop (ef_own_law m sd bq) zk) ?_
  show own_G p e below s _ _ _ (T0.setTop (mkF m 0 #[.val (.long sd), .second, .val (.int bq), .unset, .unset, .unset, .unset, .unset, .unset, .unset, .unset, .unset, .unset, .unset] []))
  refine own_st (fun zt zk => XS.iconst X0.here hx rfl (hb hby at_0) zk) ?_
  show own_G p e below s _ _ _ (T0.setTop (mkF m 1 #[.val (.long sd), .second, .val (.int bq), .unset, .unset, .unset, .unset, .unset, .unset, .unset, .unset, .unset, .unset, .unset] [(.int (1 : Int32))]))
  refine own_st (fun zt zk => XS.iloadN X0.here hx rfl (hb hby at_1) rfl zk) ?_
  show own_G p e below s _ _ _ (T0.setTop (mkF m 2 #[.val (.long sd), .second, .val (.int bq), .unset, .unset, .unset, .unset, .unset, .unset, .unset, .unset, .unset, .unset, .unset] [(.int bq), (.int (1 : Int32))]))
  refine own_st (X0.ldcInt hx hown (mvT hZ (hw _ (List.mem_of_getElem? (i := 0) rfl))) (g := (mkF m 2 #[.val (.long sd), .second, .val (.int bq), .unset, .unset, .unset, .unset, .unset, .unset, .unset, .unset, .unset, .unset, .unset] [(.int bq), (.int (1 : Int32))])) rfl (hb hby at_2)) ?_
  show own_G p e below s _ _ _ (T0.setTop (mkF m 4 #[.val (.long sd), .second, .val (.int bq), .unset, .unset, .unset, .unset, .unset, .unset, .unset, .unset, .unset, .unset, .unset] [(.int (2147483647 : Int32)), (.int bq), (.int (1 : Int32))]))
  refine own_st (fun zt zk => XS.iand X0.here hx rfl (hb hby at_4) rfl zk) ?_
  show own_G p e below s _ _ _ (T0.setTop (mkF m 5 #[.val (.long sd), .second, .val (.int bq), .unset, .unset, .unset, .unset, .unset, .unset, .unset, .unset, .unset, .unset, .unset] [(.int (bq &&& (2147483647 : Int32))), (.int (1 : Int32))]))
  refine own_st (X0.ldcInt hx hown (mvT hZ (hw _ (List.mem_of_getElem? (i := 0) rfl))) (g := (mkF m 5 #[.val (.long sd), .second, .val (.int bq), .unset, .unset, .unset, .unset, .unset, .unset, .unset, .unset, .unset, .unset, .unset] [(.int (bq &&& (2147483647 : Int32))), (.int (1 : Int32))])) rfl (hb hby at_5)) ?_
  show own_G p e below s _ _ _ (T0.setTop (mkF m 7 #[.val (.long sd), .second, .val (.int bq), .unset, .unset, .unset, .unset, .unset, .unset, .unset, .unset, .unset, .unset, .unset] [(.int (2147483647 : Int32)), (.int (bq &&& (2147483647 : Int32))), (.int (1 : Int32))]))
  refine own_st (fun zt zk => Jvm.RoadKit.iremM X0 hx rfl (hb hby at_7) rfl (by decide) zk) ?_
  show own_G p e below s _ _ _ (T0.setTop (mkF m 8 #[.val (.long sd), .second, .val (.int bq), .unset, .unset, .unset, .unset, .unset, .unset, .unset, .unset, .unset, .unset, .unset] [(.int ((bq &&& (2147483647 : Int32)) % (2147483647 : Int32))), (.int (1 : Int32))]))
  refine own_st (fun zt zk => XS.iadd X0.here hx rfl (hb hby at_8) rfl zk) ?_
  show own_G p e below s _ _ _ (T0.setTop (mkF m 9 #[.val (.long sd), .second, .val (.int bq), .unset, .unset, .unset, .unset, .unset, .unset, .unset, .unset, .unset, .unset, .unset] [(.int ((1 : Int32) + ((bq &&& (2147483647 : Int32)) % (2147483647 : Int32))))]))
  refine own_st (fun zt zk => XS.istoreN X0.here hx rfl (hb hby at_9) rfl (l' := #[.val (.long sd), .second, .val (.int bq), .val (.int ((1 : Int32) + ((bq &&& (2147483647 : Int32)) % (2147483647 : Int32)))), .unset, .unset, .unset, .unset, .unset, .unset, .unset, .unset, .unset, .unset]) rfl zk) ?_
  show own_G p e below s _ _ _ (T0.setTop (mkF m 10 #[.val (.long sd), .second, .val (.int bq), .val (.int ((1 : Int32) + ((bq &&& (2147483647 : Int32)) % (2147483647 : Int32)))), .unset, .unset, .unset, .unset, .unset, .unset, .unset, .unset, .unset, .unset] []))
  have fb := own_bd bq
  obtain ⟨bd, q_bd⟩ : ∃ z, z = ((1 : Int32) + ((bq &&& (2147483647 : Int32)) % (2147483647 : Int32))) := ⟨_, rfl⟩
  rw [← q_bd]
  show own_G p e below s _ _ _ (T0.setTop (mkF m 10 #[.val (.long sd), .second, .val (.int bq), .val (.int bd), .unset, .unset, .unset, .unset, .unset, .unset, .unset, .unset, .unset, .unset] []))
  rw [← q_bd] at fb
  have fz := own_nzb fb
  have fp : (0 : Int32) < bd := by rw [Int32.lt_iff_toInt_lt]; exact fb
  obtain ⟨T1, h1, X1, e1, E1, A1, D1, -, st1⟩ := newO X0 hx hZ hown (hw _ (List.mem_of_getElem? (i := 1) rfl)) (hw _ (List.mem_of_getElem? (i := 2) rfl)) (hw _ (List.mem_of_getElem? (i := 3) rfl)) e0 (g := (mkF m 10 #[.val (.long sd), .second, .val (.int bq), .val (.int bd), .unset, .unset, .unset, .unset, .unset, .unset, .unset, .unset, .unset, .unset] [])) rfl (hb hby at_10) (by decide) (by decide)
  obtain ⟨b1, g1⟩ : ∃ z, z = h0.size := ⟨_, rfl⟩
  rw [← g1] at A1 D1 st1
  have ge1 : n0 ≤ b1 := Nat.le_trans Z0 (Nat.le_of_eq g1.symm)
  have sz1 : h0.size ≤ b1 := Nat.le_trans (Nat.le_refl h0.size) (Nat.le_of_eq g1.symm)
  refine own_st st1 ?_
  show own_G p e below s _ _ _ (T1.setTop (mkF m 13 #[.val (.long sd), .second, .val (.int bq), .val (.int bd), .unset, .unset, .unset, .unset, .unset, .unset, .unset, .unset, .unset, .unset] [(.ref b1)]))
  refine own_st (fun zt zk => XS.dup X1.here hx rfl (hb hby at_13) rfl rfl zk) ?_
  show own_G p e below s _ _ _ (T1.setTop (mkF m 14 #[.val (.long sd), .second, .val (.int bq), .val (.int bd), .unset, .unset, .unset, .unset, .unset, .unset, .unset, .unset, .unset, .unset] [(.ref b1), (.ref b1)]))
  refine own_st (fun zt zk => XS.lloadN X1.here hx rfl (hb hby at_14) rfl zk) ?_
  show own_G p e below s _ _ _ (T1.setTop (mkF m 15 #[.val (.long sd), .second, .val (.int bq), .val (.int bd), .unset, .unset, .unset, .unset, .unset, .unset, .unset, .unset, .unset, .unset] [(.long sd), (.ref b1), (.ref b1)]))
  obtain ⟨_, T2, L2, X2, hQ2, st2⟩ := own_callI X1 hx hZ (y := (⟨"com/example/veiled_crown/veiledcrown/engine/Chance", "<init>", "(J)V"⟩ : MethodName)) (a := b1) (argsL := [(.long sd)]) (rest := [(.ref b1)]) 1 rfl hown (hw _ (List.mem_of_getElem? (i := 4) rfl)) (hw _ (List.mem_of_getElem? (i := 5) rfl)) (hw _ (List.mem_of_getElem? (i := 3) rfl)) (hw _ (List.mem_of_getElem? (i := 6) rfl)) (by decide) (own_chi l Z a0 hw [] b1 sd h1 n0 (Nat.le_trans Z0 E1.1) A1 (D1 (Or.inr (hw _ (List.mem_of_getElem? (i := 35) rfl))) (ty := .long) (by decide)) (D1 (Or.inl (hw _ (List.mem_of_getElem? (i := 42) rfl))) (ty := .long) (by decide)) ge1) (by decide) (by decide) e1 (g := (mkF m 15 #[.val (.long sd), .second, .val (.int bq), .val (.int bd), .unset, .unset, .unset, .unset, .unset, .unset, .unset, .unset, .unset, .unset] [(.long sd), (.ref b1), (.ref b1)])) rfl (by rw [hml]; rfl) own_pd4 rfl rfl (by show 2 * 0 + _ ≤ _; exact Nat.le_of_eq rfl) (hb hby at_15) (by decide) (by decide)
  obtain ⟨rfl, N2q, K2, q2_0, q2_1⟩ := hQ2
  have N2 := Fr.app N0 N2q
  refine own_st st2 ?_
  show own_G p e below s _ _ _ (T2.setTop (mkF m 18 #[.val (.long sd), .second, .val (.int bq), .val (.int bd), .unset, .unset, .unset, .unset, .unset, .unset, .unset, .unset, .unset, .unset] [(.ref b1)]))
  refine own_st (fun zt zk => XS.astore X2.here hx rfl (hb hby at_18) rfl rfl (l' := #[.val (.long sd), .second, .val (.int bq), .val (.int bd), .val (.ref b1), .unset, .unset, .unset, .unset, .unset, .unset, .unset, .unset, .unset]) rfl zk) ?_
  show own_G p e below s _ _ _ (T2.setTop (mkF m 20 #[.val (.long sd), .second, .val (.int bq), .val (.int bd), .val (.ref b1), .unset, .unset, .unset, .unset, .unset, .unset, .unset, .unset, .unset] []))
  have E4 : Exa Z T2.heap b1 "com/example/veiled_crown/veiledcrown/engine/Chance" := (A1.keep K2)
  obtain ⟨T3, h3, X3, e3, E3, A3, D3, -, st3⟩ := newO X2 hx hZ hown (hw _ (List.mem_of_getElem? (i := 1) rfl)) (hw _ (List.mem_of_getElem? (i := 2) rfl)) (hw _ (List.mem_of_getElem? (i := 3) rfl)) rfl (g := (mkF m 20 #[.val (.long sd), .second, .val (.int bq), .val (.int bd), .val (.ref b1), .unset, .unset, .unset, .unset, .unset, .unset, .unset, .unset, .unset] [])) rfl (hb hby at_20) (by decide) (by decide)
  obtain ⟨b3, g3⟩ : ∃ z, z = T2.heap.size := ⟨_, rfl⟩
  rw [← g3] at A3 D3 st3
  have ne3_b1 : b1 ≠ b3 := by rw [g3]; exact Nat.ne_of_lt E4.lt
  have ge3 : n0 ≤ b3 := Nat.le_trans (Nat.le_trans (Nat.le_trans Z0 E1.1) K2.1) (Nat.le_of_eq g3.symm)
  have sz3 : h0.size ≤ b3 := Nat.le_trans (Nat.le_trans (Nat.le_trans (Nat.le_refl h0.size) E1.1) K2.1) (Nat.le_of_eq g3.symm)
  refine own_st st3 ?_
  show own_G p e below s _ _ _ (T3.setTop (mkF m 23 #[.val (.long sd), .second, .val (.int bq), .val (.int bd), .val (.ref b1), .unset, .unset, .unset, .unset, .unset, .unset, .unset, .unset, .unset] [(.ref b3)]))
  refine own_st (fun zt zk => XS.dup X3.here hx rfl (hb hby at_23) rfl rfl zk) ?_
  show own_G p e below s _ _ _ (T3.setTop (mkF m 24 #[.val (.long sd), .second, .val (.int bq), .val (.int bd), .val (.ref b1), .unset, .unset, .unset, .unset, .unset, .unset, .unset, .unset, .unset] [(.ref b3), (.ref b3)]))
  refine own_st (fun zt zk => XS.lloadN X3.here hx rfl (hb hby at_24) rfl zk) ?_
  show own_G p e below s _ _ _ (T3.setTop (mkF m 25 #[.val (.long sd), .second, .val (.int bq), .val (.int bd), .val (.ref b1), .unset, .unset, .unset, .unset, .unset, .unset, .unset, .unset, .unset] [(.long sd), (.ref b3), (.ref b3)]))
  obtain ⟨_, T5, L5, X5, hQ5, st5⟩ := own_callI X3 hx hZ (y := (⟨"com/example/veiled_crown/veiledcrown/engine/Chance", "<init>", "(J)V"⟩ : MethodName)) (a := b3) (argsL := [(.long sd)]) (rest := [(.ref b3)]) 1 rfl hown (hw _ (List.mem_of_getElem? (i := 4) rfl)) (hw _ (List.mem_of_getElem? (i := 5) rfl)) (hw _ (List.mem_of_getElem? (i := 3) rfl)) (hw _ (List.mem_of_getElem? (i := 6) rfl)) (by decide) (own_chi l Z a0 hw [] b3 sd h3 n0 (Nat.le_trans (Nat.le_trans (Nat.le_trans Z0 E1.1) K2.1) E3.1) A3 (D3 (Or.inr (hw _ (List.mem_of_getElem? (i := 35) rfl))) (ty := .long) (by decide)) (D3 (Or.inl (hw _ (List.mem_of_getElem? (i := 42) rfl))) (ty := .long) (by decide)) ge3) (by decide) (by decide) e3 (g := (mkF m 25 #[.val (.long sd), .second, .val (.int bq), .val (.int bd), .val (.ref b1), .unset, .unset, .unset, .unset, .unset, .unset, .unset, .unset, .unset] [(.long sd), (.ref b3), (.ref b3)])) rfl (by rw [hml]; rfl) own_pd4 rfl rfl (by show 2 * 0 + _ ≤ _; exact Nat.le_of_eq rfl) (hb hby at_25) (by decide) (by decide)
  obtain ⟨rfl, N5q, K5, q5_0, q5_1⟩ := hQ5
  have N5 := Fr.app N2 N5q
  refine own_st st5 ?_
  show own_G p e below s _ _ _ (T5.setTop (mkF m 28 #[.val (.long sd), .second, .val (.int bq), .val (.int bd), .val (.ref b1), .unset, .unset, .unset, .unset, .unset, .unset, .unset, .unset, .unset] [(.ref b3)]))
  refine own_st (fun zt zk => XS.astore X5.here hx rfl (hb hby at_28) rfl rfl (l' := #[.val (.long sd), .second, .val (.int bq), .val (.int bd), .val (.ref b1), .val (.ref b3), .unset, .unset, .unset, .unset, .unset, .unset, .unset, .unset]) rfl zk) ?_
  show own_G p e below s _ _ _ (T5.setTop (mkF m 30 #[.val (.long sd), .second, .val (.int bq), .val (.int bd), .val (.ref b1), .val (.ref b3), .unset, .unset, .unset, .unset, .unset, .unset, .unset, .unset] []))
  refine own_st (fun zt zk => XS.aload X5.here hx rfl (hb hby at_30) rfl rfl zk) ?_
  show own_G p e below s _ _ _ (T5.setTop (mkF m 32 #[.val (.long sd), .second, .val (.int bq), .val (.int bd), .val (.ref b1), .val (.ref b3), .unset, .unset, .unset, .unset, .unset, .unset, .unset, .unset] [(.ref b3)]))
  have E7 : Exa Z T5.heap b3 "com/example/veiled_crown/veiledcrown/engine/Chance" := (A3.keep K5)
  obtain ⟨_, T6, L6, X6, hQ6, st6⟩ := own_callV X5 hx hZ (C := "com/example/veiled_crown/veiledcrown/engine/Chance") (y := (⟨"com/example/veiled_crown/veiledcrown/engine/Chance", "nextLong", "()J"⟩ : MethodName)) (z := (⟨"com/example/veiled_crown/veiledcrown/engine/Chance", "nextLong", "()J"⟩ : MethodName)) (a := b3) (argsL := []) (rest := []) 0 hown (hw _ (List.mem_of_getElem? (i := 43) rfl)) (hw _ (List.mem_of_getElem? (i := 44) rfl)) (own_nf hZ (hw _ (List.mem_of_getElem? (i := 46) rfl))) (hw _ (List.mem_of_getElem? (i := 46) rfl)) (hw _ (List.mem_of_getElem? (i := 45) rfl)) (hw _ (List.mem_of_getElem? (i := 3) rfl)) (hw _ (List.mem_of_getElem? (i := 47) rfl)) (by decide) (own_nlg l Z a0 hw [] b3 sd (0 : Int64) T5.heap n0 (Nat.le_trans (Nat.le_trans (Nat.le_trans (Nat.le_trans Z0 E1.1) K2.1) E3.1) K5.1) E7 q5_0 q5_1 ge3) (by decide) (by decide) rfl E7 (g := (mkF m 32 #[.val (.long sd), .second, .val (.int bq), .val (.int bd), .val (.ref b1), .val (.ref b3), .unset, .unset, .unset, .unset, .unset, .unset, .unset, .unset] [(.ref b3)])) rfl (by rw [hml]; rfl) own_pd1 rfl rfl (by show 2 * 0 + _ ≤ _; exact Nat.le_of_eq rfl) (hb hby at_32) (by decide) (by decide)
  obtain ⟨rfl, N6q, K6, q6_0, q6_1⟩ := hQ6
  have N6 := Fr.app N5 N6q
  refine own_st st6 ?_
  show own_G p e below s _ _ _ (T6.setTop (mkF m 35 #[.val (.long sd), .second, .val (.int bq), .val (.int bd), .val (.ref b1), .val (.ref b3), .unset, .unset, .unset, .unset, .unset, .unset, .unset, .unset] [(.long (own_out (sd + (((0 : Int64) + (1 : Int64)) * (-7046029254386353131 : Int64)))))]))
  refine own_st (fun zt zk => XS.bipush X6.here hx rfl (hb hby at_35) zk) ?_
  show own_G p e below s _ _ _ (T6.setTop (mkF m 37 #[.val (.long sd), .second, .val (.int bq), .val (.int bd), .val (.ref b1), .val (.ref b3), .unset, .unset, .unset, .unset, .unset, .unset, .unset, .unset] [(.int (33 : Int32)), (.long (own_out (sd + (((0 : Int64) + (1 : Int64)) * (-7046029254386353131 : Int64)))))]))
  refine own_st (fun zt zk => XS.lushr X6.here hx rfl (hb hby at_37) rfl zk) ?_
  show own_G p e below s _ _ _ (T6.setTop (mkF m 38 #[.val (.long sd), .second, .val (.int bq), .val (.int bd), .val (.ref b1), .val (.ref b3), .unset, .unset, .unset, .unset, .unset, .unset, .unset, .unset] [(.long (((own_out (sd + (((0 : Int64) + (1 : Int64)) * (-7046029254386353131 : Int64)))).toUInt64 >>> ((33 : Int32) &&& 0x3f).toInt64.toUInt64).toInt64))]))
  refine own_st (fun zt zk => XS.lstore X6.here hx rfl (hb hby at_38) rfl (l' := #[.val (.long sd), .second, .val (.int bq), .val (.int bd), .val (.ref b1), .val (.ref b3), .val (.long (((own_out (sd + (((0 : Int64) + (1 : Int64)) * (-7046029254386353131 : Int64)))).toUInt64 >>> ((33 : Int32) &&& 0x3f).toInt64.toUInt64).toInt64)), .second, .unset, .unset, .unset, .unset, .unset, .unset]) rfl zk) ?_
  show own_G p e below s _ _ _ (T6.setTop (mkF m 40 #[.val (.long sd), .second, .val (.int bq), .val (.int bd), .val (.ref b1), .val (.ref b3), .val (.long (((own_out (sd + (((0 : Int64) + (1 : Int64)) * (-7046029254386353131 : Int64)))).toUInt64 >>> ((33 : Int32) &&& 0x3f).toInt64.toUInt64).toInt64)), .second, .unset, .unset, .unset, .unset, .unset, .unset] []))
  obtain ⟨d1, q_d1⟩ : ∃ z, z = (((own_out (sd + (((0 : Int64) + (1 : Int64)) * (-7046029254386353131 : Int64)))).toUInt64 >>> ((33 : Int32) &&& 0x3f).toInt64.toUInt64).toInt64) := ⟨_, rfl⟩
  rw [← q_d1]
  show own_G p e below s _ _ _ (T6.setTop (mkF m 40 #[.val (.long sd), .second, .val (.int bq), .val (.int bd), .val (.ref b1), .val (.ref b3), .val (.long d1), .second, .unset, .unset, .unset, .unset, .unset, .unset] []))
  have dd1 : d1 = own_draw sd (Int64.ofNat 1) := by rw [q_d1, show (0 : Int64) + (1 : Int64) = Int64.ofNat 1 from by decide]; rfl
  obtain ⟨kA, hk1, hk2, hk3⟩ := own_some sd (own_lim bd) (own_limR bd fb)
  have r1 := own_draw_rng sd (Int64.ofNat 1)
  have g1 := own_full d1 bd fb (by rw [dd1]; exact r1.1) (by rw [dd1]; exact r1.2)
  refine own_st (fun zt zk => XS.aload X6.here hx rfl (hb hby at_40) rfl rfl zk) ?_
  show own_G p e below s _ _ _ (T6.setTop (mkF m 42 #[.val (.long sd), .second, .val (.int bq), .val (.int bd), .val (.ref b1), .val (.ref b3), .val (.long d1), .second, .unset, .unset, .unset, .unset, .unset, .unset] [(.ref b1)]))
  refine own_st (fun zt zk => XS.iloadN X6.here hx rfl (hb hby at_42) rfl zk) ?_
  show own_G p e below s _ _ _ (T6.setTop (mkF m 43 #[.val (.long sd), .second, .val (.int bq), .val (.int bd), .val (.ref b1), .val (.ref b3), .val (.long d1), .second, .unset, .unset, .unset, .unset, .unset, .unset] [(.int bd), (.ref b1)]))
  have F9 : Fld Z T6.heap b1 "com/example/veiled_crown/veiledcrown/engine/Chance" "seed" "J" (.long sd) := (((q2_0.ext E3).keep K5 (ninS ne3_b1 nin0)).keep K6 (ninS ne3_b1 nin0))
  have F10 : Fld Z T6.heap b1 "com/example/veiled_crown/veiledcrown/engine/Chance" "draws" "J" (.long (0 : Int64)) := (((q2_1.ext E3).keep K5 (ninS ne3_b1 nin0)).keep K6 (ninS ne3_b1 nin0))
  have E11 : Exa Z T6.heap b1 "com/example/veiled_crown/veiledcrown/engine/Chance" := (((E4.ext E3).keep K5).keep K6)
  obtain ⟨_, T8, L8, X8, hQ8, st8⟩ := own_callV X6 hx hZ (C := "com/example/veiled_crown/veiledcrown/engine/Chance") (y := (⟨"com/example/veiled_crown/veiledcrown/engine/Chance", "pick", "(I)I"⟩ : MethodName)) (z := (⟨"com/example/veiled_crown/veiledcrown/engine/Chance", "pick", "(I)I"⟩ : MethodName)) (a := b1) (argsL := [(.int bd)]) (rest := []) 0 hown (hw _ (List.mem_of_getElem? (i := 55) rfl)) (hw _ (List.mem_of_getElem? (i := 56) rfl)) (own_nf hZ (hw _ (List.mem_of_getElem? (i := 58) rfl))) (hw _ (List.mem_of_getElem? (i := 58) rfl)) (hw _ (List.mem_of_getElem? (i := 57) rfl)) (hw _ (List.mem_of_getElem? (i := 3) rfl)) (hw _ (List.mem_of_getElem? (i := 59) rfl)) (by decide) (own_cpick l Z a0 hw [] b1 bd sd kA T6.heap n0 (Nat.le_trans (Nat.le_trans (Nat.le_trans (Nat.le_trans (Nat.le_trans Z0 E1.1) K2.1) E3.1) K5.1) K6.1) E11 F9 F10 ge1 fp hk1.1 hk1.2 hk3 fb) (by decide) (by decide) rfl E11 (g := (mkF m 43 #[.val (.long sd), .second, .val (.int bq), .val (.int bd), .val (.ref b1), .val (.ref b3), .val (.long d1), .second, .unset, .unset, .unset, .unset, .unset, .unset] [(.int bd), (.ref b1)])) rfl (by rw [hml]; rfl) own_pd5 rfl rfl (by show 2 * 0 + _ ≤ _; exact Nat.le_of_eq rfl) (hb hby at_43) (by decide) (by decide)
  obtain ⟨rfl, N8q, K8, q8_0, q8_1⟩ := hQ8
  have N8 := Fr.app N6 N8q
  refine own_st st8 ?_
  show own_G p e below s _ _ _ (T8.setTop (mkF m 46 #[.val (.long sd), .second, .val (.int bq), .val (.int bd), .val (.ref b1), .val (.ref b3), .val (.long d1), .second, .unset, .unset, .unset, .unset, .unset, .unset] [(.int (own_pv sd bd kA))]))
  refine own_st (fun zt zk => XS.istore X8.here hx rfl (hb hby at_46) rfl (l' := #[.val (.long sd), .second, .val (.int bq), .val (.int bd), .val (.ref b1), .val (.ref b3), .val (.long d1), .second, .val (.int (own_pv sd bd kA)), .unset, .unset, .unset, .unset, .unset]) rfl zk) ?_
  show own_G p e below s _ _ _ (T8.setTop (mkF m 48 #[.val (.long sd), .second, .val (.int bq), .val (.int bd), .val (.ref b1), .val (.ref b3), .val (.long d1), .second, .val (.int (own_pv sd bd kA)), .unset, .unset, .unset, .unset, .unset] []))
  refine own_st (fun zt zk => XS.aload X8.here hx rfl (hb hby at_48) rfl rfl zk) ?_
  show own_G p e below s _ _ _ (T8.setTop (mkF m 50 #[.val (.long sd), .second, .val (.int bq), .val (.int bd), .val (.ref b1), .val (.ref b3), .val (.long d1), .second, .val (.int (own_pv sd bd kA)), .unset, .unset, .unset, .unset, .unset] [(.ref b1)]))
  have E13 : Exa Z T8.heap b1 "com/example/veiled_crown/veiledcrown/engine/Chance" := (E11.keep K8)
  obtain ⟨_, T12, L12, X12, hQ12, st12⟩ := own_callV X8 hx hZ (C := "com/example/veiled_crown/veiledcrown/engine/Chance") (y := (⟨"com/example/veiled_crown/veiledcrown/engine/Chance", "state", "()Lcom/example/veiled_crown/veiledcrown/engine/ChanceState;"⟩ : MethodName)) (z := (⟨"com/example/veiled_crown/veiledcrown/engine/Chance", "state", "()Lcom/example/veiled_crown/veiledcrown/engine/ChanceState;"⟩ : MethodName)) (a := b1) (argsL := []) (rest := []) 0 hown (hw _ (List.mem_of_getElem? (i := 61) rfl)) (hw _ (List.mem_of_getElem? (i := 62) rfl)) (own_nf hZ (hw _ (List.mem_of_getElem? (i := 64) rfl))) (hw _ (List.mem_of_getElem? (i := 64) rfl)) (hw _ (List.mem_of_getElem? (i := 63) rfl)) (hw _ (List.mem_of_getElem? (i := 3) rfl)) (hw _ (List.mem_of_getElem? (i := 65) rfl)) (by decide) (own_cst l Z a0 hw [] b1 sd (Int64.ofNat kA) T8.heap n0 (Nat.le_trans (Nat.le_trans (Nat.le_trans (Nat.le_trans (Nat.le_trans (Nat.le_trans Z0 E1.1) K2.1) E3.1) K5.1) K6.1) K8.1) E13 q8_0 q8_1) (by decide) (by decide) rfl E13 (g := (mkF m 50 #[.val (.long sd), .second, .val (.int bq), .val (.int bd), .val (.ref b1), .val (.ref b3), .val (.long d1), .second, .val (.int (own_pv sd bd kA)), .unset, .unset, .unset, .unset, .unset] [(.ref b1)])) rfl (by rw [hml]; rfl) own_pd6 rfl rfl (by show 2 * 0 + _ ≤ _; exact Nat.le_of_eq rfl) (hb hby at_50) (by decide) (by decide)
  obtain ⟨nb12, rfl, N12q, K12, snb12, q12_0, q12_1, q12_2⟩ := hQ12
  have N12 := Fr.app N8 N12q
  refine own_st st12 ?_
  have ne12_nb_b1 : b1 ≠ nb12 := Nat.ne_of_lt (Nat.lt_of_lt_of_le E13.lt snb12)
  have ne12_nb_b3 : b3 ≠ nb12 := Nat.ne_of_lt (Nat.lt_of_lt_of_le ((E7.keep K6).keep K8).lt snb12)
  have ge12_nb : n0 ≤ nb12 := Nat.le_trans (Nat.le_trans (Nat.le_trans (Nat.le_trans (Nat.le_trans (Nat.le_trans (Nat.le_trans Z0 E1.1) K2.1) E3.1) K5.1) K6.1) K8.1) snb12
  have sz12_nb : h0.size ≤ nb12 := Nat.le_trans (Nat.le_trans (Nat.le_trans (Nat.le_trans (Nat.le_trans (Nat.le_trans (Nat.le_trans (Nat.le_refl h0.size) E1.1) K2.1) E3.1) K5.1) K6.1) K8.1) snb12
  show own_G p e below s _ _ _ (T12.setTop (mkF m 53 #[.val (.long sd), .second, .val (.int bq), .val (.int bd), .val (.ref b1), .val (.ref b3), .val (.long d1), .second, .val (.int (own_pv sd bd kA)), .unset, .unset, .unset, .unset, .unset] [(.ref nb12)]))
  refine own_st (fun zt zk => XS.astore X12.here hx rfl (hb hby at_53) rfl rfl (l' := #[.val (.long sd), .second, .val (.int bq), .val (.int bd), .val (.ref b1), .val (.ref b3), .val (.long d1), .second, .val (.int (own_pv sd bd kA)), .val (.ref nb12), .unset, .unset, .unset, .unset]) rfl zk) ?_
  show own_G p e below s _ _ _ (T12.setTop (mkF m 55 #[.val (.long sd), .second, .val (.int bq), .val (.int bd), .val (.ref b1), .val (.ref b3), .val (.long d1), .second, .val (.int (own_pv sd bd kA)), .val (.ref nb12), .unset, .unset, .unset, .unset] []))
  refine own_st (fun zt zk => XS.aload X12.here hx rfl (hb hby at_55) rfl rfl zk) ?_
  show own_G p e below s _ _ _ (T12.setTop (mkF m 57 #[.val (.long sd), .second, .val (.int bq), .val (.int bd), .val (.ref b1), .val (.ref b3), .val (.long d1), .second, .val (.int (own_pv sd bd kA)), .val (.ref nb12), .unset, .unset, .unset, .unset] [(.ref nb12)]))
  obtain ⟨_, T14, L14, X14, hQ14, st14⟩ := own_callV X12 hx hZ (C := "com/example/veiled_crown/veiledcrown/engine/ChanceState") (y := (⟨"com/example/veiled_crown/veiledcrown/engine/ChanceState", "draws", "()J"⟩ : MethodName)) (z := (⟨"com/example/veiled_crown/veiledcrown/engine/ChanceState", "draws", "()J"⟩ : MethodName)) (a := nb12) (argsL := []) (rest := []) 0 hown (hw _ (List.mem_of_getElem? (i := 66) rfl)) (hw _ (List.mem_of_getElem? (i := 37) rfl)) (own_nf hZ (hw _ (List.mem_of_getElem? (i := 39) rfl))) (hw _ (List.mem_of_getElem? (i := 39) rfl)) (hw _ (List.mem_of_getElem? (i := 38) rfl)) (hw _ (List.mem_of_getElem? (i := 9) rfl)) (hw _ (List.mem_of_getElem? (i := 40) rfl)) (by decide) (own_gd l Z a0 hw [] nb12 (Int64.ofNat kA) T12.heap n0 (Nat.le_trans (Nat.le_trans (Nat.le_trans (Nat.le_trans (Nat.le_trans (Nat.le_trans (Nat.le_trans Z0 E1.1) K2.1) E3.1) K5.1) K6.1) K8.1) K12.1) q12_2) (by decide) (by decide) rfl q12_0 (g := (mkF m 57 #[.val (.long sd), .second, .val (.int bq), .val (.int bd), .val (.ref b1), .val (.ref b3), .val (.long d1), .second, .val (.int (own_pv sd bd kA)), .val (.ref nb12), .unset, .unset, .unset, .unset] [(.ref nb12)])) rfl (by rw [hml]; rfl) own_pd1 rfl rfl (by show 2 * 0 + _ ≤ _; exact Nat.le_of_eq rfl) (hb hby at_57) (by decide) (by decide)
  obtain ⟨rfl, N14q, e14⟩ := hQ14
  have N14 := Fr.app N12 N14q
  refine own_st st14 ?_
  show own_G p e below s _ _ _ (T14.setTop (mkF m 60 #[.val (.long sd), .second, .val (.int bq), .val (.int bd), .val (.ref b1), .val (.ref b3), .val (.long d1), .second, .val (.int (own_pv sd bd kA)), .val (.ref nb12), .unset, .unset, .unset, .unset] [(.long (Int64.ofNat kA))]))
  refine own_st (fun zt zk => XS.lstore X14.here hx rfl (hb hby at_60) rfl (l' := #[.val (.long sd), .second, .val (.int bq), .val (.int bd), .val (.ref b1), .val (.ref b3), .val (.long d1), .second, .val (.int (own_pv sd bd kA)), .val (.ref nb12), .val (.long (Int64.ofNat kA)), .second, .unset, .unset]) rfl zk) ?_
  show own_G p e below s _ _ _ (T14.setTop (mkF m 62 #[.val (.long sd), .second, .val (.int bq), .val (.int bd), .val (.ref b1), .val (.ref b3), .val (.long d1), .second, .val (.int (own_pv sd bd kA)), .val (.ref nb12), .val (.long (Int64.ofNat kA)), .second, .unset, .unset] []))
  refine own_st (fun zt zk => XS.aload X14.here hx rfl (hb hby at_62) rfl rfl zk) ?_
  show own_G p e below s _ _ _ (T14.setTop (mkF m 64 #[.val (.long sd), .second, .val (.int bq), .val (.int bd), .val (.ref b1), .val (.ref b3), .val (.long d1), .second, .val (.int (own_pv sd bd kA)), .val (.ref nb12), .val (.long (Int64.ofNat kA)), .second, .unset, .unset] [(.ref nb12)]))
  obtain ⟨_, T15, L15, X15, hQ15, st15⟩ := own_callV X14 hx hZ (C := "com/example/veiled_crown/veiledcrown/engine/ChanceState") (y := (⟨"com/example/veiled_crown/veiledcrown/engine/ChanceState", "seed", "()J"⟩ : MethodName)) (z := (⟨"com/example/veiled_crown/veiledcrown/engine/ChanceState", "seed", "()J"⟩ : MethodName)) (a := nb12) (argsL := []) (rest := []) 0 hown (hw _ (List.mem_of_getElem? (i := 67) rfl)) (hw _ (List.mem_of_getElem? (i := 30) rfl)) (own_nf hZ (hw _ (List.mem_of_getElem? (i := 32) rfl))) (hw _ (List.mem_of_getElem? (i := 32) rfl)) (hw _ (List.mem_of_getElem? (i := 31) rfl)) (hw _ (List.mem_of_getElem? (i := 9) rfl)) (hw _ (List.mem_of_getElem? (i := 33) rfl)) (by decide) (own_gs l Z a0 hw [] nb12 sd T12.heap n0 (Nat.le_trans (Nat.le_trans (Nat.le_trans (Nat.le_trans (Nat.le_trans (Nat.le_trans (Nat.le_trans Z0 E1.1) K2.1) E3.1) K5.1) K6.1) K8.1) K12.1) q12_1) (by decide) (by decide) e14 q12_0 (g := (mkF m 64 #[.val (.long sd), .second, .val (.int bq), .val (.int bd), .val (.ref b1), .val (.ref b3), .val (.long d1), .second, .val (.int (own_pv sd bd kA)), .val (.ref nb12), .val (.long (Int64.ofNat kA)), .second, .unset, .unset] [(.ref nb12)])) rfl (by rw [hml]; rfl) own_pd1 rfl rfl (by show 2 * 0 + _ ≤ _; exact Nat.le_of_eq rfl) (hb hby at_64) (by decide) (by decide)
  obtain ⟨rfl, N15q, e15⟩ := hQ15
  have N15 := Fr.app N14 N15q
  refine own_st st15 ?_
  show own_G p e below s _ _ _ (T15.setTop (mkF m 67 #[.val (.long sd), .second, .val (.int bq), .val (.int bd), .val (.ref b1), .val (.ref b3), .val (.long d1), .second, .val (.int (own_pv sd bd kA)), .val (.ref nb12), .val (.long (Int64.ofNat kA)), .second, .unset, .unset] [(.long sd)]))
  refine own_st (fun zt zk => XS.lloadN X15.here hx rfl (hb hby at_67) rfl zk) ?_
  show own_G p e below s _ _ _ (T15.setTop (mkF m 68 #[.val (.long sd), .second, .val (.int bq), .val (.int bd), .val (.ref b1), .val (.ref b3), .val (.long d1), .second, .val (.int (own_pv sd bd kA)), .val (.ref nb12), .val (.long (Int64.ofNat kA)), .second, .unset, .unset] [(.long sd), (.long sd)]))
  refine own_st (fun zt zk => XS.lcmp X15.here hx rfl (hb hby at_68) rfl zk) ?_
  show own_G p e below s _ _ _ (T15.setTop (mkF m 69 #[.val (.long sd), .second, .val (.int bq), .val (.int bd), .val (.ref b1), .val (.ref b3), .val (.long d1), .second, .val (.int (own_pv sd bd kA)), .val (.ref nb12), .val (.long (Int64.ofNat kA)), .second, .unset, .unset] [(.int (lcmpW sd sd))]))
  refine own_st (fun zt zk => XS.ifYes X15.here hx rfl (pc0 := 69) (pc' := 74) rfl (hb hby at_69) rfl ((if0 _ _).trans (teq ((lw_eq sd sd).mpr (rfl : sd = sd))).1) (by decide) (by decide) zk) ?_
  show own_G p e below s _ _ _ (T15.setTop (mkF m 74 #[.val (.long sd), .second, .val (.int bq), .val (.int bd), .val (.ref b1), .val (.ref b3), .val (.long d1), .second, .val (.int (own_pv sd bd kA)), .val (.ref nb12), .val (.long (Int64.ofNat kA)), .second, .unset, .unset] []))
  refine own_st (fun zt zk => XS.lload X15.here hx rfl (hb hby at_74) rfl zk) ?_
  show own_G p e below s _ _ _ (T15.setTop (mkF m 76 #[.val (.long sd), .second, .val (.int bq), .val (.int bd), .val (.ref b1), .val (.ref b3), .val (.long d1), .second, .val (.int (own_pv sd bd kA)), .val (.ref nb12), .val (.long (Int64.ofNat kA)), .second, .unset, .unset] [(.long d1)]))
  refine own_st (fun zt zk => XS.iloadN X15.here hx rfl (hb hby at_76) rfl zk) ?_
  show own_G p e below s _ _ _ (T15.setTop (mkF m 77 #[.val (.long sd), .second, .val (.int bq), .val (.int bd), .val (.ref b1), .val (.ref b3), .val (.long d1), .second, .val (.int (own_pv sd bd kA)), .val (.ref nb12), .val (.long (Int64.ofNat kA)), .second, .unset, .unset] [(.int bd), (.long d1)]))
  obtain ⟨_, T16, L16, X16, hQ16, st16⟩ := own_callS X15 hx hZ (y := (⟨"com/example/veiled_crown/veiledcrown/engine/ChancePickPinLaw", "fullBlock", "(JI)Z"⟩ : MethodName)) (argsL := [(.long d1), (.int bd)]) (rest := []) 0 hown (hw _ (List.mem_of_getElem? (i := 68) rfl)) (hw _ (List.mem_of_getElem? (i := 69) rfl)) (hw _ (List.mem_of_getElem? (i := 70) rfl)) (hw _ (List.mem_of_getElem? (i := 71) rfl)) (by decide) (own_cful l Z a0 hw [] d1 bd T12.heap n0 (Nat.le_trans (Nat.le_trans (Nat.le_trans (Nat.le_trans (Nat.le_trans (Nat.le_trans (Nat.le_trans Z0 E1.1) K2.1) E3.1) K5.1) K6.1) K8.1) K12.1) fz) (by decide) (by decide) e15 (g := (mkF m 77 #[.val (.long sd), .second, .val (.int bq), .val (.int bd), .val (.ref b1), .val (.ref b3), .val (.long d1), .second, .val (.int (own_pv sd bd kA)), .val (.ref nb12), .val (.long (Int64.ofNat kA)), .second, .unset, .unset] [(.int bd), (.long d1)])) rfl (by rw [hml]; rfl) own_pd7 rfl rfl (by show 2 * 0 + _ ≤ _; exact Nat.le_of_eq rfl) (hb hby at_77) (by decide) (by decide)
  obtain ⟨rfl, N16q, e16⟩ := hQ16
  have N16 := Fr.app N15 N16q
  refine own_st st16 ?_
  show own_G p e below s _ _ _ (T16.setTop (mkF m 80 #[.val (.long sd), .second, .val (.int bq), .val (.int bd), .val (.ref b1), .val (.ref b3), .val (.long d1), .second, .val (.int (own_pv sd bd kA)), .val (.ref nb12), .val (.long (Int64.ofNat kA)), .second, .unset, .unset] [(.int (own_b (¬ ((2147483648 : Int64) < (own_fl d1 bd)))))]))
  by_cases hc80_17 : (¬ ((2147483648 : Int64) < (own_fl d1 bd)))
  · refine own_st (fun zt zk => XS.ifNo X16.here hx rfl (hb hby at_80) rfl ((if0 _ _).trans (feq (own_bn hc80_17)).1) zk) ?_
    show own_G p e below s _ _ _ (T16.setTop (mkF m 83 #[.val (.long sd), .second, .val (.int bq), .val (.int bd), .val (.ref b1), .val (.ref b3), .val (.long d1), .second, .val (.int (own_pv sd bd kA)), .val (.ref nb12), .val (.long (Int64.ofNat kA)), .second, .unset, .unset] []))
    have k1 : kA = 1 := by
      rcases Nat.lt_or_ge 1 kA with q | q
      · exact absurd ⟨Nat.le_refl 1, by rw [← dd1]; exact g1.mp hc80_17⟩ (hk3 1 q)
      · exact Nat.le_antisymm q hk1.1
    refine own_st (fun zt zk => XS.iload X16.here hx rfl (hb hby at_83) rfl zk) ?_
    show own_G p e below s _ _ _ (T16.setTop (mkF m 85 #[.val (.long sd), .second, .val (.int bq), .val (.int bd), .val (.ref b1), .val (.ref b3), .val (.long d1), .second, .val (.int (own_pv sd bd kA)), .val (.ref nb12), .val (.long (Int64.ofNat kA)), .second, .unset, .unset] [(.int (own_pv sd bd kA))]))
    refine own_st (fun zt zk => XS.lload X16.here hx rfl (hb hby at_85) rfl zk) ?_
    show own_G p e below s _ _ _ (T16.setTop (mkF m 87 #[.val (.long sd), .second, .val (.int bq), .val (.int bd), .val (.ref b1), .val (.ref b3), .val (.long d1), .second, .val (.int (own_pv sd bd kA)), .val (.ref nb12), .val (.long (Int64.ofNat kA)), .second, .unset, .unset] [(.long d1), (.int (own_pv sd bd kA))]))
    refine own_st (fun zt zk => XS.iloadN X16.here hx rfl (hb hby at_87) rfl zk) ?_
    show own_G p e below s _ _ _ (T16.setTop (mkF m 88 #[.val (.long sd), .second, .val (.int bq), .val (.int bd), .val (.ref b1), .val (.ref b3), .val (.long d1), .second, .val (.int (own_pv sd bd kA)), .val (.ref nb12), .val (.long (Int64.ofNat kA)), .second, .unset, .unset] [(.int bd), (.long d1), (.int (own_pv sd bd kA))]))
    refine own_st (fun zt zk => XS.i2l X16.here hx rfl (hb hby at_88) rfl zk) ?_
    show own_G p e below s _ _ _ (T16.setTop (mkF m 89 #[.val (.long sd), .second, .val (.int bq), .val (.int bd), .val (.ref b1), .val (.ref b3), .val (.long d1), .second, .val (.int (own_pv sd bd kA)), .val (.ref nb12), .val (.long (Int64.ofNat kA)), .second, .unset, .unset] [(.long bd.toInt64), (.long d1), (.int (own_pv sd bd kA))]))
    refine own_st (fun zt zk => XS.lrem X16.here hx rfl (hb hby at_89) rfl fz zk) ?_
    show own_G p e below s _ _ _ (T16.setTop (mkF m 90 #[.val (.long sd), .second, .val (.int bq), .val (.int bd), .val (.ref b1), .val (.ref b3), .val (.long d1), .second, .val (.int (own_pv sd bd kA)), .val (.ref nb12), .val (.long (Int64.ofNat kA)), .second, .unset, .unset] [(.long (d1 - (d1 / bd.toInt64) * bd.toInt64)), (.int (own_pv sd bd kA))]))
    refine own_st (fun zt zk => XS.l2i X16.here hx rfl (hb hby at_90) rfl zk) ?_
    show own_G p e below s _ _ _ (T16.setTop (mkF m 91 #[.val (.long sd), .second, .val (.int bq), .val (.int bd), .val (.ref b1), .val (.ref b3), .val (.long d1), .second, .val (.int (own_pv sd bd kA)), .val (.ref nb12), .val (.long (Int64.ofNat kA)), .second, .unset, .unset] [(.int (d1 - (d1 / bd.toInt64) * bd.toInt64).toInt32), (.int (own_pv sd bd kA))]))
    have hc91_18 : (own_pv sd bd kA) = (d1 - (d1 / bd.toInt64) * bd.toInt64).toInt32 := by rw [k1, dd1]; rfl
    refine own_st (fun zt zk => XS.icmpNo X16.here hx rfl (hb hby at_91) rfl (teq hc91_18).2 zk) ?_
    show own_G p e below s _ _ _ (T16.setTop (mkF m 94 #[.val (.long sd), .second, .val (.int bq), .val (.int bd), .val (.ref b1), .val (.ref b3), .val (.long d1), .second, .val (.int (own_pv sd bd kA)), .val (.ref nb12), .val (.long (Int64.ofNat kA)), .second, .unset, .unset] []))
    refine own_st (fun zt zk => XS.lload X16.here hx rfl (hb hby at_94) rfl zk) ?_
    show own_G p e below s _ _ _ (T16.setTop (mkF m 96 #[.val (.long sd), .second, .val (.int bq), .val (.int bd), .val (.ref b1), .val (.ref b3), .val (.long d1), .second, .val (.int (own_pv sd bd kA)), .val (.ref nb12), .val (.long (Int64.ofNat kA)), .second, .unset, .unset] [(.long (Int64.ofNat kA))]))
    refine own_st (fun zt zk => XS.lconst X16.here hx rfl (hb hby at_96) zk) ?_
    show own_G p e below s _ _ _ (T16.setTop (mkF m 97 #[.val (.long sd), .second, .val (.int bq), .val (.int bd), .val (.ref b1), .val (.ref b3), .val (.long d1), .second, .val (.int (own_pv sd bd kA)), .val (.ref nb12), .val (.long (Int64.ofNat kA)), .second, .unset, .unset] [(.long (1 : Int64)), (.long (Int64.ofNat kA))]))
    refine own_st (fun zt zk => XS.lcmp X16.here hx rfl (hb hby at_97) rfl zk) ?_
    show own_G p e below s _ _ _ (T16.setTop (mkF m 98 #[.val (.long sd), .second, .val (.int bq), .val (.int bd), .val (.ref b1), .val (.ref b3), .val (.long d1), .second, .val (.int (own_pv sd bd kA)), .val (.ref nb12), .val (.long (Int64.ofNat kA)), .second, .unset, .unset] [(.int (lcmpW (Int64.ofNat kA) (1 : Int64)))]))
    have hc98_19 : (Int64.ofNat kA) = (1 : Int64) := by rw [k1]; decide
    refine own_st (fun zt zk => XS.ifNo X16.here hx rfl (hb hby at_98) rfl ((if0 _ _).trans (teq ((lw_eq (Int64.ofNat kA) (1 : Int64)).mpr hc98_19)).2) zk) ?_
    show own_G p e below s _ _ _ (T16.setTop (mkF m 101 #[.val (.long sd), .second, .val (.int bq), .val (.int bd), .val (.ref b1), .val (.ref b3), .val (.long d1), .second, .val (.int (own_pv sd bd kA)), .val (.ref nb12), .val (.long (Int64.ofNat kA)), .second, .unset, .unset] []))
    refine own_st (fun zt zk => XS.iconst X16.here hx rfl (hb hby at_101) zk) ?_
    show own_G p e below s _ _ _ (T16.setTop (mkF m 102 #[.val (.long sd), .second, .val (.int bq), .val (.int bd), .val (.ref b1), .val (.ref b3), .val (.long d1), .second, .val (.int (own_pv sd bd kA)), .val (.ref nb12), .val (.long (Int64.ofNat kA)), .second, .unset, .unset] [(.int (1 : Int32))]))
    refine own_st (fun zt zk => XS.goto X16.here hx rfl (pc0 := 102) (pc' := 106) rfl (hb hby at_102) (by decide) (by decide) zk) ?_
    show own_G p e below s _ _ _ (T16.setTop (mkF m 106 #[.val (.long sd), .second, .val (.int bq), .val (.int bd), .val (.ref b1), .val (.ref b3), .val (.long d1), .second, .val (.int (own_pv sd bd kA)), .val (.ref nb12), .val (.long (Int64.ofNat kA)), .second, .unset, .unset] [(.int (1 : Int32))]))
    refine own_retZ X16 hx hlk hret (by decide) (hb hby at_106) (by decide) (by decide) ?_
    show Q_own_law Z sd bq h0 n0 (some (.int (1 : Int32))) T16.heap _
    rw [e16]
    exact ⟨rfl, N16⟩
  · refine own_st (fun zt zk => XS.ifYes X16.here hx rfl (pc0 := 80) (pc' := 107) rfl (hb hby at_80) rfl ((if0 _ _).trans (teq (own_b0 hc80_17)).1) (by decide) (by decide) zk) ?_
    show own_G p e below s _ _ _ (T16.setTop (mkF m 107 #[.val (.long sd), .second, .val (.int bq), .val (.int bd), .val (.ref b1), .val (.ref b3), .val (.long d1), .second, .val (.int (own_pv sd bd kA)), .val (.ref nb12), .val (.long (Int64.ofNat kA)), .second, .unset, .unset] []))
    have k2 : 2 ≤ kA := by
      rcases Nat.lt_or_ge kA 2 with q | q
      · have q1 : kA = 1 := Nat.le_antisymm (Nat.le_of_lt_succ q) hk1.1
        exact absurd (g1.mpr (by rw [dd1, ← q1]; exact hk1.2)) hc80_17
      · exact q
    refine own_st (fun zt zk => XS.aload X16.here hx rfl (hb hby at_107) rfl rfl zk) ?_
    show own_G p e below s _ _ _ (T16.setTop (mkF m 109 #[.val (.long sd), .second, .val (.int bq), .val (.int bd), .val (.ref b1), .val (.ref b3), .val (.long d1), .second, .val (.int (own_pv sd bd kA)), .val (.ref nb12), .val (.long (Int64.ofNat kA)), .second, .unset, .unset] [(.ref b3)]))
    have F21 : Fld Z T12.heap b3 "com/example/veiled_crown/veiledcrown/engine/Chance" "seed" "J" (.long sd) := ((q6_0.keep K8 (ninS (Ne.symm ne3_b1) nin0)).keep K12 nin0)
    have F22 : Fld Z T12.heap b3 "com/example/veiled_crown/veiledcrown/engine/Chance" "draws" "J" (.long ((0 : Int64) + (1 : Int64))) := ((q6_1.keep K8 (ninS (Ne.symm ne3_b1) nin0)).keep K12 nin0)
    have E23 : Exa Z T12.heap b3 "com/example/veiled_crown/veiledcrown/engine/Chance" := (((E7.keep K6).keep K8).keep K12)
    obtain ⟨_, T20, L20, X20, hQ20, st20⟩ := own_callV X16 hx hZ (C := "com/example/veiled_crown/veiledcrown/engine/Chance") (y := (⟨"com/example/veiled_crown/veiledcrown/engine/Chance", "nextLong", "()J"⟩ : MethodName)) (z := (⟨"com/example/veiled_crown/veiledcrown/engine/Chance", "nextLong", "()J"⟩ : MethodName)) (a := b3) (argsL := []) (rest := []) 0 hown (hw _ (List.mem_of_getElem? (i := 43) rfl)) (hw _ (List.mem_of_getElem? (i := 44) rfl)) (own_nf hZ (hw _ (List.mem_of_getElem? (i := 46) rfl))) (hw _ (List.mem_of_getElem? (i := 46) rfl)) (hw _ (List.mem_of_getElem? (i := 45) rfl)) (hw _ (List.mem_of_getElem? (i := 3) rfl)) (hw _ (List.mem_of_getElem? (i := 47) rfl)) (by decide) (own_nlg l Z a0 hw [] b3 sd ((0 : Int64) + (1 : Int64)) T12.heap n0 (Nat.le_trans (Nat.le_trans (Nat.le_trans (Nat.le_trans (Nat.le_trans (Nat.le_trans (Nat.le_trans Z0 E1.1) K2.1) E3.1) K5.1) K6.1) K8.1) K12.1) E23 F21 F22 ge3) (by decide) (by decide) e16 E23 (g := (mkF m 109 #[.val (.long sd), .second, .val (.int bq), .val (.int bd), .val (.ref b1), .val (.ref b3), .val (.long d1), .second, .val (.int (own_pv sd bd kA)), .val (.ref nb12), .val (.long (Int64.ofNat kA)), .second, .unset, .unset] [(.ref b3)])) rfl (by rw [hml]; rfl) own_pd1 rfl rfl (by show 2 * 0 + _ ≤ _; exact Nat.le_of_eq rfl) (hb hby at_109) (by decide) (by decide)
    obtain ⟨rfl, N20q, K20, q20_0, q20_1⟩ := hQ20
    have N20 := Fr.app N16 N20q
    refine own_st st20 ?_
    show own_G p e below s _ _ _ (T20.setTop (mkF m 112 #[.val (.long sd), .second, .val (.int bq), .val (.int bd), .val (.ref b1), .val (.ref b3), .val (.long d1), .second, .val (.int (own_pv sd bd kA)), .val (.ref nb12), .val (.long (Int64.ofNat kA)), .second, .unset, .unset] [(.long (own_out (sd + ((((0 : Int64) + (1 : Int64)) + (1 : Int64)) * (-7046029254386353131 : Int64)))))]))
    refine own_st (fun zt zk => XS.bipush X20.here hx rfl (hb hby at_112) zk) ?_
    show own_G p e below s _ _ _ (T20.setTop (mkF m 114 #[.val (.long sd), .second, .val (.int bq), .val (.int bd), .val (.ref b1), .val (.ref b3), .val (.long d1), .second, .val (.int (own_pv sd bd kA)), .val (.ref nb12), .val (.long (Int64.ofNat kA)), .second, .unset, .unset] [(.int (33 : Int32)), (.long (own_out (sd + ((((0 : Int64) + (1 : Int64)) + (1 : Int64)) * (-7046029254386353131 : Int64)))))]))
    refine own_st (fun zt zk => XS.lushr X20.here hx rfl (hb hby at_114) rfl zk) ?_
    show own_G p e below s _ _ _ (T20.setTop (mkF m 115 #[.val (.long sd), .second, .val (.int bq), .val (.int bd), .val (.ref b1), .val (.ref b3), .val (.long d1), .second, .val (.int (own_pv sd bd kA)), .val (.ref nb12), .val (.long (Int64.ofNat kA)), .second, .unset, .unset] [(.long (((own_out (sd + ((((0 : Int64) + (1 : Int64)) + (1 : Int64)) * (-7046029254386353131 : Int64)))).toUInt64 >>> ((33 : Int32) &&& 0x3f).toInt64.toUInt64).toInt64))]))
    refine own_st (fun zt zk => XS.lstore X20.here hx rfl (hb hby at_115) rfl (l' := #[.val (.long sd), .second, .val (.int bq), .val (.int bd), .val (.ref b1), .val (.ref b3), .val (.long d1), .second, .val (.int (own_pv sd bd kA)), .val (.ref nb12), .val (.long (Int64.ofNat kA)), .second, .val (.long (((own_out (sd + ((((0 : Int64) + (1 : Int64)) + (1 : Int64)) * (-7046029254386353131 : Int64)))).toUInt64 >>> ((33 : Int32) &&& 0x3f).toInt64.toUInt64).toInt64)), .second]) rfl zk) ?_
    show own_G p e below s _ _ _ (T20.setTop (mkF m 117 #[.val (.long sd), .second, .val (.int bq), .val (.int bd), .val (.ref b1), .val (.ref b3), .val (.long d1), .second, .val (.int (own_pv sd bd kA)), .val (.ref nb12), .val (.long (Int64.ofNat kA)), .second, .val (.long (((own_out (sd + ((((0 : Int64) + (1 : Int64)) + (1 : Int64)) * (-7046029254386353131 : Int64)))).toUInt64 >>> ((33 : Int32) &&& 0x3f).toInt64.toUInt64).toInt64)), .second] []))
    obtain ⟨d2, q_d2⟩ : ∃ z, z = (((own_out (sd + ((((0 : Int64) + (1 : Int64)) + (1 : Int64)) * (-7046029254386353131 : Int64)))).toUInt64 >>> ((33 : Int32) &&& 0x3f).toInt64.toUInt64).toInt64) := ⟨_, rfl⟩
    rw [← q_d2]
    show own_G p e below s _ _ _ (T20.setTop (mkF m 117 #[.val (.long sd), .second, .val (.int bq), .val (.int bd), .val (.ref b1), .val (.ref b3), .val (.long d1), .second, .val (.int (own_pv sd bd kA)), .val (.ref nb12), .val (.long (Int64.ofNat kA)), .second, .val (.long d2), .second] []))
    have dd2 : d2 = own_draw sd (Int64.ofNat 2) := by rw [q_d2, show (0 : Int64) + (1 : Int64) + (1 : Int64) = Int64.ofNat 2 from by decide]; rfl
    have r2 := own_draw_rng sd (Int64.ofNat 2)
    have g2 := own_full d2 bd fb (by rw [dd2]; exact r2.1) (by rw [dd2]; exact r2.2)
    refine own_st (fun zt zk => XS.lload X20.here hx rfl (hb hby at_117) rfl zk) ?_
    show own_G p e below s _ _ _ (T20.setTop (mkF m 119 #[.val (.long sd), .second, .val (.int bq), .val (.int bd), .val (.ref b1), .val (.ref b3), .val (.long d1), .second, .val (.int (own_pv sd bd kA)), .val (.ref nb12), .val (.long (Int64.ofNat kA)), .second, .val (.long d2), .second] [(.long d2)]))
    refine own_st (fun zt zk => XS.iloadN X20.here hx rfl (hb hby at_119) rfl zk) ?_
    show own_G p e below s _ _ _ (T20.setTop (mkF m 120 #[.val (.long sd), .second, .val (.int bq), .val (.int bd), .val (.ref b1), .val (.ref b3), .val (.long d1), .second, .val (.int (own_pv sd bd kA)), .val (.ref nb12), .val (.long (Int64.ofNat kA)), .second, .val (.long d2), .second] [(.int bd), (.long d2)]))
    obtain ⟨_, T24, L24, X24, hQ24, st24⟩ := own_callS X20 hx hZ (y := (⟨"com/example/veiled_crown/veiledcrown/engine/ChancePickPinLaw", "fullBlock", "(JI)Z"⟩ : MethodName)) (argsL := [(.long d2), (.int bd)]) (rest := []) 0 hown (hw _ (List.mem_of_getElem? (i := 68) rfl)) (hw _ (List.mem_of_getElem? (i := 69) rfl)) (hw _ (List.mem_of_getElem? (i := 70) rfl)) (hw _ (List.mem_of_getElem? (i := 71) rfl)) (by decide) (own_cful l Z a0 hw [] d2 bd T20.heap n0 (Nat.le_trans (Nat.le_trans (Nat.le_trans (Nat.le_trans (Nat.le_trans (Nat.le_trans (Nat.le_trans (Nat.le_trans Z0 E1.1) K2.1) E3.1) K5.1) K6.1) K8.1) K12.1) K20.1) fz) (by decide) (by decide) rfl (g := (mkF m 120 #[.val (.long sd), .second, .val (.int bq), .val (.int bd), .val (.ref b1), .val (.ref b3), .val (.long d1), .second, .val (.int (own_pv sd bd kA)), .val (.ref nb12), .val (.long (Int64.ofNat kA)), .second, .val (.long d2), .second] [(.int bd), (.long d2)])) rfl (by rw [hml]; rfl) own_pd7 rfl rfl (by show 2 * 0 + _ ≤ _; exact Nat.le_of_eq rfl) (hb hby at_120) (by decide) (by decide)
    obtain ⟨rfl, N24q, e24⟩ := hQ24
    have N24 := Fr.app N20 N24q
    refine own_st st24 ?_
    show own_G p e below s _ _ _ (T24.setTop (mkF m 123 #[.val (.long sd), .second, .val (.int bq), .val (.int bd), .val (.ref b1), .val (.ref b3), .val (.long d1), .second, .val (.int (own_pv sd bd kA)), .val (.ref nb12), .val (.long (Int64.ofNat kA)), .second, .val (.long d2), .second] [(.int (own_b (¬ ((2147483648 : Int64) < (own_fl d2 bd)))))]))
    by_cases hc123_25 : (¬ ((2147483648 : Int64) < (own_fl d2 bd)))
    · refine own_st (fun zt zk => XS.ifNo X24.here hx rfl (hb hby at_123) rfl ((if0 _ _).trans (feq (own_bn hc123_25)).1) zk) ?_
      show own_G p e below s _ _ _ (T24.setTop (mkF m 126 #[.val (.long sd), .second, .val (.int bq), .val (.int bd), .val (.ref b1), .val (.ref b3), .val (.long d1), .second, .val (.int (own_pv sd bd kA)), .val (.ref nb12), .val (.long (Int64.ofNat kA)), .second, .val (.long d2), .second] []))
      have k3 : kA = 2 := by
        rcases Nat.lt_or_ge 2 kA with q | q
        · exact absurd ⟨(by decide : 1 ≤ 2), by rw [← dd2]; exact g2.mp hc123_25⟩ (hk3 2 q)
        · exact Nat.le_antisymm q k2
      refine own_st (fun zt zk => XS.iload X24.here hx rfl (hb hby at_126) rfl zk) ?_
      show own_G p e below s _ _ _ (T24.setTop (mkF m 128 #[.val (.long sd), .second, .val (.int bq), .val (.int bd), .val (.ref b1), .val (.ref b3), .val (.long d1), .second, .val (.int (own_pv sd bd kA)), .val (.ref nb12), .val (.long (Int64.ofNat kA)), .second, .val (.long d2), .second] [(.int (own_pv sd bd kA))]))
      refine own_st (fun zt zk => XS.lload X24.here hx rfl (hb hby at_128) rfl zk) ?_
      show own_G p e below s _ _ _ (T24.setTop (mkF m 130 #[.val (.long sd), .second, .val (.int bq), .val (.int bd), .val (.ref b1), .val (.ref b3), .val (.long d1), .second, .val (.int (own_pv sd bd kA)), .val (.ref nb12), .val (.long (Int64.ofNat kA)), .second, .val (.long d2), .second] [(.long d2), (.int (own_pv sd bd kA))]))
      refine own_st (fun zt zk => XS.iloadN X24.here hx rfl (hb hby at_130) rfl zk) ?_
      show own_G p e below s _ _ _ (T24.setTop (mkF m 131 #[.val (.long sd), .second, .val (.int bq), .val (.int bd), .val (.ref b1), .val (.ref b3), .val (.long d1), .second, .val (.int (own_pv sd bd kA)), .val (.ref nb12), .val (.long (Int64.ofNat kA)), .second, .val (.long d2), .second] [(.int bd), (.long d2), (.int (own_pv sd bd kA))]))
      refine own_st (fun zt zk => XS.i2l X24.here hx rfl (hb hby at_131) rfl zk) ?_
      show own_G p e below s _ _ _ (T24.setTop (mkF m 132 #[.val (.long sd), .second, .val (.int bq), .val (.int bd), .val (.ref b1), .val (.ref b3), .val (.long d1), .second, .val (.int (own_pv sd bd kA)), .val (.ref nb12), .val (.long (Int64.ofNat kA)), .second, .val (.long d2), .second] [(.long bd.toInt64), (.long d2), (.int (own_pv sd bd kA))]))
      refine own_st (fun zt zk => XS.lrem X24.here hx rfl (hb hby at_132) rfl fz zk) ?_
      show own_G p e below s _ _ _ (T24.setTop (mkF m 133 #[.val (.long sd), .second, .val (.int bq), .val (.int bd), .val (.ref b1), .val (.ref b3), .val (.long d1), .second, .val (.int (own_pv sd bd kA)), .val (.ref nb12), .val (.long (Int64.ofNat kA)), .second, .val (.long d2), .second] [(.long (d2 - (d2 / bd.toInt64) * bd.toInt64)), (.int (own_pv sd bd kA))]))
      refine own_st (fun zt zk => XS.l2i X24.here hx rfl (hb hby at_133) rfl zk) ?_
      show own_G p e below s _ _ _ (T24.setTop (mkF m 134 #[.val (.long sd), .second, .val (.int bq), .val (.int bd), .val (.ref b1), .val (.ref b3), .val (.long d1), .second, .val (.int (own_pv sd bd kA)), .val (.ref nb12), .val (.long (Int64.ofNat kA)), .second, .val (.long d2), .second] [(.int (d2 - (d2 / bd.toInt64) * bd.toInt64).toInt32), (.int (own_pv sd bd kA))]))
      have hc134_26 : (own_pv sd bd kA) = (d2 - (d2 / bd.toInt64) * bd.toInt64).toInt32 := by rw [k3, dd2]; rfl
      refine own_st (fun zt zk => XS.icmpNo X24.here hx rfl (hb hby at_134) rfl (teq hc134_26).2 zk) ?_
      show own_G p e below s _ _ _ (T24.setTop (mkF m 137 #[.val (.long sd), .second, .val (.int bq), .val (.int bd), .val (.ref b1), .val (.ref b3), .val (.long d1), .second, .val (.int (own_pv sd bd kA)), .val (.ref nb12), .val (.long (Int64.ofNat kA)), .second, .val (.long d2), .second] []))
      refine own_st (fun zt zk => XS.lload X24.here hx rfl (hb hby at_137) rfl zk) ?_
      show own_G p e below s _ _ _ (T24.setTop (mkF m 139 #[.val (.long sd), .second, .val (.int bq), .val (.int bd), .val (.ref b1), .val (.ref b3), .val (.long d1), .second, .val (.int (own_pv sd bd kA)), .val (.ref nb12), .val (.long (Int64.ofNat kA)), .second, .val (.long d2), .second] [(.long (Int64.ofNat kA))]))
      refine own_st (X24.ldc2Long hx hown (mvT hZ (hw _ (List.mem_of_getElem? (i := 73) rfl))) (g := (mkF m 139 #[.val (.long sd), .second, .val (.int bq), .val (.int bd), .val (.ref b1), .val (.ref b3), .val (.long d1), .second, .val (.int (own_pv sd bd kA)), .val (.ref nb12), .val (.long (Int64.ofNat kA)), .second, .val (.long d2), .second] [(.long (Int64.ofNat kA))])) rfl (hb hby at_139)) ?_
      show own_G p e below s _ _ _ (T24.setTop (mkF m 142 #[.val (.long sd), .second, .val (.int bq), .val (.int bd), .val (.ref b1), .val (.ref b3), .val (.long d1), .second, .val (.int (own_pv sd bd kA)), .val (.ref nb12), .val (.long (Int64.ofNat kA)), .second, .val (.long d2), .second] [(.long (2 : Int64)), (.long (Int64.ofNat kA))]))
      refine own_st (fun zt zk => XS.lcmp X24.here hx rfl (hb hby at_142) rfl zk) ?_
      show own_G p e below s _ _ _ (T24.setTop (mkF m 143 #[.val (.long sd), .second, .val (.int bq), .val (.int bd), .val (.ref b1), .val (.ref b3), .val (.long d1), .second, .val (.int (own_pv sd bd kA)), .val (.ref nb12), .val (.long (Int64.ofNat kA)), .second, .val (.long d2), .second] [(.int (lcmpW (Int64.ofNat kA) (2 : Int64)))]))
      have hc143_27 : (Int64.ofNat kA) = (2 : Int64) := by rw [k3]; decide
      refine own_st (fun zt zk => XS.ifNo X24.here hx rfl (hb hby at_143) rfl ((if0 _ _).trans (teq ((lw_eq (Int64.ofNat kA) (2 : Int64)).mpr hc143_27)).2) zk) ?_
      show own_G p e below s _ _ _ (T24.setTop (mkF m 146 #[.val (.long sd), .second, .val (.int bq), .val (.int bd), .val (.ref b1), .val (.ref b3), .val (.long d1), .second, .val (.int (own_pv sd bd kA)), .val (.ref nb12), .val (.long (Int64.ofNat kA)), .second, .val (.long d2), .second] []))
      refine own_st (fun zt zk => XS.iconst X24.here hx rfl (hb hby at_146) zk) ?_
      show own_G p e below s _ _ _ (T24.setTop (mkF m 147 #[.val (.long sd), .second, .val (.int bq), .val (.int bd), .val (.ref b1), .val (.ref b3), .val (.long d1), .second, .val (.int (own_pv sd bd kA)), .val (.ref nb12), .val (.long (Int64.ofNat kA)), .second, .val (.long d2), .second] [(.int (1 : Int32))]))
      refine own_st (fun zt zk => XS.goto X24.here hx rfl (pc0 := 147) (pc' := 151) rfl (hb hby at_147) (by decide) (by decide) zk) ?_
      show own_G p e below s _ _ _ (T24.setTop (mkF m 151 #[.val (.long sd), .second, .val (.int bq), .val (.int bd), .val (.ref b1), .val (.ref b3), .val (.long d1), .second, .val (.int (own_pv sd bd kA)), .val (.ref nb12), .val (.long (Int64.ofNat kA)), .second, .val (.long d2), .second] [(.int (1 : Int32))]))
      refine own_retZ X24 hx hlk hret (by decide) (hb hby at_151) (by decide) (by decide) ?_
      show Q_own_law Z sd bq h0 n0 (some (.int (1 : Int32))) T24.heap _
      rw [e24]
      exact ⟨rfl, N24⟩
    · refine own_st (fun zt zk => XS.ifYes X24.here hx rfl (pc0 := 123) (pc' := 152) rfl (hb hby at_123) rfl ((if0 _ _).trans (teq (own_b0 hc123_25)).1) (by decide) (by decide) zk) ?_
      show own_G p e below s _ _ _ (T24.setTop (mkF m 152 #[.val (.long sd), .second, .val (.int bq), .val (.int bd), .val (.ref b1), .val (.ref b3), .val (.long d1), .second, .val (.int (own_pv sd bd kA)), .val (.ref nb12), .val (.long (Int64.ofNat kA)), .second, .val (.long d2), .second] []))
      have k4 : 3 ≤ kA := by
        rcases Nat.lt_or_ge kA 3 with q | q
        · have q1 : kA = 2 := Nat.le_antisymm (Nat.le_of_lt_succ q) k2
          exact absurd (g2.mpr (by rw [dd2, ← q1]; exact hk1.2)) hc123_25
        · exact q
      refine own_st (fun zt zk => XS.lload X24.here hx rfl (hb hby at_152) rfl zk) ?_
      show own_G p e below s _ _ _ (T24.setTop (mkF m 154 #[.val (.long sd), .second, .val (.int bq), .val (.int bd), .val (.ref b1), .val (.ref b3), .val (.long d1), .second, .val (.int (own_pv sd bd kA)), .val (.ref nb12), .val (.long (Int64.ofNat kA)), .second, .val (.long d2), .second] [(.long (Int64.ofNat kA))]))
      refine own_st (X24.ldc2Long hx hown (mvT hZ (hw _ (List.mem_of_getElem? (i := 74) rfl))) (g := (mkF m 154 #[.val (.long sd), .second, .val (.int bq), .val (.int bd), .val (.ref b1), .val (.ref b3), .val (.long d1), .second, .val (.int (own_pv sd bd kA)), .val (.ref nb12), .val (.long (Int64.ofNat kA)), .second, .val (.long d2), .second] [(.long (Int64.ofNat kA))])) rfl (hb hby at_154)) ?_
      show own_G p e below s _ _ _ (T24.setTop (mkF m 157 #[.val (.long sd), .second, .val (.int bq), .val (.int bd), .val (.ref b1), .val (.ref b3), .val (.long d1), .second, .val (.int (own_pv sd bd kA)), .val (.ref nb12), .val (.long (Int64.ofNat kA)), .second, .val (.long d2), .second] [(.long (3 : Int64)), (.long (Int64.ofNat kA))]))
      refine own_st (fun zt zk => XS.lcmp X24.here hx rfl (hb hby at_157) rfl zk) ?_
      show own_G p e below s _ _ _ (T24.setTop (mkF m 158 #[.val (.long sd), .second, .val (.int bq), .val (.int bd), .val (.ref b1), .val (.ref b3), .val (.long d1), .second, .val (.int (own_pv sd bd kA)), .val (.ref nb12), .val (.long (Int64.ofNat kA)), .second, .val (.long d2), .second] [(.int (lcmpW (Int64.ofNat kA) (3 : Int64)))]))
      have hc158_28 : ¬ ((Int64.ofNat kA) < (3 : Int64)) := own_not3 kA hk2 k4
      refine own_st (fun zt zk => XS.ifNo X24.here hx rfl (hb hby at_158) rfl ((if0 _ _).trans (flt (mt (lw_lt (Int64.ofNat kA) (3 : Int64)).mp hc158_28)).1) zk) ?_
      show own_G p e below s _ _ _ (T24.setTop (mkF m 161 #[.val (.long sd), .second, .val (.int bq), .val (.int bd), .val (.ref b1), .val (.ref b3), .val (.long d1), .second, .val (.int (own_pv sd bd kA)), .val (.ref nb12), .val (.long (Int64.ofNat kA)), .second, .val (.long d2), .second] []))
      refine own_st (fun zt zk => XS.iload X24.here hx rfl (hb hby at_161) rfl zk) ?_
      show own_G p e below s _ _ _ (T24.setTop (mkF m 163 #[.val (.long sd), .second, .val (.int bq), .val (.int bd), .val (.ref b1), .val (.ref b3), .val (.long d1), .second, .val (.int (own_pv sd bd kA)), .val (.ref nb12), .val (.long (Int64.ofNat kA)), .second, .val (.long d2), .second] [(.int (own_pv sd bd kA))]))
      have hc163_29 : ¬ ((own_pv sd bd kA) < (0 : Int32)) := (own_pvR sd bd kA fb).1
      refine own_st (fun zt zk => XS.ifNo X24.here hx rfl (hb hby at_163) rfl ((if0 _ _).trans (flt hc163_29).1) zk) ?_
      show own_G p e below s _ _ _ (T24.setTop (mkF m 166 #[.val (.long sd), .second, .val (.int bq), .val (.int bd), .val (.ref b1), .val (.ref b3), .val (.long d1), .second, .val (.int (own_pv sd bd kA)), .val (.ref nb12), .val (.long (Int64.ofNat kA)), .second, .val (.long d2), .second] []))
      refine own_st (fun zt zk => XS.iload X24.here hx rfl (hb hby at_166) rfl zk) ?_
      show own_G p e below s _ _ _ (T24.setTop (mkF m 168 #[.val (.long sd), .second, .val (.int bq), .val (.int bd), .val (.ref b1), .val (.ref b3), .val (.long d1), .second, .val (.int (own_pv sd bd kA)), .val (.ref nb12), .val (.long (Int64.ofNat kA)), .second, .val (.long d2), .second] [(.int (own_pv sd bd kA))]))
      refine own_st (fun zt zk => XS.iloadN X24.here hx rfl (hb hby at_168) rfl zk) ?_
      show own_G p e below s _ _ _ (T24.setTop (mkF m 169 #[.val (.long sd), .second, .val (.int bq), .val (.int bd), .val (.ref b1), .val (.ref b3), .val (.long d1), .second, .val (.int (own_pv sd bd kA)), .val (.ref nb12), .val (.long (Int64.ofNat kA)), .second, .val (.long d2), .second] [(.int bd), (.int (own_pv sd bd kA))]))
      have hc169_30 : (own_pv sd bd kA) < bd := (own_pvR sd bd kA fb).2
      refine own_st (fun zt zk => XS.icmpNo X24.here hx rfl (hb hby at_169) rfl (tlt hc169_30).2.1 zk) ?_
      show own_G p e below s _ _ _ (T24.setTop (mkF m 172 #[.val (.long sd), .second, .val (.int bq), .val (.int bd), .val (.ref b1), .val (.ref b3), .val (.long d1), .second, .val (.int (own_pv sd bd kA)), .val (.ref nb12), .val (.long (Int64.ofNat kA)), .second, .val (.long d2), .second] []))
      refine own_st (fun zt zk => XS.iconst X24.here hx rfl (hb hby at_172) zk) ?_
      show own_G p e below s _ _ _ (T24.setTop (mkF m 173 #[.val (.long sd), .second, .val (.int bq), .val (.int bd), .val (.ref b1), .val (.ref b3), .val (.long d1), .second, .val (.int (own_pv sd bd kA)), .val (.ref nb12), .val (.long (Int64.ofNat kA)), .second, .val (.long d2), .second] [(.int (1 : Int32))]))
      refine own_st (fun zt zk => XS.goto X24.here hx rfl (pc0 := 173) (pc' := 177) rfl (hb hby at_173) (by decide) (by decide) zk) ?_
      show own_G p e below s _ _ _ (T24.setTop (mkF m 177 #[.val (.long sd), .second, .val (.int bq), .val (.int bd), .val (.ref b1), .val (.ref b3), .val (.long d1), .second, .val (.int (own_pv sd bd kA)), .val (.ref nb12), .val (.long (Int64.ofNat kA)), .second, .val (.long d2), .second] [(.int (1 : Int32))]))
      refine own_retZ X24 hx hlk hret (by decide) (hb hby at_177) (by decide) (by decide) ?_
      show Q_own_law Z sd bq h0 n0 (some (.int (1 : Int32))) T24.heap _
      rw [e24]
      exact ⟨rfl, N24⟩
set_option maxRecDepth 65536 in
set_option maxHeartbeats 40000000 in
theorem comes_1 {Post : Tables → Env → Array Value → State → Outcome → State → Prop} (hpost : ∀ tb e args s v u, (limb_1_1.after args s (.returned v) u = true ∧ limb_1_2.after args s (.returned v) u = true ∧ True) → FrameEnd s (.returned v) u (Jvm.fieldLocs frame_1_writes args s ++ Jvm.arrayLocs frame_1_arrays args s ++ Jvm.staticLocs frame_1_statics s) 24 128 → Post tb e args s (.returned v) u) :
    ArmFor flags0 classFile x code maxLocals ret World_1 tables_1 room_1 Calls_1 rest_1 Pre_1 Post := by
  intro l hfl _ _ p e ha hc hk s m args below hf hA hF happ hP
  obtain ⟨hcalls, hrest, hpre⟩ := hP
  obtain ⟨-, -, -, hnamed, -, -, -, hat⟩ := (Spec.applies_iff hf).mp happ
  obtain ⟨hg, hn⟩ := and_e (Cond.before_iff.mp (show (Jvm.Cond.and given_1 narrow_1).before args s = true from hpre))
  obtain ⟨k1, k2⟩ := and_e hg
  obtain ⟨j0, i0⟩ := and_e k2
  obtain ⟨w0, w1, rfl⟩ : ∃ w0 w1 : Value, args = #[w0, w1] := by
    have hs : args.size = 2 := by simpa [Cond.value, given_1] using k1
    obtain ⟨L⟩ := args
    match L, hs with
    | [w0, w1], _ => exact ⟨w0, w1, rfl⟩
  have hw := fun d (hd : d ∈ tables_1) => atoms_spec (ws := Jvm.Cond.code x code maxLocals ret :: tables_1) hat d (List.mem_cons_of_mem _ hd)
  have hfit : Fit s := fun {y c} hc i hi => by
    obtain ⟨ha, rfl⟩ := Array.getElem?_eq_some_iff.mp hc
    have q := List.all_eq_true.mp ((Array.all_eq_true_iff_forall_mem.mp hF) _ (Array.getElem_mem ha)) i (List.mem_range.mpr hi)
    simpa [Array.getElem?_eq_getElem hi] using q
  obtain ⟨y0, z0⟩ := isL_v j0
  obtain rfl : w0 = (.long y0) := Option.some.inj z0
  obtain ⟨y1, z1⟩ := is_v i0
  obtain rfl : w1 = (.int y1) := Option.some.inj z1
  obtain ⟨n, o, h1, h2, h3, _, L, rfl, ⟨rfl, N⟩, hq⟩ := own_law l s _ hw tables_1 y0 y1 s.heap s.heap.size (Nat.le_refl _)  p e ha hc hk s m _ below hf ((Spec.applies_iff_loose hf).mp happ).1 ⟨rfl, State.Warmed39.refl s, rfl⟩ trivial
  refine ⟨n, _, h1, h2, h3, hpost _ _ _ _ _ _ ⟨Cond.after_iff.mpr rfl, Cond.after_iff.mpr (eq_i res_at (Term.int_eval (1)) rfl), trivial⟩ ⟨hq.1, hq.2.1, (hq.2.2.sift fun y hy => Or.inr (N y hy)).mono (by decide) (by decide)⟩⟩
theorem main_1_1 : Claimed_1_1 := comes_1 fun _ _ _ _ _ _ h hF => ⟨h.1, hF⟩
theorem main_1_2 : Claimed_1_2 := comes_1 fun _ _ _ _ _ _ h hF => ⟨h.2.1, hF⟩
end Jvm.Pilot.@@N@@
namespace Jvm.Pilot.@@N@@
open Jvm Jvm.ClassFile Sem Op Lib Jvm.Free Jvm.Stand Jvm.Pilot.@@N@@.Jvm.D
/-! MADE BY PROGRAM (witnessworld.py) out of the Statement's table words and the real class files: 11 classes; the members and pool entries that the words name. The judged class is class 1, her method 2. -/
namespace start1
open Jvm.ClassFile
def u (s : String) : CpInfo := .utf8 (stringToUtf16 s)
/-- a pool by its gaps: so many unusable entries, then the entry; so many at the end -/
def gap : Nat → List CpInfo → List CpInfo
  | 0, r => r
  | n + 1, r => .unusable :: gap n r
def poolList (es : List (Nat × CpInfo)) (last : Nat) : List CpInfo := es.foldr (fun e r => gap e.1 (e.2 :: r)) (gap last [])
def pool (es : List (Nat × CpInfo)) (last : Nat) : Array CpInfo := ⟨poolList es last⟩
def fileOf (pool : Array CpInfo) (this : Nat) (attrs : Array Attribute := #[]) (ms : Array MethodInfo := #[]) (fl : Nat := 33) (sup : Nat := 0) (ifs : Array Nat := #[]) (fds : Array FieldInfo := #[]) : ClassFile where
  minorVersion := 0
  majorVersion := 65
  constantPool := pool
  accessFlags := fl
  thisClass := this
  superClass := sup
  interfaces := ifs
  fields := fds
  methods := ms
  attributes := attrs
def plain (name : String) (sup : Option ClassId) : Class where
  name := name
  kind := .ordinary
  loader := none
  accessFlags := 33
  super := sup
  interfaces := #[]
  cf := none
  fields := #[]
  methods := #[]
  instanceTypes := #[]
  staticTypes := #[]
  resolved := #[]
  callSites := []
  init := .initialized
  statics := none
  mirror := none

def pool0 : Array CpInfo := pool [(5, u "<init>"), (0, u "()V"), (1, .class_ 10), (1, u "java/lang/Object")] 113

def k0c0 : Code := { maxStack := 0, maxLocals := 1, code := object_method_1_code, exceptionTable := #[], attributes := #[] }
def k0m0 : Method := { name := "<init>", desc := "()V", sig := { parameters := [], returnType := none }, accessFlags := 1, code := some k0c0 }
/-- java/lang/Object -/
def k0 : Class := { plain "java/lang/Object" none with
  accessFlags := 33
  interfaces := #[]
  cf := some (fileOf pool0 8 #[] #[{ accessFlags := 1, nameIndex := 5, descriptorIndex := 6, attributes := #[] }] 33 0 #[] #[])
  fields := #[]
  methods := #[k0m0]
  instanceTypes := #[]
  staticTypes := #[]
  resolved := Array.replicate 124 none
  statics := none }

def pool1 : Array CpInfo := pool [(2, .class_ 4), (1, u "java/lang/Object"), (0, u "<init>"), (0, u "()V"), (0, .long 2147483648), (1, .integer 2147483647), (0, .class_ 11), (0, u "com/example/veiled_crown/veiledcrown/engine/Chance"), (0, .methodref 10 13), (0, .nameAndType 5 14), (0, u "(J)V"), (0, .methodref 10 16), (0, .nameAndType 17 18), (0, u "nextLong"), (0, u "()J"), (0, .methodref 10 20), (0, .nameAndType 21 22), (0, u "pick"), (0, u "(I)I"), (0, .methodref 10 24), (0, .nameAndType 25 26), (0, u "state"), (0, u "()Lcom/example/veiled_crown/veiledcrown/engine/ChanceState;"), (0, .methodref 28 29), (0, .class_ 30), (0, .nameAndType 31 18), (0, u "com/example/veiled_crown/veiledcrown/engine/ChanceState"), (0, u "draws"), (0, .methodref 28 33), (0, .nameAndType 34 18), (0, u "seed"), (0, .methodref 36 37), (0, .class_ 38), (0, .nameAndType 39 40), (0, u "com/example/veiled_crown/veiledcrown/engine/ChancePickPinLaw"), (0, u "fullBlock"), (0, u "(JI)Z"), (0, .long 2), (1, .long 3), (4, u "law")] 2

def k1m0 : Method := { name := "<init>", desc := "()V", sig := { parameters := [], returnType := none }, accessFlags := 2, code := none }
def k1c1 : Code := { maxStack := 4, maxLocals := 5, code := method_2_code, exceptionTable := #[], attributes := #[] }
def k1m1 : Method := { name := "fullBlock", desc := "(JI)Z", sig := { parameters := [.long, .int], returnType := some .boolean }, accessFlags := 10, code := some k1c1 }
def k1c2 : Code := { maxStack := 5, maxLocals := 14, code := code, exceptionTable := #[], attributes := #[] }
def k1m2 : Method := { name := "law", desc := "(JI)Z", sig := { parameters := [.long, .int], returnType := some .boolean }, accessFlags := 9, code := some k1c2 }
/-- com/example/veiled_crown/veiledcrown/engine/ChancePickPinLaw -/
def k1 : Class := { plain "com/example/veiled_crown/veiledcrown/engine/ChancePickPinLaw" (some 0) with
  accessFlags := 49
  interfaces := #[]
  cf := some (fileOf pool1 36 #[] #[{ accessFlags := 2, nameIndex := 5, descriptorIndex := 6, attributes := #[] }, { accessFlags := 10, nameIndex := 39, descriptorIndex := 40, attributes := #[] }, { accessFlags := 9, nameIndex := 48, descriptorIndex := 40, attributes := #[] }] 49 2 #[] #[])
  fields := #[]
  methods := #[k1m0, k1m1, k1m2]
  instanceTypes := #[]
  staticTypes := #[]
  resolved := Array.replicate 51 none
  statics := none }

def pool2 : Array CpInfo := pool [(1, .class_ 2), (0, u "com/example/veiled_crown/veiledcrown/engine/ChanceState"), (0, .methodref 1 4), (0, .nameAndType 5 6), (0, u "<init>"), (0, u "(JJ)V"), (0, .methodref 8 9), (0, .class_ 10), (0, .nameAndType 5 11), (0, u "com/example/veiled_crown/veiledcrown/engine/Chance"), (0, u "(Lcom/example/veiled_crown/veiledcrown/engine/ChanceState;)V"), (0, .methodref 13 14), (0, .class_ 15), (0, .nameAndType 5 16), (0, u "java/lang/Object"), (0, u "()V"), (0, .methodref 1 18), (0, .nameAndType 19 20), (0, u "seed"), (0, u "()J"), (0, .fieldref 8 22), (0, .nameAndType 19 23), (0, u "J"), (0, .methodref 1 25), (0, .nameAndType 26 20), (0, u "draws"), (0, .fieldref 8 28), (0, .nameAndType 26 23), (9, .long 2147483648), (1, .methodref 8 41), (0, .nameAndType 42 20), (0, u "next"), (8, u "pick"), (0, u "(I)I"), (6, .long 11400714819323198485), (1, .long 13787848793156543929), (1, .long 10723151780598845931), (1, u "GOLDEN_GAMMA"), (1, u "DRAWS"), (0, u "(J)V"), (2, u "state"), (0, u "()Lcom/example/veiled_crown/veiledcrown/engine/ChanceState;"), (1, u "nextLong")] 21

def k2c0 : Code := { maxStack := 7, maxLocals := 3, code := prog_14_method_1_code, exceptionTable := #[], attributes := #[] }
def k2m0 : Method := { name := "<init>", desc := "(J)V", sig := { parameters := [.long], returnType := none }, accessFlags := 0, code := some k2c0 }
def k2c1 : Code := { maxStack := 3, maxLocals := 2, code := prog_14_method_2_code, exceptionTable := #[], attributes := #[] }
def k2m1 : Method := { name := "<init>", desc := "(Lcom/example/veiled_crown/veiledcrown/engine/ChanceState;)V", sig := { parameters := [(.object "com/example/veiled_crown/veiledcrown/engine/ChanceState")], returnType := none }, accessFlags := 0, code := some k2c1 }
def k2c2 : Code := { maxStack := 6, maxLocals := 1, code := prog_14_method_3_code, exceptionTable := #[], attributes := #[] }
def k2m2 : Method := { name := "state", desc := "()Lcom/example/veiled_crown/veiledcrown/engine/ChanceState;", sig := { parameters := [], returnType := some (.object "com/example/veiled_crown/veiledcrown/engine/ChanceState") }, accessFlags := 0, code := some k2c2 }
def k2c3 : Code := { maxStack := 6, maxLocals := 6, code := prog_14_method_4_code, exceptionTable := #[], attributes := #[] }
def k2m3 : Method := { name := "pick", desc := "(I)I", sig := { parameters := [.int], returnType := some .int }, accessFlags := 0, code := some k2c3 }
def k2c4 : Code := { maxStack := 2, maxLocals := 1, code := prog_14_method_5_code, exceptionTable := #[], attributes := #[] }
def k2m4 : Method := { name := "nextLong", desc := "()J", sig := { parameters := [], returnType := some .long }, accessFlags := 0, code := some k2c4 }
def k2c5 : Code := { maxStack := 6, maxLocals := 3, code := prog_14_method_7_code, exceptionTable := #[], attributes := #[] }
def k2m5 : Method := { name := "next", desc := "()J", sig := { parameters := [], returnType := some .long }, accessFlags := 2, code := some k2c5 }
/-- com/example/veiled_crown/veiledcrown/engine/Chance -/
def k2 : Class := { plain "com/example/veiled_crown/veiledcrown/engine/Chance" (some 0) with
  accessFlags := 48
  interfaces := #[]
  cf := some (fileOf pool2 8 #[] #[{ accessFlags := 0, nameIndex := 5, descriptorIndex := 68, attributes := #[] }, { accessFlags := 0, nameIndex := 5, descriptorIndex := 11, attributes := #[] }, { accessFlags := 0, nameIndex := 71, descriptorIndex := 72, attributes := #[] }, { accessFlags := 0, nameIndex := 51, descriptorIndex := 52, attributes := #[] }, { accessFlags := 0, nameIndex := 74, descriptorIndex := 20, attributes := #[] }, { accessFlags := 2, nameIndex := 42, descriptorIndex := 20, attributes := #[] }] 48 13 #[] #[{ accessFlags := 26, nameIndex := 65, descriptorIndex := 23, attributes := #[] }, { accessFlags := 26, nameIndex := 67, descriptorIndex := 23, attributes := #[] }, { accessFlags := 18, nameIndex := 19, descriptorIndex := 23, attributes := #[] }, { accessFlags := 2, nameIndex := 26, descriptorIndex := 23, attributes := #[] }])
  fields := #[{ name := "GOLDEN_GAMMA", type := .long, accessFlags := 26, slot := 0, constantValue := 0 }, { name := "DRAWS", type := .long, accessFlags := 26, slot := 1, constantValue := 0 }, { name := "seed", type := .long, accessFlags := 18, slot := 0, constantValue := 0 }, { name := "draws", type := .long, accessFlags := 2, slot := 1, constantValue := 0 }]
  methods := #[k2m0, k2m1, k2m2, k2m3, k2m4, k2m5]
  instanceTypes := #[.long, .long]
  staticTypes := #[.long, .long]
  resolved := Array.replicate 96 none
  statics := none }

def pool3 : Array CpInfo := pool [(1, .methodref 2 3), (0, .class_ 4), (0, .nameAndType 5 6), (0, u "java/lang/Object"), (0, u "<init>"), (0, u "()V"), (0, .class_ 8), (0, u "java/lang/Record")] 13

def k3c0 : Code := { maxStack := 1, maxLocals := 1, code := jdk_30_method_1_code, exceptionTable := #[], attributes := #[] }
def k3m0 : Method := { name := "<init>", desc := "()V", sig := { parameters := [], returnType := none }, accessFlags := 4, code := some k3c0 }
/-- java/lang/Record -/
def k3 : Class := { plain "java/lang/Record" (some 0) with
  accessFlags := 1057
  interfaces := #[]
  cf := some (fileOf pool3 7 #[] #[{ accessFlags := 4, nameIndex := 5, descriptorIndex := 6, attributes := #[] }] 1057 2 #[] #[])
  fields := #[]
  methods := #[k3m0]
  instanceTypes := #[]
  staticTypes := #[]
  resolved := Array.replicate 22 none
  statics := none }

def pool4 : Array CpInfo := pool [(1, .methodref 2 3), (0, .class_ 4), (0, .nameAndType 5 6), (0, u "java/lang/Record"), (0, u "<init>"), (0, u "()V"), (0, .fieldref 8 9), (0, .class_ 10), (0, .nameAndType 11 12), (0, u "com/example/veiled_crown/veiledcrown/engine/ChanceState"), (0, u "seed"), (0, u "J"), (0, .fieldref 8 14), (0, .nameAndType 15 12), (0, u "draws"), (12, u "(JJ)V"), (6, u "()J")] 21

def k4c0 : Code := { maxStack := 3, maxLocals := 5, code := prog_16_method_1_code, exceptionTable := #[], attributes := #[] }
def k4m0 : Method := { name := "<init>", desc := "(JJ)V", sig := { parameters := [.long, .long], returnType := none }, accessFlags := 1, code := some k4c0 }
def k4c1 : Code := { maxStack := 2, maxLocals := 1, code := prog_16_method_5_code, exceptionTable := #[], attributes := #[] }
def k4m1 : Method := { name := "seed", desc := "()J", sig := { parameters := [], returnType := some .long }, accessFlags := 1, code := some k4c1 }
def k4c2 : Code := { maxStack := 2, maxLocals := 1, code := prog_16_method_6_code, exceptionTable := #[], attributes := #[] }
def k4m2 : Method := { name := "draws", desc := "()J", sig := { parameters := [], returnType := some .long }, accessFlags := 1, code := some k4c2 }
/-- com/example/veiled_crown/veiledcrown/engine/ChanceState -/
def k4 : Class := { plain "com/example/veiled_crown/veiledcrown/engine/ChanceState" (some 3) with
  accessFlags := 49
  interfaces := #[]
  cf := some (fileOf pool4 8 #[] #[{ accessFlags := 1, nameIndex := 5, descriptorIndex := 28, attributes := #[] }, { accessFlags := 1, nameIndex := 11, descriptorIndex := 35, attributes := #[] }, { accessFlags := 1, nameIndex := 15, descriptorIndex := 35, attributes := #[] }] 49 2 #[] #[{ accessFlags := 18, nameIndex := 11, descriptorIndex := 12, attributes := #[] }, { accessFlags := 18, nameIndex := 15, descriptorIndex := 12, attributes := #[] }])
  fields := #[{ name := "seed", type := .long, accessFlags := 18, slot := 0, constantValue := 0 }, { name := "draws", type := .long, accessFlags := 18, slot := 1, constantValue := 0 }]
  methods := #[k4m0, k4m1, k4m2]
  instanceTypes := #[.long, .long]
  staticTypes := #[]
  resolved := Array.replicate 57 none
  statics := none }

def pool5 : Array CpInfo := pool [(1, u "java/lang/Cloneable"), (0, .class_ 1), (0, u "java/lang/Object"), (0, .class_ 3)] 3

/-- java/lang/Cloneable -/
def k5 : Class := { plain "java/lang/Cloneable" (some 0) with
  accessFlags := 1537
  interfaces := #[]
  cf := some (fileOf pool5 2 #[] #[] 1537 4 #[] #[])
  fields := #[]
  methods := #[]
  instanceTypes := #[]
  staticTypes := #[]
  resolved := Array.replicate 8 none
  statics := none }

def pool6 : Array CpInfo := pool [(1, u "java/io/Serializable"), (0, .class_ 1), (0, u "java/lang/Object"), (0, .class_ 3)] 3

/-- java/io/Serializable -/
def k6 : Class := { plain "java/io/Serializable" (some 0) with
  accessFlags := 1537
  interfaces := #[]
  cf := some (fileOf pool6 2 #[] #[] 1537 4 #[] #[])
  fields := #[]
  methods := #[]
  instanceTypes := #[]
  staticTypes := #[]
  resolved := Array.replicate 8 none
  statics := none }

/-- the primitive byte -/
def k7 : Class := { plain "byte" none with kind := .primitive 'B', accessFlags := 0x411 }
/-- [B -/
def k8 : Class := { plain "[B" (some 0) with kind := .array 7 .byte, interfaces := #[5, 6], accessFlags := 1041 }

/-- the primitive int -/
def k9 : Class := { plain "int" none with kind := .primitive 'I', accessFlags := 0x411 }
/-- [I -/
def k10 : Class := { plain "[I" (some 0) with kind := .array 9 .int, interfaces := #[5, 6], accessFlags := 1041 }

def heap : Heap := #[]
def classes : Array Class := #[k0, k1, k2, k3, k4, k5, k6, k7, k8, k9, k10]
def interned : List (Array UInt16 × Addr) := []
def slotsUsed : Nat := 0
def theMethod : MethodId := ⟨1, 2⟩
def args0 : Array Value := #[.long 5, .int 7]
def aboutOver (below : List Frame) : State where
  vm := { classes := classes, interned := interned.toArray }
  heap := heap
  slotsUsed := slotsUsed
  threads := #[{ frames := .invoking theMethod args0 :: below }]
def below0 : List Frame := [.native { method := ⟨0, 0⟩, args := #[] }]
def about1 : State := aboutOver below0
def p0 : Program := .bare "" "" ""
def e0 : Env := launch0.env 0 0 0
theorem w_frames : about1.frames = Frame.invoking theMethod args0 :: below0 := rfl
set_option maxRecDepth 65536 in
theorem w_args : argsFit about1.vm theMethod args0 = true := by decide +kernel
set_option maxRecDepth 65536 in
theorem w_heap : heapFits about1 = true := by decide +kernel
set_option maxRecDepth 65536 in
theorem w_runnable : about1.curStatus? = some .runnable := by decide +kernel
set_option maxRecDepth 65536 in
theorem w_alone : about1.alone = true := by decide +kernel
set_option maxRecDepth 65536 in
theorem w_named : about1.methodNamed? x = some theMethod := by decide +kernel
set_option maxRecDepth 65536 in
theorem w_hears : about1.hears theMethod below0 = true := by decide +kernel
set_option maxRecDepth 65536 in
theorem w_ripe : about1.ripe theMethod args0 below0 = true := by decide +kernel
theorem w_running : about1.status = .running := rfl
set_option maxRecDepth 65536 in
theorem w_room : about1.hasRoom e0.platform room_1 = true :=
  launch0.hasRoom_least _ room_1 (by decide +kernel) (by decide +kernel) (by decide +kernel) (by decide +kernel) (by decide +kernel) (by decide +kernel)
theorem allAtoms_all (ts : List Jvm.Cond) (a : Array Jvm.Value) (st : Jvm.State) : (allAtoms ts).before a st = ts.all (fun c => c.before a st) := by
  induction ts with
  | nil => rfl
  | cons c t ih =>
    show (Jvm.Cond.and c (allAtoms t)).before a st = _
    rw [Jvm.Cond.before_and, ih, List.all_cons]
def words1 : List Jvm.Cond := Jvm.Cond.code x code maxLocals ret :: tables_1
/-- a 'code' word, met by the world's own term for the bytes: nothing is compared byte by byte -/
theorem code_word {y : MethodName} {bytes : ByteArray} {mx : Nat} {rt : Option FieldType} {a : Array Value} {s : State} {m : MethodId} {meth : Method} {c : Code} (h1 : s.methodNamed? y = some m) (h2 : s.vm.method? m = some meth) (h3 : meth.code = some c) (h4 : c.code = bytes)
    (h5 : (c.maxLocals == mx && c.exceptionTable.isEmpty && decide (c.maxStack ≤ mostOperands) && decide (meth.sig.returnType = rt) && !meth.locks && decide (parseMethodDescriptor y.desc = some meth.sig)) = true) : (Jvm.Cond.code y bytes mx rt).before a s = true := by
  simp only [Bool.and_eq_true, beq_iff_eq, Bool.not_eq_true', decide_eq_true_eq] at h5
  obtain ⟨⟨⟨⟨⟨g1, g2⟩, g3⟩, g4⟩, g5⟩, g6⟩ := h5
  simp [Cond.before, Cond.holds, Cond.value, h1, h2, h3, h4, g1, g2, g3, g4, g5, g6]
def isCode : Jvm.Cond → Bool
  | .code _ _ _ _ => true
  | _ => false
theorem all_split {L : List Jvm.Cond} {P : Jvm.Cond → Bool} (h1 : L.all (fun c => isCode c || P c) = true) (h2 : ∀ c ∈ L.filter isCode, P c = true) : L.all P = true := by
  refine List.all_eq_true.mpr fun c hc => ?_
  have h := List.all_eq_true.mp h1 c hc
  rcases Bool.eq_false_or_eq_true (isCode c) with hi | hi
  · exact h2 c (List.mem_filter.mpr ⟨hc, hi⟩)
  · simpa [hi] using h
set_option maxRecDepth 65536 in
theorem w_c0 : (Jvm.Cond.code x code maxLocals ret).before args0 about1 = true := code_word (m := ⟨1, 2⟩) (meth := k1m2) (c := k1c2) (by decide +kernel) rfl rfl rfl (by decide +kernel)
set_option maxRecDepth 65536 in
theorem w_c1 : (Jvm.Cond.code ({ cls := "com/example/veiled_crown/veiledcrown/engine/Chance", name := "<init>", desc := "(J)V" } : Jvm.MethodName) prog_14_method_1_code (3 : Nat) (Option.none : Option Jvm.ClassFile.FieldType)).before args0 about1 = true := code_word (m := ⟨2, 0⟩) (meth := k2m0) (c := k2c0) (by decide +kernel) rfl rfl rfl (by decide +kernel)
set_option maxRecDepth 65536 in
theorem w_c2 : (Jvm.Cond.code ({ cls := "com/example/veiled_crown/veiledcrown/engine/ChanceState", name := "<init>", desc := "(JJ)V" } : Jvm.MethodName) prog_16_method_1_code (5 : Nat) (Option.none : Option Jvm.ClassFile.FieldType)).before args0 about1 = true := code_word (m := ⟨4, 0⟩) (meth := k4m0) (c := k4c0) (by decide +kernel) rfl rfl rfl (by decide +kernel)
set_option maxRecDepth 65536 in
theorem w_c3 : (Jvm.Cond.code ({ cls := "java/lang/Record", name := "<init>", desc := "()V" } : Jvm.MethodName) jdk_30_method_1_code (1 : Nat) (Option.none : Option Jvm.ClassFile.FieldType)).before args0 about1 = true := code_word (m := ⟨3, 0⟩) (meth := k3m0) (c := k3c0) (by decide +kernel) rfl rfl rfl (by decide +kernel)
set_option maxRecDepth 65536 in
theorem w_c4 : (Jvm.Cond.code ({ cls := "java/lang/Object", name := "<init>", desc := "()V" } : Jvm.MethodName) object_method_1_code (1 : Nat) (Option.none : Option Jvm.ClassFile.FieldType)).before args0 about1 = true := code_word (m := ⟨0, 0⟩) (meth := k0m0) (c := k0c0) (by decide +kernel) rfl rfl rfl (by decide +kernel)
set_option maxRecDepth 65536 in
theorem w_c5 : (Jvm.Cond.code ({ cls := "com/example/veiled_crown/veiledcrown/engine/Chance", name := "<init>", desc := "(Lcom/example/veiled_crown/veiledcrown/engine/ChanceState;)V" } : Jvm.MethodName) prog_14_method_2_code (2 : Nat) (Option.none : Option Jvm.ClassFile.FieldType)).before args0 about1 = true := code_word (m := ⟨2, 1⟩) (meth := k2m1) (c := k2c1) (by decide +kernel) rfl rfl rfl (by decide +kernel)
set_option maxRecDepth 65536 in
theorem w_c6 : (Jvm.Cond.code ({ cls := "com/example/veiled_crown/veiledcrown/engine/ChanceState", name := "seed", desc := "()J" } : Jvm.MethodName) prog_16_method_5_code (1 : Nat) (Option.some Jvm.ClassFile.FieldType.long)).before args0 about1 = true := code_word (m := ⟨4, 1⟩) (meth := k4m1) (c := k4c1) (by decide +kernel) rfl rfl rfl (by decide +kernel)
set_option maxRecDepth 65536 in
theorem w_c7 : (Jvm.Cond.code ({ cls := "com/example/veiled_crown/veiledcrown/engine/ChanceState", name := "draws", desc := "()J" } : Jvm.MethodName) prog_16_method_6_code (1 : Nat) (Option.some Jvm.ClassFile.FieldType.long)).before args0 about1 = true := code_word (m := ⟨4, 2⟩) (meth := k4m2) (c := k4c2) (by decide +kernel) rfl rfl rfl (by decide +kernel)
set_option maxRecDepth 65536 in
theorem w_c8 : (Jvm.Cond.code ({ cls := "com/example/veiled_crown/veiledcrown/engine/Chance", name := "nextLong", desc := "()J" } : Jvm.MethodName) prog_14_method_5_code (1 : Nat) (Option.some Jvm.ClassFile.FieldType.long)).before args0 about1 = true := code_word (m := ⟨2, 4⟩) (meth := k2m4) (c := k2c4) (by decide +kernel) rfl rfl rfl (by decide +kernel)
set_option maxRecDepth 65536 in
theorem w_c9 : (Jvm.Cond.code ({ cls := "com/example/veiled_crown/veiledcrown/engine/Chance", name := "next", desc := "()J" } : Jvm.MethodName) prog_14_method_7_code (3 : Nat) (Option.some Jvm.ClassFile.FieldType.long)).before args0 about1 = true := code_word (m := ⟨2, 5⟩) (meth := k2m5) (c := k2c5) (by decide +kernel) rfl rfl rfl (by decide +kernel)
set_option maxRecDepth 65536 in
theorem w_c10 : (Jvm.Cond.code ({ cls := "com/example/veiled_crown/veiledcrown/engine/Chance", name := "pick", desc := "(I)I" } : Jvm.MethodName) prog_14_method_4_code (6 : Nat) (Option.some Jvm.ClassFile.FieldType.int)).before args0 about1 = true := code_word (m := ⟨2, 3⟩) (meth := k2m3) (c := k2c3) (by decide +kernel) rfl rfl rfl (by decide +kernel)
set_option maxRecDepth 65536 in
theorem w_c11 : (Jvm.Cond.code ({ cls := "com/example/veiled_crown/veiledcrown/engine/Chance", name := "state", desc := "()Lcom/example/veiled_crown/veiledcrown/engine/ChanceState;" } : Jvm.MethodName) prog_14_method_3_code (1 : Nat) (Option.some (Jvm.ClassFile.FieldType.object "com/example/veiled_crown/veiledcrown/engine/ChanceState"))).before args0 about1 = true := code_word (m := ⟨2, 2⟩) (meth := k2m2) (c := k2c2) (by decide +kernel) rfl rfl rfl (by decide +kernel)
set_option maxRecDepth 65536 in
theorem w_c12 : (Jvm.Cond.code ({ cls := "com/example/veiled_crown/veiledcrown/engine/ChancePickPinLaw", name := "fullBlock", desc := "(JI)Z" } : Jvm.MethodName) method_2_code (5 : Nat) (Option.some Jvm.ClassFile.FieldType.boolean)).before args0 about1 = true := code_word (m := ⟨1, 1⟩) (meth := k1m1) (c := k1c1) (by decide +kernel) rfl rfl rfl (by decide +kernel)
def codes1 : List Jvm.Cond := [Jvm.Cond.code x code maxLocals ret, Jvm.Cond.code ({ cls := "com/example/veiled_crown/veiledcrown/engine/Chance", name := "<init>", desc := "(J)V" } : Jvm.MethodName) prog_14_method_1_code (3 : Nat) (Option.none : Option Jvm.ClassFile.FieldType), Jvm.Cond.code ({ cls := "com/example/veiled_crown/veiledcrown/engine/ChanceState", name := "<init>", desc := "(JJ)V" } : Jvm.MethodName) prog_16_method_1_code (5 : Nat) (Option.none : Option Jvm.ClassFile.FieldType), Jvm.Cond.code ({ cls := "java/lang/Record", name := "<init>", desc := "()V" } : Jvm.MethodName) jdk_30_method_1_code (1 : Nat) (Option.none : Option Jvm.ClassFile.FieldType), Jvm.Cond.code ({ cls := "java/lang/Object", name := "<init>", desc := "()V" } : Jvm.MethodName) object_method_1_code (1 : Nat) (Option.none : Option Jvm.ClassFile.FieldType), Jvm.Cond.code ({ cls := "com/example/veiled_crown/veiledcrown/engine/Chance", name := "<init>", desc := "(Lcom/example/veiled_crown/veiledcrown/engine/ChanceState;)V" } : Jvm.MethodName) prog_14_method_2_code (2 : Nat) (Option.none : Option Jvm.ClassFile.FieldType), Jvm.Cond.code ({ cls := "com/example/veiled_crown/veiledcrown/engine/ChanceState", name := "seed", desc := "()J" } : Jvm.MethodName) prog_16_method_5_code (1 : Nat) (Option.some Jvm.ClassFile.FieldType.long), Jvm.Cond.code ({ cls := "com/example/veiled_crown/veiledcrown/engine/ChanceState", name := "draws", desc := "()J" } : Jvm.MethodName) prog_16_method_6_code (1 : Nat) (Option.some Jvm.ClassFile.FieldType.long), Jvm.Cond.code ({ cls := "com/example/veiled_crown/veiledcrown/engine/Chance", name := "nextLong", desc := "()J" } : Jvm.MethodName) prog_14_method_5_code (1 : Nat) (Option.some Jvm.ClassFile.FieldType.long), Jvm.Cond.code ({ cls := "com/example/veiled_crown/veiledcrown/engine/Chance", name := "next", desc := "()J" } : Jvm.MethodName) prog_14_method_7_code (3 : Nat) (Option.some Jvm.ClassFile.FieldType.long), Jvm.Cond.code ({ cls := "com/example/veiled_crown/veiledcrown/engine/Chance", name := "pick", desc := "(I)I" } : Jvm.MethodName) prog_14_method_4_code (6 : Nat) (Option.some Jvm.ClassFile.FieldType.int), Jvm.Cond.code ({ cls := "com/example/veiled_crown/veiledcrown/engine/Chance", name := "state", desc := "()Lcom/example/veiled_crown/veiledcrown/engine/ChanceState;" } : Jvm.MethodName) prog_14_method_3_code (1 : Nat) (Option.some (Jvm.ClassFile.FieldType.object "com/example/veiled_crown/veiledcrown/engine/ChanceState")), Jvm.Cond.code ({ cls := "com/example/veiled_crown/veiledcrown/engine/ChancePickPinLaw", name := "fullBlock", desc := "(JI)Z" } : Jvm.MethodName) method_2_code (5 : Nat) (Option.some Jvm.ClassFile.FieldType.boolean)]
set_option maxRecDepth 65536 in
theorem codes_eq : words1.filter isCode = codes1 := rfl
theorem w_codes : ∀ c ∈ words1.filter isCode, c.before args0 about1 = true := by
  rw [codes_eq]
  intro c hc
  simp only [codes1, List.mem_cons, List.not_mem_nil, or_false] at hc
  rcases hc with rfl | rfl | rfl | rfl | rfl | rfl | rfl | rfl | rfl | rfl | rfl | rfl | rfl
  · exact w_c0
  · exact w_c1
  · exact w_c2
  · exact w_c3
  · exact w_c4
  · exact w_c5
  · exact w_c6
  · exact w_c7
  · exact w_c8
  · exact w_c9
  · exact w_c10
  · exact w_c11
  · exact w_c12
set_option maxRecDepth 65536 in
theorem w_t1 : (words1.take 24).all (fun c => isCode c || c.before args0 about1) = true := by decide +kernel
set_option maxRecDepth 65536 in
theorem w_t2 : ((words1.drop 24).take 24).all (fun c => isCode c || c.before args0 about1) = true := by decide +kernel
set_option maxRecDepth 65536 in
theorem w_t3 : (((words1.drop 24).drop 24).take 24).all (fun c => isCode c || c.before args0 about1) = true := by decide +kernel
set_option maxRecDepth 65536 in
theorem w_t4 : (((words1.drop 24).drop 24).drop 24).all (fun c => isCode c || c.before args0 about1) = true := by decide +kernel
theorem w_tables : (allAtoms (Jvm.Cond.code x code maxLocals ret :: tables_1)).before args0 about1 = true := by
  rw [allAtoms_all]
  show words1.all (fun c => c.before args0 about1) = true
  refine all_split ?_ w_codes
  rw [← List.take_append_drop 24 words1, List.all_append, w_t1, ← List.take_append_drop 24 (words1.drop 24), List.all_append, w_t2, ← List.take_append_drop 24 ((words1.drop 24).drop 24), List.all_append, w_t3, w_t4]
  rfl
set_option maxRecDepth 65536 in
theorem w_case : (Jvm.Cond.and given_1 narrow_1).before args0 about1 = true := by decide +kernel
theorem w_applies : (headSpec (Jvm.Cond.code x code maxLocals ret :: tables_1) room_1).applies x e0.platform about1 = true :=
  (Spec.applies_iff w_frames).mpr ⟨w_running, w_runnable, w_alone, w_named, w_hears, w_ripe, w_room, w_tables⟩
theorem atStart : AtStart classFile x code maxLocals ret World_1 tables_1 room_1 Calls_1 rest_1 Pre_1 launch0 p0 e0 about1 theMethod args0 below0 :=
  ⟨lists_1, trivial, launch0.admits_env _ _ _, launch0.least_env, fairChoices_fair.cas, fairChoices_fair.clock, w_frames, w_args, w_heap, w_applies, trivial, trivial, w_case⟩
end start1
theorem witness_1 : WitnessClaimed_1 := ⟨start1.p0, start1.e0, start1.about1, start1.theMethod, start1.args0, start1.below0, start1.atStart⟩
end Jvm.Pilot.@@N@@
