import JvmDerived
import JvmDerived.Pilot.@@N@@Statement
import JvmDerived.Pilot.@@N@@Code
set_option linter.unusedVariables false
set_option linter.unusedSimpArgs false
namespace Jvm.Pilot.@@N@@
open Jvm Jvm.ClassFile Sem Op Lib Jvm.Free Jvm.Stand Jvm.LawKit Jvm.RoadKit Bundle Jvm.Pilot.@@N@@.Jvm.D
section OwnKit
variable {p : Program} {l : Launch} {e : Env} {R : Room} {s : State} {m : MethodId} {args : Array Value} {below : List Frame} {meth : Method} {c : Code} {T : State} {locs : List Loc} {cells slots : Nat} {Z : State} {a0 : Array Value} {h : Heap}
/-- the walk from A ends well: it returns, what it returns and leaves is as Q says -/
def own_G (p : Program) (e : Env) (below : List Frame) (s : State) (Q : Option Value → Heap → List Loc → Prop) (ce sl : Nat) (A : State) : Prop :=
  ∃ s₂ o, Steps p.tables e below A s₂ ∧ s₂.status = .running ∧ Ended s₂ below o ∧ ∃ v L, o = .returned v ∧ Q v s₂.heap L ∧ FrameEnd s o s₂ L ce sl
theorem own_st {Q : Option Value → Heap → List Loc → Prop} {ce sl : Nat} {A B : State} (k : ∀ t, Steps p.tables e below B t → Steps p.tables e below A t) (g : own_G p e below s Q ce sl B) : own_G p e below s Q ce sl A := by
  obtain ⟨s₂, o, h1, h2⟩ := g
  exact ⟨s₂, o, k _ h1, h2⟩
theorem own_ret {Q : Option Value → Heap → List Loc → Prop} {ce sl : Nat} (X : Stand p l e R s m args below meth c T locs cells slots) (hx : p.tables.exec = Jvm.exec) (hlk : meth.locks = false) {pc : Nat} {Ls : Array Slot} {w : Value} {t : FieldType} {i : Instr} {rest : List Value} (hret : meth.sig.returnType = some t) (hn : narrow t w = w)
    (hi : (i = .ireturn ∧ (t = .int ∨ t = .boolean ∨ t = .byte ∨ t = .char ∨ t = .short) ∧ ∃ z, w = .int z) ∨ (i = .lreturn ∧ t = .long ∧ ∃ z, w = .long z) ∨ (i = .dreturn ∧ t = .double ∧ ∃ z, w = .double z) ∨ (i = .freturn ∧ t = .float ∧ ∃ z, w = .float z) ∨ (i = .areturn ∧ t.isReference = true ∧ w.isRef = true))
    (hd : decode c.code pc = .ok (i, 1)) (hc : cells ≤ ce) (hs : slots ≤ sl) (hQ : Q (some w) T.heap locs) : own_G p e below s Q ce sl (T.setTop (mkF m pc Ls (w :: rest))) := by
  obtain ⟨fs, hr, hrun, hended, hW, hsame⟩ := X.leave (v := some w) (fun q => by rw [hret] at q; cases q) hlk
  exact ⟨_, _, retOut X hx hret hn hi hd hr, hrun, hended, _, _, rfl, hQ, ⟨_, rfl⟩, hW, hsame.mono hc hs⟩
theorem own_retI {Q : Option Value → Heap → List Loc → Prop} {ce sl : Nat} (X : Stand p l e R s m args below meth c T locs cells slots) (hx : p.tables.exec = Jvm.exec) (hlk : meth.locks = false) {pc : Nat} {Ls : Array Slot} {z : Int32} {rest : List Value} (hret : meth.sig.returnType = some .int)
    (hd : decode c.code pc = .ok (.ireturn, 1)) (hc : cells ≤ ce) (hs : slots ≤ sl) (hQ : Q (some (.int z)) T.heap locs) : own_G p e below s Q ce sl (T.setTop (mkF m pc Ls (.int z :: rest))) :=
  own_ret X hx hlk hret rfl (Or.inl ⟨rfl, Or.inl rfl, z, rfl⟩) hd hc hs hQ
theorem own_retZ {Q : Option Value → Heap → List Loc → Prop} {ce sl : Nat} (X : Stand p l e R s m args below meth c T locs cells slots) (hx : p.tables.exec = Jvm.exec) (hlk : meth.locks = false) {pc : Nat} {Ls : Array Slot} {z : Int32} {rest : List Value} (hret : meth.sig.returnType = some .boolean) (hn : z = 0 ∨ z = 1)
    (hd : decode c.code pc = .ok (.ireturn, 1)) (hc : cells ≤ ce) (hs : slots ≤ sl) (hQ : Q (some (.int z)) T.heap locs) : own_G p e below s Q ce sl (T.setTop (mkF m pc Ls (.int z :: rest))) :=
  own_ret X hx hlk hret (by rcases hn with rfl | rfl <;> rfl) (Or.inl ⟨rfl, Or.inr (Or.inl rfl), z, rfl⟩) hd hc hs hQ
theorem own_retJ {Q : Option Value → Heap → List Loc → Prop} {ce sl : Nat} (X : Stand p l e R s m args below meth c T locs cells slots) (hx : p.tables.exec = Jvm.exec) (hlk : meth.locks = false) {pc : Nat} {Ls : Array Slot} {z : Int64} {rest : List Value} (hret : meth.sig.returnType = some .long)
    (hd : decode c.code pc = .ok (.lreturn, 1)) (hc : cells ≤ ce) (hs : slots ≤ sl) (hQ : Q (some (.long z)) T.heap locs) : own_G p e below s Q ce sl (T.setTop (mkF m pc Ls (.long z :: rest))) :=
  own_ret X hx hlk hret rfl (Or.inr (Or.inl ⟨rfl, rfl, z, rfl⟩)) hd hc hs hQ
theorem own_retA {Q : Option Value → Heap → List Loc → Prop} {ce sl : Nat} (X : Stand p l e R s m args below meth c T locs cells slots) (hx : p.tables.exec = Jvm.exec) (hlk : meth.locks = false) {pc : Nat} {Ls : Array Slot} {w : Value} {t : FieldType} {rest : List Value} (hret : meth.sig.returnType = some t) (ht : t.isReference = true) (hw : w.isRef = true)
    (hd : decode c.code pc = .ok (.areturn, 1)) (hc : cells ≤ ce) (hs : slots ≤ sl) (hQ : Q (some w) T.heap locs) : own_G p e below s Q ce sl (T.setTop (mkF m pc Ls (w :: rest))) :=
  own_ret X hx hlk hret (by cases w <;> first | rfl | (cases t <;> first | rfl | cases ht)) (Or.inr (Or.inr (Or.inr (Or.inr ⟨rfl, ht, hw⟩)))) hd hc hs hQ
theorem own_retV {Q : Option Value → Heap → List Loc → Prop} {ce sl : Nat} (X : Stand p l e R s m args below meth c T locs cells slots) (hx : p.tables.exec = Jvm.exec) (hlk : meth.locks = false) {pc : Nat} {Ls : Array Slot} (hret : meth.sig.returnType = none)
    (hd : decode c.code pc = .ok (.return_, 1)) (hc : cells ≤ ce) (hs : slots ≤ sl) (hQ : Q none T.heap locs) : own_G p e below s Q ce sl (T.setTop (mkF m pc Ls [])) := by
  obtain ⟨fs, hr, hrun, hended, hW, hsame⟩ := X.leave (v := none) (fun _ => rfl) hlk
  exact ⟨_, _, X.returnOut hx hret hd hr, hrun, hended, _, _, rfl, hQ, ⟨_, rfl⟩, hW, hsame.mono hc hs⟩
/-- a contract out of the walk of its body -/
theorem own_met {y : MethodName} {bytes : ByteArray} {maxL : Nat} {ret : Option FieldType} {ws : List Jvm.Cond} {rm : Room} {as' : Array Value} {h0 : Heap} {Q : Option Value → Heap → List Loc → Prop} {ce sl : Nat} (hp : plainFor y = true)
    (body : ∀ (p : Program) (e : Env) (s : State) (m : MethodId) (below : List Frame) (meth : Method) (c : Code) (T : State), p.tables.exec = Jvm.exec → c.code = bytes → c.maxLocals = maxL → s.vm.findClass y.cls = some m.cls → meth.name = y.name → meth.sig.returnType = ret → meth.locks = false → Z.Warmed39 s.vm → T.heap = h0 →
      Stand p l e rm s m as' below meth c T [] 0 0 → own_G p e below s Q ce sl (T.setTop (entryFrame m as' maxL))) :
    MetFree l y (head1 (Jvm.Cond.code y bytes maxL ret :: ws) rm) (fun a U => a = as' ∧ Z.Warmed39 U.vm ∧ U.heap = h0) (fun _ _ _ _ _ => True) (fun _ U o U' => ∃ v L, o = .returned v ∧ Q v U'.heap L ∧ FrameEnd U o U' L ce sl) := by
  refine MetFree.of_bodySF hp hisR ?_
  intro p e s m args below meth c s₁ Bd hml0 hP hK
  obtain ⟨rfl, hZ, hh⟩ := hP
  exact body p e s m below meth c s₁ Bd.exec Bd.bytes hml0 (findClass_of_methodNamed Bd.named) (name_of_methodNamed Bd.named Bd.method).1 Bd.returns Bd.notSynchronized hZ (by rw [← hh, Bd.state]; rfl) (Stand.of_body Bd)
theorem own_callS (X : Stand p l e R s m args below meth c T locs cells slots) (hx : p.tables.exec = Jvm.exec) (hZ : Z.Warmed39 s.vm) {own : String} {index : Nat} {y : MethodName} {bytes : ByteArray} {maxL : Nat} {ret : Option FieldType} {rm : Room} {Q : Option Value → Heap → List Loc → Prop} {argsL rest : List Value} (W : Nat)
    (hown : s.vm.findClass own = some m.cls) (wl : (Jvm.Cond.methodLink own index y).before a0 Z = true) (wst : (Jvm.Cond.static y).before a0 Z = true) (wz : (Jvm.Cond.initialized y.cls).before a0 Z = true) (wc : (Jvm.Cond.code y bytes maxL ret).before a0 Z = true) (hy : y.cls ≠ "java/lang/invoke/MethodHandle" ∧ y.cls ≠ "java/lang/invoke/VarHandle")
    (hM : MetFree l y (head1 [Jvm.Cond.code y bytes maxL ret] rm) (fun a U => a = argsL.toArray ∧ Z.Warmed39 U.vm ∧ U.heap = h) (fun _ _ _ _ _ => True) (fun _ U o U' => ∃ v L, o = .returned v ∧ Q v U'.heap L ∧ FrameEnd U o U' L rm.cells rm.slots))
    (hf : rm.frames + 1 ≤ R.frames) (hl : W + (maxL + 11) + rm.locals ≤ R.locals) (eT : T.heap = h) {g : JFrame} (hg : g.method = m) (hsize : g.locals.size = c.maxLocals) {ps : List FieldType} {r : Option FieldType} (hpd : parseMethodDescriptor y.desc = some ⟨ps, r⟩) (hlen : argsL.length = ps.length)
    (hstack : g.stack = argsL.reverse ++ rest) (hW : 2 * g.monitorRoom + (rest.map fun v => v.category).sum ≤ W) (hdg : decode c.code g.pc = .ok (.invokestatic index, 3)) (hc : cells + rm.cells ≤ R.cells) (hs : slots + rm.slots ≤ R.slots) :
    ∃ v T' L, Stand p l e R s m args below meth c T' (locs ++ L) (cells + rm.cells) (slots + rm.slots) ∧ Q v T'.heap L ∧ ∀ t, Steps p.tables e below (T'.setTop { g with pc := g.pc + 3, stack := v.toList ++ rest }) t → Steps p.tables e below (T.setTop g) t := by
  obtain ⟨v, _, ⟨T', L', k', n'⟩, -, X', ⟨L, hQ, l1, y1, z1⟩, st⟩ := Jvm.LawKit.callS X hx (y := y) hown (mvT hZ wl) (mvT hZ wst) (mvT hZ wz) (mvT hZ wc) hy (backOf (W := W) hM hZ wc wz hf hl) hg hsize (lenOf hpd hlen) hstack hW hdg (fun _ _ => ⟨rfl, eT, hc, hs⟩)
  dsimp only [Pt.U, Pt.locs, Pt.cells, Pt.slots] at X' l1 y1 z1 st hQ
  subst l1 y1 z1
  exact ⟨v, T', L, X', hQ, st⟩
theorem own_callI (X : Stand p l e R s m args below meth c T locs cells slots) (hx : p.tables.exec = Jvm.exec) (hZ : Z.Warmed39 s.vm) {own : String} {index : Nat} {y : MethodName} {bytes : ByteArray} {maxL : Nat} {rm : Room} {Q : Option Value → Heap → List Loc → Prop} {a : Addr} {argsL rest : List Value} (W : Nat)
    (hy1 : y.name = "<init>") (hown : s.vm.findClass own = some m.cls) (wl : (Jvm.Cond.methodLink own index y).before a0 Z = true) (wi : (Jvm.Cond.instanceMethod y).before a0 Z = true) (wz : (Jvm.Cond.initialized y.cls).before a0 Z = true) (wc : (Jvm.Cond.code y bytes maxL none).before a0 Z = true) (hy : y.cls ≠ "java/lang/invoke/MethodHandle" ∧ y.cls ≠ "java/lang/invoke/VarHandle")
    (hM : MetFree l y (head1 [Jvm.Cond.code y bytes maxL none] rm) (fun b U => b = (Value.ref a :: argsL).toArray ∧ Z.Warmed39 U.vm ∧ U.heap = h) (fun _ _ _ _ _ => True) (fun _ U o U' => ∃ v L, o = .returned v ∧ Q v U'.heap L ∧ FrameEnd U o U' L rm.cells rm.slots))
    (hf : rm.frames + 1 ≤ R.frames) (hl : W + (maxL + 11) + rm.locals ≤ R.locals) (eT : T.heap = h) {g : JFrame} (hg : g.method = m) (hsize : g.locals.size = c.maxLocals) {ps : List FieldType} {r : Option FieldType} (hpd : parseMethodDescriptor y.desc = some ⟨ps, r⟩) (hlen : argsL.length = ps.length)
    (hstack : g.stack = argsL.reverse ++ .ref a :: rest) (hW : 2 * g.monitorRoom + (rest.map fun v => v.category).sum ≤ W) (hdg : decode c.code g.pc = .ok (.invokespecial index, 3)) (hc : cells + rm.cells ≤ R.cells) (hs : slots + rm.slots ≤ R.slots) :
    ∃ v T' L, Stand p l e R s m args below meth c T' (locs ++ L) (cells + rm.cells) (slots + rm.slots) ∧ Q v T'.heap L ∧ ∀ t, Steps p.tables e below (T'.setTop { g with pc := g.pc + 3, stack := v.toList ++ rest }) t → Steps p.tables e below (T.setTop g) t := by
  obtain ⟨v, _, ⟨T', L', k', n'⟩, -, X', ⟨L, hQ, l1, y1, z1⟩, st⟩ := X.specialBack hx (y := y) hy1 hown (mvT hZ wl) (mvT hZ wi) (mvT hZ wc) hy (backOf (W := W) hM hZ wc wz hf hl) hg hsize (Steps.refl _) (a := a) (lenOf hpd hlen) hstack hW hdg (fun _ _ => ⟨rfl, eT, hc, hs⟩)
  dsimp only [Pt.U, Pt.locs, Pt.cells, Pt.slots] at X' l1 y1 z1 st hQ
  subst l1 y1 z1
  exact ⟨v, T', L, X', hQ, fun t k => st.trans k⟩
theorem own_callV (X : Stand p l e R s m args below meth c T locs cells slots) (hx : p.tables.exec = Jvm.exec) (hZ : Z.Warmed39 s.vm) {own C : String} {index : Nat} {y z : MethodName} {bytes : ByteArray} {maxL : Nat} {ret : Option FieldType} {rm : Room} {Q : Option Value → Heap → List Loc → Prop} {a : Addr} {argsL rest : List Value} (W : Nat)
    (hown : s.vm.findClass own = some m.cls) (wl : (Jvm.Cond.methodLink own index y).before a0 Z = true) (wd : (Jvm.Cond.declares y).before a0 Z = true) (hnf : NotFace s y) (wsel : (Jvm.Cond.selects C y z).before a0 Z = true) (wi : (Jvm.Cond.instanceMethod z).before a0 Z = true) (wz : (Jvm.Cond.initialized z.cls).before a0 Z = true) (wc : (Jvm.Cond.code z bytes maxL ret).before a0 Z = true) (hy : y.cls ≠ "java/lang/invoke/MethodHandle" ∧ y.cls ≠ "java/lang/invoke/VarHandle")
    (hM : MetFree l z (head1 [Jvm.Cond.code z bytes maxL ret] rm) (fun b U => b = (Value.ref a :: argsL).toArray ∧ Z.Warmed39 U.vm ∧ U.heap = h) (fun _ _ _ _ _ => True) (fun _ U o U' => ∃ v L, o = .returned v ∧ Q v U'.heap L ∧ FrameEnd U o U' L rm.cells rm.slots))
    (hf : rm.frames + 1 ≤ R.frames) (hl : W + (maxL + 11) + rm.locals ≤ R.locals) (eT : T.heap = h) (E : Exa Z h a C) {g : JFrame} (hg : g.method = m) (hsize : g.locals.size = c.maxLocals) {ps : List FieldType} {r : Option FieldType} (hpd : parseMethodDescriptor y.desc = some ⟨ps, r⟩) (hlen : argsL.length = ps.length)
    (hstack : g.stack = argsL.reverse ++ .ref a :: rest) (hW : 2 * g.monitorRoom + (rest.map fun v => v.category).sum ≤ W) (hdg : decode c.code g.pc = .ok (.invokevirtual index, 3)) (hc : cells + rm.cells ≤ R.cells) (hs : slots + rm.slots ≤ R.slots) :
    ∃ v T' L, Stand p l e R s m args below meth c T' (locs ++ L) (cells + rm.cells) (slots + rm.slots) ∧ Q v T'.heap L ∧ ∀ t, Steps p.tables e below (T'.setTop { g with pc := g.pc + 3, stack := v.toList ++ rest }) t → Steps p.tables e below (T.setTop g) t := by
  obtain ⟨cq, kq, qa, qb, qc⟩ := isOf hZ eT E
  obtain ⟨v, _, ⟨T', L', k', n'⟩, -, X', ⟨L, hQ, l1, y1, z1⟩, st⟩ := X.virtualBack hx (y := y) (z := z) hown (mvT hZ wl) (mvT hZ wd) hnf (mvT hZ wsel) (mvT hZ wi) hy (backOf (W := W) hM hZ wc wz hf hl) qa qc hg hsize (Steps.refl _) (lenOf hpd hlen) hstack hW hdg (fun _ _ => ⟨rfl, eT, hc, hs⟩)
  dsimp only [Pt.U, Pt.locs, Pt.cells, Pt.slots] at X' l1 y1 z1 st hQ
  subst l1 y1 z1
  exact ⟨v, T', L, X', hQ, fun t k => st.trans k⟩
theorem own_nf {y : MethodName} {C : String} (hZ : Z.Warmed39 s.vm) (w : (Jvm.Cond.selects C y y).before a0 Z = true) : NotFace s y := notFace_of_selects (args := #[]) (mvT hZ w)
theorem own_selP {y y0 : MethodName} {C : String} (hZ : Z.Warmed39 s.vm) (w0 : (Jvm.Cond.selects C y0 y0).before a0 Z = true) (hc : y0.cls = y.cls) (wp : (Jvm.Cond.privateMethod y).before a0 Z = true) (wi : (Jvm.Cond.instanceMethod y).before a0 Z = true) (hy : y.cls ≠ "java/lang/invoke/MethodHandle" ∧ y.cls ≠ "java/lang/invoke/VarHandle") :
    (Jvm.Cond.selects y.cls y y).before args s = true := by
  obtain ⟨c2, r2, m2, q1, q2, q3, q4, kP, hkP, hkPi⟩ := Cond.selects_spec (mvT (args := args) hZ w0)
  exact selects_self_of_private (hc ▸ findClass_of_methodNamed q3) hkP hkPi (Cond.privateMethod_at (mvP hZ wp (args := #[]))) (mvT hZ wi) hy
theorem own_callP (X : Stand p l e R s m args below meth c T locs cells slots) (hx : p.tables.exec = Jvm.exec) (hZ : Z.Warmed39 s.vm) {own C C0 : String} {index : Nat} {y y0 : MethodName} {bytes : ByteArray} {maxL : Nat} {ret : Option FieldType} {rm : Room} {Q : Option Value → Heap → List Loc → Prop} {a : Addr} {argsL rest : List Value} (W : Nat)
    (hown : s.vm.findClass own = some m.cls) (wl : (Jvm.Cond.methodLink own index y).before a0 Z = true) (w0 : (Jvm.Cond.selects C0 y0 y0).before a0 Z = true) (hc0 : y0.cls = y.cls) (wp : (Jvm.Cond.privateMethod y).before a0 Z = true) (wi : (Jvm.Cond.instanceMethod y).before a0 Z = true) (wz : (Jvm.Cond.initialized y.cls).before a0 Z = true) (wc : (Jvm.Cond.code y bytes maxL ret).before a0 Z = true) (hy : y.cls ≠ "java/lang/invoke/MethodHandle" ∧ y.cls ≠ "java/lang/invoke/VarHandle")
    (hM : MetFree l y (head1 [Jvm.Cond.code y bytes maxL ret] rm) (fun b U => b = (Value.ref a :: argsL).toArray ∧ Z.Warmed39 U.vm ∧ U.heap = h) (fun _ _ _ _ _ => True) (fun _ U o U' => ∃ v L, o = .returned v ∧ Q v U'.heap L ∧ FrameEnd U o U' L rm.cells rm.slots))
    (hf : rm.frames + 1 ≤ R.frames) (hl : W + (maxL + 11) + rm.locals ≤ R.locals) (eT : T.heap = h) (E : Exa Z h a C) {g : JFrame} (hg : g.method = m) (hsize : g.locals.size = c.maxLocals) {ps : List FieldType} {r : Option FieldType} (hpd : parseMethodDescriptor y.desc = some ⟨ps, r⟩) (hlen : argsL.length = ps.length)
    (hstack : g.stack = argsL.reverse ++ .ref a :: rest) (hW : 2 * g.monitorRoom + (rest.map fun v => v.category).sum ≤ W) (hdg : decode c.code g.pc = .ok (.invokevirtual index, 3)) (hc : cells + rm.cells ≤ R.cells) (hs : slots + rm.slots ≤ R.slots) :
    ∃ v T' L, Stand p l e R s m args below meth c T' (locs ++ L) (cells + rm.cells) (slots + rm.slots) ∧ Q v T'.heap L ∧ ∀ t, Steps p.tables e below (T'.setTop { g with pc := g.pc + 3, stack := v.toList ++ rest }) t → Steps p.tables e below (T.setTop g) t := by
  obtain ⟨cq, q1, q2⟩ := E.cell
  obtain ⟨v, _, ⟨T', L', k', n'⟩, -, X', ⟨L, hQ, l1, y1, z1⟩, st⟩ := X.privateBack hx (y := y) hown (mvT hZ wl) (mvT hZ wi) (own_selP hZ w0 hc0 wp wi hy) (Cond.privateMethod_at (mvP hZ wp (args := #[]))) (mvT hZ wc) hy (backOf (W := W) hM hZ wc wz hf hl) hg hsize (Steps.refl _) (a := a) (by rw [eT]; exact q1) q2 (lenOf hpd hlen) hstack hW hdg (fun _ _ => ⟨rfl, eT, hc, hs⟩)
  dsimp only [Pt.U, Pt.locs, Pt.cells, Pt.slots] at X' l1 y1 z1 st hQ
  subst l1 y1 z1
  exact ⟨v, T', L, X', hQ, fun t k => st.trans k⟩
theorem own_callF (X : Stand p l e R s m args below meth c T locs cells slots) (hx : p.tables.exec = Jvm.exec) (hZ : Z.Warmed39 s.vm) {own C : String} {index count : Nat} {xi y : MethodName} {bytes : ByteArray} {maxL : Nat} {ret : Option FieldType} {rm : Room} {Q : Option Value → Heap → List Loc → Prop} {a : Addr} {argsL rest : List Value} (W : Nat)
    (hown : s.vm.findClass own = some m.cls) (wl : (Jvm.Cond.methodLink own index xi).before a0 Z = true) (wd : (Jvm.Cond.declares xi).before a0 Z = true) (wf : (Jvm.Cond.interfaceMethod xi.cls xi.cls xi.name xi.desc).before args s = true) (wsel : (Jvm.Cond.selects C xi y).before a0 Z = true) (wi : (Jvm.Cond.instanceMethod y).before a0 Z = true) (wp : (Jvm.Cond.publicMethod y).before a0 Z = true) (wu : (Jvm.Cond.unhidden C xi.name xi.desc).before a0 Z = true) (wk : (Jvm.Cond.castable C xi.cls).before a0 Z = true) (wz : (Jvm.Cond.initialized y.cls).before a0 Z = true) (wc : (Jvm.Cond.code y bytes maxL ret).before a0 Z = true) (hy : xi.cls ≠ "java/lang/invoke/MethodHandle" ∧ xi.cls ≠ "java/lang/invoke/VarHandle")
    (hM : MetFree l y (head1 [Jvm.Cond.code y bytes maxL ret] rm) (fun b U => b = (Value.ref a :: argsL).toArray ∧ Z.Warmed39 U.vm ∧ U.heap = h) (fun _ _ _ _ _ => True) (fun _ U o U' => ∃ v L, o = .returned v ∧ Q v U'.heap L ∧ FrameEnd U o U' L rm.cells rm.slots))
    (hf : rm.frames + 1 ≤ R.frames) (hl : W + (maxL + 11) + rm.locals ≤ R.locals) (eT : T.heap = h) (E : Exa Z h a C) {g : JFrame} (hg : g.method = m) (hsize : g.locals.size = c.maxLocals) {ps : List FieldType} {r : Option FieldType} (hpd : parseMethodDescriptor xi.desc = some ⟨ps, r⟩) (hlen : argsL.length = ps.length)
    (hstack : g.stack = argsL.reverse ++ .ref a :: rest) (hW : 2 * g.monitorRoom + (rest.map fun v => v.category).sum ≤ W) (hdg : decode c.code g.pc = .ok (.invokeinterface index count, 5)) (hc : cells + rm.cells ≤ R.cells) (hs : slots + rm.slots ≤ R.slots) :
    ∃ v T' L, Stand p l e R s m args below meth c T' (locs ++ L) (cells + rm.cells) (slots + rm.slots) ∧ Q v T'.heap L ∧ ∀ t, Steps p.tables e below (T'.setTop { g with pc := g.pc + 5, stack := v.toList ++ rest }) t → Steps p.tables e below (T.setTop g) t := by
  obtain ⟨cq, kq, qa, qb, qc⟩ := isOf hZ eT E
  obtain ⟨v, _, ⟨T', L', k', n'⟩, -, X', ⟨L, hQ, l1, y1, z1⟩, st⟩ := X.interfaceBack hx (xi := xi) (y := y) hown (mvT hZ wl) (mvT hZ wd) wf (mvT hZ wsel) (mvT hZ wi) (mvT hZ wp) (mvT hZ wu) (mvT hZ wk) hy (backOf (W := W) hM hZ wc wz hf hl) qa qb qc hg hsize (Steps.refl _) (lenOf hpd hlen) hstack hW hdg (fun _ _ => ⟨rfl, eT, hc, hs⟩)
  dsimp only [Pt.U, Pt.locs, Pt.cells, Pt.slots] at X' l1 y1 z1 st hQ
  subst l1 y1 z1
  exact ⟨v, T', L, X', hQ, fun t k => st.trans k⟩
/-- a truth as Java's int -/
def own_b (P : Prop) [Decidable P] : Int32 := if P then 1 else 0
theorem own_b1 {P : Prop} [Decidable P] (h : P) : own_b P = 1 := if_pos h
theorem own_b0 {P : Prop} [Decidable P] (h : ¬ P) : own_b P = 0 := if_neg h
theorem own_b01 (P : Prop) [Decidable P] : own_b P = 0 ∨ own_b P = 1 := by
  by_cases h : P
  · exact Or.inr (own_b1 h)
  · exact Or.inl (own_b0 h)
theorem own_bn {P : Prop} [Decidable P] (h : P) : ¬ own_b P = 0 := by rw [own_b1 h]; decide
theorem own_narZ {z : Int32} (h : z = 0 ∨ z = 1) : narrow .boolean (.int z) = .int z := by rcases h with rfl | rfl <;> rfl
theorem own_fitZ {z : Int32} (h : z = 0 ∨ z = 1) : fits .boolean (.int z) = true := by rcases h with rfl | rfl <;> rfl
end OwnKit
section OwnArr
variable {p : Program} {l : Launch} {e : Env} {R : Room} {s : State} {m : MethodId} {args : Array Value} {below : List Frame} {meth : Method} {c : Code} {T : State} {locs : List Loc} {cells slots : Nat} {Z : State} {a0 : Array Value} {h h' : Heap} {a b : Addr} {ty : FieldType} {n : Nat} {f f' : Nat → Value}
/-- an array: its kind, its length, what its places hold -/
def own_A (Z : State) (h : Heap) (a : Addr) (ty : FieldType) (n : Nat) (f : Nat → Value) : Prop := ∃ c : Cell, Arr Z h a c ty ∧ c.slots.size = n ∧ ∀ i, i < n → c.slots[i]? = some (f i) ∧ fits ty (f i) = true
theorem own_A.lt (F : own_A Z h a ty n f) : a < h.size := by obtain ⟨c, A, -⟩ := F; exact A.lt
theorem own_A.ext (F : own_A Z h a ty n f) (E : Ext h h') : own_A Z h' a ty n f := by obtain ⟨c, A, r⟩ := F; exact ⟨c, A.ext E, r⟩
theorem own_A.other {sl : Nat} {v : Value} (F : own_A Z h b ty n f) (W : Wr h h' a sl v) (q : b ≠ a) : own_A Z h' b ty n f := by obtain ⟨c, A, r⟩ := F; exact ⟨c, A.other W q, r⟩
theorem own_A.keep {ws : List Addr} (F : own_A Z h a ty n f) (K : Keep h h' ws) (q : a ∉ ws) : own_A Z h' a ty n f := by obtain ⟨c, A, r⟩ := F; exact ⟨c, ⟨K.2.1 a c A.1 q, A.2⟩, r⟩
theorem own_A.congr (F : own_A Z h a ty n f) (q : ∀ i, i < n → f i = f' i) : own_A Z h a ty n f' := by
  obtain ⟨c, A, r1, r2⟩ := F
  exact ⟨c, A, r1, fun i hi => by rw [← q i hi]; exact r2 i hi⟩
theorem own_A.set {j : Nat} {v : Value} (F : own_A Z h a ty n f) (W : Wr h h' a j v) (hv : fits ty v = true) : own_A Z h' a ty n (fun i => if i = j then v else f i) := by
  obtain ⟨c, A, r1, r2⟩ := F
  have hj : j < c.slots.size := by
    obtain ⟨c2, w1, -, w3, -⟩ := W
    cases A.1.symm.trans w1
    exact w3
  refine ⟨_, A.same W, by rw [sz_set]; exact r1, fun i hi => ?_⟩
  by_cases u : j = i
  · subst u; simp [Cell.setSlot, hj, hv]
  · have := r2 i hi
    simp only [Cell.setSlot]
    rw [Array.getElem?_setIfInBounds_ne u, if_neg (fun q => u q.symm)]; exact this
theorem own_A.new {k : ClassId} {z : Int32} (A : Arr Z h a (newA k ty z) ty) (hz : z.toNatClampNeg = n) : own_A Z h a ty n (fun _ => defaultValue ty) :=
  ⟨_, A, by rw [sz_new, hz], fun i hi => ⟨by simp [newA, hz, hi], by cases ty <;> rfl⟩⟩
theorem own_ix {j : Int32} {i : Nat} (hj : j.toInt = i) (hi : i < n) : ¬ (j < 0 ∨ n ≤ j.toNatClampNeg) ∧ j.toNatClampNeg = i := by
  have h0 : (0 : Int32).toInt = 0 := by decide
  have : j.toNatClampNeg = i := by simp only [Int32.toNatClampNeg, hj]; omega
  rw [this, Int32.lt_iff_toInt_lt, hj, h0]
  exact ⟨by omega, rfl⟩
theorem own_lenZ {z : Int32} (h : z.toInt = n) : n.toInt32 = z := by
  have h0 : (0 : Int32).toInt = 0 := by decide
  have hz : ¬ z < 0 := by rw [Int32.lt_iff_toInt_lt, h, h0]; omega
  have : z.toNatClampNeg = n := by simp only [Int32.toNatClampNeg, h]; omega
  rw [← this]; exact (back32 hz).1
theorem own_cap {z : Int32} (h : z.toInt = n) : ¬ z < 0 ∧ z.toNatClampNeg = n := by
  have h0 : (0 : Int32).toInt = 0 := by decide
  exact ⟨by rw [Int32.lt_iff_toInt_lt, h, h0]; omega, by simp only [Int32.toNatClampNeg, h]; omega⟩
theorem own_arraylength (X : Stand p l e R s m args below meth c T locs cells slots) (hx : p.tables.exec = Jvm.exec) (hZ : Z.Warmed39 s.vm) (eT : T.heap = h) (F : own_A Z h a ty n f) (z : Int32) (hz : z.toInt = n)
    {g : JFrame} (hg : g.method = m) {rest : List Value} (hs : g.stack = .ref a :: rest) (hd : decode c.code g.pc = .ok (.arraylength, 1)) (t : State) (k : Steps p.tables e below (T.setTop { g with pc := g.pc + 1, stack := .int z :: rest }) t) : Steps p.tables e below (T.setTop g) t := by
  obtain ⟨cl, A, r1, r2⟩ := F
  refine X.arraylength hx (by rw [eT]; exact A.1) (State.isArrayOf_alike hZ.alike A.2.1) hg hs hd t ?_
  rw [r1, own_lenZ hz]; exact k
theorem own_baload (X : Stand p l e R s m args below meth c T locs cells slots) (hx : p.tables.exec = Jvm.exec) (hZ : Z.Warmed39 s.vm) (eT : T.heap = h) (F : own_A Z h a .byte n f) {j : Int32} {i : Nat} (hj : j.toInt = i) (hi : i < n) (v : Value) (hv : f i = v)
    {g : JFrame} (hg : g.method = m) {rest : List Value} (hs : g.stack = .int j :: .ref a :: rest) (hd : decode c.code g.pc = .ok (.baload, 1)) (t : State) (k : Steps p.tables e below (T.setTop { g with pc := g.pc + 1, stack := v :: rest }) t) : Steps p.tables e below (T.setTop g) t := by
  obtain ⟨cl, A, r1, r2⟩ := F
  subst r1
  have q := own_ix hj hi
  exact X.baloadBytes hx (by rw [eT]; exact A.1) (State.isArrayOf_alike hZ.alike A.2.1) A.2.2 q.1 (by rw [q.2, (r2 i hi).1, hv]) hg hs hd t k
theorem own_iaload (X : Stand p l e R s m args below meth c T locs cells slots) (hx : p.tables.exec = Jvm.exec) (hZ : Z.Warmed39 s.vm) (eT : T.heap = h) (F : own_A Z h a .int n f) {j : Int32} {i : Nat} (hj : j.toInt = i) (hi : i < n) (v : Value) (hv : f i = v)
    {g : JFrame} (hg : g.method = m) {rest : List Value} (hs : g.stack = .int j :: .ref a :: rest) (hd : decode c.code g.pc = .ok (.iaload, 1)) (t : State) (k : Steps p.tables e below (T.setTop { g with pc := g.pc + 1, stack := v :: rest }) t) : Steps p.tables e below (T.setTop g) t := by
  obtain ⟨cl, A, r1, r2⟩ := F
  subst r1
  have q := own_ix hj hi
  exact X.iaload hx (by rw [eT]; exact A.1) (State.isArrayOf_alike hZ.alike A.2.1) A.2.2 q.1 (by rw [q.2, (r2 i hi).1, hv]) hg hs hd t k
theorem own_laload (X : Stand p l e R s m args below meth c T locs cells slots) (hx : p.tables.exec = Jvm.exec) (hZ : Z.Warmed39 s.vm) (eT : T.heap = h) (F : own_A Z h a .long n f) {j : Int32} {i : Nat} (hj : j.toInt = i) (hi : i < n) (v : Value) (hv : f i = v)
    {g : JFrame} (hg : g.method = m) {rest : List Value} (hs : g.stack = .int j :: .ref a :: rest) (hd : decode c.code g.pc = .ok (.laload, 1)) (t : State) (k : Steps p.tables e below (T.setTop { g with pc := g.pc + 1, stack := v :: rest }) t) : Steps p.tables e below (T.setTop g) t := by
  obtain ⟨cl, A, r1, r2⟩ := F
  subst r1
  have q := own_ix hj hi
  exact X.laload hx (by rw [eT]; exact A.1) (State.isArrayOf_alike hZ.alike A.2.1) A.2.2 q.1 (by rw [q.2, (r2 i hi).1, hv]) hg hs hd t k
theorem own_aaload (X : Stand p l e R s m args below meth c T locs cells slots) (hx : p.tables.exec = Jvm.exec) (hZ : Z.Warmed39 s.vm) (eT : T.heap = h) (F : own_A Z h a ty n f) (hty : ty.isReference = true) {j : Int32} {i : Nat} (hj : j.toInt = i) (hi : i < n) (v : Value) (hv : f i = v)
    {g : JFrame} (hg : g.method = m) {rest : List Value} (hs : g.stack = .int j :: .ref a :: rest) (hd : decode c.code g.pc = .ok (.aaload, 1)) (t : State) (k : Steps p.tables e below (T.setTop { g with pc := g.pc + 1, stack := v :: rest }) t) : Steps p.tables e below (T.setTop g) t := by
  obtain ⟨cl, A, r1, r2⟩ := F
  subst r1
  have q := own_ix hj hi
  exact X.aaload hx (by rw [eT]; exact A.1) (State.isArrayOf_alike hZ.alike A.2.1) hty A.2.2 q.1 (by rw [q.2, (r2 i hi).1, hv]) hg hs hd t k
theorem own_bastore (X : Stand p l e R s m args below meth c T locs cells slots) (hx : p.tables.exec = Jvm.exec) (hZ : Z.Warmed39 s.vm) (eT : T.heap = h) (F : own_A Z h a .byte n f) {j x : Int32} {i : Nat} (hj : j.toInt = i) (hi : i < n) (v : Int32) (hv : x.toInt8.toInt32 = v)
    {g : JFrame} (hg : g.method = m) {rest : List Value} (hs : g.stack = .int x :: .int j :: .ref a :: rest) (hd : decode c.code g.pc = .ok (.bastore, 1)) :
    ∃ T' h', Stand p l e R s m args below meth c T' (locs ++ [⟨a, i⟩]) cells slots ∧ T'.heap = h' ∧ Wr h h' a i (.int v) ∧ own_A Z h' a .byte n (fun q => if q = i then .int v else f q) ∧ ∀ t, Steps p.tables e below (T'.setTop { g with pc := g.pc + 1, stack := rest }) t → Steps p.tables e below (T.setTop g) t := by
  have F0 := F
  obtain ⟨cl, A, r1, r2⟩ := F
  subst r1
  have q := own_ix hj hi
  obtain ⟨T', h', X', e', W, st⟩ := stB X hx hZ eT A q.1 hg hs hd
  have ev : nar .byte x = v := hv
  rw [q.2] at X' W
  rw [ev] at W
  exact ⟨T', h', X', e', W, F0.set W (by rw [← hv]; exact fits_nar_byte x), st⟩
theorem own_iastore (X : Stand p l e R s m args below meth c T locs cells slots) (hx : p.tables.exec = Jvm.exec) (hZ : Z.Warmed39 s.vm) (eT : T.heap = h) (F : own_A Z h a .int n f) {j x : Int32} {i : Nat} (hj : j.toInt = i) (hi : i < n)
    {g : JFrame} (hg : g.method = m) {rest : List Value} (hs : g.stack = .int x :: .int j :: .ref a :: rest) (hd : decode c.code g.pc = .ok (.iastore, 1)) :
    ∃ T' h', Stand p l e R s m args below meth c T' (locs ++ [⟨a, i⟩]) cells slots ∧ T'.heap = h' ∧ Wr h h' a i (.int x) ∧ own_A Z h' a .int n (fun q => if q = i then .int x else f q) ∧ ∀ t, Steps p.tables e below (T'.setTop { g with pc := g.pc + 1, stack := rest }) t → Steps p.tables e below (T.setTop g) t := by
  have F0 := F
  obtain ⟨cl, A, r1, r2⟩ := F
  subst r1
  have q := own_ix hj hi
  obtain ⟨T', h', X', e', W, st⟩ := stI X hx hZ eT A q.1 hg hs hd
  rw [q.2] at X' W
  exact ⟨T', h', X', e', W, F0.set W rfl, st⟩
theorem own_lastore (X : Stand p l e R s m args below meth c T locs cells slots) (hx : p.tables.exec = Jvm.exec) (hZ : Z.Warmed39 s.vm) (eT : T.heap = h) (F : own_A Z h a .long n f) {j : Int32} {x : Int64} {i : Nat} (hj : j.toInt = i) (hi : i < n)
    {g : JFrame} (hg : g.method = m) {rest : List Value} (hs : g.stack = .long x :: .int j :: .ref a :: rest) (hd : decode c.code g.pc = .ok (.lastore, 1)) :
    ∃ T' h', Stand p l e R s m args below meth c T' (locs ++ [⟨a, i⟩]) cells slots ∧ T'.heap = h' ∧ Wr h h' a i (.long x) ∧ own_A Z h' a .long n (fun q => if q = i then .long x else f q) ∧ ∀ t, Steps p.tables e below (T'.setTop { g with pc := g.pc + 1, stack := rest }) t → Steps p.tables e below (T.setTop g) t := by
  have F0 := F
  obtain ⟨cl, A, r1, r2⟩ := F
  subst r1
  have q := own_ix hj hi
  obtain ⟨T', h', X', e', W, st⟩ := stJ X hx hZ eT A q.1 hg hs hd
  rw [q.2] at X' W
  exact ⟨T', h', X', e', W, F0.set W rfl, st⟩
theorem own_newP (X : Stand p l e R s m args below meth c T locs cells slots) (hx : p.tables.exec = Jvm.exec) (hZ : Z.Warmed39 s.vm) {aty : ArrayType} (w : (Jvm.Cond.arrayClass (newarray.typeOf aty)).before a0 Z = true) (eT : T.heap = h) {g : JFrame} (hg : g.method = m) (hd : decode c.code g.pc = .ok (.newarray aty, 2)) {z : Int32} {rest : List Value} (hs : g.stack = .int z :: rest)
    {n : Nat} (hz : z.toInt = n) {cap : Nat} (hcap : n ≤ cap) (hb : cap * 8 ≤ 536870912) (hc : cells + 1 ≤ R.cells) (hl : slots + cap ≤ R.slots) :
    ∃ T' h', Stand p l e R s m args below meth c T' locs (cells + 1) (slots + cap) ∧ T'.heap = h' ∧ Ext h h' ∧ own_A Z h' h.size (newarray.typeOf aty) n (fun _ => defaultValue (newarray.typeOf aty)) ∧
      ∀ t, Steps p.tables e below (T'.setTop { g with pc := g.pc + 2, stack := .ref h.size :: rest }) t → Steps p.tables e below (T.setTop g) t := by
  have q := own_cap hz
  obtain ⟨T', h', k, X', e', E, A, st⟩ := newP X hx hZ w eT hg hd hs q.1 (cap := cap) (by rw [q.2]; exact hcap) hb hc hl
  exact ⟨T', h', X', e', E, own_A.new A q.2, st⟩
theorem own_getD {d : Value} {i : Nat} (hi : i < n) : ((List.range n).map f).getD i d = f i := by
  simp [List.getD_eq_getElem?_getD, hi]
theorem own_A.arv (F : own_A Z h a ty n f) {z : Int32} (hz : z.toInt = n) (d : Value) : ∃ k, Arv Z h a k ty z ((List.range n).map f) d := by
  obtain ⟨c, A, r1, r2⟩ := F
  have q := own_cap hz
  exact ⟨c.cls, c, A, rfl, by rw [q.2]; exact r1, q.1, fun i hi => by rw [own_getD (by omega)]; exact (r2 i (by omega)).1, fun i hi => by rw [own_getD (by omega)]; exact (r2 i (by omega)).2⟩
theorem own_cpA (X : Stand p l e R s m args below meth c T locs cells slots) (hx : p.tables.exec = Jvm.exec) (hZ : Z.Warmed39 s.vm) {own : String} {index : Nat} (hown : s.vm.findClass own = some m.cls)
    (w1 : (Jvm.Cond.methodLink own index Jvm.Stand.acN).before a0 Z = true) (w2 : (Jvm.Cond.native Jvm.Stand.acN).before a0 Z = true) (w3 : (Jvm.Cond.static Jvm.Stand.acN).before a0 Z = true) (w4 : (Jvm.Cond.initialized "java/lang/System").before a0 Z = true) (eT : T.heap = h)
    {n' : Nat} (A : own_A Z h a ty n f) (B : own_A Z h b ty n' f') (hr : refKind ty = false) {zn zn' : Int32} (hzn : zn.toInt = n) (hzn' : zn'.toInt = n') {sp dp nn : Int32} {i j k : Nat} (hsp : sp.toInt = i) (hdp : dp.toInt = j) (hnn : nn.toInt = k) (h4 : i + k ≤ n) (h5 : j + k ≤ n')
    {n0 : Nat} (N : Fr n0 locs) (ge : n0 ≤ b) {g : JFrame} (hg : g.method = m) (hsize : g.locals.size = c.maxLocals) {rest : List Value} (hs : g.stack = .int nn :: .int dp :: .ref b :: .int sp :: .ref a :: rest) (hd : decode c.code g.pc = .ok (.invokestatic index, 3))
    (hf : 1 ≤ R.frames) {W : Nat} (hW : 2 * g.monitorRoom + (rest.map fun v => v.category).sum ≤ W) (hlo : W + (nativeFrameWords "java/lang/System" "arraycopy" 5 + 11) ≤ R.locals) :
    ∃ T' h' L, Stand p l e R s m args below meth c T' L cells slots ∧ T'.heap = h' ∧ Fr n0 L ∧ Keep h h' [b] ∧ own_A Z h' b ty n' (fun q => if j ≤ q ∧ q < j + k then f (i + (q - j)) else f' q) ∧
      ∀ t, Steps p.tables e below (T'.setTop { g with pc := g.pc + 3, stack := rest }) t → Steps p.tables e below (T.setTop g) t := by
  obtain ⟨ka, VA⟩ := A.arv hzn .null
  obtain ⟨kb, VB⟩ := B.arv hzn' .null
  have q1 := own_cap hsp
  have q2 := own_cap hdp
  have q3 := own_cap hnn
  have q4 := own_cap hzn
  have q5 := own_cap hzn'
  obtain ⟨T', h', L, X', e', N', K, V', st⟩ := cpA X hx hZ hown w1 w2 w3 w4 eT VA VB (Or.inl ⟨rfl, hr⟩) q1.1 q2.1 q3.1 (by rw [q1.2, q3.2, q4.2]; exact h4) (by rw [q2.2, q3.2, q5.2]; exact h5) rfl (by rw [q2.2, q3.2]; simpa using h5) N ge hg hsize hs hd hf hW hlo
  refine ⟨T', h', L, X', e', N', K, ?_, st⟩
  obtain ⟨c', A', -, r1, -, r2, r3⟩ := V'
  rw [q5.2] at r1
  have key : ∀ x, x < n' → (((List.range n').map f').take dp.toNatClampNeg ++ (List.range nn.toNatClampNeg).map (fun y => ((List.range n).map f).getD (sp.toNatClampNeg + y) .null) ++ ((List.range n').map f').drop (dp.toNatClampNeg + nn.toNatClampNeg)).getD x .null = if j ≤ x ∧ x < j + k then f (i + (x - j)) else f' x := by
    intro x hx'
    rw [q1.2, q2.2, q3.2, List.getD_eq_getElem?_getD]
    by_cases c1 : x < j
    · rw [if_neg (by omega), List.append_assoc, List.getElem?_append_left (by simp; omega), List.getElem?_take_of_lt c1]
      simp [hx']
    · by_cases c2 : x < j + k
      · rw [if_pos ⟨by omega, c2⟩, List.getElem?_append_left (by simp; omega), List.getElem?_append_right (by simp; omega)]
        have e1 : (((List.range n').map f').take j).length = j := by simp; omega
        rw [e1, List.getElem?_map, List.getElem?_range (by omega)]
        show ((List.range n).map f).getD (i + (x - j)) .null = _
        exact own_getD (by omega)
      · have e1 : (((List.range n').map f').take j ++ (List.range k).map (fun y => ((List.range n).map f).getD (i + y) .null)).length = j + k := by simp; omega
        rw [if_neg (by omega), List.getElem?_append_right (by rw [e1]; omega), e1, List.getElem?_drop, show j + k + (x - (j + k)) = x by omega]
        simp [hx']
  exact ⟨c', A', r1, fun x hx' => ⟨by rw [r2 x (by omega), key x hx'], by have := r3 x (by omega); rw [key x hx'] at this; exact this⟩⟩
def own_up {α : Type} (G : Nat → α) (i : Nat) (x : α) : Nat → α := fun q => if q = i then x else G q
theorem own_i8 (x : Int32) : x.toInt8.toInt32.toInt8.toInt32 = x.toInt8.toInt32 := by simp
def own_cp {α : Type} (G : Nat → α) (i : Nat) (G2 : Nat → α) (j k : Nat) : Nat → α := fun q => if j ≤ q ∧ q < j + k then G (i + (q - j)) else G2 q
theorem own_inc {x : Int32} {k : Nat} (h : x.toInt = k) (hk : k < 2147483647) : (x + (1 : Int32)).toInt = (k + 1 : Nat) := by
  have h1 := c_iadd x 1
  have i1 : (1 : Int32).toInt = 1 := by decide
  have r := rng32 (x + 1)
  omega
theorem own_ofN {x : Int32} {k : Nat} (h : x.toInt = k) : x = Int32.ofNat k := by
  have r := rng32 x
  apply Int32.toInt_inj.mp
  rw [h, Int32.toInt_ofNat_of_lt (by show k < 2147483648; omega)]
theorem own_toI {k : Nat} (h : k < 2147483648) : (Int32.ofNat k).toInt = k := Int32.toInt_ofNat_of_lt h
end OwnArr
section OwnArr2
variable {p : Program} {l : Launch} {e : Env} {R : Room} {s : State} {m : MethodId} {args : Array Value} {below : List Frame} {meth : Method} {c : Code} {T : State} {locs : List Loc} {cells slots : Nat} {Z : State} {a0 : Array Value} {h h' : Heap} {a b : Addr} {ty : FieldType} {C : String} {n : Nat} {f f' : Nat → Value}
/-- an array of arrays: its length, what its places hold; it takes arrays of the class C -/
def own_RA (Z : State) (h : Heap) (a : Addr) (ty : FieldType) (C : String) (n : Nat) (f : Nat → Value) : Prop := ∃ c : Cell, Arr Z h a c (.array ty) ∧ c.slots.size = n ∧ (∀ i, i < n → c.slots[i]? = some (f i) ∧ fits (.array ty) (f i) = true) ∧ OvrA Z c.cls ty C
theorem own_RA.lt (F : own_RA Z h a ty C n f) : a < h.size := by obtain ⟨c, A, -⟩ := F; exact A.lt
theorem own_RA.ext (F : own_RA Z h a ty C n f) (E : Ext h h') : own_RA Z h' a ty C n f := by obtain ⟨c, A, r⟩ := F; exact ⟨c, A.ext E, r⟩
theorem own_RA.other {sl : Nat} {v : Value} (F : own_RA Z h b ty C n f) (W : Wr h h' a sl v) (q : b ≠ a) : own_RA Z h' b ty C n f := by obtain ⟨c, A, r⟩ := F; exact ⟨c, A.other W q, r⟩
theorem own_RA.keep {ws : List Addr} (F : own_RA Z h a ty C n f) (K : Keep h h' ws) (q : a ∉ ws) : own_RA Z h' a ty C n f := by obtain ⟨c, A, r⟩ := F; exact ⟨c, ⟨K.2.1 a c A.1 q, A.2⟩, r⟩
theorem own_RA.toA (F : own_RA Z h a ty C n f) : own_A Z h a (.array ty) n f := by obtain ⟨c, A, r1, r2, -⟩ := F; exact ⟨c, A, r1, r2⟩
theorem own_RA.set {j : Nat} {v : Value} (F : own_RA Z h a ty C n f) (W : Wr h h' a j v) (hv : fits (.array ty) v = true) : own_RA Z h' a ty C n (own_up f j v) := by
  obtain ⟨c, A, r1, r2, O⟩ := F
  have hj : j < c.slots.size := by
    obtain ⟨c2, w1, -, w3, -⟩ := W
    cases A.1.symm.trans w1
    exact w3
  refine ⟨_, A.same W, by rw [sz_set]; exact r1, fun i hi => ?_, O⟩
  by_cases u : j = i
  · subst u; simp [Cell.setSlot, own_up, hj, hv]
  · have := r2 i hi
    simp only [Cell.setSlot, own_up]
    rw [Array.getElem?_setIfInBounds_ne u, if_neg (fun q => u q.symm)]; exact this
theorem own_newPE (X : Stand p l e R s m args below meth c T locs cells slots) (hx : p.tables.exec = Jvm.exec) (hZ : Z.Warmed39 s.vm) {aty : ArrayType} (w : (Jvm.Cond.arrayClass (newarray.typeOf aty)).before a0 Z = true) (eT : T.heap = h) {g : JFrame} (hg : g.method = m) (hd : decode c.code g.pc = .ok (.newarray aty, 2)) {z : Int32} {rest : List Value} (hs : g.stack = .int z :: rest)
    {n : Nat} (hz : z.toInt = n) {cap : Nat} (hcap : n ≤ cap) (hb : cap * 8 ≤ 536870912) (hc : cells + 1 ≤ R.cells) (hl : slots + cap ≤ R.slots) {ad : String} (had : "[" ++ (newarray.typeOf aty).toString = ad) :
    ∃ T' h', Stand p l e R s m args below meth c T' locs (cells + 1) (slots + cap) ∧ T'.heap = h' ∧ Ext h h' ∧ own_A Z h' h.size (newarray.typeOf aty) n (fun _ => defaultValue (newarray.typeOf aty)) ∧ Exa Z h' h.size ad ∧
      ∀ t, Steps p.tables e below (T'.setTop { g with pc := g.pc + 2, stack := .ref h.size :: rest }) t → Steps p.tables e below (T.setTop g) t := by
  have q := own_cap hz
  obtain ⟨T', h', k, X', e', E, A, D, st⟩ := newPE X hx hZ w eT hg hd hs q.1 (cap := cap) (by rw [q.2]; exact hcap) hb hc hl had
  exact ⟨T', h', X', e', E, own_A.new A q.2, D, st⟩
theorem own_newRA (X : Stand p l e R s m args below meth c T locs cells slots) (hx : p.tables.exec = Jvm.exec) (hZ : Z.Warmed39 s.vm) {own C : String} {ty : FieldType} {index : Nat} (hown : s.vm.findClass own = some m.cls) (hC : (FieldType.array ty).toString = C) (w1 : (Jvm.Cond.classLink own index C).before a0 Z = true) (w2 : (Jvm.Cond.arrayOver (.array ty)).before a0 Z = true)
    (eT : T.heap = h) {g : JFrame} (hg : g.method = m) (hd : decode c.code g.pc = .ok (.anewarray index, 3)) {z : Int32} {rest : List Value} (hs : g.stack = .int z :: rest) {n : Nat} (hz : z.toInt = n) {cap : Nat} (hcap : n ≤ cap) (hb : cap * 8 ≤ 536870912) (hc : cells + 1 ≤ R.cells) (hl : slots + cap ≤ R.slots) {ad : String} (had : "[" ++ C = ad) :
    ∃ T' h', Stand p l e R s m args below meth c T' locs (cells + 1) (slots + cap) ∧ T'.heap = h' ∧ Ext h h' ∧ own_RA Z h' h.size ty C n (fun _ => .null) ∧ Exa Z h' h.size ad ∧
      ∀ t, Steps p.tables e below (T'.setTop { g with pc := g.pc + 3, stack := .ref h.size :: rest }) t → Steps p.tables e below (T.setTop g) t := by
  have q := own_cap hz
  obtain ⟨T', h', k, X', e', E, A, D, O, st⟩ := newRA X hx hZ hown hC w1 w2 eT hg hd hs q.1 (cap := cap) (by rw [q.2]; exact hcap) hb hc hl had
  exact ⟨T', h', X', e', E, ⟨_, A, by rw [sz_new, q.2], fun i hi => ⟨by simp [newA, q.2, hi, defaultValue], rfl⟩, O⟩, D, st⟩
theorem own_aastore (X : Stand p l e R s m args below meth c T locs cells slots) (hx : p.tables.exec = Jvm.exec) (hZ : Z.Warmed39 s.vm) (eT : T.heap = h) (F : own_RA Z h a ty C n f) {y : Addr} (E : Exa Z h y C) {j : Int32} {i : Nat} (hj : j.toInt = i) (hi : i < n)
    {g : JFrame} (hg : g.method = m) {rest : List Value} (hs : g.stack = .ref y :: .int j :: .ref a :: rest) (hd : decode c.code g.pc = .ok (.aastore, 1)) :
    ∃ T' h', Stand p l e R s m args below meth c T' (locs ++ [⟨a, i⟩]) cells slots ∧ T'.heap = h' ∧ Wr h h' a i (.ref y) ∧ own_RA Z h' a ty C n (own_up f i (.ref y)) ∧ ∀ t, Steps p.tables e below (T'.setTop { g with pc := g.pc + 1, stack := rest }) t → Steps p.tables e below (T.setTop g) t := by
  have F0 := F
  obtain ⟨cl, A, r1, r2, O⟩ := F
  subst r1
  have q := own_ix hj hi
  obtain ⟨T', h', X', e', W, st⟩ := stR X hx hZ eT A q.1 rfl (Sto.ofVA A rfl O (Ins.self E)) hg hs hd
  rw [q.2] at X' W
  exact ⟨T', h', X', e', W, F0.set W rfl, st⟩
theorem own_clone (X : Stand p l e R s m args below meth c T locs cells slots) (hx : p.tables.exec = Jvm.exec) (hZ : Z.Warmed39 s.vm) {own ad : String} {index : Nat} (hown : s.vm.findClass own = some m.cls)
    (w1 : (Jvm.Cond.methodLink own index ⟨ad, "clone", "()Ljava/lang/Object;"⟩).before a0 Z = true) (w2 : (Jvm.Cond.sameMethod ad "java/lang/Object" "clone" "()Ljava/lang/Object;").before a0 Z = true) (w3 : (Jvm.Cond.native ⟨"java/lang/Object", "clone", "()Ljava/lang/Object;"⟩).before a0 Z = true)
    (w4 : (Jvm.Cond.instanceMethod ⟨"java/lang/Object", "clone", "()Ljava/lang/Object;"⟩).before a0 Z = true) (w5 : (Jvm.Cond.selects ad ⟨ad, "clone", "()Ljava/lang/Object;"⟩ ⟨"java/lang/Object", "clone", "()Ljava/lang/Object;"⟩).before a0 Z = true) (w6 : (Jvm.Cond.castable ad "java/lang/Cloneable").before a0 Z = true)
    (eT : T.heap = h) (F : own_A Z h a ty n f) (E : Exa Z h a ad) {g : JFrame} (hg : g.method = m) (hsize : g.locals.size = c.maxLocals) {rest : List Value} (hs : g.stack = .ref a :: rest) (hd : decode c.code g.pc = .ok (.invokevirtual index, 3))
    (hf : 1 ≤ R.frames) {W cap : Nat} (hW : 2 * g.monitorRoom + (rest.map fun v => v.category).sum ≤ W) (hl : W + 14 ≤ R.locals) (hcap : n ≤ cap) (hc : cells + 1 ≤ R.cells) (hsl : slots + cap ≤ R.slots) :
    ∃ T' h', Stand p l e R s m args below meth c T' locs (cells + 1) (slots + cap) ∧ T'.heap = h' ∧ Ext h h' ∧ own_A Z h' h.size ty n f ∧ Exa Z h' h.size ad ∧
      ∀ t, Steps p.tables e below (T'.setTop { g with pc := g.pc + 3, stack := .ref h.size :: rest }) t → Steps p.tables e below (T.setTop g) t := by
  obtain ⟨cl, A, r1, r2⟩ := F
  have FC : FitC Z cl := fitC_of A fun i hi v hv => by
    have q := r2 i (by omega)
    rw [q.1] at hv; cases hv; exact q.2
  obtain ⟨T', h', X', e', ex, A', E', st⟩ := cloneA X hx hZ hown w1 w2 w3 w4 w5 w6 eT A E FC hg hsize hs hd hf hW hl (by rw [r1]; exact hcap) hc hsl
  exact ⟨T', h', X', e', ex, ⟨cloneOf cl, A', r1, r2⟩, E', st⟩
/-- the first L places of G are arrays of n longs each, made at lo or later, that hold VV -/
def own_Fam (Z : State) (h : Heap) (lo L n : Nat) (G : Nat → Value) (VV : Nat → Nat → Int64) : Prop := ∀ q, q < L → ∃ x : Addr, G q = .ref x ∧ lo ≤ x ∧ own_A Z h x .long n (fun i => .long (VV q i))
theorem own_Fam.step {lo L n : Nat} {G : Nat → Value} {VV : Nat → Nat → Int64} {ws : List Addr} (F : own_Fam Z h lo L n G VV) (K : Keep h h' ws) (hws : ∀ x ∈ ws, x < lo) (hb : lo ≤ b) (A : own_A Z h' b .long n (fun i => .long (VV L i))) : own_Fam Z h' lo (L + 1) n (own_up G L (.ref b)) VV := by
  intro q hq
  by_cases u : q = L
  · subst u; exact ⟨b, if_pos rfl, hb, A⟩
  · obtain ⟨x, h1, h2, h3⟩ := F q (by omega)
    exact ⟨x, (if_neg u).trans h1, h2, h3.keep K fun hm => absurd (hws x hm) (Nat.not_lt.mpr h2)⟩
theorem own_bud {c k d B C : Nat} (h : d ≤ B) (q : c + k * B ≤ C) : c + k * d ≤ C := Nat.le_trans (Nat.add_le_add_left (Nat.mul_le_mul_left k h) c) q
theorem own_bud1 {x k fu B : Nat} (h : x + k * (fu + 1) ≤ B) : x + k ≤ B := by rw [Nat.mul_succ] at h; omega
theorem own_budn {x k fu B : Nat} (h : x + k * (fu + 1) ≤ B) : x + k + k * fu ≤ B := by rw [Nat.mul_succ] at h; omega
theorem own_bud0 {x k B : Nat} (h : x + k * 0 ≤ B) : x ≤ B := h
end OwnArr2
/-- a local that is unset, an int or a reference -/
def own_sl (x : Slot) : Prop := x = .unset ∨ (∃ z, x = .val (.int z)) ∨ ∃ z, x = .val (.ref z)
theorem own_sw {P : Nat → Prop} {ao an on nx : Nat} (h : (ao = on ∧ an = nx) ∨ (ao = nx ∧ an = on)) (p1 : P on) (p2 : P nx) : P ao ∧ P an := by
  rcases h with ⟨rfl, rfl⟩ | ⟨rfl, rfl⟩
  · exact ⟨p1, p2⟩
  · exact ⟨p2, p1⟩
theorem own_swap {ao an on nx : Nat} (h : (ao = on ∧ an = nx) ∨ (ao = nx ∧ an = on)) : (an = on ∧ ao = nx) ∨ (an = nx ∧ ao = on) := by
  rcases h with ⟨rfl, rfl⟩ | ⟨rfl, rfl⟩
  · exact Or.inr ⟨rfl, rfl⟩
  · exact Or.inl ⟨rfl, rfl⟩
theorem own_swn {ao an on nx : Nat} (h : (ao = on ∧ an = nx) ∨ (ao = nx ∧ an = on)) (q : on ≠ nx) : ao ≠ an := by
  rcases h with ⟨rfl, rfl⟩ | ⟨rfl, rfl⟩
  · exact q
  · exact q.symm
section OwnWave
def own_bt (x b : Int32) : Int32 := ((x.toUInt32 >>> (b &&& 31).toUInt32).toInt32) &&& (1 : Int32)
theorem own_bt01 (x b : Int32) : own_bt x b = 0 ∨ own_bt x b = 1 := by
  have h := c_mask ((x.toUInt32 >>> (b &&& 31).toUInt32).toInt32) 1 1 (by decide) (by decide)
  have h1 : (own_bt x b).toInt = 0 ∨ (own_bt x b).toInt = 1 := by
    show (((x.toUInt32 >>> (b &&& 31).toUInt32).toInt32) &&& (1 : Int32)).toInt = 0 ∨ (((x.toUInt32 >>> (b &&& 31).toUInt32).toInt32) &&& (1 : Int32)).toInt = 1
    omega
  rcases h1 with h1 | h1
  · exact Or.inl (Int32.toInt_inj.mp (h1.trans (by decide)))
  · exact Or.inr (Int32.toInt_inj.mp (h1.trans (by decide)))
theorem own_bt1 {x b : Int32} (h : ¬ own_bt x b = 0) : own_bt x b = 1 := (own_bt01 x b).resolve_left h
theorem own_ofS (j : Nat) : Int32.ofNat j + (1 : Int32) = Int32.ofNat (j + 1) := by rw [Int32.ofNat_add]; rfl
section Cnt
variable (g : Nat → Int32) (b : Int32)
def own_c0 : Nat → Nat
  | 0 => 0
  | j + 1 => own_c0 j + (if own_bt (g j) b = 0 then 1 else 0)
def own_c1 : Nat → Nat
  | 0 => 0
  | j + 1 => own_c1 j + (if own_bt (g j) b = 0 then 0 else 1)
theorem own_c01 (j : Nat) : own_c0 g b j + own_c1 g b j = j := by
  induction j with
  | zero => rfl
  | succ j ih => simp only [own_c0, own_c1]; split <;> omega
theorem own_c0_s (j : Nat) : Int32.ofNat (own_c0 g b j) + (own_bt (g j) b ^^^ (1 : Int32)) = Int32.ofNat (own_c0 g b (j + 1)) := by
  simp only [own_c0]
  rcases own_bt01 (g j) b with h | h
  · rw [h, if_pos rfl]; exact own_ofS _
  · rw [h, if_neg (by decide), show ((1 : Int32) ^^^ (1 : Int32)) = 0 from by decide, Int32.add_zero]; rfl
theorem own_c1_s (j : Nat) : Int32.ofNat (own_c1 g b j) + own_bt (g j) b = Int32.ofNat (own_c1 g b (j + 1)) := by
  simp only [own_c1]
  rcases own_bt01 (g j) b with h | h
  · rw [h, if_pos rfl, Int32.add_zero]; rfl
  · rw [h, if_neg (by decide)]; exact own_ofS _
theorem own_c0_mono {i j : Nat} (h : i ≤ j) : own_c0 g b i ≤ own_c0 g b j := by
  induction j with
  | zero => rw [Nat.le_zero.mp h]; exact Nat.le_refl _
  | succ j ih =>
    by_cases c : i = j + 1
    · rw [c]; exact Nat.le_refl _
    · exact Nat.le_trans (ih (by omega)) (Nat.le_add_right _ _)
theorem own_c1_mono {i j : Nat} (h : i ≤ j) : own_c1 g b i ≤ own_c1 g b j := by
  induction j with
  | zero => rw [Nat.le_zero.mp h]; exact Nat.le_refl _
  | succ j ih =>
    by_cases c : i = j + 1
    · rw [c]; exact Nat.le_refl _
    · exact Nat.le_trans (ih (by omega)) (Nat.le_add_right _ _)
theorem own_c0_lt {i j : Nat} (h : i < j) (hb : own_bt (g i) b = 0) : own_c0 g b i < own_c0 g b j := by
  have h1 := own_c0_mono g b (show i + 1 ≤ j from h)
  simp only [own_c0, if_pos hb] at h1
  omega
theorem own_c1_lt {i j : Nat} (h : i < j) (hb : ¬ own_bt (g i) b = 0) : own_c1 g b i < own_c1 g b j := by
  have h1 := own_c1_mono g b (show i + 1 ≤ j from h)
  simp only [own_c1, if_neg hb] at h1
  omega
theorem own_c0_le (j : Nat) : own_c0 g b j ≤ j := Nat.le.intro (own_c01 g b j)
theorem own_c1_le (j : Nat) : own_c1 g b j ≤ j := by have := own_c01 g b j; omega
theorem own_c0_find {q n : Nat} (h : q < own_c0 g b n) : ∃ j, j < n ∧ own_bt (g j) b = 0 ∧ own_c0 g b j = q := by
  induction n with
  | zero => exact absurd h (Nat.not_lt_zero _)
  | succ n ih =>
    by_cases c : q < own_c0 g b n
    · obtain ⟨j, h1, h2⟩ := ih c
      exact ⟨j, by omega, h2⟩
    · simp only [own_c0] at h
      by_cases c2 : own_bt (g n) b = 0
      · rw [if_pos c2] at h
        exact ⟨n, by omega, c2, by omega⟩
      · rw [if_neg c2] at h
        omega
theorem own_c1_find {q n : Nat} (h : q < own_c1 g b n) : ∃ j, j < n ∧ ¬ own_bt (g j) b = 0 ∧ own_c1 g b j = q := by
  induction n with
  | zero => exact absurd h (Nat.not_lt_zero _)
  | succ n ih =>
    by_cases c : q < own_c1 g b n
    · obtain ⟨j, h1, h2⟩ := ih c
      exact ⟨j, by omega, h2⟩
    · simp only [own_c1] at h
      by_cases c2 : own_bt (g n) b = 0
      · rw [if_pos c2] at h
        omega
      · rw [if_neg c2] at h
        exact ⟨n, by omega, c2, by omega⟩
def own_dst (n j : Nat) : Nat := if own_bt (g j) b = 0 then own_c0 g b j else own_c0 g b n + own_c1 g b j
theorem own_dst0 {n j : Nat} (h : own_bt (g j) b = 0) : own_dst g b n j = own_c0 g b j := if_pos h
theorem own_dst1 {n j : Nat} (h : ¬ own_bt (g j) b = 0) : own_dst g b n j = own_c0 g b n + own_c1 g b j := if_neg h
theorem own_dst_lt {n j : Nat} (h : j < n) : own_dst g b n j < n := by
  have h0 := own_c01 g b n
  by_cases c : own_bt (g j) b = 0
  · rw [own_dst0 g b c]
    have := own_c0_lt g b h c
    omega
  · rw [own_dst1 g b c]
    have := own_c1_lt g b h c
    omega
theorem own_dst_onto {n q : Nat} (h : q < n) : ∃ j, j < n ∧ own_dst g b n j = q := by
  have h0 := own_c01 g b n
  by_cases c : q < own_c0 g b n
  · obtain ⟨j, h1, h2, h3⟩ := own_c0_find g b c
    exact ⟨j, h1, by rw [own_dst0 g b h2, h3]⟩
  · obtain ⟨j, h1, h2, h3⟩ := own_c1_find g b (q := q - own_c0 g b n) (n := n) (by omega)
    exact ⟨j, h1, by rw [own_dst1 g b h2, h3]; omega⟩
theorem own_dst_ne {n j k : Nat} (h : j < k) (hk : k < n) : own_dst g b n j ≠ own_dst g b n k := by
  by_cases c : own_bt (g j) b = 0 <;> by_cases c' : own_bt (g k) b = 0
  · rw [own_dst0 g b c, own_dst0 g b c']
    have := own_c0_lt g b h c
    omega
  · rw [own_dst0 g b c, own_dst1 g b c']
    have := own_c0_lt g b (Nat.lt_trans h hk) c
    omega
  · rw [own_dst1 g b c, own_dst0 g b c']
    have := own_c0_lt g b hk c'
    omega
  · rw [own_dst1 g b c, own_dst1 g b c']
    have := own_c1_lt g b h c
    omega
def own_nxf (X0 : Nat → Int32) : Nat → (Nat → Int32)
  | 0 => X0
  | j + 1 => own_up (own_nxf X0 j) (own_c0 g b j) (g j)
def own_wsf (W0 : Nat → Int32) : Nat → (Nat → Int32)
  | 0 => W0
  | j + 1 => own_up (own_wsf W0 j) (own_c1 g b j) (g j)
theorem own_nx_at (X0 : Nat → Int32) {j k : Nat} (h : j < k) (hb : own_bt (g j) b = 0) : own_nxf g b X0 k (own_c0 g b j) = g j := by
  induction k with
  | zero => omega
  | succ k ih =>
    show own_up (own_nxf g b X0 k) (own_c0 g b k) (g k) (own_c0 g b j) = g j
    by_cases c : j = k
    · subst c; exact if_pos rfl
    · have hl : own_c0 g b j < own_c0 g b k := own_c0_lt g b (by omega) hb
      show (if own_c0 g b j = own_c0 g b k then _ else _) = _
      rw [if_neg (by omega)]
      exact ih (by omega)
theorem own_ws_at (W0 : Nat → Int32) {j k : Nat} (h : j < k) (hb : ¬ own_bt (g j) b = 0) : own_wsf g b W0 k (own_c1 g b j) = g j := by
  induction k with
  | zero => omega
  | succ k ih =>
    show own_up (own_wsf g b W0 k) (own_c1 g b k) (g k) (own_c1 g b j) = g j
    by_cases c : j = k
    · subst c; exact if_pos rfl
    · have hl : own_c1 g b j < own_c1 g b k := own_c1_lt g b (by omega) hb
      show (if own_c1 g b j = own_c1 g b k then _ else _) = _
      rw [if_neg (by omega)]
      exact ih (by omega)
def own_F (X0 W0 : Nat → Int32) (n : Nat) : Nat → Int32 := own_cp (own_wsf g b W0 n) 0 (own_nxf g b X0 n) (own_c0 g b n) (own_c1 g b n)
theorem own_F_at (X0 W0 : Nat → Int32) {n j : Nat} (h : j < n) : own_F g b X0 W0 n (own_dst g b n j) = g j := by
  unfold own_F own_cp
  by_cases c : own_bt (g j) b = 0
  · have := own_c0_lt g b h c
    rw [own_dst0 g b c, if_neg (by omega)]
    exact own_nx_at g b X0 h c
  · have := own_c1_lt g b h c
    rw [own_dst1 g b c, if_pos (by omega), show 0 + (own_c0 g b n + own_c1 g b j - own_c0 g b n) = own_c1 g b j by omega]
    exact own_ws_at g b W0 h c
def own_wdf : Nat → Int64
  | 0 => 0
  | j + 1 => if j % 64 = 63 then 0 else own_wdf j ||| ((own_bt (g j) b).toInt64 <<< (Int32.ofNat j &&& 0x3f).toInt64)
def own_vc (V0 : Nat → Int64) : Nat → (Nat → Int64)
  | 0 => V0
  | j + 1 => if j % 64 = 63 then own_up (own_vc V0 j) (j / 64) (own_wdf g b j ||| ((own_bt (g j) b).toInt64 <<< (Int32.ofNat j &&& 0x3f).toInt64)) else own_vc V0 j
def own_V (V0 : Nat → Int64) (n : Nat) : Nat → Int64 := own_up (own_vc g b V0 n) (n / 64) (own_wdf g b n)
theorem own_wd1 {j : Nat} (h : j % 64 = 63) : own_wdf g b (j + 1) = 0 := if_pos h
theorem own_wd0 {j : Nat} (h : ¬ j % 64 = 63) : own_wdf g b (j + 1) = own_wdf g b j ||| ((own_bt (g j) b).toInt64 <<< (Int32.ofNat j &&& 0x3f).toInt64) := if_neg h
theorem own_vc1 {V0 : Nat → Int64} {j : Nat} (h : j % 64 = 63) : own_vc g b V0 (j + 1) = own_up (own_vc g b V0 j) (j / 64) (own_wdf g b j ||| ((own_bt (g j) b).toInt64 <<< (Int32.ofNat j &&& 0x3f).toInt64)) := if_pos h
theorem own_vc0 {V0 : Nat → Int64} {j : Nat} (h : ¬ j % 64 = 63) : own_vc g b V0 (j + 1) = own_vc g b V0 j := if_neg h
end Cnt
theorem own_shl_bv (z : Int64) (q : Int32) (k : Nat) (hk : q.toBitVec.toNat % 64 = k) : (z <<< (q &&& 0x3f).toInt64).toBitVec = z.toBitVec <<< k := by
  show z.toBitVec <<< ((q &&& 0x3f).toInt64.toBitVec.smod 64) = _
  rw [BitVec.shiftLeft_eq', (sm64 q k hk).1, smod64 k (sm64 q k hk).2]
theorem own_ushr_bv (z : Int64) (q : Int32) (k : Nat) (hk : q.toBitVec.toNat % 64 = k) : ((z.toUInt64 >>> (q &&& 0x3f).toInt64.toUInt64).toInt64).toBitVec = z.toBitVec >>> k := by
  have h5 := (sm64 q k hk).2
  apply BitVec.eq_of_toNat_eq
  show (z.toBitVec >>> ((q &&& 0x3f).toInt64.toBitVec % 64)).toNat = _
  rw [BitVec.ushiftRight_eq', BitVec.toNat_ushiftRight, BitVec.toNat_ushiftRight, BitVec.toNat_umod, (sm64 q k hk).1, BitVec.toNat_ofNat]
  congr 1
  show k % 2 ^ 64 % 64 = k
  omega
theorem own_ofN_bv {j : Nat} (h : j < 2147483648) : (Int32.ofNat j).toBitVec.toNat = j := by
  show (BitVec.ofNat 32 j).toNat = j
  rw [BitVec.toNat_ofNat]; omega
theorem own_w_bit (g : Nat → Int32) (b : Int32) {j i : Nat} (hj : j < 2147483648) (z : Int64) (hi : i < 64) : (z ||| ((own_bt (g j) b).toInt64 <<< (Int32.ofNat j &&& 0x3f).toInt64)).toBitVec.getLsbD i = (z.toBitVec.getLsbD i || (decide (i = j % 64) && !decide (own_bt (g j) b = 0))) := by
  show (z.toBitVec ||| ((own_bt (g j) b).toInt64 <<< (Int32.ofNat j &&& 0x3f).toInt64).toBitVec).getLsbD i = _
  rw [BitVec.getLsbD_or, own_shl_bv _ _ (j % 64) (by rw [own_ofN_bv hj])]
  congr 1
  rw [BitVec.getLsbD_shiftLeft]
  rcases own_bt01 (g j) b with h | h
  · rw [h]
    simp
  · rw [h, show (1 : Int32).toInt64.toBitVec = 1#64 from by decide]
    by_cases c : i = j % 64
    · subst c; simp [hi]
    · have : (1#64).getLsbD (i - j % 64) = decide (i - j % 64 = 0) := by simp [BitVec.getLsbD_one]
      rw [this]
      by_cases c2 : i < j % 64
      · simp [c2, c]
      · simp [c, show ¬ i - j % 64 = 0 by omega]
theorem own_wd_bit (g : Nat → Int32) (b : Int32) (j : Nat) (hj : j < 2147483648) (i : Nat) (hi : i < 64) : (own_wdf g b j).toBitVec.getLsbD i = (decide (i < j % 64) && !decide (own_bt (g (j / 64 * 64 + i)) b = 0)) := by
  induction j with
  | zero => simp [own_wdf]
  | succ j ih =>
    have ih := ih (by omega)
    by_cases c : j % 64 = 63
    · rw [own_wd1 g b c, show (j + 1) % 64 = 0 by omega]; simp
    · rw [own_wd0 g b c, own_w_bit g b (by omega) _ hi, ih, show (j + 1) % 64 = j % 64 + 1 by omega, show (j + 1) / 64 = j / 64 by omega]
      by_cases c1 : i < j % 64
      · simp [c1, show i < j % 64 + 1 by omega, show ¬ i = j % 64 by omega]
      · by_cases c2 : i = j % 64
        · have e : j / 64 * 64 + i = j := by omega
          rw [e]; simp [c2]
        · simp [c1, c2, show ¬ i < j % 64 + 1 by omega]
theorem own_vc_bit (g : Nat → Int32) (b : Int32) (V0 : Nat → Int64) (j : Nat) (hj : j < 2147483648) (k i : Nat) (hk : k < j / 64) (hi : i < 64) : (own_vc g b V0 j k).toBitVec.getLsbD i = !decide (own_bt (g (k * 64 + i)) b = 0) := by
  induction j with
  | zero => omega
  | succ j ih =>
    by_cases c : j % 64 = 63
    · rw [own_vc1 g b c]
      unfold own_up
      by_cases c1 : k = j / 64
      · rw [if_pos c1, own_w_bit g b (by omega) _ hi, own_wd_bit g b j (by omega) i hi, c, ← c1]
        by_cases c2 : i = 63
        · have e : k * 64 + i = j := by omega
          rw [e]; simp [c2]
        · simp [c2, show i < 63 by omega]
      · rw [if_neg c1]; exact ih (by omega) (by omega)
    · rw [own_vc0 g b c]; exact ih (by omega) (by omega)
theorem own_V_bit (g : Nat → Int32) (b : Int32) (V0 : Nat → Int64) {n j : Nat} (h : j < n) (hn : n < 2147483648) : (own_V g b V0 n (j / 64)).toBitVec.getLsbD (j % 64) = !decide (own_bt (g j) b = 0) := by
  unfold own_V own_up
  have e : j / 64 * 64 + j % 64 = j := by omega
  by_cases c : j / 64 = n / 64
  · rw [if_pos c, own_wd_bit g b n hn _ (by omega), ← c, e]
    simp [show j % 64 < n % 64 by omega]
  · rw [if_neg c, own_vc_bit g b V0 n hn _ _ (by omega) (by omega), e]
theorem own_and1 (x : Int64) : (x &&& (1 : Int64)) = (0 : Int64) ↔ x.toBitVec.getLsbD 0 = false := by
  rw [← Int64.toBitVec_inj]
  show x.toBitVec &&& 1#64 = 0#64 ↔ _
  constructor
  · intro h
    have := congrArg (fun z => BitVec.getLsbD z 0) h
    simpa using this
  · intro h
    apply BitVec.eq_of_getLsbD_eq
    intro i hi
    rw [BitVec.getLsbD_and]
    by_cases c : i = 0
    · subst c; rw [h]; simp
    · simp [BitVec.getLsbD_one, c]
theorem own_Vbit (g : Nat → Int32) (b : Int32) (V0 : Nat → Int64) {n j : Nat} (h : j < n) (hn : n < 2147483648) : (((own_V g b V0 n (j / 64)).toUInt64 >>> ((Int32.ofNat j) &&& 0x3f).toInt64.toUInt64).toInt64 &&& (1 : Int64)) = (0 : Int64) ↔ own_bt (g j) b = 0 := by
  rw [own_and1, own_ushr_bv _ _ (j % 64) (by rw [own_ofN_bv (by omega)]), BitVec.getLsbD_ushiftRight, Nat.add_zero, own_V_bit g b V0 h hn]
  simp
section Num
variable (g : Nat → Int32) (b : Int32)
def own_sX (n : Nat) (O X0 : Nat → Nat) : Nat → (Nat → Nat)
  | 0 => X0
  | j + 1 => own_up (own_sX n O X0 j) (own_dst g b n j) (O j)
theorem own_sX_at (n : Nat) (O X0 : Nat → Nat) {j k : Nat} (h : j < k) (hk : k ≤ n) : own_sX g b n O X0 k (own_dst g b n j) = O j := by
  induction k with
  | zero => omega
  | succ k ih =>
    show (if own_dst g b n j = own_dst g b n k then O k else own_sX g b n O X0 k (own_dst g b n j)) = O j
    by_cases c : j = k
    · subst c; exact if_pos rfl
    · rw [if_neg (own_dst_ne g b (show j < k by omega) (by omega))]
      exact ih (by omega) (by omega)
def own_sN (O : Nat → Nat) (N0 : Nat → Int32) : Nat → (Nat → Int32)
  | 0 => N0
  | j + 1 => if own_bt (g j) b = 0 then own_sN O N0 j else own_up (own_sN O N0 j) (O j) (own_sN O N0 j (O j) ||| ((1 : Int32) <<< (b &&& 31)))
theorem own_sN0 {O : Nat → Nat} {N0 : Nat → Int32} {j : Nat} (h : own_bt (g j) b = 0) : own_sN g b O N0 (j + 1) = own_sN g b O N0 j := if_pos h
theorem own_sN1 {O : Nat → Nat} {N0 : Nat → Int32} {j : Nat} (h : ¬ own_bt (g j) b = 0) : own_sN g b O N0 (j + 1) = own_up (own_sN g b O N0 j) (O j) (own_sN g b O N0 j (O j) ||| ((1 : Int32) <<< (b &&& 31))) := if_neg h
theorem own_orr (x y : Int32) : (x ||| y) ||| y = x ||| y := by
  apply Int32.toBitVec_inj.mp
  show (x.toBitVec ||| y.toBitVec) ||| y.toBitVec = x.toBitVec ||| y.toBitVec
  rw [BitVec.or_assoc, BitVec.or_self]
theorem own_sN_is (O : Nat → Nat) (N0 : Nat → Int32) (j i : Nat) : own_sN g b O N0 j i = N0 i ∨ own_sN g b O N0 j i = N0 i ||| ((1 : Int32) <<< (b &&& 31)) := by
  induction j with
  | zero => exact Or.inl rfl
  | succ j ih =>
    by_cases c : own_bt (g j) b = 0
    · rw [own_sN0 g b c]; exact ih
    · rw [own_sN1 g b c]
      show (if i = O j then _ else _) = _ ∨ (if i = O j then _ else _) = _
      by_cases c1 : i = O j
      · subst c1
        rw [if_pos rfl]
        right
        rcases ih with h | h
        · rw [h]
        · rw [h, own_orr]
      · rw [if_neg c1]; exact ih
theorem own_sN_set (O : Nat → Nat) (N0 : Nat → Int32) {j k : Nat} (h : k < j) (hb : ¬ own_bt (g k) b = 0) : own_sN g b O N0 j (O k) = N0 (O k) ||| ((1 : Int32) <<< (b &&& 31)) := by
  induction j with
  | zero => omega
  | succ j ih =>
    by_cases c : own_bt (g j) b = 0
    · rw [own_sN0 g b c]
      have : k ≠ j := fun q => hb (q ▸ c)
      exact ih (by omega)
    · rw [own_sN1 g b c]
      show (if O k = O j then _ else _) = _
      by_cases c1 : O k = O j
      · rw [if_pos c1, ← c1]
        rcases own_sN_is g b O N0 j (O k) with h | h
        · rw [h]
        · rw [h, own_orr]
      · rw [if_neg c1]
        have : k ≠ j := fun q => c1 (by rw [q])
        exact ih (by omega)
theorem own_sN_keep (O : Nat → Nat) (N0 : Nat → Int32) {j i : Nat} (h : ∀ k, k < j → O k = i → own_bt (g k) b = 0) : own_sN g b O N0 j i = N0 i := by
  induction j with
  | zero => rfl
  | succ j ih =>
    have ih := ih fun k hk => h k (by omega)
    by_cases c : own_bt (g j) b = 0
    · rw [own_sN0 g b c]; exact ih
    · rw [own_sN1 g b c]
      show (if i = O j then _ else _) = _
      rw [if_neg (fun q => c (h j (by omega) q.symm))]
      exact ih
end Num
def own_bb (d L : Nat) : Int32 := (Int32.ofNat d - (1 : Int32)) - Int32.ofNat L
section Lev
variable (a : Nat → Int32) (d n : Nat)
def own_lv : Nat → (Nat → Int32) × (Nat → Int32) × (Nat → Int32)
  | 0 => (a, fun _ => 0, fun _ => 0)
  | L + 1 => (own_F (own_lv L).1 (own_bb d L) (own_lv L).2.1 (own_lv L).2.2 n, (own_lv L).1, own_wsf (own_lv L).1 (own_bb d L) (own_lv L).2.2 n)
def own_nl : Nat → (Nat → Int32) × (Nat → Nat) × (Nat → Nat)
  | 0 => (fun _ => 0, fun q => q, fun _ => 0)
  | L + 1 => (own_sN (own_lv a d n L).1 (own_bb d L) (own_nl L).2.1 (own_nl L).1 n, own_sX (own_lv a d n L).1 (own_bb d L) n (own_nl L).2.1 (own_nl L).2.2 n, (own_nl L).2.1)
theorem own_nl_ok (L : Nat) : (∀ j, j < n → (own_nl a d n L).2.1 j < n ∧ (own_lv a d n L).1 j = a ((own_nl a d n L).2.1 j)) ∧ ∀ i, i < n → ∃ j, j < n ∧ (own_nl a d n L).2.1 j = i := by
  induction L with
  | zero => exact ⟨fun j hj => ⟨hj, rfl⟩, fun i hi => ⟨i, hi, rfl⟩⟩
  | succ L ih =>
    obtain ⟨h1, h2⟩ := ih
    have key : ∀ j, j < n → own_sX (own_lv a d n L).1 (own_bb d L) n (own_nl a d n L).2.1 (own_nl a d n L).2.2 n (own_dst (own_lv a d n L).1 (own_bb d L) n j) = (own_nl a d n L).2.1 j := fun j hj => own_sX_at _ _ _ _ _ hj (Nat.le_refl _)
    refine ⟨fun q hq => ?_, fun i hi => ?_⟩
    · obtain ⟨j, hj, e⟩ := own_dst_onto (own_lv a d n L).1 (own_bb d L) hq
      subst e
      show own_sX _ _ _ _ _ n _ < n ∧ own_F _ _ _ _ n _ = a (own_sX _ _ _ _ _ n _)
      rw [key j hj, own_F_at _ _ _ _ hj]
      exact h1 j hj
    · obtain ⟨j, hj, e⟩ := h2 i hi
      exact ⟨own_dst (own_lv a d n L).1 (own_bb d L) n j, own_dst_lt _ _ hj, (key j hj).trans e⟩
def own_top : Nat → Int32 → Int32
  | 0, _ => 0
  | L + 1, x => if own_bt x (own_bb d L) = 0 then own_top L x else own_top L x ||| ((1 : Int32) <<< (own_bb d L &&& 31))
theorem own_nl_top (L i : Nat) (hi : i < n) : (own_nl a d n L).1 i = own_top d L (a i) := by
  induction L with
  | zero => rfl
  | succ L ih =>
    obtain ⟨h1, h2⟩ := own_nl_ok a d n L
    show own_sN (own_lv a d n L).1 (own_bb d L) (own_nl a d n L).2.1 (own_nl a d n L).1 n i = (if own_bt (a i) (own_bb d L) = 0 then own_top d L (a i) else own_top d L (a i) ||| ((1 : Int32) <<< (own_bb d L &&& 31)))
    by_cases c : own_bt (a i) (own_bb d L) = 0
    · rw [if_pos c, own_sN_keep _ _ _ _ (fun k hk e => by rw [(h1 k hk).2, e]; exact c), ih]
    · rw [if_neg c]
      obtain ⟨j, hj, e⟩ := h2 i hi
      subst e
      rw [own_sN_set _ _ _ _ hj (by rw [(h1 j hj).2]; exact c), ih]
end Lev
theorem own_bb_bv {d L : Nat} (h : L < d) (hd : d ≤ 31) : (own_bb d L).toBitVec.toNat % 32 = d - 1 - L := by
  have e : own_bb d L = Int32.ofNat (d - 1 - L) := by
    apply Int32.toInt_inj.mp
    have h1 := c_isub (Int32.ofNat d) 1
    have h2 := c_isub (Int32.ofNat d - 1) (Int32.ofNat L)
    have i1 : (1 : Int32).toInt = 1 := by decide
    have r1 := rng32 (Int32.ofNat d - 1)
    have r2 := rng32 (Int32.ofNat d - 1 - Int32.ofNat L)
    rw [Int32.toInt_ofNat_of_lt (by show d < 2147483648; omega)] at h1
    rw [Int32.toInt_ofNat_of_lt (n := L) (by show L < 2147483648; omega)] at h2
    rw [Int32.toInt_ofNat_of_lt (n := d - 1 - L) (by show d - 1 - L < 2147483648; omega)]
    show (Int32.ofNat d - 1 - Int32.ofNat L).toInt = _
    omega
  rw [e, own_ofN_bv (by omega)]; omega
theorem own_bt_bit (x b : Int32) (k : Nat) (hk : b.toBitVec.toNat % 32 = k) : own_bt x b = 0 ↔ x.toBitVec.getLsbD k = false := by
  have e : ((x.toUInt32 >>> (b &&& 31).toUInt32).toInt32).toBitVec = x.toBitVec >>> k := by
    have h1 : (b &&& 31).toBitVec.toNat = k := by
      show (b.toBitVec &&& (31 : Int32).toBitVec).toNat = _
      rw [BitVec.toNat_and, show (31 : Int32).toBitVec.toNat = 2 ^ 5 - 1 from by decide, Nat.and_two_pow_sub_one_eq_mod]; exact hk
    apply BitVec.eq_of_toNat_eq
    show (x.toBitVec >>> ((b &&& 31).toBitVec % 32)).toNat = _
    rw [BitVec.ushiftRight_eq', BitVec.toNat_ushiftRight, BitVec.toNat_ushiftRight, BitVec.toNat_umod, h1]
    congr 1
    show k % 32 = k
    omega
  unfold own_bt
  rw [← Int32.toBitVec_inj]
  show ((x.toUInt32 >>> (b &&& 31).toUInt32).toInt32).toBitVec &&& 1#32 = 0#32 ↔ _
  rw [e]
  constructor
  · intro h
    have := congrArg (fun z => BitVec.getLsbD z 0) h
    simpa using this
  · intro h
    apply BitVec.eq_of_getLsbD_eq
    intro i hi
    rw [BitVec.getLsbD_and]
    by_cases c : i = 0
    · subst c; rw [BitVec.getLsbD_ushiftRight, Nat.add_zero, h]; simp
    · simp [BitVec.getLsbD_one, c]
theorem own_shl1 (b : Int32) (k : Nat) (hk : b.toBitVec.toNat % 32 = k) : ((1 : Int32) <<< (b &&& 31)).toBitVec = 1#32 <<< k := by
  show (1 : Int32).toBitVec <<< ((b &&& 31).toBitVec.smod 32) = _
  rw [BitVec.shiftLeft_eq', sm32 b k hk]; rfl
theorem own_top_bit {d : Nat} (hd : d ≤ 31) (x : Int32) (L : Nat) (hL : L ≤ d) (i : Nat) : (own_top d L x).toBitVec.getLsbD i = (x.toBitVec.getLsbD i && (decide (d - L ≤ i) && decide (i < d))) := by
  induction L with
  | zero =>
    show (0#32).getLsbD i = _
    by_cases c : d ≤ i
    · simp [show ¬ i < d by omega]
    · simp [c]
  | succ L ih =>
    have ih := ih (by omega)
    have hk := own_bb_bv (show L < d from hL) hd
    have hb := own_bt_bit x (own_bb d L) _ hk
    show (if own_bt x (own_bb d L) = 0 then own_top d L x else own_top d L x ||| ((1 : Int32) <<< (own_bb d L &&& 31))).toBitVec.getLsbD i = _
    by_cases c : own_bt x (own_bb d L) = 0
    · rw [if_pos c, ih]
      have hb := hb.mp c
      by_cases c1 : i = d - 1 - L
      · subst c1; rw [hb]; simp
      · have : (d - L ≤ i) = (d - (L + 1) ≤ i) := propext (by omega)
        simp only [this]
    · rw [if_neg c]
      show (_ ||| ((1 : Int32) <<< (own_bb d L &&& 31)).toBitVec).getLsbD i = _
      rw [BitVec.getLsbD_or, ih, own_shl1 _ _ hk, BitVec.getLsbD_shiftLeft, BitVec.getLsbD_one]
      have hb : x.toBitVec.getLsbD (d - 1 - L) = true := by
        cases q : x.toBitVec.getLsbD (d - 1 - L) with
        | true => rfl
        | false => exact absurd (hb.mpr q) c
      by_cases c1 : i = d - 1 - L
      · subst c1
        rw [hb]
        simp [show d - 1 - L < 32 by omega, show d - (L + 1) ≤ d - 1 - L by omega, show d - 1 - L < d by omega]
      · by_cases c2 : i < d - 1 - L
        · simp [c2, show ¬ d - L ≤ i by omega, show ¬ d - (L + 1) ≤ i by omega]
        · simp [show ¬ i - (d - 1 - L) = 0 by omega, show d - L ≤ i by omega, show d - (L + 1) ≤ i by omega]
theorem own_top_all {d : Nat} (hd : d ≤ 31) (x : Int32) (h0 : 0 ≤ x.toInt) (h : x.toInt < (2 ^ d : Nat)) : own_top d d x = x := by
  apply Int32.toBitVec_inj.mp
  apply BitVec.eq_of_getLsbD_eq
  intro i hi
  rw [own_top_bit hd x d (Nat.le_refl _) i, Nat.sub_self]
  by_cases c : i < d
  · simp [c]
  · have e : x.toBitVec.toNat < 2 ^ i := by
      have h1 : x.toBitVec.toInt = x.toInt := rfl
      have h2 := x.toBitVec.isLt
      rw [BitVec.toInt_eq_toNat_cond] at h1
      have h3 : 2 ^ d ≤ 2 ^ i := Nat.pow_le_pow_right (by decide) (by omega)
      split at h1
      · have : x.toBitVec.toNat < 2 ^ d := by omega
        omega
      · omega
    have : x.toBitVec.getLsbD i = false := by show x.toBitVec.toNat.testBit i = false; exact Nat.testBit_lt_two_pow e
    rw [this]; simp
theorem own_N_all {a : Nat → Int32} {d n : Nat} (hd : d ≤ 31) (ha : ∀ i, i < n → 0 ≤ (a i).toInt ∧ (a i).toInt < (2 ^ d : Nat)) (i : Nat) (hi : i < n) : (own_nl a d n d).1 i = a i := by
  rw [own_nl_top a d n d i hi]
  exact own_top_all hd _ (ha i hi).1 (ha i hi).2
end OwnWave
def own_mx (x y : Int32) : Int32 := if x < y then y else x
theorem own_us16 {x : Int32} (h : 0 ≤ x.toInt) : ((x.toUInt32 >>> ((16 : Int32) &&& 31).toUInt32).toInt32).toInt = x.toInt / 65536 := by
  have h1 := c_iushr x 16 16 (by decide) (by decide)
  have r := rng32 x
  omega
theorem own_us8 {x : Int32} (h : 0 ≤ x.toInt) : ((x.toUInt32 >>> ((8 : Int32) &&& 31).toUInt32).toInt32).toInt = x.toInt / 256 := by
  have h1 := c_iushr x 8 8 (by decide) (by decide)
  have r := rng32 x
  omega
theorem own_us4 {x : Int32} (h : 0 ≤ x.toInt) : ((x.toUInt32 >>> ((4 : Int32) &&& 31).toUInt32).toInt32).toInt = x.toInt / 16 := by
  have h1 := c_iushr x 4 4 (by decide) (by decide)
  have r := rng32 x
  omega
theorem own_us2 {x : Int32} (h : 0 ≤ x.toInt) : ((x.toUInt32 >>> ((2 : Int32) &&& 31).toUInt32).toInt32).toInt = x.toInt / 4 := by
  have h1 := c_iushr x 2 2 (by decide) (by decide)
  have r := rng32 x
  omega
theorem own_us1 {x : Int32} (h : 0 ≤ x.toInt) : ((x.toUInt32 >>> ((1 : Int32) &&& 31).toUInt32).toInt32).toInt = x.toInt / 2 := by
  have h1 := c_iushr x 1 1 (by decide) (by decide)
  have r := rng32 x
  omega
theorem own_ltN {x y : Int32} {n k : Nat} (hx : x.toInt = n) (hy : y.toInt = k) : x < y ↔ n < k := by
  rw [Int32.lt_iff_toInt_lt, hx, hy]; omega
theorem own_ltO {j n : Nat} (hj : j ≤ 255) (hn : n ≤ 255) : Int32.ofNat j < Int32.ofNat n ↔ j < n := own_ltN (own_toI (by omega)) (own_toI (by omega))
theorem own_tO {j : Nat} (hj : j ≤ 255) : (Int32.ofNat j).toInt = j := own_toI (by omega)
theorem own_dvO {j k : Nat} (hj : j ≤ 255) (z : Int32) (hz : z.toInt = (k : Nat)) (h1 : z ≠ -1) : (Int32.ofNat j / z).toInt = (j / k : Nat) := by
  have h := (c_idiv (Int32.ofNat j) z k hz h1).1 (by rw [own_tO hj]; omega)
  rw [h, own_tO hj]; rfl
theorem own_dvO1 {j k : Nat} (hj : j ≤ 255) (z : Int32) (hz : z.toInt = (k : Nat)) (h1 : z ≠ -1) : (Int32.ofNat j / z + (1 : Int32)).toInt = (j / k + 1 : Nat) := own_inc (own_dvO hj z hz h1) (Nat.lt_of_le_of_lt (Nat.le_trans (Nat.div_le_self _ _) hj) (by decide))
theorem own_r63 {j : Nat} (hj : j ≤ 255) : (Int32.ofNat j % (64 : Int32)) = (63 : Int32) ↔ j % 64 = 63 := by
  have h := (c_irem (Int32.ofNat j) 64 64 (by decide)).1 (by rw [own_tO hj]; omega)
  rw [own_tO hj] at h
  have i : (63 : Int32).toInt = 63 := by decide
  constructor
  · intro q
    rw [q, i] at h; omega
  · intro q
    apply Int32.toInt_inj.mp
    rw [h, i]; omega
theorem own_nlz0 {x : Int32} (h : 0 ≤ x.toInt) (q : ¬ ((0 : Int32) < x)) : x = (0 : Int32) := by
  have i : (0 : Int32).toInt = 0 := by decide
  rw [Int32.lt_iff_toInt_lt] at q
  apply Int32.toInt_inj.mp
  omega
theorem own_mx0 (x : Int32) : 0 ≤ (own_mx x (0 : Int32)).toInt := by
  have i : (0 : Int32).toInt = 0 := by decide
  unfold own_mx
  split
  · omega
  · rename_i h; rw [Int32.lt_iff_toInt_lt] at h; omega
theorem own_bits {r : Int32} {k : Nat} (h : r.toInt = 32 - k) (hk : k ≤ 31) : (32 : Int32) - r = Int32.ofNat k := by
  have h1 := c_isub 32 r
  have i : (32 : Int32).toInt = 32 := by decide
  have r1 := rng32 (32 - r)
  apply Int32.toInt_inj.mp
  rw [own_toI (by omega)]
  omega
theorem own_bnd {x : Int32} {k : Nat} (h : 1 ≤ x.toInt) (q : (own_mx (x - (1 : Int32)) (0 : Int32)).toInt < (2 ^ k : Nat)) : x.toInt ≤ (2 ^ k : Nat) := by
  have h1 := c_isub x 1
  have i1 : (1 : Int32).toInt = 1 := by decide
  have i : (0 : Int32).toInt = 0 := by decide
  have r1 := rng32 (x - 1)
  have r2 := rng32 x
  unfold own_mx at q
  generalize (2 ^ k : Nat) = z at *
  split at q
  · rename_i h2; rw [Int32.lt_iff_toInt_lt] at h2; omega
  · omega
theorem own_lta {L f d : Nat} (h : L + (f + 1) = d) : L < d := by omega
theorem own_nxt {L f d : Nat} (h : L + (f + 1) = d) : L + 1 + f = d := by omega
theorem own_l25 {L d : Nat} (h : L < d) (hd : d ≤ 31) : L ≤ 255 := by omega
theorem own_lle {L d : Nat} (h : L < d) (hd : d ≤ 255) : L ≤ 255 := by omega
theorem own_cap4 {n : Nat} (h : n ≤ 255) : n / 64 + 1 ≤ 4 := by omega
theorem own_ix64 {j n : Nat} (h : j < n) : j / 64 < n / 64 + 1 := by omega
theorem own_l31 {d : Nat} (h : d ≤ 31) : d ≤ 255 := by omega
theorem own_ltF {a b n : Nat} (h : a < b) (hb : b ≤ n) : a ≤ n := by omega
def own_fil (i : Nat) : Nat → Int32 := fun q => Int32.ofNat (if q < i then q else 0)
theorem own_fil0 (q : Nat) : own_fil 0 q = 0 := by simp [own_fil]
theorem own_filS (i : Nat) : own_up (own_fil i) i (Int32.ofNat i) = own_fil (i + 1) := by
  funext q
  unfold own_up own_fil
  by_cases h : q = i
  · rw [if_pos h, if_pos (by omega), h]
  · rw [if_neg h]
    by_cases h2 : q < i
    · rw [if_pos h2, if_pos (by omega)]
    · rw [if_neg h2, if_neg (by omega)]
def own_oi (O : Nat → Nat) : Nat → Int32 := fun q => Int32.ofNat (O q)
theorem own_filE {n q : Nat} (h : q < n) : own_fil n q = own_oi (fun q => q) q := by unfold own_fil own_oi; rw [if_pos h]
section
variable (g : Nat → Int32) (b : Int32)
theorem own_oi0 {n j : Nat} {O X : Nat → Nat} (h : own_bt (g j) b = 0) : own_up (own_oi (own_sX g b n O X j)) (own_c0 g b j) (own_oi O j) = own_oi (own_sX g b n O X (j + 1)) := by
  funext q
  show (if q = own_c0 g b j then Int32.ofNat (O j) else Int32.ofNat (own_sX g b n O X j q)) = Int32.ofNat (if q = own_dst g b n j then O j else own_sX g b n O X j q)
  rw [own_dst0 g b h]
  split <;> rfl
theorem own_oi1 {n j : Nat} {O X : Nat → Nat} (h : ¬ own_bt (g j) b = 0) : own_up (own_oi (own_sX g b n O X j)) (own_c0 g b n + own_c1 g b j) (own_oi O j) = own_oi (own_sX g b n O X (j + 1)) := by
  funext q
  show (if q = own_c0 g b n + own_c1 g b j then Int32.ofNat (O j) else Int32.ofNat (own_sX g b n O X j q)) = Int32.ofNat (if q = own_dst g b n j then O j else own_sX g b n O X j q)
  rw [own_dst1 g b h]
  split <;> rfl
theorem own_k0 {j : Nat} (h : own_bt (g j) b = 0) : Int32.ofNat (own_c0 g b j) + (1 : Int32) = Int32.ofNat (own_c0 g b (j + 1)) := by
  rw [own_ofS]; simp only [own_c0, if_pos h]
theorem own_k0' {n j : Nat} (h : own_bt (g j) b = 0) : Int32.ofNat (own_c0 g b n + own_c1 g b j) = Int32.ofNat (own_c0 g b n + own_c1 g b (j + 1)) := by
  simp only [own_c1, if_pos h, Nat.add_zero]
theorem own_k1 {n j : Nat} (h : ¬ own_bt (g j) b = 0) : Int32.ofNat (own_c0 g b n + own_c1 g b j) + (1 : Int32) = Int32.ofNat (own_c0 g b n + own_c1 g b (j + 1)) := by
  rw [own_ofS]; simp only [own_c1, if_neg h, Nat.add_assoc]
theorem own_k1' {j : Nat} (h : ¬ own_bt (g j) b = 0) : Int32.ofNat (own_c0 g b j) = Int32.ofNat (own_c0 g b (j + 1)) := by
  simp only [own_c0, if_neg h, Nat.add_zero]
theorem own_x0 {j n : Nat} (hj : j < n) : own_c0 g b j < n := Nat.lt_of_le_of_lt (own_c0_le g b j) hj
theorem own_x1 {j n : Nat} (hj : j < n) : own_c1 g b j < n := Nat.lt_of_le_of_lt (own_c1_le g b j) hj
theorem own_x2 {j n : Nat} (hj : j < n) (h : ¬ own_bt (g j) b = 0) : own_c0 g b n + own_c1 g b j < n := by
  have h1 := own_c1_lt g b hj h
  have h2 := own_c01 g b n
  omega
theorem own_cs {n : Nat} : own_c0 g b n + own_c1 g b n ≤ n := Nat.le_of_eq (own_c01 g b n)
end
section
variable (a : Nat → Int32) (d n : Nat)
def own_clr : Nat → (Nat → Int32)
  | 0 => fun _ => 0
  | L + 1 => own_up (own_clr L) L (Int32.ofNat (own_c0 (own_lv a d n L).1 (own_bb d L) n))
theorem own_clr_at {L q : Nat} (h : q < L) : own_clr a d n L q = Int32.ofNat (own_c0 (own_lv a d n q).1 (own_bb d q) n) := by
  induction L with
  | zero => omega
  | succ L ih =>
    show (if q = L then _ else _) = _
    by_cases u : q = L
    · rw [if_pos u, u]
    · rw [if_neg u]; exact ih (by omega)
def own_VV (q : Nat) : Nat → Int64 := own_V (own_lv a d n q).1 (own_bb d q) (fun _ => 0) n
end
theorem own_q255 (x : Int32) : ∃ n : Nat, x &&& (255 : Int32) = Int32.ofNat n ∧ n ≤ 255 := by
  have h1 := c_mask x 255 8 (by decide) (by decide)
  refine ⟨(x &&& (255 : Int32)).toInt.toNat, Int32.toInt_inj.mp ?_, by omega⟩
  rw [own_toI (by omega)]; omega
theorem own_qbd (x : Int32) : 1 ≤ (own_mx x (1 : Int32)).toInt := by
  have i : (1 : Int32).toInt = 1 := by decide
  unfold own_mx
  split
  · omega
  · rename_i h; rw [Int32.lt_iff_toInt_lt] at h; omega
theorem own_qmd {x : Int32} {n : Nat} (h : 0 ≤ x.toInt) (hn : n ≤ 255) (h0 : 0 < n) : ∃ k : Nat, x % Int32.ofNat n = Int32.ofNat k ∧ k < n := by
  have h1 := (c_irem x (Int32.ofNat n) n (own_tO hn)).1 h
  have h2 : x.toInt % (n : Int) < n := Int.emod_lt_of_pos _ (by omega)
  have h3 : 0 ≤ x.toInt % (n : Int) := Int.emod_nonneg _ (by omega)
  refine ⟨(x.toInt % (n : Int)).toNat, Int32.toInt_inj.mp ?_, by omega⟩
  rw [own_toI (by omega)]; omega
theorem own_m1023 (x : Int32) : 0 ≤ (x &&& (1023 : Int32)).toInt := by
  have h1 := c_mask x 1023 10 (by decide) (by decide)
  omega
theorem own_mval (x y : Int32) (h : 1 ≤ y.toInt) : 0 ≤ ((x &&& (2147483647 : Int32)) % y).toInt ∧ ((x &&& (2147483647 : Int32)) % y).toInt < y.toInt := by
  have h1 := c_mask x 2147483647 31 (by decide) (by decide)
  have h2 := (c_irem (x &&& (2147483647 : Int32)) y y.toInt rfl).1 (by omega)
  have h3 : (x &&& (2147483647 : Int32)).toInt % y.toInt < y.toInt := Int.emod_lt_of_pos _ (by omega)
  have h4 : 0 ≤ (x &&& (2147483647 : Int32)).toInt % y.toInt := Int.emod_nonneg _ (by omega)
  omega
theorem own_nz {x : Int32} (h : 1 ≤ x.toInt) : x ≠ 0 := fun q => by
  have i : (0 : Int32).toInt = 0 := by decide
  rw [q] at h; omega
theorem own_ups {G : Nat → Int32} {y x : Int32} {k n : Nat} (h : ∀ i, i < n → 0 ≤ (G i).toInt ∧ (G i).toInt < y.toInt) (hx : 0 ≤ x.toInt ∧ x.toInt < y.toInt) : ∀ i, i < n → 0 ≤ (own_up G k x i).toInt ∧ (own_up G k x i).toInt < y.toInt := by
  intro i hi
  unfold own_up
  split
  · exact hx
  · exact h i hi
theorem own_ups0 {y : Int32} {n : Nat} (h : 1 ≤ y.toInt) : ∀ i, i < n → 0 ≤ ((fun _ => (0 : Int32)) i).toInt ∧ ((fun _ => (0 : Int32)) i).toInt < y.toInt := by
  intro i _
  have q : (0 : Int32).toInt = 0 := by decide
  show 0 ≤ (0 : Int32).toInt ∧ (0 : Int32).toInt < y.toInt
  omega
theorem own_to2 {G : Nat → Int32} {y : Int32} {n d : Nat} (h : ∀ i, i < n → 0 ≤ (G i).toInt ∧ (G i).toInt < y.toInt) (hy : y.toInt ≤ (2 ^ d : Nat)) : ∀ i, i < n → 0 ≤ (G i).toInt ∧ (G i).toInt < (2 ^ d : Nat) := fun i hi => ⟨(h i hi).1, Int.lt_of_lt_of_le (h i hi).2 hy⟩
theorem own_pos {n : Nat} (hn : n ≤ 255) : (0 : Int32) < Int32.ofNat n ↔ 0 < n := own_ltN (show (0 : Int32).toInt = (0 : Nat) from by decide) (own_tO hn)
theorem own_eq0 {n : Nat} (hn : n ≤ 255) : Int32.ofNat n = (0 : Int32) ↔ n = 0 := by
  constructor
  · intro h
    have := congrArg Int32.toInt h
    rw [own_tO hn, show (0 : Int32).toInt = 0 from by decide] at this
    omega
  · rintro rfl; rfl
theorem own_nzO {n : Nat} (hn : n ≤ 255) (h : (0 : Int32) < Int32.ofNat n) : Int32.ofNat n ≠ 0 := fun q => by
  have h1 := (own_pos hn).mp h
  have h2 := (own_eq0 hn).mp q
  omega
theorem own_pn0 : plainFor (⟨"java/lang/Math", "max", "(II)I"⟩ : MethodName) = true := Jvm.Free.JP.mathPlain rfl (by decide +kernel)
theorem dd_jdk_29m65_0 : decode jdk_29_method_65_code 0 = .ok (.iload_n 0, 1) := by decide +kernel
theorem dd_jdk_29m65_1 : decode jdk_29_method_65_code 1 = .ok (.iload_n 1, 1) := by decide +kernel
theorem dd_jdk_29m65_2 : decode jdk_29_method_65_code 2 = .ok (.if_icmp .lt 7, 3) := by decide +kernel
theorem dd_jdk_29m65_9 : decode jdk_29_method_65_code 9 = .ok (.iload_n 1, 1) := by decide +kernel
theorem dd_jdk_29m65_10 : decode jdk_29_method_65_code 10 = .ok (.ireturn, 1) := by decide +kernel
theorem dd_jdk_29m65_5 : decode jdk_29_method_65_code 5 = .ok (.iload_n 0, 1) := by decide +kernel
theorem dd_jdk_29m65_6 : decode jdk_29_method_65_code 6 = .ok (.goto 4, 3) := by decide +kernel
theorem ef_own_cmx (m : MethodId) (z0 : Int32) (z1 : Int32) : entryFrame m #[(.int z0), (.int z1)] 2 = mkF m 0 #[.val (.int z0), .val (.int z1)] [] := by first | (simp [entryFrame, mkF, argsToLocals, Value.category]; done) | rfl
def Q_own_cmx (Z : State) (u : Int32) (v : Int32) (h0 : Heap) (n0 : Nat) (zv : Option Value) (zh : Heap) (zL : List Loc) : Prop := zv = some (.int (own_mx u v)) ∧ Fr n0 zL ∧ zh = h0
set_option maxRecDepth 65536 in
set_option maxHeartbeats 40000000 in
theorem own_cmx (l : Launch) (Z : State) (a0 : Array Value) (hw : ∀ d ∈ tables_1, d.before a0 Z = true) (ws : List Jvm.Cond) (u : Int32) (v : Int32) (h0 : Heap) (n0 : Nat) (Z0 : n0 ≤ h0.size)  :
    MetFree l (⟨"java/lang/Math", "max", "(II)I"⟩ : MethodName) (head1 (Jvm.Cond.code (⟨"java/lang/Math", "max", "(II)I"⟩ : MethodName) jdk_29_method_65_code 2 (some .int) :: ws) ({ frames := 0, cells := 0, slots := 0, locals := 0 } : Room)) (fun za zU => za = #[(.int u), (.int v)] ∧ Z.Warmed39 zU.vm ∧ zU.heap = h0) (fun _ _ _ _ _ => True) (fun _ zU zo zU' => ∃ zv zL, zo = .returned zv ∧ Q_own_cmx Z u v h0 n0 zv zU'.heap zL ∧ FrameEnd zU zo zU' zL ({ frames := 0, cells := 0, slots := 0, locals := 0 } : Room).cells ({ frames := 0, cells := 0, slots := 0, locals := 0 } : Room).slots) := by
  refine own_met (y := (⟨"java/lang/Math", "max", "(II)I"⟩ : MethodName)) own_pn0 ?_
  intro p e s m below meth c T0 hx hby hml hown hnm hret hlk hZ e0 X0
  have N0 := Fr.nil n0
  refine own_st (fun zt zk => castTop (ef_own_cmx m u v) zk) ?_
  show own_G p e below s _ _ _ (T0.setTop (mkF m 0 #[.val (.int u), .val (.int v)] []))
  refine own_st (fun zt zk => XS.iloadN X0.here hx rfl (hb hby dd_jdk_29m65_0) rfl zk) ?_
  show own_G p e below s _ _ _ (T0.setTop (mkF m 1 #[.val (.int u), .val (.int v)] [(.int u)]))
  refine own_st (fun zt zk => XS.iloadN X0.here hx rfl (hb hby dd_jdk_29m65_1) rfl zk) ?_
  show own_G p e below s _ _ _ (T0.setTop (mkF m 2 #[.val (.int u), .val (.int v)] [(.int v), (.int u)]))
  by_cases hc2_1 : u < v
  · refine own_st (fun zt zk => XS.icmpYes X0.here hx rfl (pc0 := 2) (pc' := 9) rfl (hb hby dd_jdk_29m65_2) rfl (tlt hc2_1).1 (by decide) (by decide) zk) ?_
    show own_G p e below s _ _ _ (T0.setTop (mkF m 9 #[.val (.int u), .val (.int v)] []))
    refine own_st (fun zt zk => XS.iloadN X0.here hx rfl (hb hby dd_jdk_29m65_9) rfl zk) ?_
    show own_G p e below s _ _ _ (T0.setTop (mkF m 10 #[.val (.int u), .val (.int v)] [(.int v)]))
    refine own_retI X0 hx hlk hret (hb hby dd_jdk_29m65_10) (by decide) (by decide) ?_
    show Q_own_cmx Z u v h0 n0 (some (.int v)) T0.heap _
    rw [e0]
    exact ⟨(by simp [own_mx, hc2_1]), N0, rfl⟩
  · refine own_st (fun zt zk => XS.icmpNo X0.here hx rfl (hb hby dd_jdk_29m65_2) rfl (flt hc2_1).1 zk) ?_
    show own_G p e below s _ _ _ (T0.setTop (mkF m 5 #[.val (.int u), .val (.int v)] []))
    refine own_st (fun zt zk => XS.iloadN X0.here hx rfl (hb hby dd_jdk_29m65_5) rfl zk) ?_
    show own_G p e below s _ _ _ (T0.setTop (mkF m 6 #[.val (.int u), .val (.int v)] [(.int u)]))
    refine own_st (fun zt zk => XS.goto X0.here hx rfl (pc0 := 6) (pc' := 10) rfl (hb hby dd_jdk_29m65_6) (by decide) (by decide) zk) ?_
    show own_G p e below s _ _ _ (T0.setTop (mkF m 10 #[.val (.int u), .val (.int v)] [(.int u)]))
    refine own_retI X0 hx hlk hret (hb hby dd_jdk_29m65_10) (by decide) (by decide) ?_
    show Q_own_cmx Z u v h0 n0 (some (.int u)) T0.heap _
    rw [e0]
    exact ⟨(by simp [own_mx, hc2_1]), N0, rfl⟩
theorem own_pn1 : plainFor (⟨"java/lang/Integer", "numberOfLeadingZeros", "(I)I"⟩ : MethodName) = true := plainFor_of_name (by first | (simp [plainName, overriddenIn]; done) | decide +kernel)
theorem dd_jdk_33m47_0 : decode jdk_33_method_47_code 0 = .ok (.iload_n 0, 1) := by decide +kernel
theorem dd_jdk_33m47_1 : decode jdk_33_method_47_code 1 = .ok (.ifCond .gt 14, 3) := by decide +kernel
theorem dd_jdk_33m47_15 : decode jdk_33_method_47_code 15 = .ok (.bipush 31, 2) := by decide +kernel
theorem dd_jdk_33m47_17 : decode jdk_33_method_47_code 17 = .ok (.istore_n 1, 1) := by decide +kernel
theorem dd_jdk_33m47_18 : decode jdk_33_method_47_code 18 = .ok (.iload_n 0, 1) := by decide +kernel
theorem dd_jdk_33m47_19 : decode jdk_33_method_47_code 19 = .ok (.ldc_w 264, 3) := by decide +kernel
theorem dd_jdk_33m47_22 : decode jdk_33_method_47_code 22 = .ok (.if_icmp .lt 11, 3) := by decide +kernel
theorem dd_jdk_33m47_33 : decode jdk_33_method_47_code 33 = .ok (.iload_n 0, 1) := by decide +kernel
theorem dd_jdk_33m47_34 : decode jdk_33_method_47_code 34 = .ok (.sipush 256, 3) := by decide +kernel
theorem dd_jdk_33m47_37 : decode jdk_33_method_47_code 37 = .ok (.if_icmp .lt 11, 3) := by decide +kernel
theorem dd_jdk_33m47_48 : decode jdk_33_method_47_code 48 = .ok (.iload_n 0, 1) := by decide +kernel
theorem dd_jdk_33m47_49 : decode jdk_33_method_47_code 49 = .ok (.bipush 16, 2) := by decide +kernel
theorem dd_jdk_33m47_51 : decode jdk_33_method_47_code 51 = .ok (.if_icmp .lt 10, 3) := by decide +kernel
theorem dd_jdk_33m47_61 : decode jdk_33_method_47_code 61 = .ok (.iload_n 0, 1) := by decide +kernel
theorem dd_jdk_33m47_62 : decode jdk_33_method_47_code 62 = .ok (.iconst 4, 1) := by decide +kernel
theorem dd_jdk_33m47_63 : decode jdk_33_method_47_code 63 = .ok (.if_icmp .lt 10, 3) := by decide +kernel
theorem dd_jdk_33m47_73 : decode jdk_33_method_47_code 73 = .ok (.iload_n 1, 1) := by decide +kernel
theorem dd_jdk_33m47_74 : decode jdk_33_method_47_code 74 = .ok (.iload_n 0, 1) := by decide +kernel
theorem dd_jdk_33m47_75 : decode jdk_33_method_47_code 75 = .ok (.iconst 1, 1) := by decide +kernel
theorem dd_jdk_33m47_76 : decode jdk_33_method_47_code 76 = .ok (.iushr, 1) := by decide +kernel
theorem dd_jdk_33m47_77 : decode jdk_33_method_47_code 77 = .ok (.isub, 1) := by decide +kernel
theorem dd_jdk_33m47_78 : decode jdk_33_method_47_code 78 = .ok (.ireturn, 1) := by decide +kernel
theorem dd_jdk_33m47_66 : decode jdk_33_method_47_code 66 = .ok (.iinc 1 (-2), 3) := by decide +kernel
theorem dd_jdk_33m47_69 : decode jdk_33_method_47_code 69 = .ok (.iload_n 0, 1) := by decide +kernel
theorem dd_jdk_33m47_70 : decode jdk_33_method_47_code 70 = .ok (.iconst 2, 1) := by decide +kernel
theorem dd_jdk_33m47_71 : decode jdk_33_method_47_code 71 = .ok (.iushr, 1) := by decide +kernel
theorem dd_jdk_33m47_72 : decode jdk_33_method_47_code 72 = .ok (.istore_n 0, 1) := by decide +kernel
theorem dd_jdk_33m47_54 : decode jdk_33_method_47_code 54 = .ok (.iinc 1 (-4), 3) := by decide +kernel
theorem dd_jdk_33m47_57 : decode jdk_33_method_47_code 57 = .ok (.iload_n 0, 1) := by decide +kernel
theorem dd_jdk_33m47_58 : decode jdk_33_method_47_code 58 = .ok (.iconst 4, 1) := by decide +kernel
theorem dd_jdk_33m47_59 : decode jdk_33_method_47_code 59 = .ok (.iushr, 1) := by decide +kernel
theorem dd_jdk_33m47_60 : decode jdk_33_method_47_code 60 = .ok (.istore_n 0, 1) := by decide +kernel
theorem dd_jdk_33m47_40 : decode jdk_33_method_47_code 40 = .ok (.iinc 1 (-8), 3) := by decide +kernel
theorem dd_jdk_33m47_43 : decode jdk_33_method_47_code 43 = .ok (.iload_n 0, 1) := by decide +kernel
theorem dd_jdk_33m47_44 : decode jdk_33_method_47_code 44 = .ok (.bipush 8, 2) := by decide +kernel
theorem dd_jdk_33m47_46 : decode jdk_33_method_47_code 46 = .ok (.iushr, 1) := by decide +kernel
theorem dd_jdk_33m47_47 : decode jdk_33_method_47_code 47 = .ok (.istore_n 0, 1) := by decide +kernel
theorem dd_jdk_33m47_25 : decode jdk_33_method_47_code 25 = .ok (.iinc 1 (-16), 3) := by decide +kernel
theorem dd_jdk_33m47_28 : decode jdk_33_method_47_code 28 = .ok (.iload_n 0, 1) := by decide +kernel
theorem dd_jdk_33m47_29 : decode jdk_33_method_47_code 29 = .ok (.bipush 16, 2) := by decide +kernel
theorem dd_jdk_33m47_31 : decode jdk_33_method_47_code 31 = .ok (.iushr, 1) := by decide +kernel
theorem dd_jdk_33m47_32 : decode jdk_33_method_47_code 32 = .ok (.istore_n 0, 1) := by decide +kernel
theorem dd_jdk_33m47_4 : decode jdk_33_method_47_code 4 = .ok (.iload_n 0, 1) := by decide +kernel
theorem dd_jdk_33m47_5 : decode jdk_33_method_47_code 5 = .ok (.ifCond .ne 8, 3) := by decide +kernel
theorem dd_jdk_33m47_8 : decode jdk_33_method_47_code 8 = .ok (.bipush 32, 2) := by decide +kernel
theorem dd_jdk_33m47_10 : decode jdk_33_method_47_code 10 = .ok (.goto 4, 3) := by decide +kernel
theorem dd_jdk_33m47_14 : decode jdk_33_method_47_code 14 = .ok (.ireturn, 1) := by decide +kernel
theorem ef_own_nlz (m : MethodId) (z0 : Int32) : entryFrame m #[(.int z0)] 2 = mkF m 0 #[.val (.int z0), .unset] [] := by first | (simp [entryFrame, mkF, argsToLocals, Value.category]; done) | rfl
def Q_own_nlz (Z : State) (iv : Int32) (h0 : Heap) (n0 : Nat) (zv : Option Value) (zh : Heap) (zL : List Loc) : Prop := ∃ r : Int32, zv = some (.int r) ∧ Fr n0 zL ∧ zh = h0 ∧ ∃ k : Nat, r.toInt = 32 - k ∧ k ≤ 31 ∧ iv.toInt < (2 ^ k : Nat)
set_option maxRecDepth 65536 in
set_option maxHeartbeats 40000000 in
theorem own_nlz (l : Launch) (Z : State) (a0 : Array Value) (hw : ∀ d ∈ tables_1, d.before a0 Z = true) (ws : List Jvm.Cond) (iv : Int32) (h0 : Heap) (n0 : Nat) (Z0 : n0 ≤ h0.size) (p0_ : 0 ≤ iv.toInt) :
    MetFree l (⟨"java/lang/Integer", "numberOfLeadingZeros", "(I)I"⟩ : MethodName) (head1 (Jvm.Cond.code (⟨"java/lang/Integer", "numberOfLeadingZeros", "(I)I"⟩ : MethodName) jdk_33_method_47_code 2 (some .int) :: ws) ({ frames := 0, cells := 0, slots := 0, locals := 0 } : Room)) (fun za zU => za = #[(.int iv)] ∧ Z.Warmed39 zU.vm ∧ zU.heap = h0) (fun _ _ _ _ _ => True) (fun _ zU zo zU' => ∃ zv zL, zo = .returned zv ∧ Q_own_nlz Z iv h0 n0 zv zU'.heap zL ∧ FrameEnd zU zo zU' zL ({ frames := 0, cells := 0, slots := 0, locals := 0 } : Room).cells ({ frames := 0, cells := 0, slots := 0, locals := 0 } : Room).slots) := by
  refine own_met (y := (⟨"java/lang/Integer", "numberOfLeadingZeros", "(I)I"⟩ : MethodName)) own_pn1 ?_
  intro p e s m below meth c T0 hx hby hml hown hnm hret hlk hZ e0 X0
  have N0 := Fr.nil n0
  refine own_st (fun zt zk => castTop (ef_own_nlz m iv) zk) ?_
  show own_G p e below s _ _ _ (T0.setTop (mkF m 0 #[.val (.int iv), .unset] []))
  refine own_st (fun zt zk => XS.iloadN X0.here hx rfl (hb hby dd_jdk_33m47_0) rfl zk) ?_
  show own_G p e below s _ _ _ (T0.setTop (mkF m 1 #[.val (.int iv), .unset] [(.int iv)]))
  by_cases hc1_1 : (0 : Int32) < iv
  · refine own_st (fun zt zk => XS.ifYes X0.here hx rfl (pc0 := 1) (pc' := 15) rfl (hb hby dd_jdk_33m47_1) rfl ((if0 _ _).trans (tlt hc1_1).2.2.1) (by decide) (by decide) zk) ?_
    show own_G p e below s _ _ _ (T0.setTop (mkF m 15 #[.val (.int iv), .unset] []))
    refine own_st (fun zt zk => XS.bipush X0.here hx rfl (hb hby dd_jdk_33m47_15) zk) ?_
    show own_G p e below s _ _ _ (T0.setTop (mkF m 17 #[.val (.int iv), .unset] [(.int (31 : Int32))]))
    refine own_st (fun zt zk => XS.istoreN X0.here hx rfl (hb hby dd_jdk_33m47_17) rfl (l' := #[.val (.int iv), .val (.int (31 : Int32))]) rfl zk) ?_
    show own_G p e below s _ _ _ (T0.setTop (mkF m 18 #[.val (.int iv), .val (.int (31 : Int32))] []))
    refine own_st (fun zt zk => XS.iloadN X0.here hx rfl (hb hby dd_jdk_33m47_18) rfl zk) ?_
    show own_G p e below s _ _ _ (T0.setTop (mkF m 19 #[.val (.int iv), .val (.int (31 : Int32))] [(.int iv)]))
    refine own_st (X0.ldcwInt hx hown (mvT hZ (hw _ (List.mem_of_getElem? (i := 20) rfl))) (g := (mkF m 19 #[.val (.int iv), .val (.int (31 : Int32))] [(.int iv)])) rfl (hb hby dd_jdk_33m47_19)) ?_
    show own_G p e below s _ _ _ (T0.setTop (mkF m 22 #[.val (.int iv), .val (.int (31 : Int32))] [(.int (65536 : Int32)), (.int iv)]))
    by_cases hc22_2 : iv < (65536 : Int32)
    · refine own_st (fun zt zk => XS.icmpYes X0.here hx rfl (pc0 := 22) (pc' := 33) rfl (hb hby dd_jdk_33m47_22) rfl (tlt hc22_2).1 (by decide) (by decide) zk) ?_
      show own_G p e below s _ _ _ (T0.setTop (mkF m 33 #[.val (.int iv), .val (.int (31 : Int32))] []))
      refine own_st (fun zt zk => XS.iloadN X0.here hx rfl (hb hby dd_jdk_33m47_33) rfl zk) ?_
      show own_G p e below s _ _ _ (T0.setTop (mkF m 34 #[.val (.int iv), .val (.int (31 : Int32))] [(.int iv)]))
      refine own_st (fun zt zk => XS.sipush X0.here hx rfl (hb hby dd_jdk_33m47_34) zk) ?_
      show own_G p e below s _ _ _ (T0.setTop (mkF m 37 #[.val (.int iv), .val (.int (31 : Int32))] [(.int (256 : Int32)), (.int iv)]))
      by_cases hc37_3 : iv < (256 : Int32)
      · refine own_st (fun zt zk => XS.icmpYes X0.here hx rfl (pc0 := 37) (pc' := 48) rfl (hb hby dd_jdk_33m47_37) rfl (tlt hc37_3).1 (by decide) (by decide) zk) ?_
        show own_G p e below s _ _ _ (T0.setTop (mkF m 48 #[.val (.int iv), .val (.int (31 : Int32))] []))
        refine own_st (fun zt zk => XS.iloadN X0.here hx rfl (hb hby dd_jdk_33m47_48) rfl zk) ?_
        show own_G p e below s _ _ _ (T0.setTop (mkF m 49 #[.val (.int iv), .val (.int (31 : Int32))] [(.int iv)]))
        refine own_st (fun zt zk => XS.bipush X0.here hx rfl (hb hby dd_jdk_33m47_49) zk) ?_
        show own_G p e below s _ _ _ (T0.setTop (mkF m 51 #[.val (.int iv), .val (.int (31 : Int32))] [(.int (16 : Int32)), (.int iv)]))
        by_cases hc51_4 : iv < (16 : Int32)
        · refine own_st (fun zt zk => XS.icmpYes X0.here hx rfl (pc0 := 51) (pc' := 61) rfl (hb hby dd_jdk_33m47_51) rfl (tlt hc51_4).1 (by decide) (by decide) zk) ?_
          show own_G p e below s _ _ _ (T0.setTop (mkF m 61 #[.val (.int iv), .val (.int (31 : Int32))] []))
          refine own_st (fun zt zk => XS.iloadN X0.here hx rfl (hb hby dd_jdk_33m47_61) rfl zk) ?_
          show own_G p e below s _ _ _ (T0.setTop (mkF m 62 #[.val (.int iv), .val (.int (31 : Int32))] [(.int iv)]))
          refine own_st (fun zt zk => XS.iconst X0.here hx rfl (hb hby dd_jdk_33m47_62) zk) ?_
          show own_G p e below s _ _ _ (T0.setTop (mkF m 63 #[.val (.int iv), .val (.int (31 : Int32))] [(.int (4 : Int32)), (.int iv)]))
          by_cases hc63_5 : iv < (4 : Int32)
          · refine own_st (fun zt zk => XS.icmpYes X0.here hx rfl (pc0 := 63) (pc' := 73) rfl (hb hby dd_jdk_33m47_63) rfl (tlt hc63_5).1 (by decide) (by decide) zk) ?_
            show own_G p e below s _ _ _ (T0.setTop (mkF m 73 #[.val (.int iv), .val (.int (31 : Int32))] []))
            refine own_st (fun zt zk => XS.iloadN X0.here hx rfl (hb hby dd_jdk_33m47_73) rfl zk) ?_
            show own_G p e below s _ _ _ (T0.setTop (mkF m 74 #[.val (.int iv), .val (.int (31 : Int32))] [(.int (31 : Int32))]))
            refine own_st (fun zt zk => XS.iloadN X0.here hx rfl (hb hby dd_jdk_33m47_74) rfl zk) ?_
            show own_G p e below s _ _ _ (T0.setTop (mkF m 75 #[.val (.int iv), .val (.int (31 : Int32))] [(.int iv), (.int (31 : Int32))]))
            refine own_st (fun zt zk => XS.iconst X0.here hx rfl (hb hby dd_jdk_33m47_75) zk) ?_
            show own_G p e below s _ _ _ (T0.setTop (mkF m 76 #[.val (.int iv), .val (.int (31 : Int32))] [(.int (1 : Int32)), (.int iv), (.int (31 : Int32))]))
            refine own_st (fun zt zk => XS.iushr X0.here hx rfl (hb hby dd_jdk_33m47_76) rfl zk) ?_
            show own_G p e below s _ _ _ (T0.setTop (mkF m 77 #[.val (.int iv), .val (.int (31 : Int32))] [(.int ((iv.toUInt32 >>> ((1 : Int32) &&& 31).toUInt32).toInt32)), (.int (31 : Int32))]))
            refine own_st (fun zt zk => XS.isub X0.here hx rfl (hb hby dd_jdk_33m47_77) rfl zk) ?_
            show own_G p e below s _ _ _ (T0.setTop (mkF m 78 #[.val (.int iv), .val (.int (31 : Int32))] [(.int ((31 : Int32) - ((iv.toUInt32 >>> ((1 : Int32) &&& 31).toUInt32).toInt32)))]))
            refine own_retI X0 hx hlk hret (hb hby dd_jdk_33m47_78) (by decide) (by decide) ?_
            show Q_own_nlz Z iv h0 n0 (some (.int ((31 : Int32) - ((iv.toUInt32 >>> ((1 : Int32) &&& 31).toUInt32).toInt32)))) T0.heap _
            rw [e0]
            exact ⟨((31 : Int32) - ((iv.toUInt32 >>> ((1 : Int32) &&& 31).toUInt32).toInt32)), rfl, N0, rfl, (by
              simp only [Int32.lt_iff_toInt_lt, show (0 : Int32).toInt = 0 from by decide, show (65536 : Int32).toInt = 65536 from by decide, show (256 : Int32).toInt = 256 from by decide, show (16 : Int32).toInt = 16 from by decide, show (4 : Int32).toInt = 4 from by decide] at hc1_1 hc22_2 hc37_3 hc51_4 hc63_5
              have z1 := c_isub (31 : Int32) ((iv.toUInt32 >>> ((1 : Int32) &&& 31).toUInt32).toInt32)
              have z2 : (31 : Int32).toInt = 31 := by decide
              have z3 := own_us1 p0_
              have z4 := rng32 ((31 : Int32) - ((iv.toUInt32 >>> ((1 : Int32) &&& 31).toUInt32).toInt32))
              by_cases z : iv.toInt < 2
              · exact ⟨1, by omega, by decide, by omega⟩
              · exact ⟨2, by omega, by decide, by omega⟩)⟩
          · refine own_st (fun zt zk => XS.icmpNo X0.here hx rfl (hb hby dd_jdk_33m47_63) rfl (flt hc63_5).1 zk) ?_
            show own_G p e below s _ _ _ (T0.setTop (mkF m 66 #[.val (.int iv), .val (.int (31 : Int32))] []))
            refine own_st (fun zt zk => XS.iinc X0.here hx rfl (hb hby dd_jdk_33m47_66) rfl (l' := #[.val (.int iv), .val (.int ((31 : Int32) + (-2 : Int32)))]) rfl zk) ?_
            show own_G p e below s _ _ _ (T0.setTop (mkF m 69 #[.val (.int iv), .val (.int ((31 : Int32) + (-2 : Int32)))] []))
            refine own_st (fun zt zk => XS.iloadN X0.here hx rfl (hb hby dd_jdk_33m47_69) rfl zk) ?_
            show own_G p e below s _ _ _ (T0.setTop (mkF m 70 #[.val (.int iv), .val (.int ((31 : Int32) + (-2 : Int32)))] [(.int iv)]))
            refine own_st (fun zt zk => XS.iconst X0.here hx rfl (hb hby dd_jdk_33m47_70) zk) ?_
            show own_G p e below s _ _ _ (T0.setTop (mkF m 71 #[.val (.int iv), .val (.int ((31 : Int32) + (-2 : Int32)))] [(.int (2 : Int32)), (.int iv)]))
            refine own_st (fun zt zk => XS.iushr X0.here hx rfl (hb hby dd_jdk_33m47_71) rfl zk) ?_
            show own_G p e below s _ _ _ (T0.setTop (mkF m 72 #[.val (.int iv), .val (.int ((31 : Int32) + (-2 : Int32)))] [(.int ((iv.toUInt32 >>> ((2 : Int32) &&& 31).toUInt32).toInt32))]))
            refine own_st (fun zt zk => XS.istoreN X0.here hx rfl (hb hby dd_jdk_33m47_72) rfl (l' := #[.val (.int ((iv.toUInt32 >>> ((2 : Int32) &&& 31).toUInt32).toInt32)), .val (.int ((31 : Int32) + (-2 : Int32)))]) rfl zk) ?_
            show own_G p e below s _ _ _ (T0.setTop (mkF m 73 #[.val (.int ((iv.toUInt32 >>> ((2 : Int32) &&& 31).toUInt32).toInt32)), .val (.int ((31 : Int32) + (-2 : Int32)))] []))
            obtain ⟨xd, q_xd⟩ : ∃ z, z = ((iv.toUInt32 >>> ((2 : Int32) &&& 31).toUInt32).toInt32) := ⟨_, rfl⟩
            rw [← q_xd]
            show own_G p e below s _ _ _ (T0.setTop (mkF m 73 #[.val (.int xd), .val (.int ((31 : Int32) + (-2 : Int32)))] []))
            have h_xd : xd.toInt = iv.toInt / 4 := by rw [q_xd]; exact own_us2 p0_
            have g_xd : 0 ≤ xd.toInt := by omega
            refine own_st (fun zt zk => XS.iloadN X0.here hx rfl (hb hby dd_jdk_33m47_73) rfl zk) ?_
            show own_G p e below s _ _ _ (T0.setTop (mkF m 74 #[.val (.int xd), .val (.int ((31 : Int32) + (-2 : Int32)))] [(.int ((31 : Int32) + (-2 : Int32)))]))
            refine own_st (fun zt zk => XS.iloadN X0.here hx rfl (hb hby dd_jdk_33m47_74) rfl zk) ?_
            show own_G p e below s _ _ _ (T0.setTop (mkF m 75 #[.val (.int xd), .val (.int ((31 : Int32) + (-2 : Int32)))] [(.int xd), (.int ((31 : Int32) + (-2 : Int32)))]))
            refine own_st (fun zt zk => XS.iconst X0.here hx rfl (hb hby dd_jdk_33m47_75) zk) ?_
            show own_G p e below s _ _ _ (T0.setTop (mkF m 76 #[.val (.int xd), .val (.int ((31 : Int32) + (-2 : Int32)))] [(.int (1 : Int32)), (.int xd), (.int ((31 : Int32) + (-2 : Int32)))]))
            refine own_st (fun zt zk => XS.iushr X0.here hx rfl (hb hby dd_jdk_33m47_76) rfl zk) ?_
            show own_G p e below s _ _ _ (T0.setTop (mkF m 77 #[.val (.int xd), .val (.int ((31 : Int32) + (-2 : Int32)))] [(.int ((xd.toUInt32 >>> ((1 : Int32) &&& 31).toUInt32).toInt32)), (.int ((31 : Int32) + (-2 : Int32)))]))
            refine own_st (fun zt zk => XS.isub X0.here hx rfl (hb hby dd_jdk_33m47_77) rfl zk) ?_
            show own_G p e below s _ _ _ (T0.setTop (mkF m 78 #[.val (.int xd), .val (.int ((31 : Int32) + (-2 : Int32)))] [(.int (((31 : Int32) + (-2 : Int32)) - ((xd.toUInt32 >>> ((1 : Int32) &&& 31).toUInt32).toInt32)))]))
            refine own_retI X0 hx hlk hret (hb hby dd_jdk_33m47_78) (by decide) (by decide) ?_
            show Q_own_nlz Z iv h0 n0 (some (.int (((31 : Int32) + (-2 : Int32)) - ((xd.toUInt32 >>> ((1 : Int32) &&& 31).toUInt32).toInt32)))) T0.heap _
            rw [e0]
            exact ⟨(((31 : Int32) + (-2 : Int32)) - ((xd.toUInt32 >>> ((1 : Int32) &&& 31).toUInt32).toInt32)), rfl, N0, rfl, (by
              simp only [Int32.lt_iff_toInt_lt, show (0 : Int32).toInt = 0 from by decide, show (65536 : Int32).toInt = 65536 from by decide, show (256 : Int32).toInt = 256 from by decide, show (16 : Int32).toInt = 16 from by decide, show (4 : Int32).toInt = 4 from by decide] at hc1_1 hc22_2 hc37_3 hc51_4 hc63_5
              have z1 := c_isub ((31 : Int32) + (-2 : Int32)) ((xd.toUInt32 >>> ((1 : Int32) &&& 31).toUInt32).toInt32)
              have z2 : ((31 : Int32) + (-2 : Int32)).toInt = 29 := by decide
              have z3 := own_us1 g_xd
              have z4 := rng32 (((31 : Int32) + (-2 : Int32)) - ((xd.toUInt32 >>> ((1 : Int32) &&& 31).toUInt32).toInt32))
              by_cases z : xd.toInt < 2
              · exact ⟨3, by omega, by decide, by omega⟩
              · exact ⟨4, by omega, by decide, by omega⟩)⟩
        · refine own_st (fun zt zk => XS.icmpNo X0.here hx rfl (hb hby dd_jdk_33m47_51) rfl (flt hc51_4).1 zk) ?_
          show own_G p e below s _ _ _ (T0.setTop (mkF m 54 #[.val (.int iv), .val (.int (31 : Int32))] []))
          refine own_st (fun zt zk => XS.iinc X0.here hx rfl (hb hby dd_jdk_33m47_54) rfl (l' := #[.val (.int iv), .val (.int ((31 : Int32) + (-4 : Int32)))]) rfl zk) ?_
          show own_G p e below s _ _ _ (T0.setTop (mkF m 57 #[.val (.int iv), .val (.int ((31 : Int32) + (-4 : Int32)))] []))
          refine own_st (fun zt zk => XS.iloadN X0.here hx rfl (hb hby dd_jdk_33m47_57) rfl zk) ?_
          show own_G p e below s _ _ _ (T0.setTop (mkF m 58 #[.val (.int iv), .val (.int ((31 : Int32) + (-4 : Int32)))] [(.int iv)]))
          refine own_st (fun zt zk => XS.iconst X0.here hx rfl (hb hby dd_jdk_33m47_58) zk) ?_
          show own_G p e below s _ _ _ (T0.setTop (mkF m 59 #[.val (.int iv), .val (.int ((31 : Int32) + (-4 : Int32)))] [(.int (4 : Int32)), (.int iv)]))
          refine own_st (fun zt zk => XS.iushr X0.here hx rfl (hb hby dd_jdk_33m47_59) rfl zk) ?_
          show own_G p e below s _ _ _ (T0.setTop (mkF m 60 #[.val (.int iv), .val (.int ((31 : Int32) + (-4 : Int32)))] [(.int ((iv.toUInt32 >>> ((4 : Int32) &&& 31).toUInt32).toInt32))]))
          refine own_st (fun zt zk => XS.istoreN X0.here hx rfl (hb hby dd_jdk_33m47_60) rfl (l' := #[.val (.int ((iv.toUInt32 >>> ((4 : Int32) &&& 31).toUInt32).toInt32)), .val (.int ((31 : Int32) + (-4 : Int32)))]) rfl zk) ?_
          show own_G p e below s _ _ _ (T0.setTop (mkF m 61 #[.val (.int ((iv.toUInt32 >>> ((4 : Int32) &&& 31).toUInt32).toInt32)), .val (.int ((31 : Int32) + (-4 : Int32)))] []))
          obtain ⟨xc, q_xc⟩ : ∃ z, z = ((iv.toUInt32 >>> ((4 : Int32) &&& 31).toUInt32).toInt32) := ⟨_, rfl⟩
          rw [← q_xc]
          show own_G p e below s _ _ _ (T0.setTop (mkF m 61 #[.val (.int xc), .val (.int ((31 : Int32) + (-4 : Int32)))] []))
          have h_xc : xc.toInt = iv.toInt / 16 := by rw [q_xc]; exact own_us4 p0_
          have g_xc : 0 ≤ xc.toInt := by omega
          refine own_st (fun zt zk => XS.iloadN X0.here hx rfl (hb hby dd_jdk_33m47_61) rfl zk) ?_
          show own_G p e below s _ _ _ (T0.setTop (mkF m 62 #[.val (.int xc), .val (.int ((31 : Int32) + (-4 : Int32)))] [(.int xc)]))
          refine own_st (fun zt zk => XS.iconst X0.here hx rfl (hb hby dd_jdk_33m47_62) zk) ?_
          show own_G p e below s _ _ _ (T0.setTop (mkF m 63 #[.val (.int xc), .val (.int ((31 : Int32) + (-4 : Int32)))] [(.int (4 : Int32)), (.int xc)]))
          by_cases hc63_6 : xc < (4 : Int32)
          · refine own_st (fun zt zk => XS.icmpYes X0.here hx rfl (pc0 := 63) (pc' := 73) rfl (hb hby dd_jdk_33m47_63) rfl (tlt hc63_6).1 (by decide) (by decide) zk) ?_
            show own_G p e below s _ _ _ (T0.setTop (mkF m 73 #[.val (.int xc), .val (.int ((31 : Int32) + (-4 : Int32)))] []))
            refine own_st (fun zt zk => XS.iloadN X0.here hx rfl (hb hby dd_jdk_33m47_73) rfl zk) ?_
            show own_G p e below s _ _ _ (T0.setTop (mkF m 74 #[.val (.int xc), .val (.int ((31 : Int32) + (-4 : Int32)))] [(.int ((31 : Int32) + (-4 : Int32)))]))
            refine own_st (fun zt zk => XS.iloadN X0.here hx rfl (hb hby dd_jdk_33m47_74) rfl zk) ?_
            show own_G p e below s _ _ _ (T0.setTop (mkF m 75 #[.val (.int xc), .val (.int ((31 : Int32) + (-4 : Int32)))] [(.int xc), (.int ((31 : Int32) + (-4 : Int32)))]))
            refine own_st (fun zt zk => XS.iconst X0.here hx rfl (hb hby dd_jdk_33m47_75) zk) ?_
            show own_G p e below s _ _ _ (T0.setTop (mkF m 76 #[.val (.int xc), .val (.int ((31 : Int32) + (-4 : Int32)))] [(.int (1 : Int32)), (.int xc), (.int ((31 : Int32) + (-4 : Int32)))]))
            refine own_st (fun zt zk => XS.iushr X0.here hx rfl (hb hby dd_jdk_33m47_76) rfl zk) ?_
            show own_G p e below s _ _ _ (T0.setTop (mkF m 77 #[.val (.int xc), .val (.int ((31 : Int32) + (-4 : Int32)))] [(.int ((xc.toUInt32 >>> ((1 : Int32) &&& 31).toUInt32).toInt32)), (.int ((31 : Int32) + (-4 : Int32)))]))
            refine own_st (fun zt zk => XS.isub X0.here hx rfl (hb hby dd_jdk_33m47_77) rfl zk) ?_
            show own_G p e below s _ _ _ (T0.setTop (mkF m 78 #[.val (.int xc), .val (.int ((31 : Int32) + (-4 : Int32)))] [(.int (((31 : Int32) + (-4 : Int32)) - ((xc.toUInt32 >>> ((1 : Int32) &&& 31).toUInt32).toInt32)))]))
            refine own_retI X0 hx hlk hret (hb hby dd_jdk_33m47_78) (by decide) (by decide) ?_
            show Q_own_nlz Z iv h0 n0 (some (.int (((31 : Int32) + (-4 : Int32)) - ((xc.toUInt32 >>> ((1 : Int32) &&& 31).toUInt32).toInt32)))) T0.heap _
            rw [e0]
            exact ⟨(((31 : Int32) + (-4 : Int32)) - ((xc.toUInt32 >>> ((1 : Int32) &&& 31).toUInt32).toInt32)), rfl, N0, rfl, (by
              simp only [Int32.lt_iff_toInt_lt, show (0 : Int32).toInt = 0 from by decide, show (65536 : Int32).toInt = 65536 from by decide, show (256 : Int32).toInt = 256 from by decide, show (16 : Int32).toInt = 16 from by decide, show (4 : Int32).toInt = 4 from by decide] at hc1_1 hc22_2 hc37_3 hc51_4 hc63_6
              have z1 := c_isub ((31 : Int32) + (-4 : Int32)) ((xc.toUInt32 >>> ((1 : Int32) &&& 31).toUInt32).toInt32)
              have z2 : ((31 : Int32) + (-4 : Int32)).toInt = 27 := by decide
              have z3 := own_us1 g_xc
              have z4 := rng32 (((31 : Int32) + (-4 : Int32)) - ((xc.toUInt32 >>> ((1 : Int32) &&& 31).toUInt32).toInt32))
              by_cases z : xc.toInt < 2
              · exact ⟨5, by omega, by decide, by omega⟩
              · exact ⟨6, by omega, by decide, by omega⟩)⟩
          · refine own_st (fun zt zk => XS.icmpNo X0.here hx rfl (hb hby dd_jdk_33m47_63) rfl (flt hc63_6).1 zk) ?_
            show own_G p e below s _ _ _ (T0.setTop (mkF m 66 #[.val (.int xc), .val (.int ((31 : Int32) + (-4 : Int32)))] []))
            refine own_st (fun zt zk => XS.iinc X0.here hx rfl (hb hby dd_jdk_33m47_66) rfl (l' := #[.val (.int xc), .val (.int (((31 : Int32) + (-4 : Int32)) + (-2 : Int32)))]) rfl zk) ?_
            show own_G p e below s _ _ _ (T0.setTop (mkF m 69 #[.val (.int xc), .val (.int (((31 : Int32) + (-4 : Int32)) + (-2 : Int32)))] []))
            refine own_st (fun zt zk => XS.iloadN X0.here hx rfl (hb hby dd_jdk_33m47_69) rfl zk) ?_
            show own_G p e below s _ _ _ (T0.setTop (mkF m 70 #[.val (.int xc), .val (.int (((31 : Int32) + (-4 : Int32)) + (-2 : Int32)))] [(.int xc)]))
            refine own_st (fun zt zk => XS.iconst X0.here hx rfl (hb hby dd_jdk_33m47_70) zk) ?_
            show own_G p e below s _ _ _ (T0.setTop (mkF m 71 #[.val (.int xc), .val (.int (((31 : Int32) + (-4 : Int32)) + (-2 : Int32)))] [(.int (2 : Int32)), (.int xc)]))
            refine own_st (fun zt zk => XS.iushr X0.here hx rfl (hb hby dd_jdk_33m47_71) rfl zk) ?_
            show own_G p e below s _ _ _ (T0.setTop (mkF m 72 #[.val (.int xc), .val (.int (((31 : Int32) + (-4 : Int32)) + (-2 : Int32)))] [(.int ((xc.toUInt32 >>> ((2 : Int32) &&& 31).toUInt32).toInt32))]))
            refine own_st (fun zt zk => XS.istoreN X0.here hx rfl (hb hby dd_jdk_33m47_72) rfl (l' := #[.val (.int ((xc.toUInt32 >>> ((2 : Int32) &&& 31).toUInt32).toInt32)), .val (.int (((31 : Int32) + (-4 : Int32)) + (-2 : Int32)))]) rfl zk) ?_
            show own_G p e below s _ _ _ (T0.setTop (mkF m 73 #[.val (.int ((xc.toUInt32 >>> ((2 : Int32) &&& 31).toUInt32).toInt32)), .val (.int (((31 : Int32) + (-4 : Int32)) + (-2 : Int32)))] []))
            obtain ⟨xd, q_xd⟩ : ∃ z, z = ((xc.toUInt32 >>> ((2 : Int32) &&& 31).toUInt32).toInt32) := ⟨_, rfl⟩
            rw [← q_xd]
            show own_G p e below s _ _ _ (T0.setTop (mkF m 73 #[.val (.int xd), .val (.int (((31 : Int32) + (-4 : Int32)) + (-2 : Int32)))] []))
            have h_xd : xd.toInt = xc.toInt / 4 := by rw [q_xd]; exact own_us2 g_xc
            have g_xd : 0 ≤ xd.toInt := by omega
            refine own_st (fun zt zk => XS.iloadN X0.here hx rfl (hb hby dd_jdk_33m47_73) rfl zk) ?_
            show own_G p e below s _ _ _ (T0.setTop (mkF m 74 #[.val (.int xd), .val (.int (((31 : Int32) + (-4 : Int32)) + (-2 : Int32)))] [(.int (((31 : Int32) + (-4 : Int32)) + (-2 : Int32)))]))
            refine own_st (fun zt zk => XS.iloadN X0.here hx rfl (hb hby dd_jdk_33m47_74) rfl zk) ?_
            show own_G p e below s _ _ _ (T0.setTop (mkF m 75 #[.val (.int xd), .val (.int (((31 : Int32) + (-4 : Int32)) + (-2 : Int32)))] [(.int xd), (.int (((31 : Int32) + (-4 : Int32)) + (-2 : Int32)))]))
            refine own_st (fun zt zk => XS.iconst X0.here hx rfl (hb hby dd_jdk_33m47_75) zk) ?_
            show own_G p e below s _ _ _ (T0.setTop (mkF m 76 #[.val (.int xd), .val (.int (((31 : Int32) + (-4 : Int32)) + (-2 : Int32)))] [(.int (1 : Int32)), (.int xd), (.int (((31 : Int32) + (-4 : Int32)) + (-2 : Int32)))]))
            refine own_st (fun zt zk => XS.iushr X0.here hx rfl (hb hby dd_jdk_33m47_76) rfl zk) ?_
            show own_G p e below s _ _ _ (T0.setTop (mkF m 77 #[.val (.int xd), .val (.int (((31 : Int32) + (-4 : Int32)) + (-2 : Int32)))] [(.int ((xd.toUInt32 >>> ((1 : Int32) &&& 31).toUInt32).toInt32)), (.int (((31 : Int32) + (-4 : Int32)) + (-2 : Int32)))]))
            refine own_st (fun zt zk => XS.isub X0.here hx rfl (hb hby dd_jdk_33m47_77) rfl zk) ?_
            show own_G p e below s _ _ _ (T0.setTop (mkF m 78 #[.val (.int xd), .val (.int (((31 : Int32) + (-4 : Int32)) + (-2 : Int32)))] [(.int ((((31 : Int32) + (-4 : Int32)) + (-2 : Int32)) - ((xd.toUInt32 >>> ((1 : Int32) &&& 31).toUInt32).toInt32)))]))
            refine own_retI X0 hx hlk hret (hb hby dd_jdk_33m47_78) (by decide) (by decide) ?_
            show Q_own_nlz Z iv h0 n0 (some (.int ((((31 : Int32) + (-4 : Int32)) + (-2 : Int32)) - ((xd.toUInt32 >>> ((1 : Int32) &&& 31).toUInt32).toInt32)))) T0.heap _
            rw [e0]
            exact ⟨((((31 : Int32) + (-4 : Int32)) + (-2 : Int32)) - ((xd.toUInt32 >>> ((1 : Int32) &&& 31).toUInt32).toInt32)), rfl, N0, rfl, (by
              simp only [Int32.lt_iff_toInt_lt, show (0 : Int32).toInt = 0 from by decide, show (65536 : Int32).toInt = 65536 from by decide, show (256 : Int32).toInt = 256 from by decide, show (16 : Int32).toInt = 16 from by decide, show (4 : Int32).toInt = 4 from by decide] at hc1_1 hc22_2 hc37_3 hc51_4 hc63_6
              have z1 := c_isub (((31 : Int32) + (-4 : Int32)) + (-2 : Int32)) ((xd.toUInt32 >>> ((1 : Int32) &&& 31).toUInt32).toInt32)
              have z2 : (((31 : Int32) + (-4 : Int32)) + (-2 : Int32)).toInt = 25 := by decide
              have z3 := own_us1 g_xd
              have z4 := rng32 ((((31 : Int32) + (-4 : Int32)) + (-2 : Int32)) - ((xd.toUInt32 >>> ((1 : Int32) &&& 31).toUInt32).toInt32))
              by_cases z : xd.toInt < 2
              · exact ⟨7, by omega, by decide, by omega⟩
              · exact ⟨8, by omega, by decide, by omega⟩)⟩
      · refine own_st (fun zt zk => XS.icmpNo X0.here hx rfl (hb hby dd_jdk_33m47_37) rfl (flt hc37_3).1 zk) ?_
        show own_G p e below s _ _ _ (T0.setTop (mkF m 40 #[.val (.int iv), .val (.int (31 : Int32))] []))
        refine own_st (fun zt zk => XS.iinc X0.here hx rfl (hb hby dd_jdk_33m47_40) rfl (l' := #[.val (.int iv), .val (.int ((31 : Int32) + (-8 : Int32)))]) rfl zk) ?_
        show own_G p e below s _ _ _ (T0.setTop (mkF m 43 #[.val (.int iv), .val (.int ((31 : Int32) + (-8 : Int32)))] []))
        refine own_st (fun zt zk => XS.iloadN X0.here hx rfl (hb hby dd_jdk_33m47_43) rfl zk) ?_
        show own_G p e below s _ _ _ (T0.setTop (mkF m 44 #[.val (.int iv), .val (.int ((31 : Int32) + (-8 : Int32)))] [(.int iv)]))
        refine own_st (fun zt zk => XS.bipush X0.here hx rfl (hb hby dd_jdk_33m47_44) zk) ?_
        show own_G p e below s _ _ _ (T0.setTop (mkF m 46 #[.val (.int iv), .val (.int ((31 : Int32) + (-8 : Int32)))] [(.int (8 : Int32)), (.int iv)]))
        refine own_st (fun zt zk => XS.iushr X0.here hx rfl (hb hby dd_jdk_33m47_46) rfl zk) ?_
        show own_G p e below s _ _ _ (T0.setTop (mkF m 47 #[.val (.int iv), .val (.int ((31 : Int32) + (-8 : Int32)))] [(.int ((iv.toUInt32 >>> ((8 : Int32) &&& 31).toUInt32).toInt32))]))
        refine own_st (fun zt zk => XS.istoreN X0.here hx rfl (hb hby dd_jdk_33m47_47) rfl (l' := #[.val (.int ((iv.toUInt32 >>> ((8 : Int32) &&& 31).toUInt32).toInt32)), .val (.int ((31 : Int32) + (-8 : Int32)))]) rfl zk) ?_
        show own_G p e below s _ _ _ (T0.setTop (mkF m 48 #[.val (.int ((iv.toUInt32 >>> ((8 : Int32) &&& 31).toUInt32).toInt32)), .val (.int ((31 : Int32) + (-8 : Int32)))] []))
        obtain ⟨xb, q_xb⟩ : ∃ z, z = ((iv.toUInt32 >>> ((8 : Int32) &&& 31).toUInt32).toInt32) := ⟨_, rfl⟩
        rw [← q_xb]
        show own_G p e below s _ _ _ (T0.setTop (mkF m 48 #[.val (.int xb), .val (.int ((31 : Int32) + (-8 : Int32)))] []))
        have h_xb : xb.toInt = iv.toInt / 256 := by rw [q_xb]; exact own_us8 p0_
        have g_xb : 0 ≤ xb.toInt := by omega
        refine own_st (fun zt zk => XS.iloadN X0.here hx rfl (hb hby dd_jdk_33m47_48) rfl zk) ?_
        show own_G p e below s _ _ _ (T0.setTop (mkF m 49 #[.val (.int xb), .val (.int ((31 : Int32) + (-8 : Int32)))] [(.int xb)]))
        refine own_st (fun zt zk => XS.bipush X0.here hx rfl (hb hby dd_jdk_33m47_49) zk) ?_
        show own_G p e below s _ _ _ (T0.setTop (mkF m 51 #[.val (.int xb), .val (.int ((31 : Int32) + (-8 : Int32)))] [(.int (16 : Int32)), (.int xb)]))
        by_cases hc51_7 : xb < (16 : Int32)
        · refine own_st (fun zt zk => XS.icmpYes X0.here hx rfl (pc0 := 51) (pc' := 61) rfl (hb hby dd_jdk_33m47_51) rfl (tlt hc51_7).1 (by decide) (by decide) zk) ?_
          show own_G p e below s _ _ _ (T0.setTop (mkF m 61 #[.val (.int xb), .val (.int ((31 : Int32) + (-8 : Int32)))] []))
          refine own_st (fun zt zk => XS.iloadN X0.here hx rfl (hb hby dd_jdk_33m47_61) rfl zk) ?_
          show own_G p e below s _ _ _ (T0.setTop (mkF m 62 #[.val (.int xb), .val (.int ((31 : Int32) + (-8 : Int32)))] [(.int xb)]))
          refine own_st (fun zt zk => XS.iconst X0.here hx rfl (hb hby dd_jdk_33m47_62) zk) ?_
          show own_G p e below s _ _ _ (T0.setTop (mkF m 63 #[.val (.int xb), .val (.int ((31 : Int32) + (-8 : Int32)))] [(.int (4 : Int32)), (.int xb)]))
          by_cases hc63_8 : xb < (4 : Int32)
          · refine own_st (fun zt zk => XS.icmpYes X0.here hx rfl (pc0 := 63) (pc' := 73) rfl (hb hby dd_jdk_33m47_63) rfl (tlt hc63_8).1 (by decide) (by decide) zk) ?_
            show own_G p e below s _ _ _ (T0.setTop (mkF m 73 #[.val (.int xb), .val (.int ((31 : Int32) + (-8 : Int32)))] []))
            refine own_st (fun zt zk => XS.iloadN X0.here hx rfl (hb hby dd_jdk_33m47_73) rfl zk) ?_
            show own_G p e below s _ _ _ (T0.setTop (mkF m 74 #[.val (.int xb), .val (.int ((31 : Int32) + (-8 : Int32)))] [(.int ((31 : Int32) + (-8 : Int32)))]))
            refine own_st (fun zt zk => XS.iloadN X0.here hx rfl (hb hby dd_jdk_33m47_74) rfl zk) ?_
            show own_G p e below s _ _ _ (T0.setTop (mkF m 75 #[.val (.int xb), .val (.int ((31 : Int32) + (-8 : Int32)))] [(.int xb), (.int ((31 : Int32) + (-8 : Int32)))]))
            refine own_st (fun zt zk => XS.iconst X0.here hx rfl (hb hby dd_jdk_33m47_75) zk) ?_
            show own_G p e below s _ _ _ (T0.setTop (mkF m 76 #[.val (.int xb), .val (.int ((31 : Int32) + (-8 : Int32)))] [(.int (1 : Int32)), (.int xb), (.int ((31 : Int32) + (-8 : Int32)))]))
            refine own_st (fun zt zk => XS.iushr X0.here hx rfl (hb hby dd_jdk_33m47_76) rfl zk) ?_
            show own_G p e below s _ _ _ (T0.setTop (mkF m 77 #[.val (.int xb), .val (.int ((31 : Int32) + (-8 : Int32)))] [(.int ((xb.toUInt32 >>> ((1 : Int32) &&& 31).toUInt32).toInt32)), (.int ((31 : Int32) + (-8 : Int32)))]))
            refine own_st (fun zt zk => XS.isub X0.here hx rfl (hb hby dd_jdk_33m47_77) rfl zk) ?_
            show own_G p e below s _ _ _ (T0.setTop (mkF m 78 #[.val (.int xb), .val (.int ((31 : Int32) + (-8 : Int32)))] [(.int (((31 : Int32) + (-8 : Int32)) - ((xb.toUInt32 >>> ((1 : Int32) &&& 31).toUInt32).toInt32)))]))
            refine own_retI X0 hx hlk hret (hb hby dd_jdk_33m47_78) (by decide) (by decide) ?_
            show Q_own_nlz Z iv h0 n0 (some (.int (((31 : Int32) + (-8 : Int32)) - ((xb.toUInt32 >>> ((1 : Int32) &&& 31).toUInt32).toInt32)))) T0.heap _
            rw [e0]
            exact ⟨(((31 : Int32) + (-8 : Int32)) - ((xb.toUInt32 >>> ((1 : Int32) &&& 31).toUInt32).toInt32)), rfl, N0, rfl, (by
              simp only [Int32.lt_iff_toInt_lt, show (0 : Int32).toInt = 0 from by decide, show (65536 : Int32).toInt = 65536 from by decide, show (256 : Int32).toInt = 256 from by decide, show (16 : Int32).toInt = 16 from by decide, show (4 : Int32).toInt = 4 from by decide] at hc1_1 hc22_2 hc37_3 hc51_7 hc63_8
              have z1 := c_isub ((31 : Int32) + (-8 : Int32)) ((xb.toUInt32 >>> ((1 : Int32) &&& 31).toUInt32).toInt32)
              have z2 : ((31 : Int32) + (-8 : Int32)).toInt = 23 := by decide
              have z3 := own_us1 g_xb
              have z4 := rng32 (((31 : Int32) + (-8 : Int32)) - ((xb.toUInt32 >>> ((1 : Int32) &&& 31).toUInt32).toInt32))
              by_cases z : xb.toInt < 2
              · exact ⟨9, by omega, by decide, by omega⟩
              · exact ⟨10, by omega, by decide, by omega⟩)⟩
          · refine own_st (fun zt zk => XS.icmpNo X0.here hx rfl (hb hby dd_jdk_33m47_63) rfl (flt hc63_8).1 zk) ?_
            show own_G p e below s _ _ _ (T0.setTop (mkF m 66 #[.val (.int xb), .val (.int ((31 : Int32) + (-8 : Int32)))] []))
            refine own_st (fun zt zk => XS.iinc X0.here hx rfl (hb hby dd_jdk_33m47_66) rfl (l' := #[.val (.int xb), .val (.int (((31 : Int32) + (-8 : Int32)) + (-2 : Int32)))]) rfl zk) ?_
            show own_G p e below s _ _ _ (T0.setTop (mkF m 69 #[.val (.int xb), .val (.int (((31 : Int32) + (-8 : Int32)) + (-2 : Int32)))] []))
            refine own_st (fun zt zk => XS.iloadN X0.here hx rfl (hb hby dd_jdk_33m47_69) rfl zk) ?_
            show own_G p e below s _ _ _ (T0.setTop (mkF m 70 #[.val (.int xb), .val (.int (((31 : Int32) + (-8 : Int32)) + (-2 : Int32)))] [(.int xb)]))
            refine own_st (fun zt zk => XS.iconst X0.here hx rfl (hb hby dd_jdk_33m47_70) zk) ?_
            show own_G p e below s _ _ _ (T0.setTop (mkF m 71 #[.val (.int xb), .val (.int (((31 : Int32) + (-8 : Int32)) + (-2 : Int32)))] [(.int (2 : Int32)), (.int xb)]))
            refine own_st (fun zt zk => XS.iushr X0.here hx rfl (hb hby dd_jdk_33m47_71) rfl zk) ?_
            show own_G p e below s _ _ _ (T0.setTop (mkF m 72 #[.val (.int xb), .val (.int (((31 : Int32) + (-8 : Int32)) + (-2 : Int32)))] [(.int ((xb.toUInt32 >>> ((2 : Int32) &&& 31).toUInt32).toInt32))]))
            refine own_st (fun zt zk => XS.istoreN X0.here hx rfl (hb hby dd_jdk_33m47_72) rfl (l' := #[.val (.int ((xb.toUInt32 >>> ((2 : Int32) &&& 31).toUInt32).toInt32)), .val (.int (((31 : Int32) + (-8 : Int32)) + (-2 : Int32)))]) rfl zk) ?_
            show own_G p e below s _ _ _ (T0.setTop (mkF m 73 #[.val (.int ((xb.toUInt32 >>> ((2 : Int32) &&& 31).toUInt32).toInt32)), .val (.int (((31 : Int32) + (-8 : Int32)) + (-2 : Int32)))] []))
            obtain ⟨xd, q_xd⟩ : ∃ z, z = ((xb.toUInt32 >>> ((2 : Int32) &&& 31).toUInt32).toInt32) := ⟨_, rfl⟩
            rw [← q_xd]
            show own_G p e below s _ _ _ (T0.setTop (mkF m 73 #[.val (.int xd), .val (.int (((31 : Int32) + (-8 : Int32)) + (-2 : Int32)))] []))
            have h_xd : xd.toInt = xb.toInt / 4 := by rw [q_xd]; exact own_us2 g_xb
            have g_xd : 0 ≤ xd.toInt := by omega
            refine own_st (fun zt zk => XS.iloadN X0.here hx rfl (hb hby dd_jdk_33m47_73) rfl zk) ?_
            show own_G p e below s _ _ _ (T0.setTop (mkF m 74 #[.val (.int xd), .val (.int (((31 : Int32) + (-8 : Int32)) + (-2 : Int32)))] [(.int (((31 : Int32) + (-8 : Int32)) + (-2 : Int32)))]))
            refine own_st (fun zt zk => XS.iloadN X0.here hx rfl (hb hby dd_jdk_33m47_74) rfl zk) ?_
            show own_G p e below s _ _ _ (T0.setTop (mkF m 75 #[.val (.int xd), .val (.int (((31 : Int32) + (-8 : Int32)) + (-2 : Int32)))] [(.int xd), (.int (((31 : Int32) + (-8 : Int32)) + (-2 : Int32)))]))
            refine own_st (fun zt zk => XS.iconst X0.here hx rfl (hb hby dd_jdk_33m47_75) zk) ?_
            show own_G p e below s _ _ _ (T0.setTop (mkF m 76 #[.val (.int xd), .val (.int (((31 : Int32) + (-8 : Int32)) + (-2 : Int32)))] [(.int (1 : Int32)), (.int xd), (.int (((31 : Int32) + (-8 : Int32)) + (-2 : Int32)))]))
            refine own_st (fun zt zk => XS.iushr X0.here hx rfl (hb hby dd_jdk_33m47_76) rfl zk) ?_
            show own_G p e below s _ _ _ (T0.setTop (mkF m 77 #[.val (.int xd), .val (.int (((31 : Int32) + (-8 : Int32)) + (-2 : Int32)))] [(.int ((xd.toUInt32 >>> ((1 : Int32) &&& 31).toUInt32).toInt32)), (.int (((31 : Int32) + (-8 : Int32)) + (-2 : Int32)))]))
            refine own_st (fun zt zk => XS.isub X0.here hx rfl (hb hby dd_jdk_33m47_77) rfl zk) ?_
            show own_G p e below s _ _ _ (T0.setTop (mkF m 78 #[.val (.int xd), .val (.int (((31 : Int32) + (-8 : Int32)) + (-2 : Int32)))] [(.int ((((31 : Int32) + (-8 : Int32)) + (-2 : Int32)) - ((xd.toUInt32 >>> ((1 : Int32) &&& 31).toUInt32).toInt32)))]))
            refine own_retI X0 hx hlk hret (hb hby dd_jdk_33m47_78) (by decide) (by decide) ?_
            show Q_own_nlz Z iv h0 n0 (some (.int ((((31 : Int32) + (-8 : Int32)) + (-2 : Int32)) - ((xd.toUInt32 >>> ((1 : Int32) &&& 31).toUInt32).toInt32)))) T0.heap _
            rw [e0]
            exact ⟨((((31 : Int32) + (-8 : Int32)) + (-2 : Int32)) - ((xd.toUInt32 >>> ((1 : Int32) &&& 31).toUInt32).toInt32)), rfl, N0, rfl, (by
              simp only [Int32.lt_iff_toInt_lt, show (0 : Int32).toInt = 0 from by decide, show (65536 : Int32).toInt = 65536 from by decide, show (256 : Int32).toInt = 256 from by decide, show (16 : Int32).toInt = 16 from by decide, show (4 : Int32).toInt = 4 from by decide] at hc1_1 hc22_2 hc37_3 hc51_7 hc63_8
              have z1 := c_isub (((31 : Int32) + (-8 : Int32)) + (-2 : Int32)) ((xd.toUInt32 >>> ((1 : Int32) &&& 31).toUInt32).toInt32)
              have z2 : (((31 : Int32) + (-8 : Int32)) + (-2 : Int32)).toInt = 21 := by decide
              have z3 := own_us1 g_xd
              have z4 := rng32 ((((31 : Int32) + (-8 : Int32)) + (-2 : Int32)) - ((xd.toUInt32 >>> ((1 : Int32) &&& 31).toUInt32).toInt32))
              by_cases z : xd.toInt < 2
              · exact ⟨11, by omega, by decide, by omega⟩
              · exact ⟨12, by omega, by decide, by omega⟩)⟩
        · refine own_st (fun zt zk => XS.icmpNo X0.here hx rfl (hb hby dd_jdk_33m47_51) rfl (flt hc51_7).1 zk) ?_
          show own_G p e below s _ _ _ (T0.setTop (mkF m 54 #[.val (.int xb), .val (.int ((31 : Int32) + (-8 : Int32)))] []))
          refine own_st (fun zt zk => XS.iinc X0.here hx rfl (hb hby dd_jdk_33m47_54) rfl (l' := #[.val (.int xb), .val (.int (((31 : Int32) + (-8 : Int32)) + (-4 : Int32)))]) rfl zk) ?_
          show own_G p e below s _ _ _ (T0.setTop (mkF m 57 #[.val (.int xb), .val (.int (((31 : Int32) + (-8 : Int32)) + (-4 : Int32)))] []))
          refine own_st (fun zt zk => XS.iloadN X0.here hx rfl (hb hby dd_jdk_33m47_57) rfl zk) ?_
          show own_G p e below s _ _ _ (T0.setTop (mkF m 58 #[.val (.int xb), .val (.int (((31 : Int32) + (-8 : Int32)) + (-4 : Int32)))] [(.int xb)]))
          refine own_st (fun zt zk => XS.iconst X0.here hx rfl (hb hby dd_jdk_33m47_58) zk) ?_
          show own_G p e below s _ _ _ (T0.setTop (mkF m 59 #[.val (.int xb), .val (.int (((31 : Int32) + (-8 : Int32)) + (-4 : Int32)))] [(.int (4 : Int32)), (.int xb)]))
          refine own_st (fun zt zk => XS.iushr X0.here hx rfl (hb hby dd_jdk_33m47_59) rfl zk) ?_
          show own_G p e below s _ _ _ (T0.setTop (mkF m 60 #[.val (.int xb), .val (.int (((31 : Int32) + (-8 : Int32)) + (-4 : Int32)))] [(.int ((xb.toUInt32 >>> ((4 : Int32) &&& 31).toUInt32).toInt32))]))
          refine own_st (fun zt zk => XS.istoreN X0.here hx rfl (hb hby dd_jdk_33m47_60) rfl (l' := #[.val (.int ((xb.toUInt32 >>> ((4 : Int32) &&& 31).toUInt32).toInt32)), .val (.int (((31 : Int32) + (-8 : Int32)) + (-4 : Int32)))]) rfl zk) ?_
          show own_G p e below s _ _ _ (T0.setTop (mkF m 61 #[.val (.int ((xb.toUInt32 >>> ((4 : Int32) &&& 31).toUInt32).toInt32)), .val (.int (((31 : Int32) + (-8 : Int32)) + (-4 : Int32)))] []))
          obtain ⟨xc, q_xc⟩ : ∃ z, z = ((xb.toUInt32 >>> ((4 : Int32) &&& 31).toUInt32).toInt32) := ⟨_, rfl⟩
          rw [← q_xc]
          show own_G p e below s _ _ _ (T0.setTop (mkF m 61 #[.val (.int xc), .val (.int (((31 : Int32) + (-8 : Int32)) + (-4 : Int32)))] []))
          have h_xc : xc.toInt = xb.toInt / 16 := by rw [q_xc]; exact own_us4 g_xb
          have g_xc : 0 ≤ xc.toInt := by omega
          refine own_st (fun zt zk => XS.iloadN X0.here hx rfl (hb hby dd_jdk_33m47_61) rfl zk) ?_
          show own_G p e below s _ _ _ (T0.setTop (mkF m 62 #[.val (.int xc), .val (.int (((31 : Int32) + (-8 : Int32)) + (-4 : Int32)))] [(.int xc)]))
          refine own_st (fun zt zk => XS.iconst X0.here hx rfl (hb hby dd_jdk_33m47_62) zk) ?_
          show own_G p e below s _ _ _ (T0.setTop (mkF m 63 #[.val (.int xc), .val (.int (((31 : Int32) + (-8 : Int32)) + (-4 : Int32)))] [(.int (4 : Int32)), (.int xc)]))
          by_cases hc63_9 : xc < (4 : Int32)
          · refine own_st (fun zt zk => XS.icmpYes X0.here hx rfl (pc0 := 63) (pc' := 73) rfl (hb hby dd_jdk_33m47_63) rfl (tlt hc63_9).1 (by decide) (by decide) zk) ?_
            show own_G p e below s _ _ _ (T0.setTop (mkF m 73 #[.val (.int xc), .val (.int (((31 : Int32) + (-8 : Int32)) + (-4 : Int32)))] []))
            refine own_st (fun zt zk => XS.iloadN X0.here hx rfl (hb hby dd_jdk_33m47_73) rfl zk) ?_
            show own_G p e below s _ _ _ (T0.setTop (mkF m 74 #[.val (.int xc), .val (.int (((31 : Int32) + (-8 : Int32)) + (-4 : Int32)))] [(.int (((31 : Int32) + (-8 : Int32)) + (-4 : Int32)))]))
            refine own_st (fun zt zk => XS.iloadN X0.here hx rfl (hb hby dd_jdk_33m47_74) rfl zk) ?_
            show own_G p e below s _ _ _ (T0.setTop (mkF m 75 #[.val (.int xc), .val (.int (((31 : Int32) + (-8 : Int32)) + (-4 : Int32)))] [(.int xc), (.int (((31 : Int32) + (-8 : Int32)) + (-4 : Int32)))]))
            refine own_st (fun zt zk => XS.iconst X0.here hx rfl (hb hby dd_jdk_33m47_75) zk) ?_
            show own_G p e below s _ _ _ (T0.setTop (mkF m 76 #[.val (.int xc), .val (.int (((31 : Int32) + (-8 : Int32)) + (-4 : Int32)))] [(.int (1 : Int32)), (.int xc), (.int (((31 : Int32) + (-8 : Int32)) + (-4 : Int32)))]))
            refine own_st (fun zt zk => XS.iushr X0.here hx rfl (hb hby dd_jdk_33m47_76) rfl zk) ?_
            show own_G p e below s _ _ _ (T0.setTop (mkF m 77 #[.val (.int xc), .val (.int (((31 : Int32) + (-8 : Int32)) + (-4 : Int32)))] [(.int ((xc.toUInt32 >>> ((1 : Int32) &&& 31).toUInt32).toInt32)), (.int (((31 : Int32) + (-8 : Int32)) + (-4 : Int32)))]))
            refine own_st (fun zt zk => XS.isub X0.here hx rfl (hb hby dd_jdk_33m47_77) rfl zk) ?_
            show own_G p e below s _ _ _ (T0.setTop (mkF m 78 #[.val (.int xc), .val (.int (((31 : Int32) + (-8 : Int32)) + (-4 : Int32)))] [(.int ((((31 : Int32) + (-8 : Int32)) + (-4 : Int32)) - ((xc.toUInt32 >>> ((1 : Int32) &&& 31).toUInt32).toInt32)))]))
            refine own_retI X0 hx hlk hret (hb hby dd_jdk_33m47_78) (by decide) (by decide) ?_
            show Q_own_nlz Z iv h0 n0 (some (.int ((((31 : Int32) + (-8 : Int32)) + (-4 : Int32)) - ((xc.toUInt32 >>> ((1 : Int32) &&& 31).toUInt32).toInt32)))) T0.heap _
            rw [e0]
            exact ⟨((((31 : Int32) + (-8 : Int32)) + (-4 : Int32)) - ((xc.toUInt32 >>> ((1 : Int32) &&& 31).toUInt32).toInt32)), rfl, N0, rfl, (by
              simp only [Int32.lt_iff_toInt_lt, show (0 : Int32).toInt = 0 from by decide, show (65536 : Int32).toInt = 65536 from by decide, show (256 : Int32).toInt = 256 from by decide, show (16 : Int32).toInt = 16 from by decide, show (4 : Int32).toInt = 4 from by decide] at hc1_1 hc22_2 hc37_3 hc51_7 hc63_9
              have z1 := c_isub (((31 : Int32) + (-8 : Int32)) + (-4 : Int32)) ((xc.toUInt32 >>> ((1 : Int32) &&& 31).toUInt32).toInt32)
              have z2 : (((31 : Int32) + (-8 : Int32)) + (-4 : Int32)).toInt = 19 := by decide
              have z3 := own_us1 g_xc
              have z4 := rng32 ((((31 : Int32) + (-8 : Int32)) + (-4 : Int32)) - ((xc.toUInt32 >>> ((1 : Int32) &&& 31).toUInt32).toInt32))
              by_cases z : xc.toInt < 2
              · exact ⟨13, by omega, by decide, by omega⟩
              · exact ⟨14, by omega, by decide, by omega⟩)⟩
          · refine own_st (fun zt zk => XS.icmpNo X0.here hx rfl (hb hby dd_jdk_33m47_63) rfl (flt hc63_9).1 zk) ?_
            show own_G p e below s _ _ _ (T0.setTop (mkF m 66 #[.val (.int xc), .val (.int (((31 : Int32) + (-8 : Int32)) + (-4 : Int32)))] []))
            refine own_st (fun zt zk => XS.iinc X0.here hx rfl (hb hby dd_jdk_33m47_66) rfl (l' := #[.val (.int xc), .val (.int ((((31 : Int32) + (-8 : Int32)) + (-4 : Int32)) + (-2 : Int32)))]) rfl zk) ?_
            show own_G p e below s _ _ _ (T0.setTop (mkF m 69 #[.val (.int xc), .val (.int ((((31 : Int32) + (-8 : Int32)) + (-4 : Int32)) + (-2 : Int32)))] []))
            refine own_st (fun zt zk => XS.iloadN X0.here hx rfl (hb hby dd_jdk_33m47_69) rfl zk) ?_
            show own_G p e below s _ _ _ (T0.setTop (mkF m 70 #[.val (.int xc), .val (.int ((((31 : Int32) + (-8 : Int32)) + (-4 : Int32)) + (-2 : Int32)))] [(.int xc)]))
            refine own_st (fun zt zk => XS.iconst X0.here hx rfl (hb hby dd_jdk_33m47_70) zk) ?_
            show own_G p e below s _ _ _ (T0.setTop (mkF m 71 #[.val (.int xc), .val (.int ((((31 : Int32) + (-8 : Int32)) + (-4 : Int32)) + (-2 : Int32)))] [(.int (2 : Int32)), (.int xc)]))
            refine own_st (fun zt zk => XS.iushr X0.here hx rfl (hb hby dd_jdk_33m47_71) rfl zk) ?_
            show own_G p e below s _ _ _ (T0.setTop (mkF m 72 #[.val (.int xc), .val (.int ((((31 : Int32) + (-8 : Int32)) + (-4 : Int32)) + (-2 : Int32)))] [(.int ((xc.toUInt32 >>> ((2 : Int32) &&& 31).toUInt32).toInt32))]))
            refine own_st (fun zt zk => XS.istoreN X0.here hx rfl (hb hby dd_jdk_33m47_72) rfl (l' := #[.val (.int ((xc.toUInt32 >>> ((2 : Int32) &&& 31).toUInt32).toInt32)), .val (.int ((((31 : Int32) + (-8 : Int32)) + (-4 : Int32)) + (-2 : Int32)))]) rfl zk) ?_
            show own_G p e below s _ _ _ (T0.setTop (mkF m 73 #[.val (.int ((xc.toUInt32 >>> ((2 : Int32) &&& 31).toUInt32).toInt32)), .val (.int ((((31 : Int32) + (-8 : Int32)) + (-4 : Int32)) + (-2 : Int32)))] []))
            obtain ⟨xd, q_xd⟩ : ∃ z, z = ((xc.toUInt32 >>> ((2 : Int32) &&& 31).toUInt32).toInt32) := ⟨_, rfl⟩
            rw [← q_xd]
            show own_G p e below s _ _ _ (T0.setTop (mkF m 73 #[.val (.int xd), .val (.int ((((31 : Int32) + (-8 : Int32)) + (-4 : Int32)) + (-2 : Int32)))] []))
            have h_xd : xd.toInt = xc.toInt / 4 := by rw [q_xd]; exact own_us2 g_xc
            have g_xd : 0 ≤ xd.toInt := by omega
            refine own_st (fun zt zk => XS.iloadN X0.here hx rfl (hb hby dd_jdk_33m47_73) rfl zk) ?_
            show own_G p e below s _ _ _ (T0.setTop (mkF m 74 #[.val (.int xd), .val (.int ((((31 : Int32) + (-8 : Int32)) + (-4 : Int32)) + (-2 : Int32)))] [(.int ((((31 : Int32) + (-8 : Int32)) + (-4 : Int32)) + (-2 : Int32)))]))
            refine own_st (fun zt zk => XS.iloadN X0.here hx rfl (hb hby dd_jdk_33m47_74) rfl zk) ?_
            show own_G p e below s _ _ _ (T0.setTop (mkF m 75 #[.val (.int xd), .val (.int ((((31 : Int32) + (-8 : Int32)) + (-4 : Int32)) + (-2 : Int32)))] [(.int xd), (.int ((((31 : Int32) + (-8 : Int32)) + (-4 : Int32)) + (-2 : Int32)))]))
            refine own_st (fun zt zk => XS.iconst X0.here hx rfl (hb hby dd_jdk_33m47_75) zk) ?_
            show own_G p e below s _ _ _ (T0.setTop (mkF m 76 #[.val (.int xd), .val (.int ((((31 : Int32) + (-8 : Int32)) + (-4 : Int32)) + (-2 : Int32)))] [(.int (1 : Int32)), (.int xd), (.int ((((31 : Int32) + (-8 : Int32)) + (-4 : Int32)) + (-2 : Int32)))]))
            refine own_st (fun zt zk => XS.iushr X0.here hx rfl (hb hby dd_jdk_33m47_76) rfl zk) ?_
            show own_G p e below s _ _ _ (T0.setTop (mkF m 77 #[.val (.int xd), .val (.int ((((31 : Int32) + (-8 : Int32)) + (-4 : Int32)) + (-2 : Int32)))] [(.int ((xd.toUInt32 >>> ((1 : Int32) &&& 31).toUInt32).toInt32)), (.int ((((31 : Int32) + (-8 : Int32)) + (-4 : Int32)) + (-2 : Int32)))]))
            refine own_st (fun zt zk => XS.isub X0.here hx rfl (hb hby dd_jdk_33m47_77) rfl zk) ?_
            show own_G p e below s _ _ _ (T0.setTop (mkF m 78 #[.val (.int xd), .val (.int ((((31 : Int32) + (-8 : Int32)) + (-4 : Int32)) + (-2 : Int32)))] [(.int (((((31 : Int32) + (-8 : Int32)) + (-4 : Int32)) + (-2 : Int32)) - ((xd.toUInt32 >>> ((1 : Int32) &&& 31).toUInt32).toInt32)))]))
            refine own_retI X0 hx hlk hret (hb hby dd_jdk_33m47_78) (by decide) (by decide) ?_
            show Q_own_nlz Z iv h0 n0 (some (.int (((((31 : Int32) + (-8 : Int32)) + (-4 : Int32)) + (-2 : Int32)) - ((xd.toUInt32 >>> ((1 : Int32) &&& 31).toUInt32).toInt32)))) T0.heap _
            rw [e0]
            exact ⟨(((((31 : Int32) + (-8 : Int32)) + (-4 : Int32)) + (-2 : Int32)) - ((xd.toUInt32 >>> ((1 : Int32) &&& 31).toUInt32).toInt32)), rfl, N0, rfl, (by
              simp only [Int32.lt_iff_toInt_lt, show (0 : Int32).toInt = 0 from by decide, show (65536 : Int32).toInt = 65536 from by decide, show (256 : Int32).toInt = 256 from by decide, show (16 : Int32).toInt = 16 from by decide, show (4 : Int32).toInt = 4 from by decide] at hc1_1 hc22_2 hc37_3 hc51_7 hc63_9
              have z1 := c_isub ((((31 : Int32) + (-8 : Int32)) + (-4 : Int32)) + (-2 : Int32)) ((xd.toUInt32 >>> ((1 : Int32) &&& 31).toUInt32).toInt32)
              have z2 : ((((31 : Int32) + (-8 : Int32)) + (-4 : Int32)) + (-2 : Int32)).toInt = 17 := by decide
              have z3 := own_us1 g_xd
              have z4 := rng32 (((((31 : Int32) + (-8 : Int32)) + (-4 : Int32)) + (-2 : Int32)) - ((xd.toUInt32 >>> ((1 : Int32) &&& 31).toUInt32).toInt32))
              by_cases z : xd.toInt < 2
              · exact ⟨15, by omega, by decide, by omega⟩
              · exact ⟨16, by omega, by decide, by omega⟩)⟩
    · refine own_st (fun zt zk => XS.icmpNo X0.here hx rfl (hb hby dd_jdk_33m47_22) rfl (flt hc22_2).1 zk) ?_
      show own_G p e below s _ _ _ (T0.setTop (mkF m 25 #[.val (.int iv), .val (.int (31 : Int32))] []))
      refine own_st (fun zt zk => XS.iinc X0.here hx rfl (hb hby dd_jdk_33m47_25) rfl (l' := #[.val (.int iv), .val (.int ((31 : Int32) + (-16 : Int32)))]) rfl zk) ?_
      show own_G p e below s _ _ _ (T0.setTop (mkF m 28 #[.val (.int iv), .val (.int ((31 : Int32) + (-16 : Int32)))] []))
      refine own_st (fun zt zk => XS.iloadN X0.here hx rfl (hb hby dd_jdk_33m47_28) rfl zk) ?_
      show own_G p e below s _ _ _ (T0.setTop (mkF m 29 #[.val (.int iv), .val (.int ((31 : Int32) + (-16 : Int32)))] [(.int iv)]))
      refine own_st (fun zt zk => XS.bipush X0.here hx rfl (hb hby dd_jdk_33m47_29) zk) ?_
      show own_G p e below s _ _ _ (T0.setTop (mkF m 31 #[.val (.int iv), .val (.int ((31 : Int32) + (-16 : Int32)))] [(.int (16 : Int32)), (.int iv)]))
      refine own_st (fun zt zk => XS.iushr X0.here hx rfl (hb hby dd_jdk_33m47_31) rfl zk) ?_
      show own_G p e below s _ _ _ (T0.setTop (mkF m 32 #[.val (.int iv), .val (.int ((31 : Int32) + (-16 : Int32)))] [(.int ((iv.toUInt32 >>> ((16 : Int32) &&& 31).toUInt32).toInt32))]))
      refine own_st (fun zt zk => XS.istoreN X0.here hx rfl (hb hby dd_jdk_33m47_32) rfl (l' := #[.val (.int ((iv.toUInt32 >>> ((16 : Int32) &&& 31).toUInt32).toInt32)), .val (.int ((31 : Int32) + (-16 : Int32)))]) rfl zk) ?_
      show own_G p e below s _ _ _ (T0.setTop (mkF m 33 #[.val (.int ((iv.toUInt32 >>> ((16 : Int32) &&& 31).toUInt32).toInt32)), .val (.int ((31 : Int32) + (-16 : Int32)))] []))
      obtain ⟨xa, q_xa⟩ : ∃ z, z = ((iv.toUInt32 >>> ((16 : Int32) &&& 31).toUInt32).toInt32) := ⟨_, rfl⟩
      rw [← q_xa]
      show own_G p e below s _ _ _ (T0.setTop (mkF m 33 #[.val (.int xa), .val (.int ((31 : Int32) + (-16 : Int32)))] []))
      have h_xa : xa.toInt = iv.toInt / 65536 := by rw [q_xa]; exact own_us16 p0_
      have g_xa : 0 ≤ xa.toInt := by omega
      refine own_st (fun zt zk => XS.iloadN X0.here hx rfl (hb hby dd_jdk_33m47_33) rfl zk) ?_
      show own_G p e below s _ _ _ (T0.setTop (mkF m 34 #[.val (.int xa), .val (.int ((31 : Int32) + (-16 : Int32)))] [(.int xa)]))
      refine own_st (fun zt zk => XS.sipush X0.here hx rfl (hb hby dd_jdk_33m47_34) zk) ?_
      show own_G p e below s _ _ _ (T0.setTop (mkF m 37 #[.val (.int xa), .val (.int ((31 : Int32) + (-16 : Int32)))] [(.int (256 : Int32)), (.int xa)]))
      by_cases hc37_10 : xa < (256 : Int32)
      · refine own_st (fun zt zk => XS.icmpYes X0.here hx rfl (pc0 := 37) (pc' := 48) rfl (hb hby dd_jdk_33m47_37) rfl (tlt hc37_10).1 (by decide) (by decide) zk) ?_
        show own_G p e below s _ _ _ (T0.setTop (mkF m 48 #[.val (.int xa), .val (.int ((31 : Int32) + (-16 : Int32)))] []))
        refine own_st (fun zt zk => XS.iloadN X0.here hx rfl (hb hby dd_jdk_33m47_48) rfl zk) ?_
        show own_G p e below s _ _ _ (T0.setTop (mkF m 49 #[.val (.int xa), .val (.int ((31 : Int32) + (-16 : Int32)))] [(.int xa)]))
        refine own_st (fun zt zk => XS.bipush X0.here hx rfl (hb hby dd_jdk_33m47_49) zk) ?_
        show own_G p e below s _ _ _ (T0.setTop (mkF m 51 #[.val (.int xa), .val (.int ((31 : Int32) + (-16 : Int32)))] [(.int (16 : Int32)), (.int xa)]))
        by_cases hc51_11 : xa < (16 : Int32)
        · refine own_st (fun zt zk => XS.icmpYes X0.here hx rfl (pc0 := 51) (pc' := 61) rfl (hb hby dd_jdk_33m47_51) rfl (tlt hc51_11).1 (by decide) (by decide) zk) ?_
          show own_G p e below s _ _ _ (T0.setTop (mkF m 61 #[.val (.int xa), .val (.int ((31 : Int32) + (-16 : Int32)))] []))
          refine own_st (fun zt zk => XS.iloadN X0.here hx rfl (hb hby dd_jdk_33m47_61) rfl zk) ?_
          show own_G p e below s _ _ _ (T0.setTop (mkF m 62 #[.val (.int xa), .val (.int ((31 : Int32) + (-16 : Int32)))] [(.int xa)]))
          refine own_st (fun zt zk => XS.iconst X0.here hx rfl (hb hby dd_jdk_33m47_62) zk) ?_
          show own_G p e below s _ _ _ (T0.setTop (mkF m 63 #[.val (.int xa), .val (.int ((31 : Int32) + (-16 : Int32)))] [(.int (4 : Int32)), (.int xa)]))
          by_cases hc63_12 : xa < (4 : Int32)
          · refine own_st (fun zt zk => XS.icmpYes X0.here hx rfl (pc0 := 63) (pc' := 73) rfl (hb hby dd_jdk_33m47_63) rfl (tlt hc63_12).1 (by decide) (by decide) zk) ?_
            show own_G p e below s _ _ _ (T0.setTop (mkF m 73 #[.val (.int xa), .val (.int ((31 : Int32) + (-16 : Int32)))] []))
            refine own_st (fun zt zk => XS.iloadN X0.here hx rfl (hb hby dd_jdk_33m47_73) rfl zk) ?_
            show own_G p e below s _ _ _ (T0.setTop (mkF m 74 #[.val (.int xa), .val (.int ((31 : Int32) + (-16 : Int32)))] [(.int ((31 : Int32) + (-16 : Int32)))]))
            refine own_st (fun zt zk => XS.iloadN X0.here hx rfl (hb hby dd_jdk_33m47_74) rfl zk) ?_
            show own_G p e below s _ _ _ (T0.setTop (mkF m 75 #[.val (.int xa), .val (.int ((31 : Int32) + (-16 : Int32)))] [(.int xa), (.int ((31 : Int32) + (-16 : Int32)))]))
            refine own_st (fun zt zk => XS.iconst X0.here hx rfl (hb hby dd_jdk_33m47_75) zk) ?_
            show own_G p e below s _ _ _ (T0.setTop (mkF m 76 #[.val (.int xa), .val (.int ((31 : Int32) + (-16 : Int32)))] [(.int (1 : Int32)), (.int xa), (.int ((31 : Int32) + (-16 : Int32)))]))
            refine own_st (fun zt zk => XS.iushr X0.here hx rfl (hb hby dd_jdk_33m47_76) rfl zk) ?_
            show own_G p e below s _ _ _ (T0.setTop (mkF m 77 #[.val (.int xa), .val (.int ((31 : Int32) + (-16 : Int32)))] [(.int ((xa.toUInt32 >>> ((1 : Int32) &&& 31).toUInt32).toInt32)), (.int ((31 : Int32) + (-16 : Int32)))]))
            refine own_st (fun zt zk => XS.isub X0.here hx rfl (hb hby dd_jdk_33m47_77) rfl zk) ?_
            show own_G p e below s _ _ _ (T0.setTop (mkF m 78 #[.val (.int xa), .val (.int ((31 : Int32) + (-16 : Int32)))] [(.int (((31 : Int32) + (-16 : Int32)) - ((xa.toUInt32 >>> ((1 : Int32) &&& 31).toUInt32).toInt32)))]))
            refine own_retI X0 hx hlk hret (hb hby dd_jdk_33m47_78) (by decide) (by decide) ?_
            show Q_own_nlz Z iv h0 n0 (some (.int (((31 : Int32) + (-16 : Int32)) - ((xa.toUInt32 >>> ((1 : Int32) &&& 31).toUInt32).toInt32)))) T0.heap _
            rw [e0]
            exact ⟨(((31 : Int32) + (-16 : Int32)) - ((xa.toUInt32 >>> ((1 : Int32) &&& 31).toUInt32).toInt32)), rfl, N0, rfl, (by
              simp only [Int32.lt_iff_toInt_lt, show (0 : Int32).toInt = 0 from by decide, show (65536 : Int32).toInt = 65536 from by decide, show (256 : Int32).toInt = 256 from by decide, show (16 : Int32).toInt = 16 from by decide, show (4 : Int32).toInt = 4 from by decide] at hc1_1 hc22_2 hc37_10 hc51_11 hc63_12
              have z1 := c_isub ((31 : Int32) + (-16 : Int32)) ((xa.toUInt32 >>> ((1 : Int32) &&& 31).toUInt32).toInt32)
              have z2 : ((31 : Int32) + (-16 : Int32)).toInt = 15 := by decide
              have z3 := own_us1 g_xa
              have z4 := rng32 (((31 : Int32) + (-16 : Int32)) - ((xa.toUInt32 >>> ((1 : Int32) &&& 31).toUInt32).toInt32))
              by_cases z : xa.toInt < 2
              · exact ⟨17, by omega, by decide, by omega⟩
              · exact ⟨18, by omega, by decide, by omega⟩)⟩
          · refine own_st (fun zt zk => XS.icmpNo X0.here hx rfl (hb hby dd_jdk_33m47_63) rfl (flt hc63_12).1 zk) ?_
            show own_G p e below s _ _ _ (T0.setTop (mkF m 66 #[.val (.int xa), .val (.int ((31 : Int32) + (-16 : Int32)))] []))
            refine own_st (fun zt zk => XS.iinc X0.here hx rfl (hb hby dd_jdk_33m47_66) rfl (l' := #[.val (.int xa), .val (.int (((31 : Int32) + (-16 : Int32)) + (-2 : Int32)))]) rfl zk) ?_
            show own_G p e below s _ _ _ (T0.setTop (mkF m 69 #[.val (.int xa), .val (.int (((31 : Int32) + (-16 : Int32)) + (-2 : Int32)))] []))
            refine own_st (fun zt zk => XS.iloadN X0.here hx rfl (hb hby dd_jdk_33m47_69) rfl zk) ?_
            show own_G p e below s _ _ _ (T0.setTop (mkF m 70 #[.val (.int xa), .val (.int (((31 : Int32) + (-16 : Int32)) + (-2 : Int32)))] [(.int xa)]))
            refine own_st (fun zt zk => XS.iconst X0.here hx rfl (hb hby dd_jdk_33m47_70) zk) ?_
            show own_G p e below s _ _ _ (T0.setTop (mkF m 71 #[.val (.int xa), .val (.int (((31 : Int32) + (-16 : Int32)) + (-2 : Int32)))] [(.int (2 : Int32)), (.int xa)]))
            refine own_st (fun zt zk => XS.iushr X0.here hx rfl (hb hby dd_jdk_33m47_71) rfl zk) ?_
            show own_G p e below s _ _ _ (T0.setTop (mkF m 72 #[.val (.int xa), .val (.int (((31 : Int32) + (-16 : Int32)) + (-2 : Int32)))] [(.int ((xa.toUInt32 >>> ((2 : Int32) &&& 31).toUInt32).toInt32))]))
            refine own_st (fun zt zk => XS.istoreN X0.here hx rfl (hb hby dd_jdk_33m47_72) rfl (l' := #[.val (.int ((xa.toUInt32 >>> ((2 : Int32) &&& 31).toUInt32).toInt32)), .val (.int (((31 : Int32) + (-16 : Int32)) + (-2 : Int32)))]) rfl zk) ?_
            show own_G p e below s _ _ _ (T0.setTop (mkF m 73 #[.val (.int ((xa.toUInt32 >>> ((2 : Int32) &&& 31).toUInt32).toInt32)), .val (.int (((31 : Int32) + (-16 : Int32)) + (-2 : Int32)))] []))
            obtain ⟨xd, q_xd⟩ : ∃ z, z = ((xa.toUInt32 >>> ((2 : Int32) &&& 31).toUInt32).toInt32) := ⟨_, rfl⟩
            rw [← q_xd]
            show own_G p e below s _ _ _ (T0.setTop (mkF m 73 #[.val (.int xd), .val (.int (((31 : Int32) + (-16 : Int32)) + (-2 : Int32)))] []))
            have h_xd : xd.toInt = xa.toInt / 4 := by rw [q_xd]; exact own_us2 g_xa
            have g_xd : 0 ≤ xd.toInt := by omega
            refine own_st (fun zt zk => XS.iloadN X0.here hx rfl (hb hby dd_jdk_33m47_73) rfl zk) ?_
            show own_G p e below s _ _ _ (T0.setTop (mkF m 74 #[.val (.int xd), .val (.int (((31 : Int32) + (-16 : Int32)) + (-2 : Int32)))] [(.int (((31 : Int32) + (-16 : Int32)) + (-2 : Int32)))]))
            refine own_st (fun zt zk => XS.iloadN X0.here hx rfl (hb hby dd_jdk_33m47_74) rfl zk) ?_
            show own_G p e below s _ _ _ (T0.setTop (mkF m 75 #[.val (.int xd), .val (.int (((31 : Int32) + (-16 : Int32)) + (-2 : Int32)))] [(.int xd), (.int (((31 : Int32) + (-16 : Int32)) + (-2 : Int32)))]))
            refine own_st (fun zt zk => XS.iconst X0.here hx rfl (hb hby dd_jdk_33m47_75) zk) ?_
            show own_G p e below s _ _ _ (T0.setTop (mkF m 76 #[.val (.int xd), .val (.int (((31 : Int32) + (-16 : Int32)) + (-2 : Int32)))] [(.int (1 : Int32)), (.int xd), (.int (((31 : Int32) + (-16 : Int32)) + (-2 : Int32)))]))
            refine own_st (fun zt zk => XS.iushr X0.here hx rfl (hb hby dd_jdk_33m47_76) rfl zk) ?_
            show own_G p e below s _ _ _ (T0.setTop (mkF m 77 #[.val (.int xd), .val (.int (((31 : Int32) + (-16 : Int32)) + (-2 : Int32)))] [(.int ((xd.toUInt32 >>> ((1 : Int32) &&& 31).toUInt32).toInt32)), (.int (((31 : Int32) + (-16 : Int32)) + (-2 : Int32)))]))
            refine own_st (fun zt zk => XS.isub X0.here hx rfl (hb hby dd_jdk_33m47_77) rfl zk) ?_
            show own_G p e below s _ _ _ (T0.setTop (mkF m 78 #[.val (.int xd), .val (.int (((31 : Int32) + (-16 : Int32)) + (-2 : Int32)))] [(.int ((((31 : Int32) + (-16 : Int32)) + (-2 : Int32)) - ((xd.toUInt32 >>> ((1 : Int32) &&& 31).toUInt32).toInt32)))]))
            refine own_retI X0 hx hlk hret (hb hby dd_jdk_33m47_78) (by decide) (by decide) ?_
            show Q_own_nlz Z iv h0 n0 (some (.int ((((31 : Int32) + (-16 : Int32)) + (-2 : Int32)) - ((xd.toUInt32 >>> ((1 : Int32) &&& 31).toUInt32).toInt32)))) T0.heap _
            rw [e0]
            exact ⟨((((31 : Int32) + (-16 : Int32)) + (-2 : Int32)) - ((xd.toUInt32 >>> ((1 : Int32) &&& 31).toUInt32).toInt32)), rfl, N0, rfl, (by
              simp only [Int32.lt_iff_toInt_lt, show (0 : Int32).toInt = 0 from by decide, show (65536 : Int32).toInt = 65536 from by decide, show (256 : Int32).toInt = 256 from by decide, show (16 : Int32).toInt = 16 from by decide, show (4 : Int32).toInt = 4 from by decide] at hc1_1 hc22_2 hc37_10 hc51_11 hc63_12
              have z1 := c_isub (((31 : Int32) + (-16 : Int32)) + (-2 : Int32)) ((xd.toUInt32 >>> ((1 : Int32) &&& 31).toUInt32).toInt32)
              have z2 : (((31 : Int32) + (-16 : Int32)) + (-2 : Int32)).toInt = 13 := by decide
              have z3 := own_us1 g_xd
              have z4 := rng32 ((((31 : Int32) + (-16 : Int32)) + (-2 : Int32)) - ((xd.toUInt32 >>> ((1 : Int32) &&& 31).toUInt32).toInt32))
              by_cases z : xd.toInt < 2
              · exact ⟨19, by omega, by decide, by omega⟩
              · exact ⟨20, by omega, by decide, by omega⟩)⟩
        · refine own_st (fun zt zk => XS.icmpNo X0.here hx rfl (hb hby dd_jdk_33m47_51) rfl (flt hc51_11).1 zk) ?_
          show own_G p e below s _ _ _ (T0.setTop (mkF m 54 #[.val (.int xa), .val (.int ((31 : Int32) + (-16 : Int32)))] []))
          refine own_st (fun zt zk => XS.iinc X0.here hx rfl (hb hby dd_jdk_33m47_54) rfl (l' := #[.val (.int xa), .val (.int (((31 : Int32) + (-16 : Int32)) + (-4 : Int32)))]) rfl zk) ?_
          show own_G p e below s _ _ _ (T0.setTop (mkF m 57 #[.val (.int xa), .val (.int (((31 : Int32) + (-16 : Int32)) + (-4 : Int32)))] []))
          refine own_st (fun zt zk => XS.iloadN X0.here hx rfl (hb hby dd_jdk_33m47_57) rfl zk) ?_
          show own_G p e below s _ _ _ (T0.setTop (mkF m 58 #[.val (.int xa), .val (.int (((31 : Int32) + (-16 : Int32)) + (-4 : Int32)))] [(.int xa)]))
          refine own_st (fun zt zk => XS.iconst X0.here hx rfl (hb hby dd_jdk_33m47_58) zk) ?_
          show own_G p e below s _ _ _ (T0.setTop (mkF m 59 #[.val (.int xa), .val (.int (((31 : Int32) + (-16 : Int32)) + (-4 : Int32)))] [(.int (4 : Int32)), (.int xa)]))
          refine own_st (fun zt zk => XS.iushr X0.here hx rfl (hb hby dd_jdk_33m47_59) rfl zk) ?_
          show own_G p e below s _ _ _ (T0.setTop (mkF m 60 #[.val (.int xa), .val (.int (((31 : Int32) + (-16 : Int32)) + (-4 : Int32)))] [(.int ((xa.toUInt32 >>> ((4 : Int32) &&& 31).toUInt32).toInt32))]))
          refine own_st (fun zt zk => XS.istoreN X0.here hx rfl (hb hby dd_jdk_33m47_60) rfl (l' := #[.val (.int ((xa.toUInt32 >>> ((4 : Int32) &&& 31).toUInt32).toInt32)), .val (.int (((31 : Int32) + (-16 : Int32)) + (-4 : Int32)))]) rfl zk) ?_
          show own_G p e below s _ _ _ (T0.setTop (mkF m 61 #[.val (.int ((xa.toUInt32 >>> ((4 : Int32) &&& 31).toUInt32).toInt32)), .val (.int (((31 : Int32) + (-16 : Int32)) + (-4 : Int32)))] []))
          obtain ⟨xc, q_xc⟩ : ∃ z, z = ((xa.toUInt32 >>> ((4 : Int32) &&& 31).toUInt32).toInt32) := ⟨_, rfl⟩
          rw [← q_xc]
          show own_G p e below s _ _ _ (T0.setTop (mkF m 61 #[.val (.int xc), .val (.int (((31 : Int32) + (-16 : Int32)) + (-4 : Int32)))] []))
          have h_xc : xc.toInt = xa.toInt / 16 := by rw [q_xc]; exact own_us4 g_xa
          have g_xc : 0 ≤ xc.toInt := by omega
          refine own_st (fun zt zk => XS.iloadN X0.here hx rfl (hb hby dd_jdk_33m47_61) rfl zk) ?_
          show own_G p e below s _ _ _ (T0.setTop (mkF m 62 #[.val (.int xc), .val (.int (((31 : Int32) + (-16 : Int32)) + (-4 : Int32)))] [(.int xc)]))
          refine own_st (fun zt zk => XS.iconst X0.here hx rfl (hb hby dd_jdk_33m47_62) zk) ?_
          show own_G p e below s _ _ _ (T0.setTop (mkF m 63 #[.val (.int xc), .val (.int (((31 : Int32) + (-16 : Int32)) + (-4 : Int32)))] [(.int (4 : Int32)), (.int xc)]))
          by_cases hc63_13 : xc < (4 : Int32)
          · refine own_st (fun zt zk => XS.icmpYes X0.here hx rfl (pc0 := 63) (pc' := 73) rfl (hb hby dd_jdk_33m47_63) rfl (tlt hc63_13).1 (by decide) (by decide) zk) ?_
            show own_G p e below s _ _ _ (T0.setTop (mkF m 73 #[.val (.int xc), .val (.int (((31 : Int32) + (-16 : Int32)) + (-4 : Int32)))] []))
            refine own_st (fun zt zk => XS.iloadN X0.here hx rfl (hb hby dd_jdk_33m47_73) rfl zk) ?_
            show own_G p e below s _ _ _ (T0.setTop (mkF m 74 #[.val (.int xc), .val (.int (((31 : Int32) + (-16 : Int32)) + (-4 : Int32)))] [(.int (((31 : Int32) + (-16 : Int32)) + (-4 : Int32)))]))
            refine own_st (fun zt zk => XS.iloadN X0.here hx rfl (hb hby dd_jdk_33m47_74) rfl zk) ?_
            show own_G p e below s _ _ _ (T0.setTop (mkF m 75 #[.val (.int xc), .val (.int (((31 : Int32) + (-16 : Int32)) + (-4 : Int32)))] [(.int xc), (.int (((31 : Int32) + (-16 : Int32)) + (-4 : Int32)))]))
            refine own_st (fun zt zk => XS.iconst X0.here hx rfl (hb hby dd_jdk_33m47_75) zk) ?_
            show own_G p e below s _ _ _ (T0.setTop (mkF m 76 #[.val (.int xc), .val (.int (((31 : Int32) + (-16 : Int32)) + (-4 : Int32)))] [(.int (1 : Int32)), (.int xc), (.int (((31 : Int32) + (-16 : Int32)) + (-4 : Int32)))]))
            refine own_st (fun zt zk => XS.iushr X0.here hx rfl (hb hby dd_jdk_33m47_76) rfl zk) ?_
            show own_G p e below s _ _ _ (T0.setTop (mkF m 77 #[.val (.int xc), .val (.int (((31 : Int32) + (-16 : Int32)) + (-4 : Int32)))] [(.int ((xc.toUInt32 >>> ((1 : Int32) &&& 31).toUInt32).toInt32)), (.int (((31 : Int32) + (-16 : Int32)) + (-4 : Int32)))]))
            refine own_st (fun zt zk => XS.isub X0.here hx rfl (hb hby dd_jdk_33m47_77) rfl zk) ?_
            show own_G p e below s _ _ _ (T0.setTop (mkF m 78 #[.val (.int xc), .val (.int (((31 : Int32) + (-16 : Int32)) + (-4 : Int32)))] [(.int ((((31 : Int32) + (-16 : Int32)) + (-4 : Int32)) - ((xc.toUInt32 >>> ((1 : Int32) &&& 31).toUInt32).toInt32)))]))
            refine own_retI X0 hx hlk hret (hb hby dd_jdk_33m47_78) (by decide) (by decide) ?_
            show Q_own_nlz Z iv h0 n0 (some (.int ((((31 : Int32) + (-16 : Int32)) + (-4 : Int32)) - ((xc.toUInt32 >>> ((1 : Int32) &&& 31).toUInt32).toInt32)))) T0.heap _
            rw [e0]
            exact ⟨((((31 : Int32) + (-16 : Int32)) + (-4 : Int32)) - ((xc.toUInt32 >>> ((1 : Int32) &&& 31).toUInt32).toInt32)), rfl, N0, rfl, (by
              simp only [Int32.lt_iff_toInt_lt, show (0 : Int32).toInt = 0 from by decide, show (65536 : Int32).toInt = 65536 from by decide, show (256 : Int32).toInt = 256 from by decide, show (16 : Int32).toInt = 16 from by decide, show (4 : Int32).toInt = 4 from by decide] at hc1_1 hc22_2 hc37_10 hc51_11 hc63_13
              have z1 := c_isub (((31 : Int32) + (-16 : Int32)) + (-4 : Int32)) ((xc.toUInt32 >>> ((1 : Int32) &&& 31).toUInt32).toInt32)
              have z2 : (((31 : Int32) + (-16 : Int32)) + (-4 : Int32)).toInt = 11 := by decide
              have z3 := own_us1 g_xc
              have z4 := rng32 ((((31 : Int32) + (-16 : Int32)) + (-4 : Int32)) - ((xc.toUInt32 >>> ((1 : Int32) &&& 31).toUInt32).toInt32))
              by_cases z : xc.toInt < 2
              · exact ⟨21, by omega, by decide, by omega⟩
              · exact ⟨22, by omega, by decide, by omega⟩)⟩
          · refine own_st (fun zt zk => XS.icmpNo X0.here hx rfl (hb hby dd_jdk_33m47_63) rfl (flt hc63_13).1 zk) ?_
            show own_G p e below s _ _ _ (T0.setTop (mkF m 66 #[.val (.int xc), .val (.int (((31 : Int32) + (-16 : Int32)) + (-4 : Int32)))] []))
            refine own_st (fun zt zk => XS.iinc X0.here hx rfl (hb hby dd_jdk_33m47_66) rfl (l' := #[.val (.int xc), .val (.int ((((31 : Int32) + (-16 : Int32)) + (-4 : Int32)) + (-2 : Int32)))]) rfl zk) ?_
            show own_G p e below s _ _ _ (T0.setTop (mkF m 69 #[.val (.int xc), .val (.int ((((31 : Int32) + (-16 : Int32)) + (-4 : Int32)) + (-2 : Int32)))] []))
            refine own_st (fun zt zk => XS.iloadN X0.here hx rfl (hb hby dd_jdk_33m47_69) rfl zk) ?_
            show own_G p e below s _ _ _ (T0.setTop (mkF m 70 #[.val (.int xc), .val (.int ((((31 : Int32) + (-16 : Int32)) + (-4 : Int32)) + (-2 : Int32)))] [(.int xc)]))
            refine own_st (fun zt zk => XS.iconst X0.here hx rfl (hb hby dd_jdk_33m47_70) zk) ?_
            show own_G p e below s _ _ _ (T0.setTop (mkF m 71 #[.val (.int xc), .val (.int ((((31 : Int32) + (-16 : Int32)) + (-4 : Int32)) + (-2 : Int32)))] [(.int (2 : Int32)), (.int xc)]))
            refine own_st (fun zt zk => XS.iushr X0.here hx rfl (hb hby dd_jdk_33m47_71) rfl zk) ?_
            show own_G p e below s _ _ _ (T0.setTop (mkF m 72 #[.val (.int xc), .val (.int ((((31 : Int32) + (-16 : Int32)) + (-4 : Int32)) + (-2 : Int32)))] [(.int ((xc.toUInt32 >>> ((2 : Int32) &&& 31).toUInt32).toInt32))]))
            refine own_st (fun zt zk => XS.istoreN X0.here hx rfl (hb hby dd_jdk_33m47_72) rfl (l' := #[.val (.int ((xc.toUInt32 >>> ((2 : Int32) &&& 31).toUInt32).toInt32)), .val (.int ((((31 : Int32) + (-16 : Int32)) + (-4 : Int32)) + (-2 : Int32)))]) rfl zk) ?_
            show own_G p e below s _ _ _ (T0.setTop (mkF m 73 #[.val (.int ((xc.toUInt32 >>> ((2 : Int32) &&& 31).toUInt32).toInt32)), .val (.int ((((31 : Int32) + (-16 : Int32)) + (-4 : Int32)) + (-2 : Int32)))] []))
            obtain ⟨xd, q_xd⟩ : ∃ z, z = ((xc.toUInt32 >>> ((2 : Int32) &&& 31).toUInt32).toInt32) := ⟨_, rfl⟩
            rw [← q_xd]
            show own_G p e below s _ _ _ (T0.setTop (mkF m 73 #[.val (.int xd), .val (.int ((((31 : Int32) + (-16 : Int32)) + (-4 : Int32)) + (-2 : Int32)))] []))
            have h_xd : xd.toInt = xc.toInt / 4 := by rw [q_xd]; exact own_us2 g_xc
            have g_xd : 0 ≤ xd.toInt := by omega
            refine own_st (fun zt zk => XS.iloadN X0.here hx rfl (hb hby dd_jdk_33m47_73) rfl zk) ?_
            show own_G p e below s _ _ _ (T0.setTop (mkF m 74 #[.val (.int xd), .val (.int ((((31 : Int32) + (-16 : Int32)) + (-4 : Int32)) + (-2 : Int32)))] [(.int ((((31 : Int32) + (-16 : Int32)) + (-4 : Int32)) + (-2 : Int32)))]))
            refine own_st (fun zt zk => XS.iloadN X0.here hx rfl (hb hby dd_jdk_33m47_74) rfl zk) ?_
            show own_G p e below s _ _ _ (T0.setTop (mkF m 75 #[.val (.int xd), .val (.int ((((31 : Int32) + (-16 : Int32)) + (-4 : Int32)) + (-2 : Int32)))] [(.int xd), (.int ((((31 : Int32) + (-16 : Int32)) + (-4 : Int32)) + (-2 : Int32)))]))
            refine own_st (fun zt zk => XS.iconst X0.here hx rfl (hb hby dd_jdk_33m47_75) zk) ?_
            show own_G p e below s _ _ _ (T0.setTop (mkF m 76 #[.val (.int xd), .val (.int ((((31 : Int32) + (-16 : Int32)) + (-4 : Int32)) + (-2 : Int32)))] [(.int (1 : Int32)), (.int xd), (.int ((((31 : Int32) + (-16 : Int32)) + (-4 : Int32)) + (-2 : Int32)))]))
            refine own_st (fun zt zk => XS.iushr X0.here hx rfl (hb hby dd_jdk_33m47_76) rfl zk) ?_
            show own_G p e below s _ _ _ (T0.setTop (mkF m 77 #[.val (.int xd), .val (.int ((((31 : Int32) + (-16 : Int32)) + (-4 : Int32)) + (-2 : Int32)))] [(.int ((xd.toUInt32 >>> ((1 : Int32) &&& 31).toUInt32).toInt32)), (.int ((((31 : Int32) + (-16 : Int32)) + (-4 : Int32)) + (-2 : Int32)))]))
            refine own_st (fun zt zk => XS.isub X0.here hx rfl (hb hby dd_jdk_33m47_77) rfl zk) ?_
            show own_G p e below s _ _ _ (T0.setTop (mkF m 78 #[.val (.int xd), .val (.int ((((31 : Int32) + (-16 : Int32)) + (-4 : Int32)) + (-2 : Int32)))] [(.int (((((31 : Int32) + (-16 : Int32)) + (-4 : Int32)) + (-2 : Int32)) - ((xd.toUInt32 >>> ((1 : Int32) &&& 31).toUInt32).toInt32)))]))
            refine own_retI X0 hx hlk hret (hb hby dd_jdk_33m47_78) (by decide) (by decide) ?_
            show Q_own_nlz Z iv h0 n0 (some (.int (((((31 : Int32) + (-16 : Int32)) + (-4 : Int32)) + (-2 : Int32)) - ((xd.toUInt32 >>> ((1 : Int32) &&& 31).toUInt32).toInt32)))) T0.heap _
            rw [e0]
            exact ⟨(((((31 : Int32) + (-16 : Int32)) + (-4 : Int32)) + (-2 : Int32)) - ((xd.toUInt32 >>> ((1 : Int32) &&& 31).toUInt32).toInt32)), rfl, N0, rfl, (by
              simp only [Int32.lt_iff_toInt_lt, show (0 : Int32).toInt = 0 from by decide, show (65536 : Int32).toInt = 65536 from by decide, show (256 : Int32).toInt = 256 from by decide, show (16 : Int32).toInt = 16 from by decide, show (4 : Int32).toInt = 4 from by decide] at hc1_1 hc22_2 hc37_10 hc51_11 hc63_13
              have z1 := c_isub ((((31 : Int32) + (-16 : Int32)) + (-4 : Int32)) + (-2 : Int32)) ((xd.toUInt32 >>> ((1 : Int32) &&& 31).toUInt32).toInt32)
              have z2 : ((((31 : Int32) + (-16 : Int32)) + (-4 : Int32)) + (-2 : Int32)).toInt = 9 := by decide
              have z3 := own_us1 g_xd
              have z4 := rng32 (((((31 : Int32) + (-16 : Int32)) + (-4 : Int32)) + (-2 : Int32)) - ((xd.toUInt32 >>> ((1 : Int32) &&& 31).toUInt32).toInt32))
              by_cases z : xd.toInt < 2
              · exact ⟨23, by omega, by decide, by omega⟩
              · exact ⟨24, by omega, by decide, by omega⟩)⟩
      · refine own_st (fun zt zk => XS.icmpNo X0.here hx rfl (hb hby dd_jdk_33m47_37) rfl (flt hc37_10).1 zk) ?_
        show own_G p e below s _ _ _ (T0.setTop (mkF m 40 #[.val (.int xa), .val (.int ((31 : Int32) + (-16 : Int32)))] []))
        refine own_st (fun zt zk => XS.iinc X0.here hx rfl (hb hby dd_jdk_33m47_40) rfl (l' := #[.val (.int xa), .val (.int (((31 : Int32) + (-16 : Int32)) + (-8 : Int32)))]) rfl zk) ?_
        show own_G p e below s _ _ _ (T0.setTop (mkF m 43 #[.val (.int xa), .val (.int (((31 : Int32) + (-16 : Int32)) + (-8 : Int32)))] []))
        refine own_st (fun zt zk => XS.iloadN X0.here hx rfl (hb hby dd_jdk_33m47_43) rfl zk) ?_
        show own_G p e below s _ _ _ (T0.setTop (mkF m 44 #[.val (.int xa), .val (.int (((31 : Int32) + (-16 : Int32)) + (-8 : Int32)))] [(.int xa)]))
        refine own_st (fun zt zk => XS.bipush X0.here hx rfl (hb hby dd_jdk_33m47_44) zk) ?_
        show own_G p e below s _ _ _ (T0.setTop (mkF m 46 #[.val (.int xa), .val (.int (((31 : Int32) + (-16 : Int32)) + (-8 : Int32)))] [(.int (8 : Int32)), (.int xa)]))
        refine own_st (fun zt zk => XS.iushr X0.here hx rfl (hb hby dd_jdk_33m47_46) rfl zk) ?_
        show own_G p e below s _ _ _ (T0.setTop (mkF m 47 #[.val (.int xa), .val (.int (((31 : Int32) + (-16 : Int32)) + (-8 : Int32)))] [(.int ((xa.toUInt32 >>> ((8 : Int32) &&& 31).toUInt32).toInt32))]))
        refine own_st (fun zt zk => XS.istoreN X0.here hx rfl (hb hby dd_jdk_33m47_47) rfl (l' := #[.val (.int ((xa.toUInt32 >>> ((8 : Int32) &&& 31).toUInt32).toInt32)), .val (.int (((31 : Int32) + (-16 : Int32)) + (-8 : Int32)))]) rfl zk) ?_
        show own_G p e below s _ _ _ (T0.setTop (mkF m 48 #[.val (.int ((xa.toUInt32 >>> ((8 : Int32) &&& 31).toUInt32).toInt32)), .val (.int (((31 : Int32) + (-16 : Int32)) + (-8 : Int32)))] []))
        obtain ⟨xb, q_xb⟩ : ∃ z, z = ((xa.toUInt32 >>> ((8 : Int32) &&& 31).toUInt32).toInt32) := ⟨_, rfl⟩
        rw [← q_xb]
        show own_G p e below s _ _ _ (T0.setTop (mkF m 48 #[.val (.int xb), .val (.int (((31 : Int32) + (-16 : Int32)) + (-8 : Int32)))] []))
        have h_xb : xb.toInt = xa.toInt / 256 := by rw [q_xb]; exact own_us8 g_xa
        have g_xb : 0 ≤ xb.toInt := by omega
        refine own_st (fun zt zk => XS.iloadN X0.here hx rfl (hb hby dd_jdk_33m47_48) rfl zk) ?_
        show own_G p e below s _ _ _ (T0.setTop (mkF m 49 #[.val (.int xb), .val (.int (((31 : Int32) + (-16 : Int32)) + (-8 : Int32)))] [(.int xb)]))
        refine own_st (fun zt zk => XS.bipush X0.here hx rfl (hb hby dd_jdk_33m47_49) zk) ?_
        show own_G p e below s _ _ _ (T0.setTop (mkF m 51 #[.val (.int xb), .val (.int (((31 : Int32) + (-16 : Int32)) + (-8 : Int32)))] [(.int (16 : Int32)), (.int xb)]))
        by_cases hc51_14 : xb < (16 : Int32)
        · refine own_st (fun zt zk => XS.icmpYes X0.here hx rfl (pc0 := 51) (pc' := 61) rfl (hb hby dd_jdk_33m47_51) rfl (tlt hc51_14).1 (by decide) (by decide) zk) ?_
          show own_G p e below s _ _ _ (T0.setTop (mkF m 61 #[.val (.int xb), .val (.int (((31 : Int32) + (-16 : Int32)) + (-8 : Int32)))] []))
          refine own_st (fun zt zk => XS.iloadN X0.here hx rfl (hb hby dd_jdk_33m47_61) rfl zk) ?_
          show own_G p e below s _ _ _ (T0.setTop (mkF m 62 #[.val (.int xb), .val (.int (((31 : Int32) + (-16 : Int32)) + (-8 : Int32)))] [(.int xb)]))
          refine own_st (fun zt zk => XS.iconst X0.here hx rfl (hb hby dd_jdk_33m47_62) zk) ?_
          show own_G p e below s _ _ _ (T0.setTop (mkF m 63 #[.val (.int xb), .val (.int (((31 : Int32) + (-16 : Int32)) + (-8 : Int32)))] [(.int (4 : Int32)), (.int xb)]))
          by_cases hc63_15 : xb < (4 : Int32)
          · refine own_st (fun zt zk => XS.icmpYes X0.here hx rfl (pc0 := 63) (pc' := 73) rfl (hb hby dd_jdk_33m47_63) rfl (tlt hc63_15).1 (by decide) (by decide) zk) ?_
            show own_G p e below s _ _ _ (T0.setTop (mkF m 73 #[.val (.int xb), .val (.int (((31 : Int32) + (-16 : Int32)) + (-8 : Int32)))] []))
            refine own_st (fun zt zk => XS.iloadN X0.here hx rfl (hb hby dd_jdk_33m47_73) rfl zk) ?_
            show own_G p e below s _ _ _ (T0.setTop (mkF m 74 #[.val (.int xb), .val (.int (((31 : Int32) + (-16 : Int32)) + (-8 : Int32)))] [(.int (((31 : Int32) + (-16 : Int32)) + (-8 : Int32)))]))
            refine own_st (fun zt zk => XS.iloadN X0.here hx rfl (hb hby dd_jdk_33m47_74) rfl zk) ?_
            show own_G p e below s _ _ _ (T0.setTop (mkF m 75 #[.val (.int xb), .val (.int (((31 : Int32) + (-16 : Int32)) + (-8 : Int32)))] [(.int xb), (.int (((31 : Int32) + (-16 : Int32)) + (-8 : Int32)))]))
            refine own_st (fun zt zk => XS.iconst X0.here hx rfl (hb hby dd_jdk_33m47_75) zk) ?_
            show own_G p e below s _ _ _ (T0.setTop (mkF m 76 #[.val (.int xb), .val (.int (((31 : Int32) + (-16 : Int32)) + (-8 : Int32)))] [(.int (1 : Int32)), (.int xb), (.int (((31 : Int32) + (-16 : Int32)) + (-8 : Int32)))]))
            refine own_st (fun zt zk => XS.iushr X0.here hx rfl (hb hby dd_jdk_33m47_76) rfl zk) ?_
            show own_G p e below s _ _ _ (T0.setTop (mkF m 77 #[.val (.int xb), .val (.int (((31 : Int32) + (-16 : Int32)) + (-8 : Int32)))] [(.int ((xb.toUInt32 >>> ((1 : Int32) &&& 31).toUInt32).toInt32)), (.int (((31 : Int32) + (-16 : Int32)) + (-8 : Int32)))]))
            refine own_st (fun zt zk => XS.isub X0.here hx rfl (hb hby dd_jdk_33m47_77) rfl zk) ?_
            show own_G p e below s _ _ _ (T0.setTop (mkF m 78 #[.val (.int xb), .val (.int (((31 : Int32) + (-16 : Int32)) + (-8 : Int32)))] [(.int ((((31 : Int32) + (-16 : Int32)) + (-8 : Int32)) - ((xb.toUInt32 >>> ((1 : Int32) &&& 31).toUInt32).toInt32)))]))
            refine own_retI X0 hx hlk hret (hb hby dd_jdk_33m47_78) (by decide) (by decide) ?_
            show Q_own_nlz Z iv h0 n0 (some (.int ((((31 : Int32) + (-16 : Int32)) + (-8 : Int32)) - ((xb.toUInt32 >>> ((1 : Int32) &&& 31).toUInt32).toInt32)))) T0.heap _
            rw [e0]
            exact ⟨((((31 : Int32) + (-16 : Int32)) + (-8 : Int32)) - ((xb.toUInt32 >>> ((1 : Int32) &&& 31).toUInt32).toInt32)), rfl, N0, rfl, (by
              simp only [Int32.lt_iff_toInt_lt, show (0 : Int32).toInt = 0 from by decide, show (65536 : Int32).toInt = 65536 from by decide, show (256 : Int32).toInt = 256 from by decide, show (16 : Int32).toInt = 16 from by decide, show (4 : Int32).toInt = 4 from by decide] at hc1_1 hc22_2 hc37_10 hc51_14 hc63_15
              have z1 := c_isub (((31 : Int32) + (-16 : Int32)) + (-8 : Int32)) ((xb.toUInt32 >>> ((1 : Int32) &&& 31).toUInt32).toInt32)
              have z2 : (((31 : Int32) + (-16 : Int32)) + (-8 : Int32)).toInt = 7 := by decide
              have z3 := own_us1 g_xb
              have z4 := rng32 ((((31 : Int32) + (-16 : Int32)) + (-8 : Int32)) - ((xb.toUInt32 >>> ((1 : Int32) &&& 31).toUInt32).toInt32))
              by_cases z : xb.toInt < 2
              · exact ⟨25, by omega, by decide, by omega⟩
              · exact ⟨26, by omega, by decide, by omega⟩)⟩
          · refine own_st (fun zt zk => XS.icmpNo X0.here hx rfl (hb hby dd_jdk_33m47_63) rfl (flt hc63_15).1 zk) ?_
            show own_G p e below s _ _ _ (T0.setTop (mkF m 66 #[.val (.int xb), .val (.int (((31 : Int32) + (-16 : Int32)) + (-8 : Int32)))] []))
            refine own_st (fun zt zk => XS.iinc X0.here hx rfl (hb hby dd_jdk_33m47_66) rfl (l' := #[.val (.int xb), .val (.int ((((31 : Int32) + (-16 : Int32)) + (-8 : Int32)) + (-2 : Int32)))]) rfl zk) ?_
            show own_G p e below s _ _ _ (T0.setTop (mkF m 69 #[.val (.int xb), .val (.int ((((31 : Int32) + (-16 : Int32)) + (-8 : Int32)) + (-2 : Int32)))] []))
            refine own_st (fun zt zk => XS.iloadN X0.here hx rfl (hb hby dd_jdk_33m47_69) rfl zk) ?_
            show own_G p e below s _ _ _ (T0.setTop (mkF m 70 #[.val (.int xb), .val (.int ((((31 : Int32) + (-16 : Int32)) + (-8 : Int32)) + (-2 : Int32)))] [(.int xb)]))
            refine own_st (fun zt zk => XS.iconst X0.here hx rfl (hb hby dd_jdk_33m47_70) zk) ?_
            show own_G p e below s _ _ _ (T0.setTop (mkF m 71 #[.val (.int xb), .val (.int ((((31 : Int32) + (-16 : Int32)) + (-8 : Int32)) + (-2 : Int32)))] [(.int (2 : Int32)), (.int xb)]))
            refine own_st (fun zt zk => XS.iushr X0.here hx rfl (hb hby dd_jdk_33m47_71) rfl zk) ?_
            show own_G p e below s _ _ _ (T0.setTop (mkF m 72 #[.val (.int xb), .val (.int ((((31 : Int32) + (-16 : Int32)) + (-8 : Int32)) + (-2 : Int32)))] [(.int ((xb.toUInt32 >>> ((2 : Int32) &&& 31).toUInt32).toInt32))]))
            refine own_st (fun zt zk => XS.istoreN X0.here hx rfl (hb hby dd_jdk_33m47_72) rfl (l' := #[.val (.int ((xb.toUInt32 >>> ((2 : Int32) &&& 31).toUInt32).toInt32)), .val (.int ((((31 : Int32) + (-16 : Int32)) + (-8 : Int32)) + (-2 : Int32)))]) rfl zk) ?_
            show own_G p e below s _ _ _ (T0.setTop (mkF m 73 #[.val (.int ((xb.toUInt32 >>> ((2 : Int32) &&& 31).toUInt32).toInt32)), .val (.int ((((31 : Int32) + (-16 : Int32)) + (-8 : Int32)) + (-2 : Int32)))] []))
            obtain ⟨xd, q_xd⟩ : ∃ z, z = ((xb.toUInt32 >>> ((2 : Int32) &&& 31).toUInt32).toInt32) := ⟨_, rfl⟩
            rw [← q_xd]
            show own_G p e below s _ _ _ (T0.setTop (mkF m 73 #[.val (.int xd), .val (.int ((((31 : Int32) + (-16 : Int32)) + (-8 : Int32)) + (-2 : Int32)))] []))
            have h_xd : xd.toInt = xb.toInt / 4 := by rw [q_xd]; exact own_us2 g_xb
            have g_xd : 0 ≤ xd.toInt := by omega
            refine own_st (fun zt zk => XS.iloadN X0.here hx rfl (hb hby dd_jdk_33m47_73) rfl zk) ?_
            show own_G p e below s _ _ _ (T0.setTop (mkF m 74 #[.val (.int xd), .val (.int ((((31 : Int32) + (-16 : Int32)) + (-8 : Int32)) + (-2 : Int32)))] [(.int ((((31 : Int32) + (-16 : Int32)) + (-8 : Int32)) + (-2 : Int32)))]))
            refine own_st (fun zt zk => XS.iloadN X0.here hx rfl (hb hby dd_jdk_33m47_74) rfl zk) ?_
            show own_G p e below s _ _ _ (T0.setTop (mkF m 75 #[.val (.int xd), .val (.int ((((31 : Int32) + (-16 : Int32)) + (-8 : Int32)) + (-2 : Int32)))] [(.int xd), (.int ((((31 : Int32) + (-16 : Int32)) + (-8 : Int32)) + (-2 : Int32)))]))
            refine own_st (fun zt zk => XS.iconst X0.here hx rfl (hb hby dd_jdk_33m47_75) zk) ?_
            show own_G p e below s _ _ _ (T0.setTop (mkF m 76 #[.val (.int xd), .val (.int ((((31 : Int32) + (-16 : Int32)) + (-8 : Int32)) + (-2 : Int32)))] [(.int (1 : Int32)), (.int xd), (.int ((((31 : Int32) + (-16 : Int32)) + (-8 : Int32)) + (-2 : Int32)))]))
            refine own_st (fun zt zk => XS.iushr X0.here hx rfl (hb hby dd_jdk_33m47_76) rfl zk) ?_
            show own_G p e below s _ _ _ (T0.setTop (mkF m 77 #[.val (.int xd), .val (.int ((((31 : Int32) + (-16 : Int32)) + (-8 : Int32)) + (-2 : Int32)))] [(.int ((xd.toUInt32 >>> ((1 : Int32) &&& 31).toUInt32).toInt32)), (.int ((((31 : Int32) + (-16 : Int32)) + (-8 : Int32)) + (-2 : Int32)))]))
            refine own_st (fun zt zk => XS.isub X0.here hx rfl (hb hby dd_jdk_33m47_77) rfl zk) ?_
            show own_G p e below s _ _ _ (T0.setTop (mkF m 78 #[.val (.int xd), .val (.int ((((31 : Int32) + (-16 : Int32)) + (-8 : Int32)) + (-2 : Int32)))] [(.int (((((31 : Int32) + (-16 : Int32)) + (-8 : Int32)) + (-2 : Int32)) - ((xd.toUInt32 >>> ((1 : Int32) &&& 31).toUInt32).toInt32)))]))
            refine own_retI X0 hx hlk hret (hb hby dd_jdk_33m47_78) (by decide) (by decide) ?_
            show Q_own_nlz Z iv h0 n0 (some (.int (((((31 : Int32) + (-16 : Int32)) + (-8 : Int32)) + (-2 : Int32)) - ((xd.toUInt32 >>> ((1 : Int32) &&& 31).toUInt32).toInt32)))) T0.heap _
            rw [e0]
            exact ⟨(((((31 : Int32) + (-16 : Int32)) + (-8 : Int32)) + (-2 : Int32)) - ((xd.toUInt32 >>> ((1 : Int32) &&& 31).toUInt32).toInt32)), rfl, N0, rfl, (by
              simp only [Int32.lt_iff_toInt_lt, show (0 : Int32).toInt = 0 from by decide, show (65536 : Int32).toInt = 65536 from by decide, show (256 : Int32).toInt = 256 from by decide, show (16 : Int32).toInt = 16 from by decide, show (4 : Int32).toInt = 4 from by decide] at hc1_1 hc22_2 hc37_10 hc51_14 hc63_15
              have z1 := c_isub ((((31 : Int32) + (-16 : Int32)) + (-8 : Int32)) + (-2 : Int32)) ((xd.toUInt32 >>> ((1 : Int32) &&& 31).toUInt32).toInt32)
              have z2 : ((((31 : Int32) + (-16 : Int32)) + (-8 : Int32)) + (-2 : Int32)).toInt = 5 := by decide
              have z3 := own_us1 g_xd
              have z4 := rng32 (((((31 : Int32) + (-16 : Int32)) + (-8 : Int32)) + (-2 : Int32)) - ((xd.toUInt32 >>> ((1 : Int32) &&& 31).toUInt32).toInt32))
              by_cases z : xd.toInt < 2
              · exact ⟨27, by omega, by decide, by omega⟩
              · exact ⟨28, by omega, by decide, by omega⟩)⟩
        · refine own_st (fun zt zk => XS.icmpNo X0.here hx rfl (hb hby dd_jdk_33m47_51) rfl (flt hc51_14).1 zk) ?_
          show own_G p e below s _ _ _ (T0.setTop (mkF m 54 #[.val (.int xb), .val (.int (((31 : Int32) + (-16 : Int32)) + (-8 : Int32)))] []))
          refine own_st (fun zt zk => XS.iinc X0.here hx rfl (hb hby dd_jdk_33m47_54) rfl (l' := #[.val (.int xb), .val (.int ((((31 : Int32) + (-16 : Int32)) + (-8 : Int32)) + (-4 : Int32)))]) rfl zk) ?_
          show own_G p e below s _ _ _ (T0.setTop (mkF m 57 #[.val (.int xb), .val (.int ((((31 : Int32) + (-16 : Int32)) + (-8 : Int32)) + (-4 : Int32)))] []))
          refine own_st (fun zt zk => XS.iloadN X0.here hx rfl (hb hby dd_jdk_33m47_57) rfl zk) ?_
          show own_G p e below s _ _ _ (T0.setTop (mkF m 58 #[.val (.int xb), .val (.int ((((31 : Int32) + (-16 : Int32)) + (-8 : Int32)) + (-4 : Int32)))] [(.int xb)]))
          refine own_st (fun zt zk => XS.iconst X0.here hx rfl (hb hby dd_jdk_33m47_58) zk) ?_
          show own_G p e below s _ _ _ (T0.setTop (mkF m 59 #[.val (.int xb), .val (.int ((((31 : Int32) + (-16 : Int32)) + (-8 : Int32)) + (-4 : Int32)))] [(.int (4 : Int32)), (.int xb)]))
          refine own_st (fun zt zk => XS.iushr X0.here hx rfl (hb hby dd_jdk_33m47_59) rfl zk) ?_
          show own_G p e below s _ _ _ (T0.setTop (mkF m 60 #[.val (.int xb), .val (.int ((((31 : Int32) + (-16 : Int32)) + (-8 : Int32)) + (-4 : Int32)))] [(.int ((xb.toUInt32 >>> ((4 : Int32) &&& 31).toUInt32).toInt32))]))
          refine own_st (fun zt zk => XS.istoreN X0.here hx rfl (hb hby dd_jdk_33m47_60) rfl (l' := #[.val (.int ((xb.toUInt32 >>> ((4 : Int32) &&& 31).toUInt32).toInt32)), .val (.int ((((31 : Int32) + (-16 : Int32)) + (-8 : Int32)) + (-4 : Int32)))]) rfl zk) ?_
          show own_G p e below s _ _ _ (T0.setTop (mkF m 61 #[.val (.int ((xb.toUInt32 >>> ((4 : Int32) &&& 31).toUInt32).toInt32)), .val (.int ((((31 : Int32) + (-16 : Int32)) + (-8 : Int32)) + (-4 : Int32)))] []))
          obtain ⟨xc, q_xc⟩ : ∃ z, z = ((xb.toUInt32 >>> ((4 : Int32) &&& 31).toUInt32).toInt32) := ⟨_, rfl⟩
          rw [← q_xc]
          show own_G p e below s _ _ _ (T0.setTop (mkF m 61 #[.val (.int xc), .val (.int ((((31 : Int32) + (-16 : Int32)) + (-8 : Int32)) + (-4 : Int32)))] []))
          have h_xc : xc.toInt = xb.toInt / 16 := by rw [q_xc]; exact own_us4 g_xb
          have g_xc : 0 ≤ xc.toInt := by omega
          refine own_st (fun zt zk => XS.iloadN X0.here hx rfl (hb hby dd_jdk_33m47_61) rfl zk) ?_
          show own_G p e below s _ _ _ (T0.setTop (mkF m 62 #[.val (.int xc), .val (.int ((((31 : Int32) + (-16 : Int32)) + (-8 : Int32)) + (-4 : Int32)))] [(.int xc)]))
          refine own_st (fun zt zk => XS.iconst X0.here hx rfl (hb hby dd_jdk_33m47_62) zk) ?_
          show own_G p e below s _ _ _ (T0.setTop (mkF m 63 #[.val (.int xc), .val (.int ((((31 : Int32) + (-16 : Int32)) + (-8 : Int32)) + (-4 : Int32)))] [(.int (4 : Int32)), (.int xc)]))
          by_cases hc63_16 : xc < (4 : Int32)
          · refine own_st (fun zt zk => XS.icmpYes X0.here hx rfl (pc0 := 63) (pc' := 73) rfl (hb hby dd_jdk_33m47_63) rfl (tlt hc63_16).1 (by decide) (by decide) zk) ?_
            show own_G p e below s _ _ _ (T0.setTop (mkF m 73 #[.val (.int xc), .val (.int ((((31 : Int32) + (-16 : Int32)) + (-8 : Int32)) + (-4 : Int32)))] []))
            refine own_st (fun zt zk => XS.iloadN X0.here hx rfl (hb hby dd_jdk_33m47_73) rfl zk) ?_
            show own_G p e below s _ _ _ (T0.setTop (mkF m 74 #[.val (.int xc), .val (.int ((((31 : Int32) + (-16 : Int32)) + (-8 : Int32)) + (-4 : Int32)))] [(.int ((((31 : Int32) + (-16 : Int32)) + (-8 : Int32)) + (-4 : Int32)))]))
            refine own_st (fun zt zk => XS.iloadN X0.here hx rfl (hb hby dd_jdk_33m47_74) rfl zk) ?_
            show own_G p e below s _ _ _ (T0.setTop (mkF m 75 #[.val (.int xc), .val (.int ((((31 : Int32) + (-16 : Int32)) + (-8 : Int32)) + (-4 : Int32)))] [(.int xc), (.int ((((31 : Int32) + (-16 : Int32)) + (-8 : Int32)) + (-4 : Int32)))]))
            refine own_st (fun zt zk => XS.iconst X0.here hx rfl (hb hby dd_jdk_33m47_75) zk) ?_
            show own_G p e below s _ _ _ (T0.setTop (mkF m 76 #[.val (.int xc), .val (.int ((((31 : Int32) + (-16 : Int32)) + (-8 : Int32)) + (-4 : Int32)))] [(.int (1 : Int32)), (.int xc), (.int ((((31 : Int32) + (-16 : Int32)) + (-8 : Int32)) + (-4 : Int32)))]))
            refine own_st (fun zt zk => XS.iushr X0.here hx rfl (hb hby dd_jdk_33m47_76) rfl zk) ?_
            show own_G p e below s _ _ _ (T0.setTop (mkF m 77 #[.val (.int xc), .val (.int ((((31 : Int32) + (-16 : Int32)) + (-8 : Int32)) + (-4 : Int32)))] [(.int ((xc.toUInt32 >>> ((1 : Int32) &&& 31).toUInt32).toInt32)), (.int ((((31 : Int32) + (-16 : Int32)) + (-8 : Int32)) + (-4 : Int32)))]))
            refine own_st (fun zt zk => XS.isub X0.here hx rfl (hb hby dd_jdk_33m47_77) rfl zk) ?_
            show own_G p e below s _ _ _ (T0.setTop (mkF m 78 #[.val (.int xc), .val (.int ((((31 : Int32) + (-16 : Int32)) + (-8 : Int32)) + (-4 : Int32)))] [(.int (((((31 : Int32) + (-16 : Int32)) + (-8 : Int32)) + (-4 : Int32)) - ((xc.toUInt32 >>> ((1 : Int32) &&& 31).toUInt32).toInt32)))]))
            refine own_retI X0 hx hlk hret (hb hby dd_jdk_33m47_78) (by decide) (by decide) ?_
            show Q_own_nlz Z iv h0 n0 (some (.int (((((31 : Int32) + (-16 : Int32)) + (-8 : Int32)) + (-4 : Int32)) - ((xc.toUInt32 >>> ((1 : Int32) &&& 31).toUInt32).toInt32)))) T0.heap _
            rw [e0]
            exact ⟨(((((31 : Int32) + (-16 : Int32)) + (-8 : Int32)) + (-4 : Int32)) - ((xc.toUInt32 >>> ((1 : Int32) &&& 31).toUInt32).toInt32)), rfl, N0, rfl, (by
              simp only [Int32.lt_iff_toInt_lt, show (0 : Int32).toInt = 0 from by decide, show (65536 : Int32).toInt = 65536 from by decide, show (256 : Int32).toInt = 256 from by decide, show (16 : Int32).toInt = 16 from by decide, show (4 : Int32).toInt = 4 from by decide] at hc1_1 hc22_2 hc37_10 hc51_14 hc63_16
              have z1 := c_isub ((((31 : Int32) + (-16 : Int32)) + (-8 : Int32)) + (-4 : Int32)) ((xc.toUInt32 >>> ((1 : Int32) &&& 31).toUInt32).toInt32)
              have z2 : ((((31 : Int32) + (-16 : Int32)) + (-8 : Int32)) + (-4 : Int32)).toInt = 3 := by decide
              have z3 := own_us1 g_xc
              have z4 := rng32 (((((31 : Int32) + (-16 : Int32)) + (-8 : Int32)) + (-4 : Int32)) - ((xc.toUInt32 >>> ((1 : Int32) &&& 31).toUInt32).toInt32))
              by_cases z : xc.toInt < 2
              · exact ⟨29, by omega, by decide, by omega⟩
              · exact ⟨30, by omega, by decide, by omega⟩)⟩
          · refine own_st (fun zt zk => XS.icmpNo X0.here hx rfl (hb hby dd_jdk_33m47_63) rfl (flt hc63_16).1 zk) ?_
            show own_G p e below s _ _ _ (T0.setTop (mkF m 66 #[.val (.int xc), .val (.int ((((31 : Int32) + (-16 : Int32)) + (-8 : Int32)) + (-4 : Int32)))] []))
            refine own_st (fun zt zk => XS.iinc X0.here hx rfl (hb hby dd_jdk_33m47_66) rfl (l' := #[.val (.int xc), .val (.int (((((31 : Int32) + (-16 : Int32)) + (-8 : Int32)) + (-4 : Int32)) + (-2 : Int32)))]) rfl zk) ?_
            show own_G p e below s _ _ _ (T0.setTop (mkF m 69 #[.val (.int xc), .val (.int (((((31 : Int32) + (-16 : Int32)) + (-8 : Int32)) + (-4 : Int32)) + (-2 : Int32)))] []))
            refine own_st (fun zt zk => XS.iloadN X0.here hx rfl (hb hby dd_jdk_33m47_69) rfl zk) ?_
            show own_G p e below s _ _ _ (T0.setTop (mkF m 70 #[.val (.int xc), .val (.int (((((31 : Int32) + (-16 : Int32)) + (-8 : Int32)) + (-4 : Int32)) + (-2 : Int32)))] [(.int xc)]))
            refine own_st (fun zt zk => XS.iconst X0.here hx rfl (hb hby dd_jdk_33m47_70) zk) ?_
            show own_G p e below s _ _ _ (T0.setTop (mkF m 71 #[.val (.int xc), .val (.int (((((31 : Int32) + (-16 : Int32)) + (-8 : Int32)) + (-4 : Int32)) + (-2 : Int32)))] [(.int (2 : Int32)), (.int xc)]))
            refine own_st (fun zt zk => XS.iushr X0.here hx rfl (hb hby dd_jdk_33m47_71) rfl zk) ?_
            show own_G p e below s _ _ _ (T0.setTop (mkF m 72 #[.val (.int xc), .val (.int (((((31 : Int32) + (-16 : Int32)) + (-8 : Int32)) + (-4 : Int32)) + (-2 : Int32)))] [(.int ((xc.toUInt32 >>> ((2 : Int32) &&& 31).toUInt32).toInt32))]))
            refine own_st (fun zt zk => XS.istoreN X0.here hx rfl (hb hby dd_jdk_33m47_72) rfl (l' := #[.val (.int ((xc.toUInt32 >>> ((2 : Int32) &&& 31).toUInt32).toInt32)), .val (.int (((((31 : Int32) + (-16 : Int32)) + (-8 : Int32)) + (-4 : Int32)) + (-2 : Int32)))]) rfl zk) ?_
            show own_G p e below s _ _ _ (T0.setTop (mkF m 73 #[.val (.int ((xc.toUInt32 >>> ((2 : Int32) &&& 31).toUInt32).toInt32)), .val (.int (((((31 : Int32) + (-16 : Int32)) + (-8 : Int32)) + (-4 : Int32)) + (-2 : Int32)))] []))
            obtain ⟨xd, q_xd⟩ : ∃ z, z = ((xc.toUInt32 >>> ((2 : Int32) &&& 31).toUInt32).toInt32) := ⟨_, rfl⟩
            rw [← q_xd]
            show own_G p e below s _ _ _ (T0.setTop (mkF m 73 #[.val (.int xd), .val (.int (((((31 : Int32) + (-16 : Int32)) + (-8 : Int32)) + (-4 : Int32)) + (-2 : Int32)))] []))
            have h_xd : xd.toInt = xc.toInt / 4 := by rw [q_xd]; exact own_us2 g_xc
            have g_xd : 0 ≤ xd.toInt := by omega
            refine own_st (fun zt zk => XS.iloadN X0.here hx rfl (hb hby dd_jdk_33m47_73) rfl zk) ?_
            show own_G p e below s _ _ _ (T0.setTop (mkF m 74 #[.val (.int xd), .val (.int (((((31 : Int32) + (-16 : Int32)) + (-8 : Int32)) + (-4 : Int32)) + (-2 : Int32)))] [(.int (((((31 : Int32) + (-16 : Int32)) + (-8 : Int32)) + (-4 : Int32)) + (-2 : Int32)))]))
            refine own_st (fun zt zk => XS.iloadN X0.here hx rfl (hb hby dd_jdk_33m47_74) rfl zk) ?_
            show own_G p e below s _ _ _ (T0.setTop (mkF m 75 #[.val (.int xd), .val (.int (((((31 : Int32) + (-16 : Int32)) + (-8 : Int32)) + (-4 : Int32)) + (-2 : Int32)))] [(.int xd), (.int (((((31 : Int32) + (-16 : Int32)) + (-8 : Int32)) + (-4 : Int32)) + (-2 : Int32)))]))
            refine own_st (fun zt zk => XS.iconst X0.here hx rfl (hb hby dd_jdk_33m47_75) zk) ?_
            show own_G p e below s _ _ _ (T0.setTop (mkF m 76 #[.val (.int xd), .val (.int (((((31 : Int32) + (-16 : Int32)) + (-8 : Int32)) + (-4 : Int32)) + (-2 : Int32)))] [(.int (1 : Int32)), (.int xd), (.int (((((31 : Int32) + (-16 : Int32)) + (-8 : Int32)) + (-4 : Int32)) + (-2 : Int32)))]))
            refine own_st (fun zt zk => XS.iushr X0.here hx rfl (hb hby dd_jdk_33m47_76) rfl zk) ?_
            show own_G p e below s _ _ _ (T0.setTop (mkF m 77 #[.val (.int xd), .val (.int (((((31 : Int32) + (-16 : Int32)) + (-8 : Int32)) + (-4 : Int32)) + (-2 : Int32)))] [(.int ((xd.toUInt32 >>> ((1 : Int32) &&& 31).toUInt32).toInt32)), (.int (((((31 : Int32) + (-16 : Int32)) + (-8 : Int32)) + (-4 : Int32)) + (-2 : Int32)))]))
            refine own_st (fun zt zk => XS.isub X0.here hx rfl (hb hby dd_jdk_33m47_77) rfl zk) ?_
            show own_G p e below s _ _ _ (T0.setTop (mkF m 78 #[.val (.int xd), .val (.int (((((31 : Int32) + (-16 : Int32)) + (-8 : Int32)) + (-4 : Int32)) + (-2 : Int32)))] [(.int ((((((31 : Int32) + (-16 : Int32)) + (-8 : Int32)) + (-4 : Int32)) + (-2 : Int32)) - ((xd.toUInt32 >>> ((1 : Int32) &&& 31).toUInt32).toInt32)))]))
            refine own_retI X0 hx hlk hret (hb hby dd_jdk_33m47_78) (by decide) (by decide) ?_
            show Q_own_nlz Z iv h0 n0 (some (.int ((((((31 : Int32) + (-16 : Int32)) + (-8 : Int32)) + (-4 : Int32)) + (-2 : Int32)) - ((xd.toUInt32 >>> ((1 : Int32) &&& 31).toUInt32).toInt32)))) T0.heap _
            rw [e0]
            exact ⟨((((((31 : Int32) + (-16 : Int32)) + (-8 : Int32)) + (-4 : Int32)) + (-2 : Int32)) - ((xd.toUInt32 >>> ((1 : Int32) &&& 31).toUInt32).toInt32)), rfl, N0, rfl, (by
              simp only [Int32.lt_iff_toInt_lt, show (0 : Int32).toInt = 0 from by decide, show (65536 : Int32).toInt = 65536 from by decide, show (256 : Int32).toInt = 256 from by decide, show (16 : Int32).toInt = 16 from by decide, show (4 : Int32).toInt = 4 from by decide] at hc1_1 hc22_2 hc37_10 hc51_14 hc63_16
              have z1 := c_isub (((((31 : Int32) + (-16 : Int32)) + (-8 : Int32)) + (-4 : Int32)) + (-2 : Int32)) ((xd.toUInt32 >>> ((1 : Int32) &&& 31).toUInt32).toInt32)
              have z2 : (((((31 : Int32) + (-16 : Int32)) + (-8 : Int32)) + (-4 : Int32)) + (-2 : Int32)).toInt = 1 := by decide
              have z3 := own_us1 g_xd
              have z4 := rng32 ((((((31 : Int32) + (-16 : Int32)) + (-8 : Int32)) + (-4 : Int32)) + (-2 : Int32)) - ((xd.toUInt32 >>> ((1 : Int32) &&& 31).toUInt32).toInt32))
              by_cases z : xd.toInt < 2
              · exact ⟨31, by omega, by decide, by omega⟩
              · exact absurd (rng32 iv).2 (by omega))⟩
  · refine own_st (fun zt zk => XS.ifNo X0.here hx rfl (hb hby dd_jdk_33m47_1) rfl ((if0 _ _).trans (flt hc1_1).2.2.1) zk) ?_
    show own_G p e below s _ _ _ (T0.setTop (mkF m 4 #[.val (.int iv), .unset] []))
    refine own_st (fun zt zk => XS.iloadN X0.here hx rfl (hb hby dd_jdk_33m47_4) rfl zk) ?_
    show own_G p e below s _ _ _ (T0.setTop (mkF m 5 #[.val (.int iv), .unset] [(.int iv)]))
    have hc5_17 : iv = (0 : Int32) := own_nlz0 p0_ hc1_1
    refine own_st (fun zt zk => XS.ifNo X0.here hx rfl (hb hby dd_jdk_33m47_5) rfl ((if0 _ _).trans (teq hc5_17).2) zk) ?_
    show own_G p e below s _ _ _ (T0.setTop (mkF m 8 #[.val (.int iv), .unset] []))
    refine own_st (fun zt zk => XS.bipush X0.here hx rfl (hb hby dd_jdk_33m47_8) zk) ?_
    show own_G p e below s _ _ _ (T0.setTop (mkF m 10 #[.val (.int iv), .unset] [(.int (32 : Int32))]))
    refine own_st (fun zt zk => XS.goto X0.here hx rfl (pc0 := 10) (pc' := 14) rfl (hb hby dd_jdk_33m47_10) (by decide) (by decide) zk) ?_
    show own_G p e below s _ _ _ (T0.setTop (mkF m 14 #[.val (.int iv), .unset] [(.int (32 : Int32))]))
    refine own_retI X0 hx hlk hret (hb hby dd_jdk_33m47_14) (by decide) (by decide) ?_
    show Q_own_nlz Z iv h0 n0 (some (.int (32 : Int32))) T0.heap _
    rw [e0]
    exact ⟨(32 : Int32), rfl, N0, rfl, ⟨0, by decide, by decide, by rw [own_nlz0 p0_ hc1_1]; decide⟩⟩
theorem own_pn2 : plainFor (⟨"java/lang/Long", "bitCount", "(J)I"⟩ : MethodName) = true := plainFor_of_name (by first | (simp [plainName, overriddenIn]; done) | decide +kernel)
theorem dd_jdk_35m50_0 : decode jdk_35_method_50_code 0 = .ok (.lload_n 0, 1) := by decide +kernel
theorem dd_jdk_35m50_1 : decode jdk_35_method_50_code 1 = .ok (.lload_n 0, 1) := by decide +kernel
theorem dd_jdk_35m50_2 : decode jdk_35_method_50_code 2 = .ok (.iconst 1, 1) := by decide +kernel
theorem dd_jdk_35m50_3 : decode jdk_35_method_50_code 3 = .ok (.lushr, 1) := by decide +kernel
theorem dd_jdk_35m50_4 : decode jdk_35_method_50_code 4 = .ok (.ldc2_w 314, 3) := by decide +kernel
theorem dd_jdk_35m50_7 : decode jdk_35_method_50_code 7 = .ok (.land, 1) := by decide +kernel
theorem dd_jdk_35m50_8 : decode jdk_35_method_50_code 8 = .ok (.lsub, 1) := by decide +kernel
theorem dd_jdk_35m50_9 : decode jdk_35_method_50_code 9 = .ok (.lstore_n 0, 1) := by decide +kernel
theorem dd_jdk_35m50_10 : decode jdk_35_method_50_code 10 = .ok (.lload_n 0, 1) := by decide +kernel
theorem dd_jdk_35m50_11 : decode jdk_35_method_50_code 11 = .ok (.ldc2_w 316, 3) := by decide +kernel
theorem dd_jdk_35m50_14 : decode jdk_35_method_50_code 14 = .ok (.land, 1) := by decide +kernel
theorem dd_jdk_35m50_15 : decode jdk_35_method_50_code 15 = .ok (.lload_n 0, 1) := by decide +kernel
theorem dd_jdk_35m50_16 : decode jdk_35_method_50_code 16 = .ok (.iconst 2, 1) := by decide +kernel
theorem dd_jdk_35m50_17 : decode jdk_35_method_50_code 17 = .ok (.lushr, 1) := by decide +kernel
theorem dd_jdk_35m50_18 : decode jdk_35_method_50_code 18 = .ok (.ldc2_w 316, 3) := by decide +kernel
theorem dd_jdk_35m50_21 : decode jdk_35_method_50_code 21 = .ok (.land, 1) := by decide +kernel
theorem dd_jdk_35m50_22 : decode jdk_35_method_50_code 22 = .ok (.ladd, 1) := by decide +kernel
theorem dd_jdk_35m50_23 : decode jdk_35_method_50_code 23 = .ok (.lstore_n 0, 1) := by decide +kernel
theorem dd_jdk_35m50_24 : decode jdk_35_method_50_code 24 = .ok (.lload_n 0, 1) := by decide +kernel
theorem dd_jdk_35m50_25 : decode jdk_35_method_50_code 25 = .ok (.lload_n 0, 1) := by decide +kernel
theorem dd_jdk_35m50_26 : decode jdk_35_method_50_code 26 = .ok (.iconst 4, 1) := by decide +kernel
theorem dd_jdk_35m50_27 : decode jdk_35_method_50_code 27 = .ok (.lushr, 1) := by decide +kernel
theorem dd_jdk_35m50_28 : decode jdk_35_method_50_code 28 = .ok (.ladd, 1) := by decide +kernel
theorem dd_jdk_35m50_29 : decode jdk_35_method_50_code 29 = .ok (.ldc2_w 318, 3) := by decide +kernel
theorem dd_jdk_35m50_32 : decode jdk_35_method_50_code 32 = .ok (.land, 1) := by decide +kernel
theorem dd_jdk_35m50_33 : decode jdk_35_method_50_code 33 = .ok (.lstore_n 0, 1) := by decide +kernel
theorem dd_jdk_35m50_34 : decode jdk_35_method_50_code 34 = .ok (.lload_n 0, 1) := by decide +kernel
theorem dd_jdk_35m50_35 : decode jdk_35_method_50_code 35 = .ok (.lload_n 0, 1) := by decide +kernel
theorem dd_jdk_35m50_36 : decode jdk_35_method_50_code 36 = .ok (.bipush 8, 2) := by decide +kernel
theorem dd_jdk_35m50_38 : decode jdk_35_method_50_code 38 = .ok (.lushr, 1) := by decide +kernel
theorem dd_jdk_35m50_39 : decode jdk_35_method_50_code 39 = .ok (.ladd, 1) := by decide +kernel
theorem dd_jdk_35m50_40 : decode jdk_35_method_50_code 40 = .ok (.lstore_n 0, 1) := by decide +kernel
theorem dd_jdk_35m50_41 : decode jdk_35_method_50_code 41 = .ok (.lload_n 0, 1) := by decide +kernel
theorem dd_jdk_35m50_42 : decode jdk_35_method_50_code 42 = .ok (.lload_n 0, 1) := by decide +kernel
theorem dd_jdk_35m50_43 : decode jdk_35_method_50_code 43 = .ok (.bipush 16, 2) := by decide +kernel
theorem dd_jdk_35m50_45 : decode jdk_35_method_50_code 45 = .ok (.lushr, 1) := by decide +kernel
theorem dd_jdk_35m50_46 : decode jdk_35_method_50_code 46 = .ok (.ladd, 1) := by decide +kernel
theorem dd_jdk_35m50_47 : decode jdk_35_method_50_code 47 = .ok (.lstore_n 0, 1) := by decide +kernel
theorem dd_jdk_35m50_48 : decode jdk_35_method_50_code 48 = .ok (.lload_n 0, 1) := by decide +kernel
theorem dd_jdk_35m50_49 : decode jdk_35_method_50_code 49 = .ok (.lload_n 0, 1) := by decide +kernel
theorem dd_jdk_35m50_50 : decode jdk_35_method_50_code 50 = .ok (.bipush 32, 2) := by decide +kernel
theorem dd_jdk_35m50_52 : decode jdk_35_method_50_code 52 = .ok (.lushr, 1) := by decide +kernel
theorem dd_jdk_35m50_53 : decode jdk_35_method_50_code 53 = .ok (.ladd, 1) := by decide +kernel
theorem dd_jdk_35m50_54 : decode jdk_35_method_50_code 54 = .ok (.lstore_n 0, 1) := by decide +kernel
theorem dd_jdk_35m50_55 : decode jdk_35_method_50_code 55 = .ok (.lload_n 0, 1) := by decide +kernel
theorem dd_jdk_35m50_56 : decode jdk_35_method_50_code 56 = .ok (.l2i, 1) := by decide +kernel
theorem dd_jdk_35m50_57 : decode jdk_35_method_50_code 57 = .ok (.bipush 127, 2) := by decide +kernel
theorem dd_jdk_35m50_59 : decode jdk_35_method_50_code 59 = .ok (.iand, 1) := by decide +kernel
theorem dd_jdk_35m50_60 : decode jdk_35_method_50_code 60 = .ok (.ireturn, 1) := by decide +kernel
theorem ef_own_bc (m : MethodId) (z0 : Int64) : entryFrame m #[(.long z0)] 2 = mkF m 0 #[.val (.long z0), .second] [] := by first | (simp [entryFrame, mkF, argsToLocals, Value.category]; done) | rfl
def Q_own_bc (Z : State) (u : Int64) (h0 : Heap) (n0 : Nat) (zv : Option Value) (zh : Heap) (zL : List Loc) : Prop := ∃ r : Int32, zv = some (.int r) ∧ Fr n0 zL ∧ zh = h0
set_option maxRecDepth 65536 in
set_option maxHeartbeats 40000000 in
theorem own_bc (l : Launch) (Z : State) (a0 : Array Value) (hw : ∀ d ∈ tables_1, d.before a0 Z = true) (ws : List Jvm.Cond) (u : Int64) (h0 : Heap) (n0 : Nat) (Z0 : n0 ≤ h0.size)  :
    MetFree l (⟨"java/lang/Long", "bitCount", "(J)I"⟩ : MethodName) (head1 (Jvm.Cond.code (⟨"java/lang/Long", "bitCount", "(J)I"⟩ : MethodName) jdk_35_method_50_code 2 (some .int) :: ws) ({ frames := 0, cells := 0, slots := 0, locals := 0 } : Room)) (fun za zU => za = #[(.long u)] ∧ Z.Warmed39 zU.vm ∧ zU.heap = h0) (fun _ _ _ _ _ => True) (fun _ zU zo zU' => ∃ zv zL, zo = .returned zv ∧ Q_own_bc Z u h0 n0 zv zU'.heap zL ∧ FrameEnd zU zo zU' zL ({ frames := 0, cells := 0, slots := 0, locals := 0 } : Room).cells ({ frames := 0, cells := 0, slots := 0, locals := 0 } : Room).slots) := by
  refine own_met (y := (⟨"java/lang/Long", "bitCount", "(J)I"⟩ : MethodName)) own_pn2 ?_
  intro p e s m below meth c T0 hx hby hml hown hnm hret hlk hZ e0 X0
  have N0 := Fr.nil n0
  refine own_st (fun zt zk => castTop (ef_own_bc m u) zk) ?_
  show own_G p e below s _ _ _ (T0.setTop (mkF m 0 #[.val (.long u), .second] []))
  refine own_st (fun zt zk => XS.lloadN X0.here hx rfl (hb hby dd_jdk_35m50_0) rfl zk) ?_
  show own_G p e below s _ _ _ (T0.setTop (mkF m 1 #[.val (.long u), .second] [(.long u)]))
  refine own_st (fun zt zk => XS.lloadN X0.here hx rfl (hb hby dd_jdk_35m50_1) rfl zk) ?_
  show own_G p e below s _ _ _ (T0.setTop (mkF m 2 #[.val (.long u), .second] [(.long u), (.long u)]))
  refine own_st (fun zt zk => XS.iconst X0.here hx rfl (hb hby dd_jdk_35m50_2) zk) ?_
  show own_G p e below s _ _ _ (T0.setTop (mkF m 3 #[.val (.long u), .second] [(.int (1 : Int32)), (.long u), (.long u)]))
  refine own_st (fun zt zk => XS.lushr X0.here hx rfl (hb hby dd_jdk_35m50_3) rfl zk) ?_
  show own_G p e below s _ _ _ (T0.setTop (mkF m 4 #[.val (.long u), .second] [(.long ((u.toUInt64 >>> ((1 : Int32) &&& 0x3f).toInt64.toUInt64).toInt64)), (.long u)]))
  refine own_st (X0.ldc2Long hx hown (mvT hZ (hw _ (List.mem_of_getElem? (i := 59) rfl))) (g := (mkF m 4 #[.val (.long u), .second] [(.long ((u.toUInt64 >>> ((1 : Int32) &&& 0x3f).toInt64.toUInt64).toInt64)), (.long u)])) rfl (hb hby dd_jdk_35m50_4)) ?_
  show own_G p e below s _ _ _ (T0.setTop (mkF m 7 #[.val (.long u), .second] [(.long (6148914691236517205 : Int64)), (.long ((u.toUInt64 >>> ((1 : Int32) &&& 0x3f).toInt64.toUInt64).toInt64)), (.long u)]))
  refine own_st (fun zt zk => XS.land X0.here hx rfl (hb hby dd_jdk_35m50_7) rfl zk) ?_
  show own_G p e below s _ _ _ (T0.setTop (mkF m 8 #[.val (.long u), .second] [(.long (((u.toUInt64 >>> ((1 : Int32) &&& 0x3f).toInt64.toUInt64).toInt64) &&& (6148914691236517205 : Int64))), (.long u)]))
  refine own_st (fun zt zk => XS.lsub X0.here hx rfl (hb hby dd_jdk_35m50_8) rfl zk) ?_
  show own_G p e below s _ _ _ (T0.setTop (mkF m 9 #[.val (.long u), .second] [(.long (u - (((u.toUInt64 >>> ((1 : Int32) &&& 0x3f).toInt64.toUInt64).toInt64) &&& (6148914691236517205 : Int64))))]))
  refine own_st (fun zt zk => XS.lstoreN X0.here hx rfl (hb hby dd_jdk_35m50_9) rfl (l' := #[.val (.long (u - (((u.toUInt64 >>> ((1 : Int32) &&& 0x3f).toInt64.toUInt64).toInt64) &&& (6148914691236517205 : Int64)))), .second]) rfl zk) ?_
  show own_G p e below s _ _ _ (T0.setTop (mkF m 10 #[.val (.long (u - (((u.toUInt64 >>> ((1 : Int32) &&& 0x3f).toInt64.toUInt64).toInt64) &&& (6148914691236517205 : Int64)))), .second] []))
  obtain ⟨w10, q_w10⟩ : ∃ z, z = (u - (((u.toUInt64 >>> ((1 : Int32) &&& 0x3f).toInt64.toUInt64).toInt64) &&& (6148914691236517205 : Int64))) := ⟨_, rfl⟩
  rw [← q_w10]
  show own_G p e below s _ _ _ (T0.setTop (mkF m 10 #[.val (.long w10), .second] []))
  refine own_st (fun zt zk => XS.lloadN X0.here hx rfl (hb hby dd_jdk_35m50_10) rfl zk) ?_
  show own_G p e below s _ _ _ (T0.setTop (mkF m 11 #[.val (.long w10), .second] [(.long w10)]))
  refine own_st (X0.ldc2Long hx hown (mvT hZ (hw _ (List.mem_of_getElem? (i := 60) rfl))) (g := (mkF m 11 #[.val (.long w10), .second] [(.long w10)])) rfl (hb hby dd_jdk_35m50_11)) ?_
  show own_G p e below s _ _ _ (T0.setTop (mkF m 14 #[.val (.long w10), .second] [(.long (3689348814741910323 : Int64)), (.long w10)]))
  refine own_st (fun zt zk => XS.land X0.here hx rfl (hb hby dd_jdk_35m50_14) rfl zk) ?_
  show own_G p e below s _ _ _ (T0.setTop (mkF m 15 #[.val (.long w10), .second] [(.long (w10 &&& (3689348814741910323 : Int64)))]))
  refine own_st (fun zt zk => XS.lloadN X0.here hx rfl (hb hby dd_jdk_35m50_15) rfl zk) ?_
  show own_G p e below s _ _ _ (T0.setTop (mkF m 16 #[.val (.long w10), .second] [(.long w10), (.long (w10 &&& (3689348814741910323 : Int64)))]))
  refine own_st (fun zt zk => XS.iconst X0.here hx rfl (hb hby dd_jdk_35m50_16) zk) ?_
  show own_G p e below s _ _ _ (T0.setTop (mkF m 17 #[.val (.long w10), .second] [(.int (2 : Int32)), (.long w10), (.long (w10 &&& (3689348814741910323 : Int64)))]))
  refine own_st (fun zt zk => XS.lushr X0.here hx rfl (hb hby dd_jdk_35m50_17) rfl zk) ?_
  show own_G p e below s _ _ _ (T0.setTop (mkF m 18 #[.val (.long w10), .second] [(.long ((w10.toUInt64 >>> ((2 : Int32) &&& 0x3f).toInt64.toUInt64).toInt64)), (.long (w10 &&& (3689348814741910323 : Int64)))]))
  refine own_st (X0.ldc2Long hx hown (mvT hZ (hw _ (List.mem_of_getElem? (i := 60) rfl))) (g := (mkF m 18 #[.val (.long w10), .second] [(.long ((w10.toUInt64 >>> ((2 : Int32) &&& 0x3f).toInt64.toUInt64).toInt64)), (.long (w10 &&& (3689348814741910323 : Int64)))])) rfl (hb hby dd_jdk_35m50_18)) ?_
  show own_G p e below s _ _ _ (T0.setTop (mkF m 21 #[.val (.long w10), .second] [(.long (3689348814741910323 : Int64)), (.long ((w10.toUInt64 >>> ((2 : Int32) &&& 0x3f).toInt64.toUInt64).toInt64)), (.long (w10 &&& (3689348814741910323 : Int64)))]))
  refine own_st (fun zt zk => XS.land X0.here hx rfl (hb hby dd_jdk_35m50_21) rfl zk) ?_
  show own_G p e below s _ _ _ (T0.setTop (mkF m 22 #[.val (.long w10), .second] [(.long (((w10.toUInt64 >>> ((2 : Int32) &&& 0x3f).toInt64.toUInt64).toInt64) &&& (3689348814741910323 : Int64))), (.long (w10 &&& (3689348814741910323 : Int64)))]))
  refine own_st (fun zt zk => XS.ladd X0.here hx rfl (hb hby dd_jdk_35m50_22) rfl zk) ?_
  show own_G p e below s _ _ _ (T0.setTop (mkF m 23 #[.val (.long w10), .second] [(.long ((w10 &&& (3689348814741910323 : Int64)) + (((w10.toUInt64 >>> ((2 : Int32) &&& 0x3f).toInt64.toUInt64).toInt64) &&& (3689348814741910323 : Int64))))]))
  refine own_st (fun zt zk => XS.lstoreN X0.here hx rfl (hb hby dd_jdk_35m50_23) rfl (l' := #[.val (.long ((w10 &&& (3689348814741910323 : Int64)) + (((w10.toUInt64 >>> ((2 : Int32) &&& 0x3f).toInt64.toUInt64).toInt64) &&& (3689348814741910323 : Int64)))), .second]) rfl zk) ?_
  show own_G p e below s _ _ _ (T0.setTop (mkF m 24 #[.val (.long ((w10 &&& (3689348814741910323 : Int64)) + (((w10.toUInt64 >>> ((2 : Int32) &&& 0x3f).toInt64.toUInt64).toInt64) &&& (3689348814741910323 : Int64)))), .second] []))
  obtain ⟨w24, q_w24⟩ : ∃ z, z = ((w10 &&& (3689348814741910323 : Int64)) + (((w10.toUInt64 >>> ((2 : Int32) &&& 0x3f).toInt64.toUInt64).toInt64) &&& (3689348814741910323 : Int64))) := ⟨_, rfl⟩
  rw [← q_w24]
  show own_G p e below s _ _ _ (T0.setTop (mkF m 24 #[.val (.long w24), .second] []))
  refine own_st (fun zt zk => XS.lloadN X0.here hx rfl (hb hby dd_jdk_35m50_24) rfl zk) ?_
  show own_G p e below s _ _ _ (T0.setTop (mkF m 25 #[.val (.long w24), .second] [(.long w24)]))
  refine own_st (fun zt zk => XS.lloadN X0.here hx rfl (hb hby dd_jdk_35m50_25) rfl zk) ?_
  show own_G p e below s _ _ _ (T0.setTop (mkF m 26 #[.val (.long w24), .second] [(.long w24), (.long w24)]))
  refine own_st (fun zt zk => XS.iconst X0.here hx rfl (hb hby dd_jdk_35m50_26) zk) ?_
  show own_G p e below s _ _ _ (T0.setTop (mkF m 27 #[.val (.long w24), .second] [(.int (4 : Int32)), (.long w24), (.long w24)]))
  refine own_st (fun zt zk => XS.lushr X0.here hx rfl (hb hby dd_jdk_35m50_27) rfl zk) ?_
  show own_G p e below s _ _ _ (T0.setTop (mkF m 28 #[.val (.long w24), .second] [(.long ((w24.toUInt64 >>> ((4 : Int32) &&& 0x3f).toInt64.toUInt64).toInt64)), (.long w24)]))
  refine own_st (fun zt zk => XS.ladd X0.here hx rfl (hb hby dd_jdk_35m50_28) rfl zk) ?_
  show own_G p e below s _ _ _ (T0.setTop (mkF m 29 #[.val (.long w24), .second] [(.long (w24 + ((w24.toUInt64 >>> ((4 : Int32) &&& 0x3f).toInt64.toUInt64).toInt64)))]))
  refine own_st (X0.ldc2Long hx hown (mvT hZ (hw _ (List.mem_of_getElem? (i := 61) rfl))) (g := (mkF m 29 #[.val (.long w24), .second] [(.long (w24 + ((w24.toUInt64 >>> ((4 : Int32) &&& 0x3f).toInt64.toUInt64).toInt64)))])) rfl (hb hby dd_jdk_35m50_29)) ?_
  show own_G p e below s _ _ _ (T0.setTop (mkF m 32 #[.val (.long w24), .second] [(.long (1085102592571150095 : Int64)), (.long (w24 + ((w24.toUInt64 >>> ((4 : Int32) &&& 0x3f).toInt64.toUInt64).toInt64)))]))
  refine own_st (fun zt zk => XS.land X0.here hx rfl (hb hby dd_jdk_35m50_32) rfl zk) ?_
  show own_G p e below s _ _ _ (T0.setTop (mkF m 33 #[.val (.long w24), .second] [(.long ((w24 + ((w24.toUInt64 >>> ((4 : Int32) &&& 0x3f).toInt64.toUInt64).toInt64)) &&& (1085102592571150095 : Int64)))]))
  refine own_st (fun zt zk => XS.lstoreN X0.here hx rfl (hb hby dd_jdk_35m50_33) rfl (l' := #[.val (.long ((w24 + ((w24.toUInt64 >>> ((4 : Int32) &&& 0x3f).toInt64.toUInt64).toInt64)) &&& (1085102592571150095 : Int64))), .second]) rfl zk) ?_
  show own_G p e below s _ _ _ (T0.setTop (mkF m 34 #[.val (.long ((w24 + ((w24.toUInt64 >>> ((4 : Int32) &&& 0x3f).toInt64.toUInt64).toInt64)) &&& (1085102592571150095 : Int64))), .second] []))
  obtain ⟨w34, q_w34⟩ : ∃ z, z = ((w24 + ((w24.toUInt64 >>> ((4 : Int32) &&& 0x3f).toInt64.toUInt64).toInt64)) &&& (1085102592571150095 : Int64)) := ⟨_, rfl⟩
  rw [← q_w34]
  show own_G p e below s _ _ _ (T0.setTop (mkF m 34 #[.val (.long w34), .second] []))
  refine own_st (fun zt zk => XS.lloadN X0.here hx rfl (hb hby dd_jdk_35m50_34) rfl zk) ?_
  show own_G p e below s _ _ _ (T0.setTop (mkF m 35 #[.val (.long w34), .second] [(.long w34)]))
  refine own_st (fun zt zk => XS.lloadN X0.here hx rfl (hb hby dd_jdk_35m50_35) rfl zk) ?_
  show own_G p e below s _ _ _ (T0.setTop (mkF m 36 #[.val (.long w34), .second] [(.long w34), (.long w34)]))
  refine own_st (fun zt zk => XS.bipush X0.here hx rfl (hb hby dd_jdk_35m50_36) zk) ?_
  show own_G p e below s _ _ _ (T0.setTop (mkF m 38 #[.val (.long w34), .second] [(.int (8 : Int32)), (.long w34), (.long w34)]))
  refine own_st (fun zt zk => XS.lushr X0.here hx rfl (hb hby dd_jdk_35m50_38) rfl zk) ?_
  show own_G p e below s _ _ _ (T0.setTop (mkF m 39 #[.val (.long w34), .second] [(.long ((w34.toUInt64 >>> ((8 : Int32) &&& 0x3f).toInt64.toUInt64).toInt64)), (.long w34)]))
  refine own_st (fun zt zk => XS.ladd X0.here hx rfl (hb hby dd_jdk_35m50_39) rfl zk) ?_
  show own_G p e below s _ _ _ (T0.setTop (mkF m 40 #[.val (.long w34), .second] [(.long (w34 + ((w34.toUInt64 >>> ((8 : Int32) &&& 0x3f).toInt64.toUInt64).toInt64)))]))
  refine own_st (fun zt zk => XS.lstoreN X0.here hx rfl (hb hby dd_jdk_35m50_40) rfl (l' := #[.val (.long (w34 + ((w34.toUInt64 >>> ((8 : Int32) &&& 0x3f).toInt64.toUInt64).toInt64))), .second]) rfl zk) ?_
  show own_G p e below s _ _ _ (T0.setTop (mkF m 41 #[.val (.long (w34 + ((w34.toUInt64 >>> ((8 : Int32) &&& 0x3f).toInt64.toUInt64).toInt64))), .second] []))
  obtain ⟨w41, q_w41⟩ : ∃ z, z = (w34 + ((w34.toUInt64 >>> ((8 : Int32) &&& 0x3f).toInt64.toUInt64).toInt64)) := ⟨_, rfl⟩
  rw [← q_w41]
  show own_G p e below s _ _ _ (T0.setTop (mkF m 41 #[.val (.long w41), .second] []))
  refine own_st (fun zt zk => XS.lloadN X0.here hx rfl (hb hby dd_jdk_35m50_41) rfl zk) ?_
  show own_G p e below s _ _ _ (T0.setTop (mkF m 42 #[.val (.long w41), .second] [(.long w41)]))
  refine own_st (fun zt zk => XS.lloadN X0.here hx rfl (hb hby dd_jdk_35m50_42) rfl zk) ?_
  show own_G p e below s _ _ _ (T0.setTop (mkF m 43 #[.val (.long w41), .second] [(.long w41), (.long w41)]))
  refine own_st (fun zt zk => XS.bipush X0.here hx rfl (hb hby dd_jdk_35m50_43) zk) ?_
  show own_G p e below s _ _ _ (T0.setTop (mkF m 45 #[.val (.long w41), .second] [(.int (16 : Int32)), (.long w41), (.long w41)]))
  refine own_st (fun zt zk => XS.lushr X0.here hx rfl (hb hby dd_jdk_35m50_45) rfl zk) ?_
  show own_G p e below s _ _ _ (T0.setTop (mkF m 46 #[.val (.long w41), .second] [(.long ((w41.toUInt64 >>> ((16 : Int32) &&& 0x3f).toInt64.toUInt64).toInt64)), (.long w41)]))
  refine own_st (fun zt zk => XS.ladd X0.here hx rfl (hb hby dd_jdk_35m50_46) rfl zk) ?_
  show own_G p e below s _ _ _ (T0.setTop (mkF m 47 #[.val (.long w41), .second] [(.long (w41 + ((w41.toUInt64 >>> ((16 : Int32) &&& 0x3f).toInt64.toUInt64).toInt64)))]))
  refine own_st (fun zt zk => XS.lstoreN X0.here hx rfl (hb hby dd_jdk_35m50_47) rfl (l' := #[.val (.long (w41 + ((w41.toUInt64 >>> ((16 : Int32) &&& 0x3f).toInt64.toUInt64).toInt64))), .second]) rfl zk) ?_
  show own_G p e below s _ _ _ (T0.setTop (mkF m 48 #[.val (.long (w41 + ((w41.toUInt64 >>> ((16 : Int32) &&& 0x3f).toInt64.toUInt64).toInt64))), .second] []))
  obtain ⟨w48, q_w48⟩ : ∃ z, z = (w41 + ((w41.toUInt64 >>> ((16 : Int32) &&& 0x3f).toInt64.toUInt64).toInt64)) := ⟨_, rfl⟩
  rw [← q_w48]
  show own_G p e below s _ _ _ (T0.setTop (mkF m 48 #[.val (.long w48), .second] []))
  refine own_st (fun zt zk => XS.lloadN X0.here hx rfl (hb hby dd_jdk_35m50_48) rfl zk) ?_
  show own_G p e below s _ _ _ (T0.setTop (mkF m 49 #[.val (.long w48), .second] [(.long w48)]))
  refine own_st (fun zt zk => XS.lloadN X0.here hx rfl (hb hby dd_jdk_35m50_49) rfl zk) ?_
  show own_G p e below s _ _ _ (T0.setTop (mkF m 50 #[.val (.long w48), .second] [(.long w48), (.long w48)]))
  refine own_st (fun zt zk => XS.bipush X0.here hx rfl (hb hby dd_jdk_35m50_50) zk) ?_
  show own_G p e below s _ _ _ (T0.setTop (mkF m 52 #[.val (.long w48), .second] [(.int (32 : Int32)), (.long w48), (.long w48)]))
  refine own_st (fun zt zk => XS.lushr X0.here hx rfl (hb hby dd_jdk_35m50_52) rfl zk) ?_
  show own_G p e below s _ _ _ (T0.setTop (mkF m 53 #[.val (.long w48), .second] [(.long ((w48.toUInt64 >>> ((32 : Int32) &&& 0x3f).toInt64.toUInt64).toInt64)), (.long w48)]))
  refine own_st (fun zt zk => XS.ladd X0.here hx rfl (hb hby dd_jdk_35m50_53) rfl zk) ?_
  show own_G p e below s _ _ _ (T0.setTop (mkF m 54 #[.val (.long w48), .second] [(.long (w48 + ((w48.toUInt64 >>> ((32 : Int32) &&& 0x3f).toInt64.toUInt64).toInt64)))]))
  refine own_st (fun zt zk => XS.lstoreN X0.here hx rfl (hb hby dd_jdk_35m50_54) rfl (l' := #[.val (.long (w48 + ((w48.toUInt64 >>> ((32 : Int32) &&& 0x3f).toInt64.toUInt64).toInt64))), .second]) rfl zk) ?_
  show own_G p e below s _ _ _ (T0.setTop (mkF m 55 #[.val (.long (w48 + ((w48.toUInt64 >>> ((32 : Int32) &&& 0x3f).toInt64.toUInt64).toInt64))), .second] []))
  obtain ⟨w55, q_w55⟩ : ∃ z, z = (w48 + ((w48.toUInt64 >>> ((32 : Int32) &&& 0x3f).toInt64.toUInt64).toInt64)) := ⟨_, rfl⟩
  rw [← q_w55]
  show own_G p e below s _ _ _ (T0.setTop (mkF m 55 #[.val (.long w55), .second] []))
  refine own_st (fun zt zk => XS.lloadN X0.here hx rfl (hb hby dd_jdk_35m50_55) rfl zk) ?_
  show own_G p e below s _ _ _ (T0.setTop (mkF m 56 #[.val (.long w55), .second] [(.long w55)]))
  refine own_st (fun zt zk => XS.l2i X0.here hx rfl (hb hby dd_jdk_35m50_56) rfl zk) ?_
  show own_G p e below s _ _ _ (T0.setTop (mkF m 57 #[.val (.long w55), .second] [(.int w55.toInt32)]))
  refine own_st (fun zt zk => XS.bipush X0.here hx rfl (hb hby dd_jdk_35m50_57) zk) ?_
  show own_G p e below s _ _ _ (T0.setTop (mkF m 59 #[.val (.long w55), .second] [(.int (127 : Int32)), (.int w55.toInt32)]))
  refine own_st (fun zt zk => XS.iand X0.here hx rfl (hb hby dd_jdk_35m50_59) rfl zk) ?_
  show own_G p e below s _ _ _ (T0.setTop (mkF m 60 #[.val (.long w55), .second] [(.int (w55.toInt32 &&& (127 : Int32)))]))
  refine own_retI X0 hx hlk hret (hb hby dd_jdk_35m50_60) (by decide) (by decide) ?_
  show Q_own_bc Z u h0 n0 (some (.int (w55.toInt32 &&& (127 : Int32)))) T0.heap _
  rw [e0]
  exact ⟨(w55.toInt32 &&& (127 : Int32)), rfl, N0, rfl⟩
theorem own_pn3 : plainFor (⟨"com/example/orderly_results/orderlyresults/engine/WaveletMatrix", "counts", "([J)[I"⟩ : MethodName) = true := plainFor_of_name (by first | (simp [plainName, overriddenIn]; done) | decide +kernel)
theorem dd_prog_25m8_0 : decode prog_25_method_8_code 0 = .ok (.aload_n 0, 1) := by decide +kernel
theorem dd_prog_25m8_1 : decode prog_25_method_8_code 1 = .ok (.arraylength, 1) := by decide +kernel
theorem dd_prog_25m8_2 : decode prog_25_method_8_code 2 = .ok (.bipush 8, 2) := by decide +kernel
theorem dd_prog_25m8_4 : decode prog_25_method_8_code 4 = .ok (.idiv, 1) := by decide +kernel
theorem dd_prog_25m8_5 : decode prog_25_method_8_code 5 = .ok (.iconst 1, 1) := by decide +kernel
theorem dd_prog_25m8_6 : decode prog_25_method_8_code 6 = .ok (.iadd, 1) := by decide +kernel
theorem dd_prog_25m8_7 : decode prog_25_method_8_code 7 = .ok (.newarray .int, 2) := by decide +kernel
theorem dd_prog_25m8_9 : decode prog_25_method_8_code 9 = .ok (.astore_n 1, 1) := by decide +kernel
theorem dd_prog_25m8_10 : decode prog_25_method_8_code 10 = .ok (.iconst 0, 1) := by decide +kernel
theorem dd_prog_25m8_11 : decode prog_25_method_8_code 11 = .ok (.istore_n 2, 1) := by decide +kernel
theorem dd_prog_25m8_12 : decode prog_25_method_8_code 12 = .ok (.iconst 0, 1) := by decide +kernel
theorem dd_prog_25m8_13 : decode prog_25_method_8_code 13 = .ok (.istore_n 3, 1) := by decide +kernel
theorem dd_prog_25m8_14 : decode prog_25_method_8_code 14 = .ok (.iload_n 3, 1) := by decide +kernel
theorem dd_prog_25m8_15 : decode prog_25_method_8_code 15 = .ok (.aload_n 0, 1) := by decide +kernel
theorem dd_prog_25m8_16 : decode prog_25_method_8_code 16 = .ok (.arraylength, 1) := by decide +kernel
theorem dd_prog_25m8_17 : decode prog_25_method_8_code 17 = .ok (.if_icmp .ge 32, 3) := by decide +kernel
theorem dd_prog_25m8_49 : decode prog_25_method_8_code 49 = .ok (.aload_n 1, 1) := by decide +kernel
theorem dd_prog_25m8_50 : decode prog_25_method_8_code 50 = .ok (.areturn, 1) := by decide +kernel
theorem dd_prog_25m8_20 : decode prog_25_method_8_code 20 = .ok (.iload_n 3, 1) := by decide +kernel
theorem dd_prog_25m8_21 : decode prog_25_method_8_code 21 = .ok (.bipush 8, 2) := by decide +kernel
theorem dd_prog_25m8_23 : decode prog_25_method_8_code 23 = .ok (.irem, 1) := by decide +kernel
theorem dd_prog_25m8_24 : decode prog_25_method_8_code 24 = .ok (.ifCond .ne 10, 3) := by decide +kernel
theorem dd_prog_25m8_27 : decode prog_25_method_8_code 27 = .ok (.aload_n 1, 1) := by decide +kernel
theorem dd_prog_25m8_28 : decode prog_25_method_8_code 28 = .ok (.iload_n 3, 1) := by decide +kernel
theorem dd_prog_25m8_29 : decode prog_25_method_8_code 29 = .ok (.bipush 8, 2) := by decide +kernel
theorem dd_prog_25m8_31 : decode prog_25_method_8_code 31 = .ok (.idiv, 1) := by decide +kernel
theorem dd_prog_25m8_32 : decode prog_25_method_8_code 32 = .ok (.iload_n 2, 1) := by decide +kernel
theorem dd_prog_25m8_33 : decode prog_25_method_8_code 33 = .ok (.iastore, 1) := by decide +kernel
theorem dd_prog_25m8_34 : decode prog_25_method_8_code 34 = .ok (.iload_n 2, 1) := by decide +kernel
theorem dd_prog_25m8_35 : decode prog_25_method_8_code 35 = .ok (.aload_n 0, 1) := by decide +kernel
theorem dd_prog_25m8_36 : decode prog_25_method_8_code 36 = .ok (.iload_n 3, 1) := by decide +kernel
theorem dd_prog_25m8_37 : decode prog_25_method_8_code 37 = .ok (.laload, 1) := by decide +kernel
theorem dd_prog_25m8_38 : decode prog_25_method_8_code 38 = .ok (.invokestatic 92, 3) := by decide +kernel
theorem own_pd0 : parseMethodDescriptor "(J)I" = some ⟨[.long], some .int⟩ := by decide +kernel
theorem dd_prog_25m8_41 : decode prog_25_method_8_code 41 = .ok (.iadd, 1) := by decide +kernel
theorem dd_prog_25m8_42 : decode prog_25_method_8_code 42 = .ok (.istore_n 2, 1) := by decide +kernel
theorem dd_prog_25m8_43 : decode prog_25_method_8_code 43 = .ok (.iinc 3 1, 3) := by decide +kernel
theorem dd_prog_25m8_46 : decode prog_25_method_8_code 46 = .ok (.goto (-32), 3) := by decide +kernel
theorem ef_own_ct (m : MethodId) (z0 : Addr) : entryFrame m #[(.ref z0)] 4 = mkF m 0 #[.val (.ref z0), .unset, .unset, .unset] [] := by first | (simp [entryFrame, mkF, argsToLocals, Value.category]; done) | rfl
def Q_own_ct (Z : State) (ar : Addr) (N : Nat) (G : Nat → Int64) (h0 : Heap) (n0 : Nat) (zv : Option Value) (zh : Heap) (zL : List Loc) : Prop := ∃ rb : Addr, zv = some (.ref rb) ∧ Fr n0 zL ∧ Keep h0 zh [] ∧ h0.size ≤ rb ∧ Exa Z zh rb "[I"
set_option maxRecDepth 65536 in
set_option maxHeartbeats 40000000 in
theorem own_ct (l : Launch) (Z : State) (a0 : Array Value) (hw : ∀ d ∈ tables_1, d.before a0 Z = true) (ws : List Jvm.Cond) (ar : Addr) (N : Nat) (G : Nat → Int64) (h0 : Heap) (n0 : Nat) (Z0 : n0 ≤ h0.size) (p0_ : own_A Z h0 ar .long N (fun q => .long (G q))) (p1_ : N ≤ 4) :
    MetFree l (⟨"com/example/orderly_results/orderlyresults/engine/WaveletMatrix", "counts", "([J)[I"⟩ : MethodName) (head1 (Jvm.Cond.code (⟨"com/example/orderly_results/orderlyresults/engine/WaveletMatrix", "counts", "([J)[I"⟩ : MethodName) prog_25_method_8_code 4 (some (.array .int)) :: ws) ({ frames := 1, cells := 1, slots := 1, locals := 14 } : Room)) (fun za zU => za = #[(.ref ar)] ∧ Z.Warmed39 zU.vm ∧ zU.heap = h0) (fun _ _ _ _ _ => True) (fun _ zU zo zU' => ∃ zv zL, zo = .returned zv ∧ Q_own_ct Z ar N G h0 n0 zv zU'.heap zL ∧ FrameEnd zU zo zU' zL ({ frames := 1, cells := 1, slots := 1, locals := 14 } : Room).cells ({ frames := 1, cells := 1, slots := 1, locals := 14 } : Room).slots) := by
  refine own_met (y := (⟨"com/example/orderly_results/orderlyresults/engine/WaveletMatrix", "counts", "([J)[I"⟩ : MethodName)) own_pn3 ?_
  intro p e s m below meth c T0 hx hby hml hown hnm hret hlk hZ e0 X0
  have N0 := Fr.nil n0
  refine own_st (fun zt zk => castTop (ef_own_ct m ar) zk) ?_
  show own_G p e below s _ _ _ (T0.setTop (mkF m 0 #[.val (.ref ar), .unset, .unset, .unset] []))
  refine own_st (fun zt zk => XS.aloadN X0.here hx rfl (hb hby dd_prog_25m8_0) rfl rfl zk) ?_
  show own_G p e below s _ _ _ (T0.setTop (mkF m 1 #[.val (.ref ar), .unset, .unset, .unset] [(.ref ar)]))
  refine own_st (own_arraylength X0 hx hZ e0 p0_ (Int32.ofNat N) (own_tO (Nat.le_trans p1_ (by decide))) (g := (mkF m 1 #[.val (.ref ar), .unset, .unset, .unset] [(.ref ar)])) rfl rfl (hb hby dd_prog_25m8_1)) ?_
  show own_G p e below s _ _ _ (T0.setTop (mkF m 2 #[.val (.ref ar), .unset, .unset, .unset] [(.int (Int32.ofNat N))]))
  refine own_st (fun zt zk => XS.bipush X0.here hx rfl (hb hby dd_prog_25m8_2) zk) ?_
  show own_G p e below s _ _ _ (T0.setTop (mkF m 4 #[.val (.ref ar), .unset, .unset, .unset] [(.int (8 : Int32)), (.int (Int32.ofNat N))]))
  refine own_st (fun zt zk => XS.idiv X0.here hx rfl (hb hby dd_prog_25m8_4) rfl (by decide) zk) ?_
  show own_G p e below s _ _ _ (T0.setTop (mkF m 5 #[.val (.ref ar), .unset, .unset, .unset] [(.int ((Int32.ofNat N) / (8 : Int32)))]))
  refine own_st (fun zt zk => XS.iconst X0.here hx rfl (hb hby dd_prog_25m8_5) zk) ?_
  show own_G p e below s _ _ _ (T0.setTop (mkF m 6 #[.val (.ref ar), .unset, .unset, .unset] [(.int (1 : Int32)), (.int ((Int32.ofNat N) / (8 : Int32)))]))
  refine own_st (fun zt zk => XS.iadd X0.here hx rfl (hb hby dd_prog_25m8_6) rfl zk) ?_
  show own_G p e below s _ _ _ (T0.setTop (mkF m 7 #[.val (.ref ar), .unset, .unset, .unset] [(.int (((Int32.ofNat N) / (8 : Int32)) + (1 : Int32)))]))
  obtain ⟨T1, h1, X1, e1, E1, V1, D1, st1⟩ := own_newPE X0 hx hZ (aty := .int) (hw _ (List.mem_of_getElem? (i := 5) rfl)) e0 (g := (mkF m 7 #[.val (.ref ar), .unset, .unset, .unset] [(.int (((Int32.ofNat N) / (8 : Int32)) + (1 : Int32)))])) rfl (hb hby dd_prog_25m8_7) rfl (n := (N / 8 + 1)) (own_dvO1 (Nat.le_trans p1_ (by decide)) 8 (by decide) (by decide)) (cap := 1) (by omega) (by decide) (by decide) (by decide) (ad := "[I") (by decide +kernel)
  obtain ⟨b1, g1⟩ : ∃ z, z = h0.size := ⟨_, rfl⟩
  rw [← g1] at V1 D1 st1
  have ne1_ar : ar ≠ b1 := by rw [g1]; exact Nat.ne_of_lt p0_.lt
  have ge1 : n0 ≤ b1 := Nat.le_trans Z0 (Nat.le_of_eq g1.symm)
  have sz1 : h0.size ≤ b1 := Nat.le_trans (Nat.le_refl h0.size) (Nat.le_of_eq g1.symm)
  have V1a : own_A Z h1 b1 .int (N / 8 + 1) (fun q => .int ((fun _ => (0 : Int32)) q)) := V1
  refine own_st st1 ?_
  show own_G p e below s _ _ _ (T1.setTop (mkF m 9 #[.val (.ref ar), .unset, .unset, .unset] [(.ref b1)]))
  refine own_st (fun zt zk => XS.astoreN X1.here hx rfl (hb hby dd_prog_25m8_9) rfl rfl (l' := #[.val (.ref ar), .val (.ref b1), .unset, .unset]) rfl zk) ?_
  show own_G p e below s _ _ _ (T1.setTop (mkF m 10 #[.val (.ref ar), .val (.ref b1), .unset, .unset] []))
  refine own_st (fun zt zk => XS.iconst X1.here hx rfl (hb hby dd_prog_25m8_10) zk) ?_
  show own_G p e below s _ _ _ (T1.setTop (mkF m 11 #[.val (.ref ar), .val (.ref b1), .unset, .unset] [(.int (0 : Int32))]))
  refine own_st (fun zt zk => XS.istoreN X1.here hx rfl (hb hby dd_prog_25m8_11) rfl (l' := #[.val (.ref ar), .val (.ref b1), .val (.int (0 : Int32)), .unset]) rfl zk) ?_
  show own_G p e below s _ _ _ (T1.setTop (mkF m 12 #[.val (.ref ar), .val (.ref b1), .val (.int (0 : Int32)), .unset] []))
  refine own_st (fun zt zk => XS.iconst X1.here hx rfl (hb hby dd_prog_25m8_12) zk) ?_
  show own_G p e below s _ _ _ (T1.setTop (mkF m 13 #[.val (.ref ar), .val (.ref b1), .val (.int (0 : Int32)), .unset] [(.int (0 : Int32))]))
  refine own_st (fun zt zk => XS.istoreN X1.here hx rfl (hb hby dd_prog_25m8_13) rfl (l' := #[.val (.ref ar), .val (.ref b1), .val (.int (0 : Int32)), .val (.int (0 : Int32))]) rfl zk) ?_
  show own_G p e below s _ _ _ (T1.setTop (mkF m 14 #[.val (.ref ar), .val (.ref b1), .val (.int (0 : Int32)), .val (.int (0 : Int32))] []))
  have hL : ∀ (fu : Nat) (j : Nat) (cv : Int32) (GC : Nat → Int32) (T1 : State) (hp1 : Heap) (locs1 : List Loc) (X1 : Stand p l e ({ frames := 1, cells := 1, slots := 1, locals := 14 } : Room) s m #[(.ref ar)] below meth c T1 locs1 1 1) (e1 : T1.heap = hp1) (N1 : Fr n0 locs1) (K1 : Keep h0 hp1 []) (B0 : Exa Z hp1 b1 "[I") (B1 : own_A Z hp1 ar .long N (fun q => .long (G q))) (B2 : own_A Z hp1 b1 .int (N / 8 + 1) (fun q => .int (GC q))) (hm : j + fu = N), own_G p e below s (Q_own_ct Z ar N G h0 n0) ({ frames := 1, cells := 1, slots := 1, locals := 14 } : Room).cells ({ frames := 1, cells := 1, slots := 1, locals := 14 } : Room).slots (T1.setTop (mkF m 14 #[.val (.ref ar), .val (.ref b1), .val (.int cv), .val (.int (Int32.ofNat j))] [])) := by
    intro fu
    induction fu with
    | zero =>
      intro j cv GC T1 hp1 locs1 X1 e1 N1 K1 B0 B1 B2 hm
      have hj : j ≤ 255 := by omega
      show own_G p e below s _ _ _ (T1.setTop (mkF m 14 #[.val (.ref ar), .val (.ref b1), .val (.int cv), .val (.int (Int32.ofNat j))] []))
      refine own_st (fun zt zk => XS.iloadN X1.here hx rfl (hb hby dd_prog_25m8_14) rfl zk) ?_
      show own_G p e below s _ _ _ (T1.setTop (mkF m 15 #[.val (.ref ar), .val (.ref b1), .val (.int cv), .val (.int (Int32.ofNat j))] [(.int (Int32.ofNat j))]))
      refine own_st (fun zt zk => XS.aloadN X1.here hx rfl (hb hby dd_prog_25m8_15) rfl rfl zk) ?_
      show own_G p e below s _ _ _ (T1.setTop (mkF m 16 #[.val (.ref ar), .val (.ref b1), .val (.int cv), .val (.int (Int32.ofNat j))] [(.ref ar), (.int (Int32.ofNat j))]))
      refine own_st (own_arraylength X1 hx hZ e1 B1 (Int32.ofNat N) (own_tO (Nat.le_trans p1_ (by decide))) (g := (mkF m 16 #[.val (.ref ar), .val (.ref b1), .val (.int cv), .val (.int (Int32.ofNat j))] [(.ref ar), (.int (Int32.ofNat j))])) rfl rfl (hb hby dd_prog_25m8_16)) ?_
      show own_G p e below s _ _ _ (T1.setTop (mkF m 17 #[.val (.ref ar), .val (.ref b1), .val (.int cv), .val (.int (Int32.ofNat j))] [(.int (Int32.ofNat N)), (.int (Int32.ofNat j))]))
      have hc17_2 : ¬ ((Int32.ofNat j) < (Int32.ofNat N)) := mt (own_ltO hj (Nat.le_trans p1_ (by decide))).mp (by omega)
      refine own_st (fun zt zk => XS.icmpYes X1.here hx rfl (pc0 := 17) (pc' := 49) rfl (hb hby dd_prog_25m8_17) rfl (flt hc17_2).2.1 (by decide) (by decide) zk) ?_
      show own_G p e below s _ _ _ (T1.setTop (mkF m 49 #[.val (.ref ar), .val (.ref b1), .val (.int cv), .val (.int (Int32.ofNat j))] []))
      refine own_st (fun zt zk => XS.aloadN X1.here hx rfl (hb hby dd_prog_25m8_49) rfl rfl zk) ?_
      show own_G p e below s _ _ _ (T1.setTop (mkF m 50 #[.val (.ref ar), .val (.ref b1), .val (.int cv), .val (.int (Int32.ofNat j))] [(.ref b1)]))
      refine own_retA X1 hx hlk hret rfl rfl (hb hby dd_prog_25m8_50) (by decide) (by decide) ?_
      show Q_own_ct Z ar N G h0 n0 (some (.ref b1)) T1.heap _
      rw [e1]
      exact ⟨b1, rfl, N1, K1, sz1, B0⟩
    | succ fu ih =>
      intro j cv GC T1 hp1 locs1 X1 e1 N1 K1 B0 B1 B2 hm
      have hj : j ≤ 255 := by omega
      show own_G p e below s _ _ _ (T1.setTop (mkF m 14 #[.val (.ref ar), .val (.ref b1), .val (.int cv), .val (.int (Int32.ofNat j))] []))
      refine own_st (fun zt zk => XS.iloadN X1.here hx rfl (hb hby dd_prog_25m8_14) rfl zk) ?_
      show own_G p e below s _ _ _ (T1.setTop (mkF m 15 #[.val (.ref ar), .val (.ref b1), .val (.int cv), .val (.int (Int32.ofNat j))] [(.int (Int32.ofNat j))]))
      refine own_st (fun zt zk => XS.aloadN X1.here hx rfl (hb hby dd_prog_25m8_15) rfl rfl zk) ?_
      show own_G p e below s _ _ _ (T1.setTop (mkF m 16 #[.val (.ref ar), .val (.ref b1), .val (.int cv), .val (.int (Int32.ofNat j))] [(.ref ar), (.int (Int32.ofNat j))]))
      refine own_st (own_arraylength X1 hx hZ e1 B1 (Int32.ofNat N) (own_tO (Nat.le_trans p1_ (by decide))) (g := (mkF m 16 #[.val (.ref ar), .val (.ref b1), .val (.int cv), .val (.int (Int32.ofNat j))] [(.ref ar), (.int (Int32.ofNat j))])) rfl rfl (hb hby dd_prog_25m8_16)) ?_
      show own_G p e below s _ _ _ (T1.setTop (mkF m 17 #[.val (.ref ar), .val (.ref b1), .val (.int cv), .val (.int (Int32.ofNat j))] [(.int (Int32.ofNat N)), (.int (Int32.ofNat j))]))
      have hc17_3 : (Int32.ofNat j) < (Int32.ofNat N) := (own_ltO hj (Nat.le_trans p1_ (by decide))).mpr (by omega)
      refine own_st (fun zt zk => XS.icmpNo X1.here hx rfl (hb hby dd_prog_25m8_17) rfl (tlt hc17_3).2.1 zk) ?_
      show own_G p e below s _ _ _ (T1.setTop (mkF m 20 #[.val (.ref ar), .val (.ref b1), .val (.int cv), .val (.int (Int32.ofNat j))] []))
      refine own_st (fun zt zk => XS.iloadN X1.here hx rfl (hb hby dd_prog_25m8_20) rfl zk) ?_
      show own_G p e below s _ _ _ (T1.setTop (mkF m 21 #[.val (.ref ar), .val (.ref b1), .val (.int cv), .val (.int (Int32.ofNat j))] [(.int (Int32.ofNat j))]))
      refine own_st (fun zt zk => XS.bipush X1.here hx rfl (hb hby dd_prog_25m8_21) zk) ?_
      show own_G p e below s _ _ _ (T1.setTop (mkF m 23 #[.val (.ref ar), .val (.ref b1), .val (.int cv), .val (.int (Int32.ofNat j))] [(.int (8 : Int32)), (.int (Int32.ofNat j))]))
      refine own_st (fun zt zk => Jvm.RoadKit.iremM X1 hx rfl (hb hby dd_prog_25m8_23) rfl (by decide) zk) ?_
      show own_G p e below s _ _ _ (T1.setTop (mkF m 24 #[.val (.ref ar), .val (.ref b1), .val (.int cv), .val (.int (Int32.ofNat j))] [(.int ((Int32.ofNat j) % (8 : Int32)))]))
      by_cases hc24_4 : ((Int32.ofNat j) % (8 : Int32)) = (0 : Int32)
      · refine own_st (fun zt zk => XS.ifNo X1.here hx rfl (hb hby dd_prog_25m8_24) rfl ((if0 _ _).trans (teq hc24_4).2) zk) ?_
        show own_G p e below s _ _ _ (T1.setTop (mkF m 27 #[.val (.ref ar), .val (.ref b1), .val (.int cv), .val (.int (Int32.ofNat j))] []))
        refine own_st (fun zt zk => XS.aloadN X1.here hx rfl (hb hby dd_prog_25m8_27) rfl rfl zk) ?_
        show own_G p e below s _ _ _ (T1.setTop (mkF m 28 #[.val (.ref ar), .val (.ref b1), .val (.int cv), .val (.int (Int32.ofNat j))] [(.ref b1)]))
        refine own_st (fun zt zk => XS.iloadN X1.here hx rfl (hb hby dd_prog_25m8_28) rfl zk) ?_
        show own_G p e below s _ _ _ (T1.setTop (mkF m 29 #[.val (.ref ar), .val (.ref b1), .val (.int cv), .val (.int (Int32.ofNat j))] [(.int (Int32.ofNat j)), (.ref b1)]))
        refine own_st (fun zt zk => XS.bipush X1.here hx rfl (hb hby dd_prog_25m8_29) zk) ?_
        show own_G p e below s _ _ _ (T1.setTop (mkF m 31 #[.val (.ref ar), .val (.ref b1), .val (.int cv), .val (.int (Int32.ofNat j))] [(.int (8 : Int32)), (.int (Int32.ofNat j)), (.ref b1)]))
        refine own_st (fun zt zk => XS.idiv X1.here hx rfl (hb hby dd_prog_25m8_31) rfl (by decide) zk) ?_
        show own_G p e below s _ _ _ (T1.setTop (mkF m 32 #[.val (.ref ar), .val (.ref b1), .val (.int cv), .val (.int (Int32.ofNat j))] [(.int ((Int32.ofNat j) / (8 : Int32))), (.ref b1)]))
        refine own_st (fun zt zk => XS.iloadN X1.here hx rfl (hb hby dd_prog_25m8_32) rfl zk) ?_
        show own_G p e below s _ _ _ (T1.setTop (mkF m 33 #[.val (.ref ar), .val (.ref b1), .val (.int cv), .val (.int (Int32.ofNat j))] [(.int cv), (.int ((Int32.ofNat j) / (8 : Int32))), (.ref b1)]))
        obtain ⟨T5, h5, X5, e5, W5, V5, st5⟩ := own_iastore X1 hx hZ e1 B2 (i := (j / 8)) (own_dvO hj 8 (by decide) (by decide)) (by omega) (g := (mkF m 33 #[.val (.ref ar), .val (.ref b1), .val (.int cv), .val (.int (Int32.ofNat j))] [(.int cv), (.int ((Int32.ofNat j) / (8 : Int32))), (.ref b1)])) rfl rfl (hb hby dd_prog_25m8_33)
        refine own_st st5 ?_
        have N5 := Fr.snoc X5 N1 ge1
        have V5a : own_A Z h5 b1 .int (N / 8 + 1) (fun q => .int ((own_up GC (j / 8) cv) q)) := V5.congr (fun q _ => by simp only [own_up]; split <;> rfl)
        show own_G p e below s _ _ _ (T5.setTop (mkF m 34 #[.val (.ref ar), .val (.ref b1), .val (.int cv), .val (.int (Int32.ofNat j))] []))
        refine own_st (fun zt zk => XS.iloadN X5.here hx rfl (hb hby dd_prog_25m8_34) rfl zk) ?_
        show own_G p e below s _ _ _ (T5.setTop (mkF m 35 #[.val (.ref ar), .val (.ref b1), .val (.int cv), .val (.int (Int32.ofNat j))] [(.int cv)]))
        refine own_st (fun zt zk => XS.aloadN X5.here hx rfl (hb hby dd_prog_25m8_35) rfl rfl zk) ?_
        show own_G p e below s _ _ _ (T5.setTop (mkF m 36 #[.val (.ref ar), .val (.ref b1), .val (.int cv), .val (.int (Int32.ofNat j))] [(.ref ar), (.int cv)]))
        refine own_st (fun zt zk => XS.iloadN X5.here hx rfl (hb hby dd_prog_25m8_36) rfl zk) ?_
        show own_G p e below s _ _ _ (T5.setTop (mkF m 37 #[.val (.ref ar), .val (.ref b1), .val (.int cv), .val (.int (Int32.ofNat j))] [(.int (Int32.ofNat j)), (.ref ar), (.int cv)]))
        have V6 : own_A Z h5 ar .long N (fun q => .long (G q)) := (B1.other W5 ne1_ar)
        refine own_st (own_laload X5 hx hZ e5 V6 (own_tO hj) (by omega) (.long (G j)) rfl (g := (mkF m 37 #[.val (.ref ar), .val (.ref b1), .val (.int cv), .val (.int (Int32.ofNat j))] [(.int (Int32.ofNat j)), (.ref ar), (.int cv)])) rfl rfl (hb hby dd_prog_25m8_37)) ?_
        show own_G p e below s _ _ _ (T5.setTop (mkF m 38 #[.val (.ref ar), .val (.ref b1), .val (.int cv), .val (.int (Int32.ofNat j))] [(.long (G j)), (.int cv)]))
        obtain ⟨_, T7, L7, X7, hQ7, st7⟩ := own_callS X5 hx hZ (y := (⟨"java/lang/Long", "bitCount", "(J)I"⟩ : MethodName)) (argsL := [(.long (G j))]) (rest := [(.int cv)]) 1 hown (hw _ (List.mem_of_getElem? (i := 55) rfl)) (hw _ (List.mem_of_getElem? (i := 56) rfl)) (hw _ (List.mem_of_getElem? (i := 57) rfl)) (hw _ (List.mem_of_getElem? (i := 58) rfl)) (by decide) (own_bc l Z a0 hw [] (G j) h5 n0 (Nat.le_trans (Nat.le_trans Z0 K1.1) (Nat.le_of_eq W5.size.symm)) ) (by decide) (by decide) e5 (g := (mkF m 38 #[.val (.ref ar), .val (.ref b1), .val (.int cv), .val (.int (Int32.ofNat j))] [(.long (G j)), (.int cv)])) rfl (by rw [hml]; rfl) own_pd0 rfl rfl (by show 2 * 0 + _ ≤ _; exact Nat.le_of_eq rfl) (hb hby dd_prog_25m8_38) (by decide) (by decide)
        obtain ⟨r7, rfl, N7q, e7⟩ := hQ7
        have N7 := Fr.app N5 N7q
        refine own_st st7 ?_
        show own_G p e below s _ _ _ (T7.setTop (mkF m 41 #[.val (.ref ar), .val (.ref b1), .val (.int cv), .val (.int (Int32.ofNat j))] [(.int r7), (.int cv)]))
        refine own_st (fun zt zk => XS.iadd X7.here hx rfl (hb hby dd_prog_25m8_41) rfl zk) ?_
        show own_G p e below s _ _ _ (T7.setTop (mkF m 42 #[.val (.ref ar), .val (.ref b1), .val (.int cv), .val (.int (Int32.ofNat j))] [(.int (cv + r7))]))
        refine own_st (fun zt zk => XS.istoreN X7.here hx rfl (hb hby dd_prog_25m8_42) rfl (l' := #[.val (.ref ar), .val (.ref b1), .val (.int (cv + r7)), .val (.int (Int32.ofNat j))]) rfl zk) ?_
        show own_G p e below s _ _ _ (T7.setTop (mkF m 43 #[.val (.ref ar), .val (.ref b1), .val (.int (cv + r7)), .val (.int (Int32.ofNat j))] []))
        refine own_st (fun zt zk => XS.iinc X7.here hx rfl (hb hby dd_prog_25m8_43) rfl (l' := #[.val (.ref ar), .val (.ref b1), .val (.int (cv + r7)), .val (.int ((Int32.ofNat j) + (1 : Int32)))]) rfl zk) ?_
        show own_G p e below s _ _ _ (T7.setTop (mkF m 46 #[.val (.ref ar), .val (.ref b1), .val (.int (cv + r7)), .val (.int ((Int32.ofNat j) + (1 : Int32)))] []))
        refine own_st (fun zt zk => XS.goto X7.here hx rfl (pc0 := 46) (pc' := 14) rfl (hb hby dd_prog_25m8_46) (by decide) (by decide) zk) ?_
        show own_G p e below s _ _ _ (T7.setTop (mkF m 14 #[.val (.ref ar), .val (.ref b1), .val (.int (cv + r7)), .val (.int ((Int32.ofNat j) + (1 : Int32)))] []))
        rw [own_ofS]
        show own_G p e below s _ _ _ (T7.setTop (mkF m 14 #[.val (.ref ar), .val (.ref b1), .val (.int (cv + r7)), .val (.int (Int32.ofNat (j + 1)))] []))
        have E8 : Exa Z h5 b1 "[I" := (B0.wr W5)
        exact ih (j + 1) (cv + r7) (own_up GC (j / 8) cv) T7 h5 _ X7 e7 N7 (K1.wr W5 (Or.inr sz1)) E8 V6 V5a (by omega)
      · refine own_st (fun zt zk => XS.ifYes X1.here hx rfl (pc0 := 24) (pc' := 34) rfl (hb hby dd_prog_25m8_24) rfl ((if0 _ _).trans (feq hc24_4).2) (by decide) (by decide) zk) ?_
        show own_G p e below s _ _ _ (T1.setTop (mkF m 34 #[.val (.ref ar), .val (.ref b1), .val (.int cv), .val (.int (Int32.ofNat j))] []))
        refine own_st (fun zt zk => XS.iloadN X1.here hx rfl (hb hby dd_prog_25m8_34) rfl zk) ?_
        show own_G p e below s _ _ _ (T1.setTop (mkF m 35 #[.val (.ref ar), .val (.ref b1), .val (.int cv), .val (.int (Int32.ofNat j))] [(.int cv)]))
        refine own_st (fun zt zk => XS.aloadN X1.here hx rfl (hb hby dd_prog_25m8_35) rfl rfl zk) ?_
        show own_G p e below s _ _ _ (T1.setTop (mkF m 36 #[.val (.ref ar), .val (.ref b1), .val (.int cv), .val (.int (Int32.ofNat j))] [(.ref ar), (.int cv)]))
        refine own_st (fun zt zk => XS.iloadN X1.here hx rfl (hb hby dd_prog_25m8_36) rfl zk) ?_
        show own_G p e below s _ _ _ (T1.setTop (mkF m 37 #[.val (.ref ar), .val (.ref b1), .val (.int cv), .val (.int (Int32.ofNat j))] [(.int (Int32.ofNat j)), (.ref ar), (.int cv)]))
        refine own_st (own_laload X1 hx hZ e1 B1 (own_tO hj) (by omega) (.long (G j)) rfl (g := (mkF m 37 #[.val (.ref ar), .val (.ref b1), .val (.int cv), .val (.int (Int32.ofNat j))] [(.int (Int32.ofNat j)), (.ref ar), (.int cv)])) rfl rfl (hb hby dd_prog_25m8_37)) ?_
        show own_G p e below s _ _ _ (T1.setTop (mkF m 38 #[.val (.ref ar), .val (.ref b1), .val (.int cv), .val (.int (Int32.ofNat j))] [(.long (G j)), (.int cv)]))
        obtain ⟨_, T9, L9, X9, hQ9, st9⟩ := own_callS X1 hx hZ (y := (⟨"java/lang/Long", "bitCount", "(J)I"⟩ : MethodName)) (argsL := [(.long (G j))]) (rest := [(.int cv)]) 1 hown (hw _ (List.mem_of_getElem? (i := 55) rfl)) (hw _ (List.mem_of_getElem? (i := 56) rfl)) (hw _ (List.mem_of_getElem? (i := 57) rfl)) (hw _ (List.mem_of_getElem? (i := 58) rfl)) (by decide) (own_bc l Z a0 hw [] (G j) hp1 n0 (Nat.le_trans Z0 K1.1) ) (by decide) (by decide) e1 (g := (mkF m 38 #[.val (.ref ar), .val (.ref b1), .val (.int cv), .val (.int (Int32.ofNat j))] [(.long (G j)), (.int cv)])) rfl (by rw [hml]; rfl) own_pd0 rfl rfl (by show 2 * 0 + _ ≤ _; exact Nat.le_of_eq rfl) (hb hby dd_prog_25m8_38) (by decide) (by decide)
        obtain ⟨r9, rfl, N9q, e9⟩ := hQ9
        have N9 := Fr.app N1 N9q
        refine own_st st9 ?_
        show own_G p e below s _ _ _ (T9.setTop (mkF m 41 #[.val (.ref ar), .val (.ref b1), .val (.int cv), .val (.int (Int32.ofNat j))] [(.int r9), (.int cv)]))
        refine own_st (fun zt zk => XS.iadd X9.here hx rfl (hb hby dd_prog_25m8_41) rfl zk) ?_
        show own_G p e below s _ _ _ (T9.setTop (mkF m 42 #[.val (.ref ar), .val (.ref b1), .val (.int cv), .val (.int (Int32.ofNat j))] [(.int (cv + r9))]))
        refine own_st (fun zt zk => XS.istoreN X9.here hx rfl (hb hby dd_prog_25m8_42) rfl (l' := #[.val (.ref ar), .val (.ref b1), .val (.int (cv + r9)), .val (.int (Int32.ofNat j))]) rfl zk) ?_
        show own_G p e below s _ _ _ (T9.setTop (mkF m 43 #[.val (.ref ar), .val (.ref b1), .val (.int (cv + r9)), .val (.int (Int32.ofNat j))] []))
        refine own_st (fun zt zk => XS.iinc X9.here hx rfl (hb hby dd_prog_25m8_43) rfl (l' := #[.val (.ref ar), .val (.ref b1), .val (.int (cv + r9)), .val (.int ((Int32.ofNat j) + (1 : Int32)))]) rfl zk) ?_
        show own_G p e below s _ _ _ (T9.setTop (mkF m 46 #[.val (.ref ar), .val (.ref b1), .val (.int (cv + r9)), .val (.int ((Int32.ofNat j) + (1 : Int32)))] []))
        refine own_st (fun zt zk => XS.goto X9.here hx rfl (pc0 := 46) (pc' := 14) rfl (hb hby dd_prog_25m8_46) (by decide) (by decide) zk) ?_
        show own_G p e below s _ _ _ (T9.setTop (mkF m 14 #[.val (.ref ar), .val (.ref b1), .val (.int (cv + r9)), .val (.int ((Int32.ofNat j) + (1 : Int32)))] []))
        rw [own_ofS]
        show own_G p e below s _ _ _ (T9.setTop (mkF m 14 #[.val (.ref ar), .val (.ref b1), .val (.int (cv + r9)), .val (.int (Int32.ofNat (j + 1)))] []))
        exact ih (j + 1) (cv + r9) GC T9 hp1 _ X9 e9 N9 K1 B0 B1 B2 (by omega)
  have V10 : own_A Z h1 ar .long N (fun q => .long (G q)) := (p0_.ext E1)
  exact hL N 0 (0 : Int32) (fun _ => (0 : Int32)) T1 h1 _ X1 e1 N0 ((Keep.refl _ _).ext E1) D1 V10 V1a (by omega)
theorem own_pn4 : plainFor (⟨"com/example/orderly_results/orderlyresults/engine/WaveletMatrix", "placed", "([II[J[I[I)I"⟩ : MethodName) = true := plainFor_of_name (by first | (simp [plainName, overriddenIn]; done) | decide +kernel)
theorem dd_prog_25m2_0 : decode prog_25_method_2_code 0 = .ok (.aload_n 0, 1) := by decide +kernel
theorem dd_prog_25m2_1 : decode prog_25_method_2_code 1 = .ok (.arraylength, 1) := by decide +kernel
theorem dd_prog_25m2_2 : decode prog_25_method_2_code 2 = .ok (.istore 5, 2) := by decide +kernel
theorem dd_prog_25m2_4 : decode prog_25_method_2_code 4 = .ok (.iconst 0, 1) := by decide +kernel
theorem dd_prog_25m2_5 : decode prog_25_method_2_code 5 = .ok (.istore 6, 2) := by decide +kernel
theorem dd_prog_25m2_7 : decode prog_25_method_2_code 7 = .ok (.iconst 0, 1) := by decide +kernel
theorem dd_prog_25m2_8 : decode prog_25_method_2_code 8 = .ok (.istore 7, 2) := by decide +kernel
theorem dd_prog_25m2_10 : decode prog_25_method_2_code 10 = .ok (.lconst 0, 1) := by decide +kernel
theorem dd_prog_25m2_11 : decode prog_25_method_2_code 11 = .ok (.lstore 8, 2) := by decide +kernel
theorem dd_prog_25m2_13 : decode prog_25_method_2_code 13 = .ok (.iconst 0, 1) := by decide +kernel
theorem dd_prog_25m2_14 : decode prog_25_method_2_code 14 = .ok (.istore 10, 2) := by decide +kernel
theorem dd_prog_25m2_16 : decode prog_25_method_2_code 16 = .ok (.iload 10, 2) := by decide +kernel
theorem dd_prog_25m2_18 : decode prog_25_method_2_code 18 = .ok (.iload 5, 2) := by decide +kernel
theorem dd_prog_25m2_20 : decode prog_25_method_2_code 20 = .ok (.if_icmp .ge 85, 3) := by decide +kernel
theorem dd_prog_25m2_105 : decode prog_25_method_2_code 105 = .ok (.aload_n 2, 1) := by decide +kernel
theorem dd_prog_25m2_106 : decode prog_25_method_2_code 106 = .ok (.iload 5, 2) := by decide +kernel
theorem dd_prog_25m2_108 : decode prog_25_method_2_code 108 = .ok (.bipush 64, 2) := by decide +kernel
theorem dd_prog_25m2_110 : decode prog_25_method_2_code 110 = .ok (.idiv, 1) := by decide +kernel
theorem dd_prog_25m2_111 : decode prog_25_method_2_code 111 = .ok (.lload 8, 2) := by decide +kernel
theorem dd_prog_25m2_113 : decode prog_25_method_2_code 113 = .ok (.lastore, 1) := by decide +kernel
theorem dd_prog_25m2_114 : decode prog_25_method_2_code 114 = .ok (.aload 4, 2) := by decide +kernel
theorem dd_prog_25m2_116 : decode prog_25_method_2_code 116 = .ok (.iconst 0, 1) := by decide +kernel
theorem dd_prog_25m2_117 : decode prog_25_method_2_code 117 = .ok (.aload_n 3, 1) := by decide +kernel
theorem dd_prog_25m2_118 : decode prog_25_method_2_code 118 = .ok (.iload 6, 2) := by decide +kernel
theorem dd_prog_25m2_120 : decode prog_25_method_2_code 120 = .ok (.iload 7, 2) := by decide +kernel
theorem dd_prog_25m2_122 : decode prog_25_method_2_code 122 = .ok (.invokestatic 56, 3) := by decide +kernel
theorem dd_prog_25m2_125 : decode prog_25_method_2_code 125 = .ok (.iload 6, 2) := by decide +kernel
theorem dd_prog_25m2_127 : decode prog_25_method_2_code 127 = .ok (.ireturn, 1) := by decide +kernel
theorem dd_prog_25m2_23 : decode prog_25_method_2_code 23 = .ok (.aload_n 0, 1) := by decide +kernel
theorem dd_prog_25m2_24 : decode prog_25_method_2_code 24 = .ok (.iload 10, 2) := by decide +kernel
theorem dd_prog_25m2_26 : decode prog_25_method_2_code 26 = .ok (.iaload, 1) := by decide +kernel
theorem dd_prog_25m2_27 : decode prog_25_method_2_code 27 = .ok (.istore 11, 2) := by decide +kernel
theorem dd_prog_25m2_29 : decode prog_25_method_2_code 29 = .ok (.iload 11, 2) := by decide +kernel
theorem dd_prog_25m2_31 : decode prog_25_method_2_code 31 = .ok (.iload_n 1, 1) := by decide +kernel
theorem dd_prog_25m2_32 : decode prog_25_method_2_code 32 = .ok (.iushr, 1) := by decide +kernel
theorem dd_prog_25m2_33 : decode prog_25_method_2_code 33 = .ok (.iconst 1, 1) := by decide +kernel
theorem dd_prog_25m2_34 : decode prog_25_method_2_code 34 = .ok (.iand, 1) := by decide +kernel
theorem dd_prog_25m2_35 : decode prog_25_method_2_code 35 = .ok (.istore 12, 2) := by decide +kernel
theorem dd_prog_25m2_37 : decode prog_25_method_2_code 37 = .ok (.lload 8, 2) := by decide +kernel
theorem dd_prog_25m2_39 : decode prog_25_method_2_code 39 = .ok (.iload 12, 2) := by decide +kernel
theorem dd_prog_25m2_41 : decode prog_25_method_2_code 41 = .ok (.i2l, 1) := by decide +kernel
theorem dd_prog_25m2_42 : decode prog_25_method_2_code 42 = .ok (.iload 10, 2) := by decide +kernel
theorem dd_prog_25m2_44 : decode prog_25_method_2_code 44 = .ok (.lshl, 1) := by decide +kernel
theorem dd_prog_25m2_45 : decode prog_25_method_2_code 45 = .ok (.lor, 1) := by decide +kernel
theorem dd_prog_25m2_46 : decode prog_25_method_2_code 46 = .ok (.lstore 8, 2) := by decide +kernel
theorem dd_prog_25m2_48 : decode prog_25_method_2_code 48 = .ok (.iload 10, 2) := by decide +kernel
theorem dd_prog_25m2_50 : decode prog_25_method_2_code 50 = .ok (.bipush 64, 2) := by decide +kernel
theorem dd_prog_25m2_52 : decode prog_25_method_2_code 52 = .ok (.irem, 1) := by decide +kernel
theorem dd_prog_25m2_53 : decode prog_25_method_2_code 53 = .ok (.bipush 63, 2) := by decide +kernel
theorem dd_prog_25m2_55 : decode prog_25_method_2_code 55 = .ok (.if_icmp .ne 15, 3) := by decide +kernel
theorem dd_prog_25m2_58 : decode prog_25_method_2_code 58 = .ok (.aload_n 2, 1) := by decide +kernel
theorem dd_prog_25m2_59 : decode prog_25_method_2_code 59 = .ok (.iload 10, 2) := by decide +kernel
theorem dd_prog_25m2_61 : decode prog_25_method_2_code 61 = .ok (.bipush 64, 2) := by decide +kernel
theorem dd_prog_25m2_63 : decode prog_25_method_2_code 63 = .ok (.idiv, 1) := by decide +kernel
theorem dd_prog_25m2_64 : decode prog_25_method_2_code 64 = .ok (.lload 8, 2) := by decide +kernel
theorem dd_prog_25m2_66 : decode prog_25_method_2_code 66 = .ok (.lastore, 1) := by decide +kernel
theorem dd_prog_25m2_67 : decode prog_25_method_2_code 67 = .ok (.lconst 0, 1) := by decide +kernel
theorem dd_prog_25m2_68 : decode prog_25_method_2_code 68 = .ok (.lstore 8, 2) := by decide +kernel
theorem dd_prog_25m2_70 : decode prog_25_method_2_code 70 = .ok (.aload_n 3, 1) := by decide +kernel
theorem dd_prog_25m2_71 : decode prog_25_method_2_code 71 = .ok (.iload 6, 2) := by decide +kernel
theorem dd_prog_25m2_73 : decode prog_25_method_2_code 73 = .ok (.iload 11, 2) := by decide +kernel
theorem dd_prog_25m2_75 : decode prog_25_method_2_code 75 = .ok (.iastore, 1) := by decide +kernel
theorem dd_prog_25m2_76 : decode prog_25_method_2_code 76 = .ok (.aload 4, 2) := by decide +kernel
theorem dd_prog_25m2_78 : decode prog_25_method_2_code 78 = .ok (.iload 7, 2) := by decide +kernel
theorem dd_prog_25m2_80 : decode prog_25_method_2_code 80 = .ok (.iload 11, 2) := by decide +kernel
theorem dd_prog_25m2_82 : decode prog_25_method_2_code 82 = .ok (.iastore, 1) := by decide +kernel
theorem dd_prog_25m2_83 : decode prog_25_method_2_code 83 = .ok (.iload 6, 2) := by decide +kernel
theorem dd_prog_25m2_85 : decode prog_25_method_2_code 85 = .ok (.iload 12, 2) := by decide +kernel
theorem dd_prog_25m2_87 : decode prog_25_method_2_code 87 = .ok (.iconst 1, 1) := by decide +kernel
theorem dd_prog_25m2_88 : decode prog_25_method_2_code 88 = .ok (.ixor, 1) := by decide +kernel
theorem dd_prog_25m2_89 : decode prog_25_method_2_code 89 = .ok (.iadd, 1) := by decide +kernel
theorem dd_prog_25m2_90 : decode prog_25_method_2_code 90 = .ok (.istore 6, 2) := by decide +kernel
theorem dd_prog_25m2_92 : decode prog_25_method_2_code 92 = .ok (.iload 7, 2) := by decide +kernel
theorem dd_prog_25m2_94 : decode prog_25_method_2_code 94 = .ok (.iload 12, 2) := by decide +kernel
theorem dd_prog_25m2_96 : decode prog_25_method_2_code 96 = .ok (.iadd, 1) := by decide +kernel
theorem dd_prog_25m2_97 : decode prog_25_method_2_code 97 = .ok (.istore 7, 2) := by decide +kernel
theorem dd_prog_25m2_99 : decode prog_25_method_2_code 99 = .ok (.iinc 10 1, 3) := by decide +kernel
theorem dd_prog_25m2_102 : decode prog_25_method_2_code 102 = .ok (.goto (-86), 3) := by decide +kernel
theorem ef_own_pl (m : MethodId) (z0 : Addr) (z1 : Int32) (z2 : Addr) (z3 : Addr) (z4 : Addr) : entryFrame m #[(.ref z0), (.int z1), (.ref z2), (.ref z3), (.ref z4)] 13 = mkF m 0 #[.val (.ref z0), .val (.int z1), .val (.ref z2), .val (.ref z3), .val (.ref z4), .unset, .unset, .unset, .unset, .unset, .unset, .unset, .unset] [] := by first | (simp [entryFrame, mkF, argsToLocals, Value.category]; done) | rfl
def Q_own_pl (Z : State) (ga : Addr) (va : Addr) (na : Addr) (wa : Addr) (bq : Int32) (n : Nat) (gf : Nat → Int32) (Vz : Nat → Int64) (Xz : Nat → Int32) (Wz : Nat → Int32) (h0 : Heap) (n0 : Nat) (zv : Option Value) (zh : Heap) (zL : List Loc) : Prop := zv = some (.int (Int32.ofNat (own_c0 gf bq n))) ∧ Fr n0 zL ∧ Keep h0 zh [va, na, wa] ∧ own_A Z zh va .long (n / 64 + 1) (fun q => .long ((own_V gf bq Vz n) q)) ∧ own_A Z zh na .int n (fun q => .int ((own_F gf bq Xz Wz n) q)) ∧ own_A Z zh wa .int n (fun q => .int ((own_wsf gf bq Wz n) q))
set_option maxRecDepth 65536 in
set_option maxHeartbeats 40000000 in
theorem own_pl (l : Launch) (Z : State) (a0 : Array Value) (hw : ∀ d ∈ tables_1, d.before a0 Z = true) (ws : List Jvm.Cond) (ga : Addr) (va : Addr) (na : Addr) (wa : Addr) (bq : Int32) (n : Nat) (gf : Nat → Int32) (Vz : Nat → Int64) (Xz : Nat → Int32) (Wz : Nat → Int32) (h0 : Heap) (n0 : Nat) (Z0 : n0 ≤ h0.size) (p0_ : own_A Z h0 ga .int n (fun q => .int (gf q))) (p1_ : own_A Z h0 va .long (n / 64 + 1) (fun q => .long (Vz q))) (p2_ : own_A Z h0 na .int n (fun q => .int (Xz q))) (p3_ : own_A Z h0 wa .int n (fun q => .int (Wz q))) (p4_ : n0 ≤ va) (p5_ : n0 ≤ na) (p6_ : n0 ≤ wa) (p7_ : ga ≠ va) (p8_ : ga ≠ na) (p9_ : ga ≠ wa) (p10_ : va ≠ na) (p11_ : va ≠ wa) (p12_ : na ≠ wa) (p13_ : n ≤ 255) :
    MetFree l (⟨"com/example/orderly_results/orderlyresults/engine/WaveletMatrix", "placed", "([II[J[I[I)I"⟩ : MethodName) (head1 (Jvm.Cond.code (⟨"com/example/orderly_results/orderlyresults/engine/WaveletMatrix", "placed", "([II[J[I[I)I"⟩ : MethodName) prog_25_method_2_code 13 (some .int) :: ws) ({ frames := 1, cells := 0, slots := 0, locals := 51 } : Room)) (fun za zU => za = #[(.ref ga), (.int bq), (.ref va), (.ref na), (.ref wa)] ∧ Z.Warmed39 zU.vm ∧ zU.heap = h0) (fun _ _ _ _ _ => True) (fun _ zU zo zU' => ∃ zv zL, zo = .returned zv ∧ Q_own_pl Z ga va na wa bq n gf Vz Xz Wz h0 n0 zv zU'.heap zL ∧ FrameEnd zU zo zU' zL ({ frames := 1, cells := 0, slots := 0, locals := 51 } : Room).cells ({ frames := 1, cells := 0, slots := 0, locals := 51 } : Room).slots) := by
  refine own_met (y := (⟨"com/example/orderly_results/orderlyresults/engine/WaveletMatrix", "placed", "([II[J[I[I)I"⟩ : MethodName)) own_pn4 ?_
  intro p e s m below meth c T0 hx hby hml hown hnm hret hlk hZ e0 X0
  have N0 := Fr.nil n0
  refine own_st (fun zt zk => castTop (ef_own_pl m ga bq va na wa) zk) ?_
  show own_G p e below s _ _ _ (T0.setTop (mkF m 0 #[.val (.ref ga), .val (.int bq), .val (.ref va), .val (.ref na), .val (.ref wa), .unset, .unset, .unset, .unset, .unset, .unset, .unset, .unset] []))
  refine own_st (fun zt zk => XS.aloadN X0.here hx rfl (hb hby dd_prog_25m2_0) rfl rfl zk) ?_
  show own_G p e below s _ _ _ (T0.setTop (mkF m 1 #[.val (.ref ga), .val (.int bq), .val (.ref va), .val (.ref na), .val (.ref wa), .unset, .unset, .unset, .unset, .unset, .unset, .unset, .unset] [(.ref ga)]))
  refine own_st (own_arraylength X0 hx hZ e0 p0_ (Int32.ofNat n) (own_tO p13_) (g := (mkF m 1 #[.val (.ref ga), .val (.int bq), .val (.ref va), .val (.ref na), .val (.ref wa), .unset, .unset, .unset, .unset, .unset, .unset, .unset, .unset] [(.ref ga)])) rfl rfl (hb hby dd_prog_25m2_1)) ?_
  show own_G p e below s _ _ _ (T0.setTop (mkF m 2 #[.val (.ref ga), .val (.int bq), .val (.ref va), .val (.ref na), .val (.ref wa), .unset, .unset, .unset, .unset, .unset, .unset, .unset, .unset] [(.int (Int32.ofNat n))]))
  refine own_st (fun zt zk => XS.istore X0.here hx rfl (hb hby dd_prog_25m2_2) rfl (l' := #[.val (.ref ga), .val (.int bq), .val (.ref va), .val (.ref na), .val (.ref wa), .val (.int (Int32.ofNat n)), .unset, .unset, .unset, .unset, .unset, .unset, .unset]) rfl zk) ?_
  show own_G p e below s _ _ _ (T0.setTop (mkF m 4 #[.val (.ref ga), .val (.int bq), .val (.ref va), .val (.ref na), .val (.ref wa), .val (.int (Int32.ofNat n)), .unset, .unset, .unset, .unset, .unset, .unset, .unset] []))
  refine own_st (fun zt zk => XS.iconst X0.here hx rfl (hb hby dd_prog_25m2_4) zk) ?_
  show own_G p e below s _ _ _ (T0.setTop (mkF m 5 #[.val (.ref ga), .val (.int bq), .val (.ref va), .val (.ref na), .val (.ref wa), .val (.int (Int32.ofNat n)), .unset, .unset, .unset, .unset, .unset, .unset, .unset] [(.int (0 : Int32))]))
  refine own_st (fun zt zk => XS.istore X0.here hx rfl (hb hby dd_prog_25m2_5) rfl (l' := #[.val (.ref ga), .val (.int bq), .val (.ref va), .val (.ref na), .val (.ref wa), .val (.int (Int32.ofNat n)), .val (.int (0 : Int32)), .unset, .unset, .unset, .unset, .unset, .unset]) rfl zk) ?_
  show own_G p e below s _ _ _ (T0.setTop (mkF m 7 #[.val (.ref ga), .val (.int bq), .val (.ref va), .val (.ref na), .val (.ref wa), .val (.int (Int32.ofNat n)), .val (.int (0 : Int32)), .unset, .unset, .unset, .unset, .unset, .unset] []))
  refine own_st (fun zt zk => XS.iconst X0.here hx rfl (hb hby dd_prog_25m2_7) zk) ?_
  show own_G p e below s _ _ _ (T0.setTop (mkF m 8 #[.val (.ref ga), .val (.int bq), .val (.ref va), .val (.ref na), .val (.ref wa), .val (.int (Int32.ofNat n)), .val (.int (0 : Int32)), .unset, .unset, .unset, .unset, .unset, .unset] [(.int (0 : Int32))]))
  refine own_st (fun zt zk => XS.istore X0.here hx rfl (hb hby dd_prog_25m2_8) rfl (l' := #[.val (.ref ga), .val (.int bq), .val (.ref va), .val (.ref na), .val (.ref wa), .val (.int (Int32.ofNat n)), .val (.int (0 : Int32)), .val (.int (0 : Int32)), .unset, .unset, .unset, .unset, .unset]) rfl zk) ?_
  show own_G p e below s _ _ _ (T0.setTop (mkF m 10 #[.val (.ref ga), .val (.int bq), .val (.ref va), .val (.ref na), .val (.ref wa), .val (.int (Int32.ofNat n)), .val (.int (0 : Int32)), .val (.int (0 : Int32)), .unset, .unset, .unset, .unset, .unset] []))
  refine own_st (fun zt zk => XS.lconst X0.here hx rfl (hb hby dd_prog_25m2_10) zk) ?_
  show own_G p e below s _ _ _ (T0.setTop (mkF m 11 #[.val (.ref ga), .val (.int bq), .val (.ref va), .val (.ref na), .val (.ref wa), .val (.int (Int32.ofNat n)), .val (.int (0 : Int32)), .val (.int (0 : Int32)), .unset, .unset, .unset, .unset, .unset] [(.long (0 : Int64))]))
  refine own_st (fun zt zk => XS.lstore X0.here hx rfl (hb hby dd_prog_25m2_11) rfl (l' := #[.val (.ref ga), .val (.int bq), .val (.ref va), .val (.ref na), .val (.ref wa), .val (.int (Int32.ofNat n)), .val (.int (0 : Int32)), .val (.int (0 : Int32)), .val (.long (0 : Int64)), .second, .unset, .unset, .unset]) rfl zk) ?_
  show own_G p e below s _ _ _ (T0.setTop (mkF m 13 #[.val (.ref ga), .val (.int bq), .val (.ref va), .val (.ref na), .val (.ref wa), .val (.int (Int32.ofNat n)), .val (.int (0 : Int32)), .val (.int (0 : Int32)), .val (.long (0 : Int64)), .second, .unset, .unset, .unset] []))
  refine own_st (fun zt zk => XS.iconst X0.here hx rfl (hb hby dd_prog_25m2_13) zk) ?_
  show own_G p e below s _ _ _ (T0.setTop (mkF m 14 #[.val (.ref ga), .val (.int bq), .val (.ref va), .val (.ref na), .val (.ref wa), .val (.int (Int32.ofNat n)), .val (.int (0 : Int32)), .val (.int (0 : Int32)), .val (.long (0 : Int64)), .second, .unset, .unset, .unset] [(.int (0 : Int32))]))
  refine own_st (fun zt zk => XS.istore X0.here hx rfl (hb hby dd_prog_25m2_14) rfl (l' := #[.val (.ref ga), .val (.int bq), .val (.ref va), .val (.ref na), .val (.ref wa), .val (.int (Int32.ofNat n)), .val (.int (0 : Int32)), .val (.int (0 : Int32)), .val (.long (0 : Int64)), .second, .val (.int (0 : Int32)), .unset, .unset]) rfl zk) ?_
  show own_G p e below s _ _ _ (T0.setTop (mkF m 16 #[.val (.ref ga), .val (.int bq), .val (.ref va), .val (.ref na), .val (.ref wa), .val (.int (Int32.ofNat n)), .val (.int (0 : Int32)), .val (.int (0 : Int32)), .val (.long (0 : Int64)), .second, .val (.int (0 : Int32)), .unset, .unset] []))
  have hL : ∀ (fu : Nat) (j : Nat) (sa : Slot) (sb : Slot) (T1 : State) (hp1 : Heap) (locs1 : List Loc) (X1 : Stand p l e ({ frames := 1, cells := 0, slots := 0, locals := 51 } : Room) s m #[(.ref ga), (.int bq), (.ref va), (.ref na), (.ref wa)] below meth c T1 locs1 0 0) (e1 : T1.heap = hp1) (N1 : Fr n0 locs1) (K1 : Keep h0 hp1 [va, na, wa]) (B0 : own_A Z hp1 ga .int n (fun q => .int (gf q))) (B1 : own_A Z hp1 va .long (n / 64 + 1) (fun q => .long ((own_vc gf bq Vz j) q))) (B2 : own_A Z hp1 na .int n (fun q => .int ((own_nxf gf bq Xz j) q))) (B3 : own_A Z hp1 wa .int n (fun q => .int ((own_wsf gf bq Wz j) q))) (hsa : own_sl sa) (hsb : own_sl sb) (hm : j + fu = n), own_G p e below s (Q_own_pl Z ga va na wa bq n gf Vz Xz Wz h0 n0) ({ frames := 1, cells := 0, slots := 0, locals := 51 } : Room).cells ({ frames := 1, cells := 0, slots := 0, locals := 51 } : Room).slots (T1.setTop (mkF m 16 #[.val (.ref ga), .val (.int bq), .val (.ref va), .val (.ref na), .val (.ref wa), .val (.int (Int32.ofNat n)), .val (.int (Int32.ofNat (own_c0 gf bq j))), .val (.int (Int32.ofNat (own_c1 gf bq j))), .val (.long (own_wdf gf bq j)), .second, .val (.int (Int32.ofNat j)), sa, sb] [])) := by
    intro fu
    induction fu with
    | zero =>
      intro j sa sb T1 hp1 locs1 X1 e1 N1 K1 B0 B1 B2 B3 hsa hsb hm
      have hjn : n = j := hm.symm
      subst hjn
      have hj := p13_
      show own_G p e below s _ _ _ (T1.setTop (mkF m 16 #[.val (.ref ga), .val (.int bq), .val (.ref va), .val (.ref na), .val (.ref wa), .val (.int (Int32.ofNat n)), .val (.int (Int32.ofNat (own_c0 gf bq n))), .val (.int (Int32.ofNat (own_c1 gf bq n))), .val (.long (own_wdf gf bq n)), .second, .val (.int (Int32.ofNat n)), sa, sb] []))
      refine own_st (fun zt zk => XS.iload X1.here hx rfl (hb hby dd_prog_25m2_16) rfl zk) ?_
      show own_G p e below s _ _ _ (T1.setTop (mkF m 18 #[.val (.ref ga), .val (.int bq), .val (.ref va), .val (.ref na), .val (.ref wa), .val (.int (Int32.ofNat n)), .val (.int (Int32.ofNat (own_c0 gf bq n))), .val (.int (Int32.ofNat (own_c1 gf bq n))), .val (.long (own_wdf gf bq n)), .second, .val (.int (Int32.ofNat n)), sa, sb] [(.int (Int32.ofNat n))]))
      refine own_st (fun zt zk => XS.iload X1.here hx rfl (hb hby dd_prog_25m2_18) rfl zk) ?_
      show own_G p e below s _ _ _ (T1.setTop (mkF m 20 #[.val (.ref ga), .val (.int bq), .val (.ref va), .val (.ref na), .val (.ref wa), .val (.int (Int32.ofNat n)), .val (.int (Int32.ofNat (own_c0 gf bq n))), .val (.int (Int32.ofNat (own_c1 gf bq n))), .val (.long (own_wdf gf bq n)), .second, .val (.int (Int32.ofNat n)), sa, sb] [(.int (Int32.ofNat n)), (.int (Int32.ofNat n))]))
      refine own_st (fun zt zk => XS.icmpYes X1.here hx rfl (pc0 := 20) (pc' := 105) rfl (hb hby dd_prog_25m2_20) rfl (flt (Int32.lt_irrefl : ¬ ((Int32.ofNat n) < (Int32.ofNat n)))).2.1 (by decide) (by decide) zk) ?_
      show own_G p e below s _ _ _ (T1.setTop (mkF m 105 #[.val (.ref ga), .val (.int bq), .val (.ref va), .val (.ref na), .val (.ref wa), .val (.int (Int32.ofNat n)), .val (.int (Int32.ofNat (own_c0 gf bq n))), .val (.int (Int32.ofNat (own_c1 gf bq n))), .val (.long (own_wdf gf bq n)), .second, .val (.int (Int32.ofNat n)), sa, sb] []))
      refine own_st (fun zt zk => XS.aloadN X1.here hx rfl (hb hby dd_prog_25m2_105) rfl rfl zk) ?_
      show own_G p e below s _ _ _ (T1.setTop (mkF m 106 #[.val (.ref ga), .val (.int bq), .val (.ref va), .val (.ref na), .val (.ref wa), .val (.int (Int32.ofNat n)), .val (.int (Int32.ofNat (own_c0 gf bq n))), .val (.int (Int32.ofNat (own_c1 gf bq n))), .val (.long (own_wdf gf bq n)), .second, .val (.int (Int32.ofNat n)), sa, sb] [(.ref va)]))
      refine own_st (fun zt zk => XS.iload X1.here hx rfl (hb hby dd_prog_25m2_106) rfl zk) ?_
      show own_G p e below s _ _ _ (T1.setTop (mkF m 108 #[.val (.ref ga), .val (.int bq), .val (.ref va), .val (.ref na), .val (.ref wa), .val (.int (Int32.ofNat n)), .val (.int (Int32.ofNat (own_c0 gf bq n))), .val (.int (Int32.ofNat (own_c1 gf bq n))), .val (.long (own_wdf gf bq n)), .second, .val (.int (Int32.ofNat n)), sa, sb] [(.int (Int32.ofNat n)), (.ref va)]))
      refine own_st (fun zt zk => XS.bipush X1.here hx rfl (hb hby dd_prog_25m2_108) zk) ?_
      show own_G p e below s _ _ _ (T1.setTop (mkF m 110 #[.val (.ref ga), .val (.int bq), .val (.ref va), .val (.ref na), .val (.ref wa), .val (.int (Int32.ofNat n)), .val (.int (Int32.ofNat (own_c0 gf bq n))), .val (.int (Int32.ofNat (own_c1 gf bq n))), .val (.long (own_wdf gf bq n)), .second, .val (.int (Int32.ofNat n)), sa, sb] [(.int (64 : Int32)), (.int (Int32.ofNat n)), (.ref va)]))
      refine own_st (fun zt zk => XS.idiv X1.here hx rfl (hb hby dd_prog_25m2_110) rfl (by decide) zk) ?_
      show own_G p e below s _ _ _ (T1.setTop (mkF m 111 #[.val (.ref ga), .val (.int bq), .val (.ref va), .val (.ref na), .val (.ref wa), .val (.int (Int32.ofNat n)), .val (.int (Int32.ofNat (own_c0 gf bq n))), .val (.int (Int32.ofNat (own_c1 gf bq n))), .val (.long (own_wdf gf bq n)), .second, .val (.int (Int32.ofNat n)), sa, sb] [(.int ((Int32.ofNat n) / (64 : Int32))), (.ref va)]))
      refine own_st (fun zt zk => XS.lload X1.here hx rfl (hb hby dd_prog_25m2_111) rfl zk) ?_
      show own_G p e below s _ _ _ (T1.setTop (mkF m 113 #[.val (.ref ga), .val (.int bq), .val (.ref va), .val (.ref na), .val (.ref wa), .val (.int (Int32.ofNat n)), .val (.int (Int32.ofNat (own_c0 gf bq n))), .val (.int (Int32.ofNat (own_c1 gf bq n))), .val (.long (own_wdf gf bq n)), .second, .val (.int (Int32.ofNat n)), sa, sb] [(.long (own_wdf gf bq n)), (.int ((Int32.ofNat n) / (64 : Int32))), (.ref va)]))
      obtain ⟨T1, h1, X1, e1, W1, V1, st1⟩ := own_lastore X1 hx hZ e1 B1 (i := (n / 64)) (own_dvO hj 64 (by decide) (by decide)) (Nat.lt_succ_self _) (g := (mkF m 113 #[.val (.ref ga), .val (.int bq), .val (.ref va), .val (.ref na), .val (.ref wa), .val (.int (Int32.ofNat n)), .val (.int (Int32.ofNat (own_c0 gf bq n))), .val (.int (Int32.ofNat (own_c1 gf bq n))), .val (.long (own_wdf gf bq n)), .second, .val (.int (Int32.ofNat n)), sa, sb] [(.long (own_wdf gf bq n)), (.int ((Int32.ofNat n) / (64 : Int32))), (.ref va)])) rfl rfl (hb hby dd_prog_25m2_113)
      refine own_st st1 ?_
      have N1 := Fr.snoc X1 N1 p4_
      have V1a : own_A Z h1 va .long (n / 64 + 1) (fun q => .long ((own_up (own_vc gf bq Vz n) (n / 64) (own_wdf gf bq n)) q)) := V1.congr (fun q _ => by simp only [own_up]; split <;> rfl)
      show own_G p e below s _ _ _ (T1.setTop (mkF m 114 #[.val (.ref ga), .val (.int bq), .val (.ref va), .val (.ref na), .val (.ref wa), .val (.int (Int32.ofNat n)), .val (.int (Int32.ofNat (own_c0 gf bq n))), .val (.int (Int32.ofNat (own_c1 gf bq n))), .val (.long (own_wdf gf bq n)), .second, .val (.int (Int32.ofNat n)), sa, sb] []))
      refine own_st (fun zt zk => XS.aload X1.here hx rfl (hb hby dd_prog_25m2_114) rfl rfl zk) ?_
      show own_G p e below s _ _ _ (T1.setTop (mkF m 116 #[.val (.ref ga), .val (.int bq), .val (.ref va), .val (.ref na), .val (.ref wa), .val (.int (Int32.ofNat n)), .val (.int (Int32.ofNat (own_c0 gf bq n))), .val (.int (Int32.ofNat (own_c1 gf bq n))), .val (.long (own_wdf gf bq n)), .second, .val (.int (Int32.ofNat n)), sa, sb] [(.ref wa)]))
      refine own_st (fun zt zk => XS.iconst X1.here hx rfl (hb hby dd_prog_25m2_116) zk) ?_
      show own_G p e below s _ _ _ (T1.setTop (mkF m 117 #[.val (.ref ga), .val (.int bq), .val (.ref va), .val (.ref na), .val (.ref wa), .val (.int (Int32.ofNat n)), .val (.int (Int32.ofNat (own_c0 gf bq n))), .val (.int (Int32.ofNat (own_c1 gf bq n))), .val (.long (own_wdf gf bq n)), .second, .val (.int (Int32.ofNat n)), sa, sb] [(.int (0 : Int32)), (.ref wa)]))
      refine own_st (fun zt zk => XS.aloadN X1.here hx rfl (hb hby dd_prog_25m2_117) rfl rfl zk) ?_
      show own_G p e below s _ _ _ (T1.setTop (mkF m 118 #[.val (.ref ga), .val (.int bq), .val (.ref va), .val (.ref na), .val (.ref wa), .val (.int (Int32.ofNat n)), .val (.int (Int32.ofNat (own_c0 gf bq n))), .val (.int (Int32.ofNat (own_c1 gf bq n))), .val (.long (own_wdf gf bq n)), .second, .val (.int (Int32.ofNat n)), sa, sb] [(.ref na), (.int (0 : Int32)), (.ref wa)]))
      refine own_st (fun zt zk => XS.iload X1.here hx rfl (hb hby dd_prog_25m2_118) rfl zk) ?_
      show own_G p e below s _ _ _ (T1.setTop (mkF m 120 #[.val (.ref ga), .val (.int bq), .val (.ref va), .val (.ref na), .val (.ref wa), .val (.int (Int32.ofNat n)), .val (.int (Int32.ofNat (own_c0 gf bq n))), .val (.int (Int32.ofNat (own_c1 gf bq n))), .val (.long (own_wdf gf bq n)), .second, .val (.int (Int32.ofNat n)), sa, sb] [(.int (Int32.ofNat (own_c0 gf bq n))), (.ref na), (.int (0 : Int32)), (.ref wa)]))
      refine own_st (fun zt zk => XS.iload X1.here hx rfl (hb hby dd_prog_25m2_120) rfl zk) ?_
      show own_G p e below s _ _ _ (T1.setTop (mkF m 122 #[.val (.ref ga), .val (.int bq), .val (.ref va), .val (.ref na), .val (.ref wa), .val (.int (Int32.ofNat n)), .val (.int (Int32.ofNat (own_c0 gf bq n))), .val (.int (Int32.ofNat (own_c1 gf bq n))), .val (.long (own_wdf gf bq n)), .second, .val (.int (Int32.ofNat n)), sa, sb] [(.int (Int32.ofNat (own_c1 gf bq n))), (.int (Int32.ofNat (own_c0 gf bq n))), (.ref na), (.int (0 : Int32)), (.ref wa)]))
      have V3 : own_A Z h1 wa .int n (fun q => .int ((own_wsf gf bq Wz n) q)) := (B3.other W1 (Ne.symm p11_))
      have V4 : own_A Z h1 na .int n (fun q => .int ((own_nxf gf bq Xz n) q)) := (B2.other W1 (Ne.symm p10_))
      obtain ⟨T2, h2, L2, X2, e2, N2, K2, V2, st2⟩ := own_cpA X1 hx hZ hown (hw _ (List.mem_of_getElem? (i := 47) rfl)) (hw _ (List.mem_of_getElem? (i := 50) rfl)) (hw _ (List.mem_of_getElem? (i := 48) rfl)) (hw _ (List.mem_of_getElem? (i := 49) rfl)) e1 V3 V4 rfl (zn := (Int32.ofNat n)) (zn' := (Int32.ofNat n)) (own_tO p13_) (own_tO p13_) (i := 0) (j := (own_c0 gf bq n)) (k := (own_c1 gf bq n)) (by decide) (own_tO (Nat.le_trans (own_c0_le gf bq n) p13_)) (own_tO (Nat.le_trans (own_c1_le gf bq n) p13_)) ((Nat.zero_add _).symm ▸ own_c1_le gf bq n) (own_cs gf bq) N1 p5_ (g := (mkF m 122 #[.val (.ref ga), .val (.int bq), .val (.ref va), .val (.ref na), .val (.ref wa), .val (.int (Int32.ofNat n)), .val (.int (Int32.ofNat (own_c0 gf bq n))), .val (.int (Int32.ofNat (own_c1 gf bq n))), .val (.long (own_wdf gf bq n)), .second, .val (.int (Int32.ofNat n)), sa, sb] [(.int (Int32.ofNat (own_c1 gf bq n))), (.int (Int32.ofNat (own_c0 gf bq n))), (.ref na), (.int (0 : Int32)), (.ref wa)])) rfl (by rw [hml]; rfl) rfl (hb hby dd_prog_25m2_122) (by decide) (W := 0) (by show 2 * 0 + _ ≤ _; exact Nat.le_of_eq rfl) (by decide)
      refine own_st st2 ?_
      have V2a : own_A Z h2 na .int n (fun q => .int ((own_cp (own_wsf gf bq Wz n) 0 (own_nxf gf bq Xz n) (own_c0 gf bq n) (own_c1 gf bq n)) q)) := V2.congr (fun q _ => by simp only [own_cp]; split <;> rfl)
      show own_G p e below s _ _ _ (T2.setTop (mkF m 125 #[.val (.ref ga), .val (.int bq), .val (.ref va), .val (.ref na), .val (.ref wa), .val (.int (Int32.ofNat n)), .val (.int (Int32.ofNat (own_c0 gf bq n))), .val (.int (Int32.ofNat (own_c1 gf bq n))), .val (.long (own_wdf gf bq n)), .second, .val (.int (Int32.ofNat n)), sa, sb] []))
      refine own_st (fun zt zk => XS.iload X2.here hx rfl (hb hby dd_prog_25m2_125) rfl zk) ?_
      show own_G p e below s _ _ _ (T2.setTop (mkF m 127 #[.val (.ref ga), .val (.int bq), .val (.ref va), .val (.ref na), .val (.ref wa), .val (.int (Int32.ofNat n)), .val (.int (Int32.ofNat (own_c0 gf bq n))), .val (.int (Int32.ofNat (own_c1 gf bq n))), .val (.long (own_wdf gf bq n)), .second, .val (.int (Int32.ofNat n)), sa, sb] [(.int (Int32.ofNat (own_c0 gf bq n)))]))
      have V5 : own_A Z h2 va .long (n / 64 + 1) (fun q => .long ((own_up (own_vc gf bq Vz n) (n / 64) (own_wdf gf bq n)) q)) := (V1a.keep K2 (ninS p10_ nin0))
      have V6 : own_A Z h2 wa .int n (fun q => .int ((own_wsf gf bq Wz n) q)) := (V3.keep K2 (ninS (Ne.symm p12_) nin0))
      refine own_retI X2 hx hlk hret (hb hby dd_prog_25m2_127) (by decide) (by decide) ?_
      show Q_own_pl Z ga va na wa bq n gf Vz Xz Wz h0 n0 (some (.int (Int32.ofNat (own_c0 gf bq n)))) T2.heap _
      rw [e2]
      exact ⟨rfl, N2, ((K1.wr W1 (Or.inl (List.mem_of_getElem? (i := 0) rfl))).trans K2 (allS (Or.inl (List.mem_of_getElem? (i := 1) rfl)) all0)), V5, V2a, V6⟩
    | succ fu ih =>
      intro j sa sb T1 hp1 locs1 X1 e1 N1 K1 B0 B1 B2 B3 hsa hsb hm
      have hlt : j < n := own_lta hm
      have hj : j ≤ 255 := own_lle hlt p13_
      show own_G p e below s _ _ _ (T1.setTop (mkF m 16 #[.val (.ref ga), .val (.int bq), .val (.ref va), .val (.ref na), .val (.ref wa), .val (.int (Int32.ofNat n)), .val (.int (Int32.ofNat (own_c0 gf bq j))), .val (.int (Int32.ofNat (own_c1 gf bq j))), .val (.long (own_wdf gf bq j)), .second, .val (.int (Int32.ofNat j)), sa, sb] []))
      refine own_st (fun zt zk => XS.iload X1.here hx rfl (hb hby dd_prog_25m2_16) rfl zk) ?_
      show own_G p e below s _ _ _ (T1.setTop (mkF m 18 #[.val (.ref ga), .val (.int bq), .val (.ref va), .val (.ref na), .val (.ref wa), .val (.int (Int32.ofNat n)), .val (.int (Int32.ofNat (own_c0 gf bq j))), .val (.int (Int32.ofNat (own_c1 gf bq j))), .val (.long (own_wdf gf bq j)), .second, .val (.int (Int32.ofNat j)), sa, sb] [(.int (Int32.ofNat j))]))
      refine own_st (fun zt zk => XS.iload X1.here hx rfl (hb hby dd_prog_25m2_18) rfl zk) ?_
      show own_G p e below s _ _ _ (T1.setTop (mkF m 20 #[.val (.ref ga), .val (.int bq), .val (.ref va), .val (.ref na), .val (.ref wa), .val (.int (Int32.ofNat n)), .val (.int (Int32.ofNat (own_c0 gf bq j))), .val (.int (Int32.ofNat (own_c1 gf bq j))), .val (.long (own_wdf gf bq j)), .second, .val (.int (Int32.ofNat j)), sa, sb] [(.int (Int32.ofNat n)), (.int (Int32.ofNat j))]))
      have hc20_7 : (Int32.ofNat j) < (Int32.ofNat n) := (own_ltO hj p13_).mpr hlt
      refine own_st (fun zt zk => XS.icmpNo X1.here hx rfl (hb hby dd_prog_25m2_20) rfl (tlt hc20_7).2.1 zk) ?_
      show own_G p e below s _ _ _ (T1.setTop (mkF m 23 #[.val (.ref ga), .val (.int bq), .val (.ref va), .val (.ref na), .val (.ref wa), .val (.int (Int32.ofNat n)), .val (.int (Int32.ofNat (own_c0 gf bq j))), .val (.int (Int32.ofNat (own_c1 gf bq j))), .val (.long (own_wdf gf bq j)), .second, .val (.int (Int32.ofNat j)), sa, sb] []))
      refine own_st (fun zt zk => XS.aloadN X1.here hx rfl (hb hby dd_prog_25m2_23) rfl rfl zk) ?_
      show own_G p e below s _ _ _ (T1.setTop (mkF m 24 #[.val (.ref ga), .val (.int bq), .val (.ref va), .val (.ref na), .val (.ref wa), .val (.int (Int32.ofNat n)), .val (.int (Int32.ofNat (own_c0 gf bq j))), .val (.int (Int32.ofNat (own_c1 gf bq j))), .val (.long (own_wdf gf bq j)), .second, .val (.int (Int32.ofNat j)), sa, sb] [(.ref ga)]))
      refine own_st (fun zt zk => XS.iload X1.here hx rfl (hb hby dd_prog_25m2_24) rfl zk) ?_
      show own_G p e below s _ _ _ (T1.setTop (mkF m 26 #[.val (.ref ga), .val (.int bq), .val (.ref va), .val (.ref na), .val (.ref wa), .val (.int (Int32.ofNat n)), .val (.int (Int32.ofNat (own_c0 gf bq j))), .val (.int (Int32.ofNat (own_c1 gf bq j))), .val (.long (own_wdf gf bq j)), .second, .val (.int (Int32.ofNat j)), sa, sb] [(.int (Int32.ofNat j)), (.ref ga)]))
      refine own_st (own_iaload X1 hx hZ e1 B0 (own_tO hj) hlt (.int (gf j)) rfl (g := (mkF m 26 #[.val (.ref ga), .val (.int bq), .val (.ref va), .val (.ref na), .val (.ref wa), .val (.int (Int32.ofNat n)), .val (.int (Int32.ofNat (own_c0 gf bq j))), .val (.int (Int32.ofNat (own_c1 gf bq j))), .val (.long (own_wdf gf bq j)), .second, .val (.int (Int32.ofNat j)), sa, sb] [(.int (Int32.ofNat j)), (.ref ga)])) rfl rfl (hb hby dd_prog_25m2_26)) ?_
      show own_G p e below s _ _ _ (T1.setTop (mkF m 27 #[.val (.ref ga), .val (.int bq), .val (.ref va), .val (.ref na), .val (.ref wa), .val (.int (Int32.ofNat n)), .val (.int (Int32.ofNat (own_c0 gf bq j))), .val (.int (Int32.ofNat (own_c1 gf bq j))), .val (.long (own_wdf gf bq j)), .second, .val (.int (Int32.ofNat j)), sa, sb] [(.int (gf j))]))
      refine own_st (fun zt zk => XS.istore X1.here hx rfl (hb hby dd_prog_25m2_27) rfl (l' := #[.val (.ref ga), .val (.int bq), .val (.ref va), .val (.ref na), .val (.ref wa), .val (.int (Int32.ofNat n)), .val (.int (Int32.ofNat (own_c0 gf bq j))), .val (.int (Int32.ofNat (own_c1 gf bq j))), .val (.long (own_wdf gf bq j)), .second, .val (.int (Int32.ofNat j)), .val (.int (gf j)), sb]) (by rcases hsa with q | ⟨z, q⟩ | ⟨z, q⟩ <;> subst q <;> rfl) zk) ?_
      show own_G p e below s _ _ _ (T1.setTop (mkF m 29 #[.val (.ref ga), .val (.int bq), .val (.ref va), .val (.ref na), .val (.ref wa), .val (.int (Int32.ofNat n)), .val (.int (Int32.ofNat (own_c0 gf bq j))), .val (.int (Int32.ofNat (own_c1 gf bq j))), .val (.long (own_wdf gf bq j)), .second, .val (.int (Int32.ofNat j)), .val (.int (gf j)), sb] []))
      refine own_st (fun zt zk => XS.iload X1.here hx rfl (hb hby dd_prog_25m2_29) rfl zk) ?_
      show own_G p e below s _ _ _ (T1.setTop (mkF m 31 #[.val (.ref ga), .val (.int bq), .val (.ref va), .val (.ref na), .val (.ref wa), .val (.int (Int32.ofNat n)), .val (.int (Int32.ofNat (own_c0 gf bq j))), .val (.int (Int32.ofNat (own_c1 gf bq j))), .val (.long (own_wdf gf bq j)), .second, .val (.int (Int32.ofNat j)), .val (.int (gf j)), sb] [(.int (gf j))]))
      refine own_st (fun zt zk => XS.iloadN X1.here hx rfl (hb hby dd_prog_25m2_31) rfl zk) ?_
      show own_G p e below s _ _ _ (T1.setTop (mkF m 32 #[.val (.ref ga), .val (.int bq), .val (.ref va), .val (.ref na), .val (.ref wa), .val (.int (Int32.ofNat n)), .val (.int (Int32.ofNat (own_c0 gf bq j))), .val (.int (Int32.ofNat (own_c1 gf bq j))), .val (.long (own_wdf gf bq j)), .second, .val (.int (Int32.ofNat j)), .val (.int (gf j)), sb] [(.int bq), (.int (gf j))]))
      refine own_st (fun zt zk => XS.iushr X1.here hx rfl (hb hby dd_prog_25m2_32) rfl zk) ?_
      show own_G p e below s _ _ _ (T1.setTop (mkF m 33 #[.val (.ref ga), .val (.int bq), .val (.ref va), .val (.ref na), .val (.ref wa), .val (.int (Int32.ofNat n)), .val (.int (Int32.ofNat (own_c0 gf bq j))), .val (.int (Int32.ofNat (own_c1 gf bq j))), .val (.long (own_wdf gf bq j)), .second, .val (.int (Int32.ofNat j)), .val (.int (gf j)), sb] [(.int (((gf j).toUInt32 >>> (bq &&& 31).toUInt32).toInt32))]))
      refine own_st (fun zt zk => XS.iconst X1.here hx rfl (hb hby dd_prog_25m2_33) zk) ?_
      show own_G p e below s _ _ _ (T1.setTop (mkF m 34 #[.val (.ref ga), .val (.int bq), .val (.ref va), .val (.ref na), .val (.ref wa), .val (.int (Int32.ofNat n)), .val (.int (Int32.ofNat (own_c0 gf bq j))), .val (.int (Int32.ofNat (own_c1 gf bq j))), .val (.long (own_wdf gf bq j)), .second, .val (.int (Int32.ofNat j)), .val (.int (gf j)), sb] [(.int (1 : Int32)), (.int (((gf j).toUInt32 >>> (bq &&& 31).toUInt32).toInt32))]))
      refine own_st (fun zt zk => XS.iand X1.here hx rfl (hb hby dd_prog_25m2_34) rfl zk) ?_
      show own_G p e below s _ _ _ (T1.setTop (mkF m 35 #[.val (.ref ga), .val (.int bq), .val (.ref va), .val (.ref na), .val (.ref wa), .val (.int (Int32.ofNat n)), .val (.int (Int32.ofNat (own_c0 gf bq j))), .val (.int (Int32.ofNat (own_c1 gf bq j))), .val (.long (own_wdf gf bq j)), .second, .val (.int (Int32.ofNat j)), .val (.int (gf j)), sb] [(.int ((((gf j).toUInt32 >>> (bq &&& 31).toUInt32).toInt32) &&& (1 : Int32)))]))
      refine own_st (fun zt zk => XS.istore X1.here hx rfl (hb hby dd_prog_25m2_35) rfl (l' := #[.val (.ref ga), .val (.int bq), .val (.ref va), .val (.ref na), .val (.ref wa), .val (.int (Int32.ofNat n)), .val (.int (Int32.ofNat (own_c0 gf bq j))), .val (.int (Int32.ofNat (own_c1 gf bq j))), .val (.long (own_wdf gf bq j)), .second, .val (.int (Int32.ofNat j)), .val (.int (gf j)), .val (.int ((((gf j).toUInt32 >>> (bq &&& 31).toUInt32).toInt32) &&& (1 : Int32)))]) (by rcases hsb with q | ⟨z, q⟩ | ⟨z, q⟩ <;> subst q <;> rfl) zk) ?_
      show own_G p e below s _ _ _ (T1.setTop (mkF m 37 #[.val (.ref ga), .val (.int bq), .val (.ref va), .val (.ref na), .val (.ref wa), .val (.int (Int32.ofNat n)), .val (.int (Int32.ofNat (own_c0 gf bq j))), .val (.int (Int32.ofNat (own_c1 gf bq j))), .val (.long (own_wdf gf bq j)), .second, .val (.int (Int32.ofNat j)), .val (.int (gf j)), .val (.int ((((gf j).toUInt32 >>> (bq &&& 31).toUInt32).toInt32) &&& (1 : Int32)))] []))
      show own_G p e below s _ _ _ (T1.setTop (mkF m 37 #[.val (.ref ga), .val (.int bq), .val (.ref va), .val (.ref na), .val (.ref wa), .val (.int (Int32.ofNat n)), .val (.int (Int32.ofNat (own_c0 gf bq j))), .val (.int (Int32.ofNat (own_c1 gf bq j))), .val (.long (own_wdf gf bq j)), .second, .val (.int (Int32.ofNat j)), .val (.int (gf j)), .val (.int (own_bt (gf j) bq))] []))
      refine own_st (fun zt zk => XS.lload X1.here hx rfl (hb hby dd_prog_25m2_37) rfl zk) ?_
      show own_G p e below s _ _ _ (T1.setTop (mkF m 39 #[.val (.ref ga), .val (.int bq), .val (.ref va), .val (.ref na), .val (.ref wa), .val (.int (Int32.ofNat n)), .val (.int (Int32.ofNat (own_c0 gf bq j))), .val (.int (Int32.ofNat (own_c1 gf bq j))), .val (.long (own_wdf gf bq j)), .second, .val (.int (Int32.ofNat j)), .val (.int (gf j)), .val (.int (own_bt (gf j) bq))] [(.long (own_wdf gf bq j))]))
      refine own_st (fun zt zk => XS.iload X1.here hx rfl (hb hby dd_prog_25m2_39) rfl zk) ?_
      show own_G p e below s _ _ _ (T1.setTop (mkF m 41 #[.val (.ref ga), .val (.int bq), .val (.ref va), .val (.ref na), .val (.ref wa), .val (.int (Int32.ofNat n)), .val (.int (Int32.ofNat (own_c0 gf bq j))), .val (.int (Int32.ofNat (own_c1 gf bq j))), .val (.long (own_wdf gf bq j)), .second, .val (.int (Int32.ofNat j)), .val (.int (gf j)), .val (.int (own_bt (gf j) bq))] [(.int (own_bt (gf j) bq)), (.long (own_wdf gf bq j))]))
      refine own_st (fun zt zk => XS.i2l X1.here hx rfl (hb hby dd_prog_25m2_41) rfl zk) ?_
      show own_G p e below s _ _ _ (T1.setTop (mkF m 42 #[.val (.ref ga), .val (.int bq), .val (.ref va), .val (.ref na), .val (.ref wa), .val (.int (Int32.ofNat n)), .val (.int (Int32.ofNat (own_c0 gf bq j))), .val (.int (Int32.ofNat (own_c1 gf bq j))), .val (.long (own_wdf gf bq j)), .second, .val (.int (Int32.ofNat j)), .val (.int (gf j)), .val (.int (own_bt (gf j) bq))] [(.long (own_bt (gf j) bq).toInt64), (.long (own_wdf gf bq j))]))
      refine own_st (fun zt zk => XS.iload X1.here hx rfl (hb hby dd_prog_25m2_42) rfl zk) ?_
      show own_G p e below s _ _ _ (T1.setTop (mkF m 44 #[.val (.ref ga), .val (.int bq), .val (.ref va), .val (.ref na), .val (.ref wa), .val (.int (Int32.ofNat n)), .val (.int (Int32.ofNat (own_c0 gf bq j))), .val (.int (Int32.ofNat (own_c1 gf bq j))), .val (.long (own_wdf gf bq j)), .second, .val (.int (Int32.ofNat j)), .val (.int (gf j)), .val (.int (own_bt (gf j) bq))] [(.int (Int32.ofNat j)), (.long (own_bt (gf j) bq).toInt64), (.long (own_wdf gf bq j))]))
      refine own_st (fun zt zk => XS.lshl X1.here hx rfl (hb hby dd_prog_25m2_44) rfl zk) ?_
      show own_G p e below s _ _ _ (T1.setTop (mkF m 45 #[.val (.ref ga), .val (.int bq), .val (.ref va), .val (.ref na), .val (.ref wa), .val (.int (Int32.ofNat n)), .val (.int (Int32.ofNat (own_c0 gf bq j))), .val (.int (Int32.ofNat (own_c1 gf bq j))), .val (.long (own_wdf gf bq j)), .second, .val (.int (Int32.ofNat j)), .val (.int (gf j)), .val (.int (own_bt (gf j) bq))] [(.long ((own_bt (gf j) bq).toInt64 <<< ((Int32.ofNat j) &&& 0x3f).toInt64)), (.long (own_wdf gf bq j))]))
      refine own_st (fun zt zk => XS.lor X1.here hx rfl (hb hby dd_prog_25m2_45) rfl zk) ?_
      show own_G p e below s _ _ _ (T1.setTop (mkF m 46 #[.val (.ref ga), .val (.int bq), .val (.ref va), .val (.ref na), .val (.ref wa), .val (.int (Int32.ofNat n)), .val (.int (Int32.ofNat (own_c0 gf bq j))), .val (.int (Int32.ofNat (own_c1 gf bq j))), .val (.long (own_wdf gf bq j)), .second, .val (.int (Int32.ofNat j)), .val (.int (gf j)), .val (.int (own_bt (gf j) bq))] [(.long ((own_wdf gf bq j) ||| ((own_bt (gf j) bq).toInt64 <<< ((Int32.ofNat j) &&& 0x3f).toInt64)))]))
      refine own_st (fun zt zk => XS.lstore X1.here hx rfl (hb hby dd_prog_25m2_46) rfl (l' := #[.val (.ref ga), .val (.int bq), .val (.ref va), .val (.ref na), .val (.ref wa), .val (.int (Int32.ofNat n)), .val (.int (Int32.ofNat (own_c0 gf bq j))), .val (.int (Int32.ofNat (own_c1 gf bq j))), .val (.long ((own_wdf gf bq j) ||| ((own_bt (gf j) bq).toInt64 <<< ((Int32.ofNat j) &&& 0x3f).toInt64))), .second, .val (.int (Int32.ofNat j)), .val (.int (gf j)), .val (.int (own_bt (gf j) bq))]) rfl zk) ?_
      show own_G p e below s _ _ _ (T1.setTop (mkF m 48 #[.val (.ref ga), .val (.int bq), .val (.ref va), .val (.ref na), .val (.ref wa), .val (.int (Int32.ofNat n)), .val (.int (Int32.ofNat (own_c0 gf bq j))), .val (.int (Int32.ofNat (own_c1 gf bq j))), .val (.long ((own_wdf gf bq j) ||| ((own_bt (gf j) bq).toInt64 <<< ((Int32.ofNat j) &&& 0x3f).toInt64))), .second, .val (.int (Int32.ofNat j)), .val (.int (gf j)), .val (.int (own_bt (gf j) bq))] []))
      refine own_st (fun zt zk => XS.iload X1.here hx rfl (hb hby dd_prog_25m2_48) rfl zk) ?_
      show own_G p e below s _ _ _ (T1.setTop (mkF m 50 #[.val (.ref ga), .val (.int bq), .val (.ref va), .val (.ref na), .val (.ref wa), .val (.int (Int32.ofNat n)), .val (.int (Int32.ofNat (own_c0 gf bq j))), .val (.int (Int32.ofNat (own_c1 gf bq j))), .val (.long ((own_wdf gf bq j) ||| ((own_bt (gf j) bq).toInt64 <<< ((Int32.ofNat j) &&& 0x3f).toInt64))), .second, .val (.int (Int32.ofNat j)), .val (.int (gf j)), .val (.int (own_bt (gf j) bq))] [(.int (Int32.ofNat j))]))
      refine own_st (fun zt zk => XS.bipush X1.here hx rfl (hb hby dd_prog_25m2_50) zk) ?_
      show own_G p e below s _ _ _ (T1.setTop (mkF m 52 #[.val (.ref ga), .val (.int bq), .val (.ref va), .val (.ref na), .val (.ref wa), .val (.int (Int32.ofNat n)), .val (.int (Int32.ofNat (own_c0 gf bq j))), .val (.int (Int32.ofNat (own_c1 gf bq j))), .val (.long ((own_wdf gf bq j) ||| ((own_bt (gf j) bq).toInt64 <<< ((Int32.ofNat j) &&& 0x3f).toInt64))), .second, .val (.int (Int32.ofNat j)), .val (.int (gf j)), .val (.int (own_bt (gf j) bq))] [(.int (64 : Int32)), (.int (Int32.ofNat j))]))
      refine own_st (fun zt zk => Jvm.RoadKit.iremM X1 hx rfl (hb hby dd_prog_25m2_52) rfl (by decide) zk) ?_
      show own_G p e below s _ _ _ (T1.setTop (mkF m 53 #[.val (.ref ga), .val (.int bq), .val (.ref va), .val (.ref na), .val (.ref wa), .val (.int (Int32.ofNat n)), .val (.int (Int32.ofNat (own_c0 gf bq j))), .val (.int (Int32.ofNat (own_c1 gf bq j))), .val (.long ((own_wdf gf bq j) ||| ((own_bt (gf j) bq).toInt64 <<< ((Int32.ofNat j) &&& 0x3f).toInt64))), .second, .val (.int (Int32.ofNat j)), .val (.int (gf j)), .val (.int (own_bt (gf j) bq))] [(.int ((Int32.ofNat j) % (64 : Int32)))]))
      refine own_st (fun zt zk => XS.bipush X1.here hx rfl (hb hby dd_prog_25m2_53) zk) ?_
      show own_G p e below s _ _ _ (T1.setTop (mkF m 55 #[.val (.ref ga), .val (.int bq), .val (.ref va), .val (.ref na), .val (.ref wa), .val (.int (Int32.ofNat n)), .val (.int (Int32.ofNat (own_c0 gf bq j))), .val (.int (Int32.ofNat (own_c1 gf bq j))), .val (.long ((own_wdf gf bq j) ||| ((own_bt (gf j) bq).toInt64 <<< ((Int32.ofNat j) &&& 0x3f).toInt64))), .second, .val (.int (Int32.ofNat j)), .val (.int (gf j)), .val (.int (own_bt (gf j) bq))] [(.int (63 : Int32)), (.int ((Int32.ofNat j) % (64 : Int32)))]))
      by_cases hc55_8 : ((Int32.ofNat j) % (64 : Int32)) = (63 : Int32)
      · refine own_st (fun zt zk => XS.icmpNo X1.here hx rfl (hb hby dd_prog_25m2_55) rfl (teq hc55_8).2 zk) ?_
        show own_G p e below s _ _ _ (T1.setTop (mkF m 58 #[.val (.ref ga), .val (.int bq), .val (.ref va), .val (.ref na), .val (.ref wa), .val (.int (Int32.ofNat n)), .val (.int (Int32.ofNat (own_c0 gf bq j))), .val (.int (Int32.ofNat (own_c1 gf bq j))), .val (.long ((own_wdf gf bq j) ||| ((own_bt (gf j) bq).toInt64 <<< ((Int32.ofNat j) &&& 0x3f).toInt64))), .second, .val (.int (Int32.ofNat j)), .val (.int (gf j)), .val (.int (own_bt (gf j) bq))] []))
        refine own_st (fun zt zk => XS.aloadN X1.here hx rfl (hb hby dd_prog_25m2_58) rfl rfl zk) ?_
        show own_G p e below s _ _ _ (T1.setTop (mkF m 59 #[.val (.ref ga), .val (.int bq), .val (.ref va), .val (.ref na), .val (.ref wa), .val (.int (Int32.ofNat n)), .val (.int (Int32.ofNat (own_c0 gf bq j))), .val (.int (Int32.ofNat (own_c1 gf bq j))), .val (.long ((own_wdf gf bq j) ||| ((own_bt (gf j) bq).toInt64 <<< ((Int32.ofNat j) &&& 0x3f).toInt64))), .second, .val (.int (Int32.ofNat j)), .val (.int (gf j)), .val (.int (own_bt (gf j) bq))] [(.ref va)]))
        refine own_st (fun zt zk => XS.iload X1.here hx rfl (hb hby dd_prog_25m2_59) rfl zk) ?_
        show own_G p e below s _ _ _ (T1.setTop (mkF m 61 #[.val (.ref ga), .val (.int bq), .val (.ref va), .val (.ref na), .val (.ref wa), .val (.int (Int32.ofNat n)), .val (.int (Int32.ofNat (own_c0 gf bq j))), .val (.int (Int32.ofNat (own_c1 gf bq j))), .val (.long ((own_wdf gf bq j) ||| ((own_bt (gf j) bq).toInt64 <<< ((Int32.ofNat j) &&& 0x3f).toInt64))), .second, .val (.int (Int32.ofNat j)), .val (.int (gf j)), .val (.int (own_bt (gf j) bq))] [(.int (Int32.ofNat j)), (.ref va)]))
        refine own_st (fun zt zk => XS.bipush X1.here hx rfl (hb hby dd_prog_25m2_61) zk) ?_
        show own_G p e below s _ _ _ (T1.setTop (mkF m 63 #[.val (.ref ga), .val (.int bq), .val (.ref va), .val (.ref na), .val (.ref wa), .val (.int (Int32.ofNat n)), .val (.int (Int32.ofNat (own_c0 gf bq j))), .val (.int (Int32.ofNat (own_c1 gf bq j))), .val (.long ((own_wdf gf bq j) ||| ((own_bt (gf j) bq).toInt64 <<< ((Int32.ofNat j) &&& 0x3f).toInt64))), .second, .val (.int (Int32.ofNat j)), .val (.int (gf j)), .val (.int (own_bt (gf j) bq))] [(.int (64 : Int32)), (.int (Int32.ofNat j)), (.ref va)]))
        refine own_st (fun zt zk => XS.idiv X1.here hx rfl (hb hby dd_prog_25m2_63) rfl (by decide) zk) ?_
        show own_G p e below s _ _ _ (T1.setTop (mkF m 64 #[.val (.ref ga), .val (.int bq), .val (.ref va), .val (.ref na), .val (.ref wa), .val (.int (Int32.ofNat n)), .val (.int (Int32.ofNat (own_c0 gf bq j))), .val (.int (Int32.ofNat (own_c1 gf bq j))), .val (.long ((own_wdf gf bq j) ||| ((own_bt (gf j) bq).toInt64 <<< ((Int32.ofNat j) &&& 0x3f).toInt64))), .second, .val (.int (Int32.ofNat j)), .val (.int (gf j)), .val (.int (own_bt (gf j) bq))] [(.int ((Int32.ofNat j) / (64 : Int32))), (.ref va)]))
        refine own_st (fun zt zk => XS.lload X1.here hx rfl (hb hby dd_prog_25m2_64) rfl zk) ?_
        show own_G p e below s _ _ _ (T1.setTop (mkF m 66 #[.val (.ref ga), .val (.int bq), .val (.ref va), .val (.ref na), .val (.ref wa), .val (.int (Int32.ofNat n)), .val (.int (Int32.ofNat (own_c0 gf bq j))), .val (.int (Int32.ofNat (own_c1 gf bq j))), .val (.long ((own_wdf gf bq j) ||| ((own_bt (gf j) bq).toInt64 <<< ((Int32.ofNat j) &&& 0x3f).toInt64))), .second, .val (.int (Int32.ofNat j)), .val (.int (gf j)), .val (.int (own_bt (gf j) bq))] [(.long ((own_wdf gf bq j) ||| ((own_bt (gf j) bq).toInt64 <<< ((Int32.ofNat j) &&& 0x3f).toInt64))), (.int ((Int32.ofNat j) / (64 : Int32))), (.ref va)]))
        obtain ⟨T9, h9, X9, e9, W9, V9, st9⟩ := own_lastore X1 hx hZ e1 B1 (i := (j / 64)) (own_dvO hj 64 (by decide) (by decide)) (own_ix64 hlt) (g := (mkF m 66 #[.val (.ref ga), .val (.int bq), .val (.ref va), .val (.ref na), .val (.ref wa), .val (.int (Int32.ofNat n)), .val (.int (Int32.ofNat (own_c0 gf bq j))), .val (.int (Int32.ofNat (own_c1 gf bq j))), .val (.long ((own_wdf gf bq j) ||| ((own_bt (gf j) bq).toInt64 <<< ((Int32.ofNat j) &&& 0x3f).toInt64))), .second, .val (.int (Int32.ofNat j)), .val (.int (gf j)), .val (.int (own_bt (gf j) bq))] [(.long ((own_wdf gf bq j) ||| ((own_bt (gf j) bq).toInt64 <<< ((Int32.ofNat j) &&& 0x3f).toInt64))), (.int ((Int32.ofNat j) / (64 : Int32))), (.ref va)])) rfl rfl (hb hby dd_prog_25m2_66)
        refine own_st st9 ?_
        have N9 := Fr.snoc X9 N1 p4_
        have V9a : own_A Z h9 va .long (n / 64 + 1) (fun q => .long ((own_up (own_vc gf bq Vz j) (j / 64) ((own_wdf gf bq j) ||| ((own_bt (gf j) bq).toInt64 <<< ((Int32.ofNat j) &&& 0x3f).toInt64))) q)) := V9.congr (fun q _ => by simp only [own_up]; split <;> rfl)
        show own_G p e below s _ _ _ (T9.setTop (mkF m 67 #[.val (.ref ga), .val (.int bq), .val (.ref va), .val (.ref na), .val (.ref wa), .val (.int (Int32.ofNat n)), .val (.int (Int32.ofNat (own_c0 gf bq j))), .val (.int (Int32.ofNat (own_c1 gf bq j))), .val (.long ((own_wdf gf bq j) ||| ((own_bt (gf j) bq).toInt64 <<< ((Int32.ofNat j) &&& 0x3f).toInt64))), .second, .val (.int (Int32.ofNat j)), .val (.int (gf j)), .val (.int (own_bt (gf j) bq))] []))
        refine own_st (fun zt zk => XS.lconst X9.here hx rfl (hb hby dd_prog_25m2_67) zk) ?_
        show own_G p e below s _ _ _ (T9.setTop (mkF m 68 #[.val (.ref ga), .val (.int bq), .val (.ref va), .val (.ref na), .val (.ref wa), .val (.int (Int32.ofNat n)), .val (.int (Int32.ofNat (own_c0 gf bq j))), .val (.int (Int32.ofNat (own_c1 gf bq j))), .val (.long ((own_wdf gf bq j) ||| ((own_bt (gf j) bq).toInt64 <<< ((Int32.ofNat j) &&& 0x3f).toInt64))), .second, .val (.int (Int32.ofNat j)), .val (.int (gf j)), .val (.int (own_bt (gf j) bq))] [(.long (0 : Int64))]))
        refine own_st (fun zt zk => XS.lstore X9.here hx rfl (hb hby dd_prog_25m2_68) rfl (l' := #[.val (.ref ga), .val (.int bq), .val (.ref va), .val (.ref na), .val (.ref wa), .val (.int (Int32.ofNat n)), .val (.int (Int32.ofNat (own_c0 gf bq j))), .val (.int (Int32.ofNat (own_c1 gf bq j))), .val (.long (0 : Int64)), .second, .val (.int (Int32.ofNat j)), .val (.int (gf j)), .val (.int (own_bt (gf j) bq))]) rfl zk) ?_
        show own_G p e below s _ _ _ (T9.setTop (mkF m 70 #[.val (.ref ga), .val (.int bq), .val (.ref va), .val (.ref na), .val (.ref wa), .val (.int (Int32.ofNat n)), .val (.int (Int32.ofNat (own_c0 gf bq j))), .val (.int (Int32.ofNat (own_c1 gf bq j))), .val (.long (0 : Int64)), .second, .val (.int (Int32.ofNat j)), .val (.int (gf j)), .val (.int (own_bt (gf j) bq))] []))
        refine own_st (fun zt zk => XS.aloadN X9.here hx rfl (hb hby dd_prog_25m2_70) rfl rfl zk) ?_
        show own_G p e below s _ _ _ (T9.setTop (mkF m 71 #[.val (.ref ga), .val (.int bq), .val (.ref va), .val (.ref na), .val (.ref wa), .val (.int (Int32.ofNat n)), .val (.int (Int32.ofNat (own_c0 gf bq j))), .val (.int (Int32.ofNat (own_c1 gf bq j))), .val (.long (0 : Int64)), .second, .val (.int (Int32.ofNat j)), .val (.int (gf j)), .val (.int (own_bt (gf j) bq))] [(.ref na)]))
        refine own_st (fun zt zk => XS.iload X9.here hx rfl (hb hby dd_prog_25m2_71) rfl zk) ?_
        show own_G p e below s _ _ _ (T9.setTop (mkF m 73 #[.val (.ref ga), .val (.int bq), .val (.ref va), .val (.ref na), .val (.ref wa), .val (.int (Int32.ofNat n)), .val (.int (Int32.ofNat (own_c0 gf bq j))), .val (.int (Int32.ofNat (own_c1 gf bq j))), .val (.long (0 : Int64)), .second, .val (.int (Int32.ofNat j)), .val (.int (gf j)), .val (.int (own_bt (gf j) bq))] [(.int (Int32.ofNat (own_c0 gf bq j))), (.ref na)]))
        refine own_st (fun zt zk => XS.iload X9.here hx rfl (hb hby dd_prog_25m2_73) rfl zk) ?_
        show own_G p e below s _ _ _ (T9.setTop (mkF m 75 #[.val (.ref ga), .val (.int bq), .val (.ref va), .val (.ref na), .val (.ref wa), .val (.int (Int32.ofNat n)), .val (.int (Int32.ofNat (own_c0 gf bq j))), .val (.int (Int32.ofNat (own_c1 gf bq j))), .val (.long (0 : Int64)), .second, .val (.int (Int32.ofNat j)), .val (.int (gf j)), .val (.int (own_bt (gf j) bq))] [(.int (gf j)), (.int (Int32.ofNat (own_c0 gf bq j))), (.ref na)]))
        have V10 : own_A Z h9 na .int n (fun q => .int ((own_nxf gf bq Xz j) q)) := (B2.other W9 (Ne.symm p10_))
        obtain ⟨T11, h11, X11, e11, W11, V11, st11⟩ := own_iastore X9 hx hZ e9 V10 (i := (own_c0 gf bq j)) (own_tO (own_ltF (own_x0 gf bq hlt) p13_)) (own_x0 gf bq hlt) (g := (mkF m 75 #[.val (.ref ga), .val (.int bq), .val (.ref va), .val (.ref na), .val (.ref wa), .val (.int (Int32.ofNat n)), .val (.int (Int32.ofNat (own_c0 gf bq j))), .val (.int (Int32.ofNat (own_c1 gf bq j))), .val (.long (0 : Int64)), .second, .val (.int (Int32.ofNat j)), .val (.int (gf j)), .val (.int (own_bt (gf j) bq))] [(.int (gf j)), (.int (Int32.ofNat (own_c0 gf bq j))), (.ref na)])) rfl rfl (hb hby dd_prog_25m2_75)
        refine own_st st11 ?_
        have N11 := Fr.snoc X11 N9 p5_
        have V11a : own_A Z h11 na .int n (fun q => .int ((own_up (own_nxf gf bq Xz j) (own_c0 gf bq j) (gf j)) q)) := V11.congr (fun q _ => by simp only [own_up]; split <;> rfl)
        show own_G p e below s _ _ _ (T11.setTop (mkF m 76 #[.val (.ref ga), .val (.int bq), .val (.ref va), .val (.ref na), .val (.ref wa), .val (.int (Int32.ofNat n)), .val (.int (Int32.ofNat (own_c0 gf bq j))), .val (.int (Int32.ofNat (own_c1 gf bq j))), .val (.long (0 : Int64)), .second, .val (.int (Int32.ofNat j)), .val (.int (gf j)), .val (.int (own_bt (gf j) bq))] []))
        refine own_st (fun zt zk => XS.aload X11.here hx rfl (hb hby dd_prog_25m2_76) rfl rfl zk) ?_
        show own_G p e below s _ _ _ (T11.setTop (mkF m 78 #[.val (.ref ga), .val (.int bq), .val (.ref va), .val (.ref na), .val (.ref wa), .val (.int (Int32.ofNat n)), .val (.int (Int32.ofNat (own_c0 gf bq j))), .val (.int (Int32.ofNat (own_c1 gf bq j))), .val (.long (0 : Int64)), .second, .val (.int (Int32.ofNat j)), .val (.int (gf j)), .val (.int (own_bt (gf j) bq))] [(.ref wa)]))
        refine own_st (fun zt zk => XS.iload X11.here hx rfl (hb hby dd_prog_25m2_78) rfl zk) ?_
        show own_G p e below s _ _ _ (T11.setTop (mkF m 80 #[.val (.ref ga), .val (.int bq), .val (.ref va), .val (.ref na), .val (.ref wa), .val (.int (Int32.ofNat n)), .val (.int (Int32.ofNat (own_c0 gf bq j))), .val (.int (Int32.ofNat (own_c1 gf bq j))), .val (.long (0 : Int64)), .second, .val (.int (Int32.ofNat j)), .val (.int (gf j)), .val (.int (own_bt (gf j) bq))] [(.int (Int32.ofNat (own_c1 gf bq j))), (.ref wa)]))
        refine own_st (fun zt zk => XS.iload X11.here hx rfl (hb hby dd_prog_25m2_80) rfl zk) ?_
        show own_G p e below s _ _ _ (T11.setTop (mkF m 82 #[.val (.ref ga), .val (.int bq), .val (.ref va), .val (.ref na), .val (.ref wa), .val (.int (Int32.ofNat n)), .val (.int (Int32.ofNat (own_c0 gf bq j))), .val (.int (Int32.ofNat (own_c1 gf bq j))), .val (.long (0 : Int64)), .second, .val (.int (Int32.ofNat j)), .val (.int (gf j)), .val (.int (own_bt (gf j) bq))] [(.int (gf j)), (.int (Int32.ofNat (own_c1 gf bq j))), (.ref wa)]))
        have V12 : own_A Z h11 wa .int n (fun q => .int ((own_wsf gf bq Wz j) q)) := ((B3.other W9 (Ne.symm p11_)).other W11 (Ne.symm p12_))
        obtain ⟨T13, h13, X13, e13, W13, V13, st13⟩ := own_iastore X11 hx hZ e11 V12 (i := (own_c1 gf bq j)) (own_tO (own_ltF (own_x1 gf bq hlt) p13_)) (own_x1 gf bq hlt) (g := (mkF m 82 #[.val (.ref ga), .val (.int bq), .val (.ref va), .val (.ref na), .val (.ref wa), .val (.int (Int32.ofNat n)), .val (.int (Int32.ofNat (own_c0 gf bq j))), .val (.int (Int32.ofNat (own_c1 gf bq j))), .val (.long (0 : Int64)), .second, .val (.int (Int32.ofNat j)), .val (.int (gf j)), .val (.int (own_bt (gf j) bq))] [(.int (gf j)), (.int (Int32.ofNat (own_c1 gf bq j))), (.ref wa)])) rfl rfl (hb hby dd_prog_25m2_82)
        refine own_st st13 ?_
        have N13 := Fr.snoc X13 N11 p6_
        have V13a : own_A Z h13 wa .int n (fun q => .int ((own_up (own_wsf gf bq Wz j) (own_c1 gf bq j) (gf j)) q)) := V13.congr (fun q _ => by simp only [own_up]; split <;> rfl)
        show own_G p e below s _ _ _ (T13.setTop (mkF m 83 #[.val (.ref ga), .val (.int bq), .val (.ref va), .val (.ref na), .val (.ref wa), .val (.int (Int32.ofNat n)), .val (.int (Int32.ofNat (own_c0 gf bq j))), .val (.int (Int32.ofNat (own_c1 gf bq j))), .val (.long (0 : Int64)), .second, .val (.int (Int32.ofNat j)), .val (.int (gf j)), .val (.int (own_bt (gf j) bq))] []))
        refine own_st (fun zt zk => XS.iload X13.here hx rfl (hb hby dd_prog_25m2_83) rfl zk) ?_
        show own_G p e below s _ _ _ (T13.setTop (mkF m 85 #[.val (.ref ga), .val (.int bq), .val (.ref va), .val (.ref na), .val (.ref wa), .val (.int (Int32.ofNat n)), .val (.int (Int32.ofNat (own_c0 gf bq j))), .val (.int (Int32.ofNat (own_c1 gf bq j))), .val (.long (0 : Int64)), .second, .val (.int (Int32.ofNat j)), .val (.int (gf j)), .val (.int (own_bt (gf j) bq))] [(.int (Int32.ofNat (own_c0 gf bq j)))]))
        refine own_st (fun zt zk => XS.iload X13.here hx rfl (hb hby dd_prog_25m2_85) rfl zk) ?_
        show own_G p e below s _ _ _ (T13.setTop (mkF m 87 #[.val (.ref ga), .val (.int bq), .val (.ref va), .val (.ref na), .val (.ref wa), .val (.int (Int32.ofNat n)), .val (.int (Int32.ofNat (own_c0 gf bq j))), .val (.int (Int32.ofNat (own_c1 gf bq j))), .val (.long (0 : Int64)), .second, .val (.int (Int32.ofNat j)), .val (.int (gf j)), .val (.int (own_bt (gf j) bq))] [(.int (own_bt (gf j) bq)), (.int (Int32.ofNat (own_c0 gf bq j)))]))
        refine own_st (fun zt zk => XS.iconst X13.here hx rfl (hb hby dd_prog_25m2_87) zk) ?_
        show own_G p e below s _ _ _ (T13.setTop (mkF m 88 #[.val (.ref ga), .val (.int bq), .val (.ref va), .val (.ref na), .val (.ref wa), .val (.int (Int32.ofNat n)), .val (.int (Int32.ofNat (own_c0 gf bq j))), .val (.int (Int32.ofNat (own_c1 gf bq j))), .val (.long (0 : Int64)), .second, .val (.int (Int32.ofNat j)), .val (.int (gf j)), .val (.int (own_bt (gf j) bq))] [(.int (1 : Int32)), (.int (own_bt (gf j) bq)), (.int (Int32.ofNat (own_c0 gf bq j)))]))
        refine own_st (fun zt zk => XS.ixor X13.here hx rfl (hb hby dd_prog_25m2_88) rfl zk) ?_
        show own_G p e below s _ _ _ (T13.setTop (mkF m 89 #[.val (.ref ga), .val (.int bq), .val (.ref va), .val (.ref na), .val (.ref wa), .val (.int (Int32.ofNat n)), .val (.int (Int32.ofNat (own_c0 gf bq j))), .val (.int (Int32.ofNat (own_c1 gf bq j))), .val (.long (0 : Int64)), .second, .val (.int (Int32.ofNat j)), .val (.int (gf j)), .val (.int (own_bt (gf j) bq))] [(.int ((own_bt (gf j) bq) ^^^ (1 : Int32))), (.int (Int32.ofNat (own_c0 gf bq j)))]))
        refine own_st (fun zt zk => XS.iadd X13.here hx rfl (hb hby dd_prog_25m2_89) rfl zk) ?_
        show own_G p e below s _ _ _ (T13.setTop (mkF m 90 #[.val (.ref ga), .val (.int bq), .val (.ref va), .val (.ref na), .val (.ref wa), .val (.int (Int32.ofNat n)), .val (.int (Int32.ofNat (own_c0 gf bq j))), .val (.int (Int32.ofNat (own_c1 gf bq j))), .val (.long (0 : Int64)), .second, .val (.int (Int32.ofNat j)), .val (.int (gf j)), .val (.int (own_bt (gf j) bq))] [(.int ((Int32.ofNat (own_c0 gf bq j)) + ((own_bt (gf j) bq) ^^^ (1 : Int32))))]))
        refine own_st (fun zt zk => XS.istore X13.here hx rfl (hb hby dd_prog_25m2_90) rfl (l' := #[.val (.ref ga), .val (.int bq), .val (.ref va), .val (.ref na), .val (.ref wa), .val (.int (Int32.ofNat n)), .val (.int ((Int32.ofNat (own_c0 gf bq j)) + ((own_bt (gf j) bq) ^^^ (1 : Int32)))), .val (.int (Int32.ofNat (own_c1 gf bq j))), .val (.long (0 : Int64)), .second, .val (.int (Int32.ofNat j)), .val (.int (gf j)), .val (.int (own_bt (gf j) bq))]) rfl zk) ?_
        show own_G p e below s _ _ _ (T13.setTop (mkF m 92 #[.val (.ref ga), .val (.int bq), .val (.ref va), .val (.ref na), .val (.ref wa), .val (.int (Int32.ofNat n)), .val (.int ((Int32.ofNat (own_c0 gf bq j)) + ((own_bt (gf j) bq) ^^^ (1 : Int32)))), .val (.int (Int32.ofNat (own_c1 gf bq j))), .val (.long (0 : Int64)), .second, .val (.int (Int32.ofNat j)), .val (.int (gf j)), .val (.int (own_bt (gf j) bq))] []))
        refine own_st (fun zt zk => XS.iload X13.here hx rfl (hb hby dd_prog_25m2_92) rfl zk) ?_
        show own_G p e below s _ _ _ (T13.setTop (mkF m 94 #[.val (.ref ga), .val (.int bq), .val (.ref va), .val (.ref na), .val (.ref wa), .val (.int (Int32.ofNat n)), .val (.int ((Int32.ofNat (own_c0 gf bq j)) + ((own_bt (gf j) bq) ^^^ (1 : Int32)))), .val (.int (Int32.ofNat (own_c1 gf bq j))), .val (.long (0 : Int64)), .second, .val (.int (Int32.ofNat j)), .val (.int (gf j)), .val (.int (own_bt (gf j) bq))] [(.int (Int32.ofNat (own_c1 gf bq j)))]))
        refine own_st (fun zt zk => XS.iload X13.here hx rfl (hb hby dd_prog_25m2_94) rfl zk) ?_
        show own_G p e below s _ _ _ (T13.setTop (mkF m 96 #[.val (.ref ga), .val (.int bq), .val (.ref va), .val (.ref na), .val (.ref wa), .val (.int (Int32.ofNat n)), .val (.int ((Int32.ofNat (own_c0 gf bq j)) + ((own_bt (gf j) bq) ^^^ (1 : Int32)))), .val (.int (Int32.ofNat (own_c1 gf bq j))), .val (.long (0 : Int64)), .second, .val (.int (Int32.ofNat j)), .val (.int (gf j)), .val (.int (own_bt (gf j) bq))] [(.int (own_bt (gf j) bq)), (.int (Int32.ofNat (own_c1 gf bq j)))]))
        refine own_st (fun zt zk => XS.iadd X13.here hx rfl (hb hby dd_prog_25m2_96) rfl zk) ?_
        show own_G p e below s _ _ _ (T13.setTop (mkF m 97 #[.val (.ref ga), .val (.int bq), .val (.ref va), .val (.ref na), .val (.ref wa), .val (.int (Int32.ofNat n)), .val (.int ((Int32.ofNat (own_c0 gf bq j)) + ((own_bt (gf j) bq) ^^^ (1 : Int32)))), .val (.int (Int32.ofNat (own_c1 gf bq j))), .val (.long (0 : Int64)), .second, .val (.int (Int32.ofNat j)), .val (.int (gf j)), .val (.int (own_bt (gf j) bq))] [(.int ((Int32.ofNat (own_c1 gf bq j)) + (own_bt (gf j) bq)))]))
        refine own_st (fun zt zk => XS.istore X13.here hx rfl (hb hby dd_prog_25m2_97) rfl (l' := #[.val (.ref ga), .val (.int bq), .val (.ref va), .val (.ref na), .val (.ref wa), .val (.int (Int32.ofNat n)), .val (.int ((Int32.ofNat (own_c0 gf bq j)) + ((own_bt (gf j) bq) ^^^ (1 : Int32)))), .val (.int ((Int32.ofNat (own_c1 gf bq j)) + (own_bt (gf j) bq))), .val (.long (0 : Int64)), .second, .val (.int (Int32.ofNat j)), .val (.int (gf j)), .val (.int (own_bt (gf j) bq))]) rfl zk) ?_
        show own_G p e below s _ _ _ (T13.setTop (mkF m 99 #[.val (.ref ga), .val (.int bq), .val (.ref va), .val (.ref na), .val (.ref wa), .val (.int (Int32.ofNat n)), .val (.int ((Int32.ofNat (own_c0 gf bq j)) + ((own_bt (gf j) bq) ^^^ (1 : Int32)))), .val (.int ((Int32.ofNat (own_c1 gf bq j)) + (own_bt (gf j) bq))), .val (.long (0 : Int64)), .second, .val (.int (Int32.ofNat j)), .val (.int (gf j)), .val (.int (own_bt (gf j) bq))] []))
        refine own_st (fun zt zk => XS.iinc X13.here hx rfl (hb hby dd_prog_25m2_99) rfl (l' := #[.val (.ref ga), .val (.int bq), .val (.ref va), .val (.ref na), .val (.ref wa), .val (.int (Int32.ofNat n)), .val (.int ((Int32.ofNat (own_c0 gf bq j)) + ((own_bt (gf j) bq) ^^^ (1 : Int32)))), .val (.int ((Int32.ofNat (own_c1 gf bq j)) + (own_bt (gf j) bq))), .val (.long (0 : Int64)), .second, .val (.int ((Int32.ofNat j) + (1 : Int32))), .val (.int (gf j)), .val (.int (own_bt (gf j) bq))]) rfl zk) ?_
        show own_G p e below s _ _ _ (T13.setTop (mkF m 102 #[.val (.ref ga), .val (.int bq), .val (.ref va), .val (.ref na), .val (.ref wa), .val (.int (Int32.ofNat n)), .val (.int ((Int32.ofNat (own_c0 gf bq j)) + ((own_bt (gf j) bq) ^^^ (1 : Int32)))), .val (.int ((Int32.ofNat (own_c1 gf bq j)) + (own_bt (gf j) bq))), .val (.long (0 : Int64)), .second, .val (.int ((Int32.ofNat j) + (1 : Int32))), .val (.int (gf j)), .val (.int (own_bt (gf j) bq))] []))
        refine own_st (fun zt zk => XS.goto X13.here hx rfl (pc0 := 102) (pc' := 16) rfl (hb hby dd_prog_25m2_102) (by decide) (by decide) zk) ?_
        show own_G p e below s _ _ _ (T13.setTop (mkF m 16 #[.val (.ref ga), .val (.int bq), .val (.ref va), .val (.ref na), .val (.ref wa), .val (.int (Int32.ofNat n)), .val (.int ((Int32.ofNat (own_c0 gf bq j)) + ((own_bt (gf j) bq) ^^^ (1 : Int32)))), .val (.int ((Int32.ofNat (own_c1 gf bq j)) + (own_bt (gf j) bq))), .val (.long (0 : Int64)), .second, .val (.int ((Int32.ofNat j) + (1 : Int32))), .val (.int (gf j)), .val (.int (own_bt (gf j) bq))] []))
        have hk : j % 64 = 63 := (own_r63 hj).mp hc55_8
        rw [own_c0_s gf bq j, own_c1_s gf bq j, own_ofS j, ← own_wd1 gf bq hk]
        show own_G p e below s _ _ _ (T13.setTop (mkF m 16 #[.val (.ref ga), .val (.int bq), .val (.ref va), .val (.ref na), .val (.ref wa), .val (.int (Int32.ofNat n)), .val (.int (Int32.ofNat (own_c0 gf bq (j + 1)))), .val (.int (Int32.ofNat (own_c1 gf bq (j + 1)))), .val (.long (own_wdf gf bq (j + 1))), .second, .val (.int (Int32.ofNat (j + 1))), .val (.int (gf j)), .val (.int (own_bt (gf j) bq))] []))
        have V14 : own_A Z h13 ga .int n (fun q => .int (gf q)) := (((B0.other W9 p7_).other W11 p8_).other W13 p9_)
        have V15 : own_A Z h13 va .long (n / 64 + 1) (fun q => .long ((own_up (own_vc gf bq Vz j) (j / 64) ((own_wdf gf bq j) ||| ((own_bt (gf j) bq).toInt64 <<< ((Int32.ofNat j) &&& 0x3f).toInt64))) q)) := ((V9a.other W11 p10_).other W13 p11_)
        have V16 : own_A Z h13 na .int n (fun q => .int ((own_up (own_nxf gf bq Xz j) (own_c0 gf bq j) (gf j)) q)) := (V11a.other W13 p12_)
        exact ih (j + 1) (.val (.int (gf j))) (.val (.int (own_bt (gf j) bq))) T13 h13 _ X13 e13 N13 (((K1.wr W9 (Or.inl (List.mem_of_getElem? (i := 0) rfl))).wr W11 (Or.inl (List.mem_of_getElem? (i := 1) rfl))).wr W13 (Or.inl (List.mem_of_getElem? (i := 2) rfl))) V14 (by rw [own_vc1 gf bq hk]; exact V15) V16 V13a (Or.inr (Or.inl ⟨_, rfl⟩)) (Or.inr (Or.inl ⟨_, rfl⟩)) (own_nxt hm)
      · refine own_st (fun zt zk => XS.icmpYes X1.here hx rfl (pc0 := 55) (pc' := 70) rfl (hb hby dd_prog_25m2_55) rfl (feq hc55_8).2 (by decide) (by decide) zk) ?_
        show own_G p e below s _ _ _ (T1.setTop (mkF m 70 #[.val (.ref ga), .val (.int bq), .val (.ref va), .val (.ref na), .val (.ref wa), .val (.int (Int32.ofNat n)), .val (.int (Int32.ofNat (own_c0 gf bq j))), .val (.int (Int32.ofNat (own_c1 gf bq j))), .val (.long ((own_wdf gf bq j) ||| ((own_bt (gf j) bq).toInt64 <<< ((Int32.ofNat j) &&& 0x3f).toInt64))), .second, .val (.int (Int32.ofNat j)), .val (.int (gf j)), .val (.int (own_bt (gf j) bq))] []))
        refine own_st (fun zt zk => XS.aloadN X1.here hx rfl (hb hby dd_prog_25m2_70) rfl rfl zk) ?_
        show own_G p e below s _ _ _ (T1.setTop (mkF m 71 #[.val (.ref ga), .val (.int bq), .val (.ref va), .val (.ref na), .val (.ref wa), .val (.int (Int32.ofNat n)), .val (.int (Int32.ofNat (own_c0 gf bq j))), .val (.int (Int32.ofNat (own_c1 gf bq j))), .val (.long ((own_wdf gf bq j) ||| ((own_bt (gf j) bq).toInt64 <<< ((Int32.ofNat j) &&& 0x3f).toInt64))), .second, .val (.int (Int32.ofNat j)), .val (.int (gf j)), .val (.int (own_bt (gf j) bq))] [(.ref na)]))
        refine own_st (fun zt zk => XS.iload X1.here hx rfl (hb hby dd_prog_25m2_71) rfl zk) ?_
        show own_G p e below s _ _ _ (T1.setTop (mkF m 73 #[.val (.ref ga), .val (.int bq), .val (.ref va), .val (.ref na), .val (.ref wa), .val (.int (Int32.ofNat n)), .val (.int (Int32.ofNat (own_c0 gf bq j))), .val (.int (Int32.ofNat (own_c1 gf bq j))), .val (.long ((own_wdf gf bq j) ||| ((own_bt (gf j) bq).toInt64 <<< ((Int32.ofNat j) &&& 0x3f).toInt64))), .second, .val (.int (Int32.ofNat j)), .val (.int (gf j)), .val (.int (own_bt (gf j) bq))] [(.int (Int32.ofNat (own_c0 gf bq j))), (.ref na)]))
        refine own_st (fun zt zk => XS.iload X1.here hx rfl (hb hby dd_prog_25m2_73) rfl zk) ?_
        show own_G p e below s _ _ _ (T1.setTop (mkF m 75 #[.val (.ref ga), .val (.int bq), .val (.ref va), .val (.ref na), .val (.ref wa), .val (.int (Int32.ofNat n)), .val (.int (Int32.ofNat (own_c0 gf bq j))), .val (.int (Int32.ofNat (own_c1 gf bq j))), .val (.long ((own_wdf gf bq j) ||| ((own_bt (gf j) bq).toInt64 <<< ((Int32.ofNat j) &&& 0x3f).toInt64))), .second, .val (.int (Int32.ofNat j)), .val (.int (gf j)), .val (.int (own_bt (gf j) bq))] [(.int (gf j)), (.int (Int32.ofNat (own_c0 gf bq j))), (.ref na)]))
        obtain ⟨T17, h17, X17, e17, W17, V17, st17⟩ := own_iastore X1 hx hZ e1 B2 (i := (own_c0 gf bq j)) (own_tO (own_ltF (own_x0 gf bq hlt) p13_)) (own_x0 gf bq hlt) (g := (mkF m 75 #[.val (.ref ga), .val (.int bq), .val (.ref va), .val (.ref na), .val (.ref wa), .val (.int (Int32.ofNat n)), .val (.int (Int32.ofNat (own_c0 gf bq j))), .val (.int (Int32.ofNat (own_c1 gf bq j))), .val (.long ((own_wdf gf bq j) ||| ((own_bt (gf j) bq).toInt64 <<< ((Int32.ofNat j) &&& 0x3f).toInt64))), .second, .val (.int (Int32.ofNat j)), .val (.int (gf j)), .val (.int (own_bt (gf j) bq))] [(.int (gf j)), (.int (Int32.ofNat (own_c0 gf bq j))), (.ref na)])) rfl rfl (hb hby dd_prog_25m2_75)
        refine own_st st17 ?_
        have N17 := Fr.snoc X17 N1 p5_
        have V17a : own_A Z h17 na .int n (fun q => .int ((own_up (own_nxf gf bq Xz j) (own_c0 gf bq j) (gf j)) q)) := V17.congr (fun q _ => by simp only [own_up]; split <;> rfl)
        show own_G p e below s _ _ _ (T17.setTop (mkF m 76 #[.val (.ref ga), .val (.int bq), .val (.ref va), .val (.ref na), .val (.ref wa), .val (.int (Int32.ofNat n)), .val (.int (Int32.ofNat (own_c0 gf bq j))), .val (.int (Int32.ofNat (own_c1 gf bq j))), .val (.long ((own_wdf gf bq j) ||| ((own_bt (gf j) bq).toInt64 <<< ((Int32.ofNat j) &&& 0x3f).toInt64))), .second, .val (.int (Int32.ofNat j)), .val (.int (gf j)), .val (.int (own_bt (gf j) bq))] []))
        refine own_st (fun zt zk => XS.aload X17.here hx rfl (hb hby dd_prog_25m2_76) rfl rfl zk) ?_
        show own_G p e below s _ _ _ (T17.setTop (mkF m 78 #[.val (.ref ga), .val (.int bq), .val (.ref va), .val (.ref na), .val (.ref wa), .val (.int (Int32.ofNat n)), .val (.int (Int32.ofNat (own_c0 gf bq j))), .val (.int (Int32.ofNat (own_c1 gf bq j))), .val (.long ((own_wdf gf bq j) ||| ((own_bt (gf j) bq).toInt64 <<< ((Int32.ofNat j) &&& 0x3f).toInt64))), .second, .val (.int (Int32.ofNat j)), .val (.int (gf j)), .val (.int (own_bt (gf j) bq))] [(.ref wa)]))
        refine own_st (fun zt zk => XS.iload X17.here hx rfl (hb hby dd_prog_25m2_78) rfl zk) ?_
        show own_G p e below s _ _ _ (T17.setTop (mkF m 80 #[.val (.ref ga), .val (.int bq), .val (.ref va), .val (.ref na), .val (.ref wa), .val (.int (Int32.ofNat n)), .val (.int (Int32.ofNat (own_c0 gf bq j))), .val (.int (Int32.ofNat (own_c1 gf bq j))), .val (.long ((own_wdf gf bq j) ||| ((own_bt (gf j) bq).toInt64 <<< ((Int32.ofNat j) &&& 0x3f).toInt64))), .second, .val (.int (Int32.ofNat j)), .val (.int (gf j)), .val (.int (own_bt (gf j) bq))] [(.int (Int32.ofNat (own_c1 gf bq j))), (.ref wa)]))
        refine own_st (fun zt zk => XS.iload X17.here hx rfl (hb hby dd_prog_25m2_80) rfl zk) ?_
        show own_G p e below s _ _ _ (T17.setTop (mkF m 82 #[.val (.ref ga), .val (.int bq), .val (.ref va), .val (.ref na), .val (.ref wa), .val (.int (Int32.ofNat n)), .val (.int (Int32.ofNat (own_c0 gf bq j))), .val (.int (Int32.ofNat (own_c1 gf bq j))), .val (.long ((own_wdf gf bq j) ||| ((own_bt (gf j) bq).toInt64 <<< ((Int32.ofNat j) &&& 0x3f).toInt64))), .second, .val (.int (Int32.ofNat j)), .val (.int (gf j)), .val (.int (own_bt (gf j) bq))] [(.int (gf j)), (.int (Int32.ofNat (own_c1 gf bq j))), (.ref wa)]))
        have V18 : own_A Z h17 wa .int n (fun q => .int ((own_wsf gf bq Wz j) q)) := (B3.other W17 (Ne.symm p12_))
        obtain ⟨T19, h19, X19, e19, W19, V19, st19⟩ := own_iastore X17 hx hZ e17 V18 (i := (own_c1 gf bq j)) (own_tO (own_ltF (own_x1 gf bq hlt) p13_)) (own_x1 gf bq hlt) (g := (mkF m 82 #[.val (.ref ga), .val (.int bq), .val (.ref va), .val (.ref na), .val (.ref wa), .val (.int (Int32.ofNat n)), .val (.int (Int32.ofNat (own_c0 gf bq j))), .val (.int (Int32.ofNat (own_c1 gf bq j))), .val (.long ((own_wdf gf bq j) ||| ((own_bt (gf j) bq).toInt64 <<< ((Int32.ofNat j) &&& 0x3f).toInt64))), .second, .val (.int (Int32.ofNat j)), .val (.int (gf j)), .val (.int (own_bt (gf j) bq))] [(.int (gf j)), (.int (Int32.ofNat (own_c1 gf bq j))), (.ref wa)])) rfl rfl (hb hby dd_prog_25m2_82)
        refine own_st st19 ?_
        have N19 := Fr.snoc X19 N17 p6_
        have V19a : own_A Z h19 wa .int n (fun q => .int ((own_up (own_wsf gf bq Wz j) (own_c1 gf bq j) (gf j)) q)) := V19.congr (fun q _ => by simp only [own_up]; split <;> rfl)
        show own_G p e below s _ _ _ (T19.setTop (mkF m 83 #[.val (.ref ga), .val (.int bq), .val (.ref va), .val (.ref na), .val (.ref wa), .val (.int (Int32.ofNat n)), .val (.int (Int32.ofNat (own_c0 gf bq j))), .val (.int (Int32.ofNat (own_c1 gf bq j))), .val (.long ((own_wdf gf bq j) ||| ((own_bt (gf j) bq).toInt64 <<< ((Int32.ofNat j) &&& 0x3f).toInt64))), .second, .val (.int (Int32.ofNat j)), .val (.int (gf j)), .val (.int (own_bt (gf j) bq))] []))
        refine own_st (fun zt zk => XS.iload X19.here hx rfl (hb hby dd_prog_25m2_83) rfl zk) ?_
        show own_G p e below s _ _ _ (T19.setTop (mkF m 85 #[.val (.ref ga), .val (.int bq), .val (.ref va), .val (.ref na), .val (.ref wa), .val (.int (Int32.ofNat n)), .val (.int (Int32.ofNat (own_c0 gf bq j))), .val (.int (Int32.ofNat (own_c1 gf bq j))), .val (.long ((own_wdf gf bq j) ||| ((own_bt (gf j) bq).toInt64 <<< ((Int32.ofNat j) &&& 0x3f).toInt64))), .second, .val (.int (Int32.ofNat j)), .val (.int (gf j)), .val (.int (own_bt (gf j) bq))] [(.int (Int32.ofNat (own_c0 gf bq j)))]))
        refine own_st (fun zt zk => XS.iload X19.here hx rfl (hb hby dd_prog_25m2_85) rfl zk) ?_
        show own_G p e below s _ _ _ (T19.setTop (mkF m 87 #[.val (.ref ga), .val (.int bq), .val (.ref va), .val (.ref na), .val (.ref wa), .val (.int (Int32.ofNat n)), .val (.int (Int32.ofNat (own_c0 gf bq j))), .val (.int (Int32.ofNat (own_c1 gf bq j))), .val (.long ((own_wdf gf bq j) ||| ((own_bt (gf j) bq).toInt64 <<< ((Int32.ofNat j) &&& 0x3f).toInt64))), .second, .val (.int (Int32.ofNat j)), .val (.int (gf j)), .val (.int (own_bt (gf j) bq))] [(.int (own_bt (gf j) bq)), (.int (Int32.ofNat (own_c0 gf bq j)))]))
        refine own_st (fun zt zk => XS.iconst X19.here hx rfl (hb hby dd_prog_25m2_87) zk) ?_
        show own_G p e below s _ _ _ (T19.setTop (mkF m 88 #[.val (.ref ga), .val (.int bq), .val (.ref va), .val (.ref na), .val (.ref wa), .val (.int (Int32.ofNat n)), .val (.int (Int32.ofNat (own_c0 gf bq j))), .val (.int (Int32.ofNat (own_c1 gf bq j))), .val (.long ((own_wdf gf bq j) ||| ((own_bt (gf j) bq).toInt64 <<< ((Int32.ofNat j) &&& 0x3f).toInt64))), .second, .val (.int (Int32.ofNat j)), .val (.int (gf j)), .val (.int (own_bt (gf j) bq))] [(.int (1 : Int32)), (.int (own_bt (gf j) bq)), (.int (Int32.ofNat (own_c0 gf bq j)))]))
        refine own_st (fun zt zk => XS.ixor X19.here hx rfl (hb hby dd_prog_25m2_88) rfl zk) ?_
        show own_G p e below s _ _ _ (T19.setTop (mkF m 89 #[.val (.ref ga), .val (.int bq), .val (.ref va), .val (.ref na), .val (.ref wa), .val (.int (Int32.ofNat n)), .val (.int (Int32.ofNat (own_c0 gf bq j))), .val (.int (Int32.ofNat (own_c1 gf bq j))), .val (.long ((own_wdf gf bq j) ||| ((own_bt (gf j) bq).toInt64 <<< ((Int32.ofNat j) &&& 0x3f).toInt64))), .second, .val (.int (Int32.ofNat j)), .val (.int (gf j)), .val (.int (own_bt (gf j) bq))] [(.int ((own_bt (gf j) bq) ^^^ (1 : Int32))), (.int (Int32.ofNat (own_c0 gf bq j)))]))
        refine own_st (fun zt zk => XS.iadd X19.here hx rfl (hb hby dd_prog_25m2_89) rfl zk) ?_
        show own_G p e below s _ _ _ (T19.setTop (mkF m 90 #[.val (.ref ga), .val (.int bq), .val (.ref va), .val (.ref na), .val (.ref wa), .val (.int (Int32.ofNat n)), .val (.int (Int32.ofNat (own_c0 gf bq j))), .val (.int (Int32.ofNat (own_c1 gf bq j))), .val (.long ((own_wdf gf bq j) ||| ((own_bt (gf j) bq).toInt64 <<< ((Int32.ofNat j) &&& 0x3f).toInt64))), .second, .val (.int (Int32.ofNat j)), .val (.int (gf j)), .val (.int (own_bt (gf j) bq))] [(.int ((Int32.ofNat (own_c0 gf bq j)) + ((own_bt (gf j) bq) ^^^ (1 : Int32))))]))
        refine own_st (fun zt zk => XS.istore X19.here hx rfl (hb hby dd_prog_25m2_90) rfl (l' := #[.val (.ref ga), .val (.int bq), .val (.ref va), .val (.ref na), .val (.ref wa), .val (.int (Int32.ofNat n)), .val (.int ((Int32.ofNat (own_c0 gf bq j)) + ((own_bt (gf j) bq) ^^^ (1 : Int32)))), .val (.int (Int32.ofNat (own_c1 gf bq j))), .val (.long ((own_wdf gf bq j) ||| ((own_bt (gf j) bq).toInt64 <<< ((Int32.ofNat j) &&& 0x3f).toInt64))), .second, .val (.int (Int32.ofNat j)), .val (.int (gf j)), .val (.int (own_bt (gf j) bq))]) rfl zk) ?_
        show own_G p e below s _ _ _ (T19.setTop (mkF m 92 #[.val (.ref ga), .val (.int bq), .val (.ref va), .val (.ref na), .val (.ref wa), .val (.int (Int32.ofNat n)), .val (.int ((Int32.ofNat (own_c0 gf bq j)) + ((own_bt (gf j) bq) ^^^ (1 : Int32)))), .val (.int (Int32.ofNat (own_c1 gf bq j))), .val (.long ((own_wdf gf bq j) ||| ((own_bt (gf j) bq).toInt64 <<< ((Int32.ofNat j) &&& 0x3f).toInt64))), .second, .val (.int (Int32.ofNat j)), .val (.int (gf j)), .val (.int (own_bt (gf j) bq))] []))
        refine own_st (fun zt zk => XS.iload X19.here hx rfl (hb hby dd_prog_25m2_92) rfl zk) ?_
        show own_G p e below s _ _ _ (T19.setTop (mkF m 94 #[.val (.ref ga), .val (.int bq), .val (.ref va), .val (.ref na), .val (.ref wa), .val (.int (Int32.ofNat n)), .val (.int ((Int32.ofNat (own_c0 gf bq j)) + ((own_bt (gf j) bq) ^^^ (1 : Int32)))), .val (.int (Int32.ofNat (own_c1 gf bq j))), .val (.long ((own_wdf gf bq j) ||| ((own_bt (gf j) bq).toInt64 <<< ((Int32.ofNat j) &&& 0x3f).toInt64))), .second, .val (.int (Int32.ofNat j)), .val (.int (gf j)), .val (.int (own_bt (gf j) bq))] [(.int (Int32.ofNat (own_c1 gf bq j)))]))
        refine own_st (fun zt zk => XS.iload X19.here hx rfl (hb hby dd_prog_25m2_94) rfl zk) ?_
        show own_G p e below s _ _ _ (T19.setTop (mkF m 96 #[.val (.ref ga), .val (.int bq), .val (.ref va), .val (.ref na), .val (.ref wa), .val (.int (Int32.ofNat n)), .val (.int ((Int32.ofNat (own_c0 gf bq j)) + ((own_bt (gf j) bq) ^^^ (1 : Int32)))), .val (.int (Int32.ofNat (own_c1 gf bq j))), .val (.long ((own_wdf gf bq j) ||| ((own_bt (gf j) bq).toInt64 <<< ((Int32.ofNat j) &&& 0x3f).toInt64))), .second, .val (.int (Int32.ofNat j)), .val (.int (gf j)), .val (.int (own_bt (gf j) bq))] [(.int (own_bt (gf j) bq)), (.int (Int32.ofNat (own_c1 gf bq j)))]))
        refine own_st (fun zt zk => XS.iadd X19.here hx rfl (hb hby dd_prog_25m2_96) rfl zk) ?_
        show own_G p e below s _ _ _ (T19.setTop (mkF m 97 #[.val (.ref ga), .val (.int bq), .val (.ref va), .val (.ref na), .val (.ref wa), .val (.int (Int32.ofNat n)), .val (.int ((Int32.ofNat (own_c0 gf bq j)) + ((own_bt (gf j) bq) ^^^ (1 : Int32)))), .val (.int (Int32.ofNat (own_c1 gf bq j))), .val (.long ((own_wdf gf bq j) ||| ((own_bt (gf j) bq).toInt64 <<< ((Int32.ofNat j) &&& 0x3f).toInt64))), .second, .val (.int (Int32.ofNat j)), .val (.int (gf j)), .val (.int (own_bt (gf j) bq))] [(.int ((Int32.ofNat (own_c1 gf bq j)) + (own_bt (gf j) bq)))]))
        refine own_st (fun zt zk => XS.istore X19.here hx rfl (hb hby dd_prog_25m2_97) rfl (l' := #[.val (.ref ga), .val (.int bq), .val (.ref va), .val (.ref na), .val (.ref wa), .val (.int (Int32.ofNat n)), .val (.int ((Int32.ofNat (own_c0 gf bq j)) + ((own_bt (gf j) bq) ^^^ (1 : Int32)))), .val (.int ((Int32.ofNat (own_c1 gf bq j)) + (own_bt (gf j) bq))), .val (.long ((own_wdf gf bq j) ||| ((own_bt (gf j) bq).toInt64 <<< ((Int32.ofNat j) &&& 0x3f).toInt64))), .second, .val (.int (Int32.ofNat j)), .val (.int (gf j)), .val (.int (own_bt (gf j) bq))]) rfl zk) ?_
        show own_G p e below s _ _ _ (T19.setTop (mkF m 99 #[.val (.ref ga), .val (.int bq), .val (.ref va), .val (.ref na), .val (.ref wa), .val (.int (Int32.ofNat n)), .val (.int ((Int32.ofNat (own_c0 gf bq j)) + ((own_bt (gf j) bq) ^^^ (1 : Int32)))), .val (.int ((Int32.ofNat (own_c1 gf bq j)) + (own_bt (gf j) bq))), .val (.long ((own_wdf gf bq j) ||| ((own_bt (gf j) bq).toInt64 <<< ((Int32.ofNat j) &&& 0x3f).toInt64))), .second, .val (.int (Int32.ofNat j)), .val (.int (gf j)), .val (.int (own_bt (gf j) bq))] []))
        refine own_st (fun zt zk => XS.iinc X19.here hx rfl (hb hby dd_prog_25m2_99) rfl (l' := #[.val (.ref ga), .val (.int bq), .val (.ref va), .val (.ref na), .val (.ref wa), .val (.int (Int32.ofNat n)), .val (.int ((Int32.ofNat (own_c0 gf bq j)) + ((own_bt (gf j) bq) ^^^ (1 : Int32)))), .val (.int ((Int32.ofNat (own_c1 gf bq j)) + (own_bt (gf j) bq))), .val (.long ((own_wdf gf bq j) ||| ((own_bt (gf j) bq).toInt64 <<< ((Int32.ofNat j) &&& 0x3f).toInt64))), .second, .val (.int ((Int32.ofNat j) + (1 : Int32))), .val (.int (gf j)), .val (.int (own_bt (gf j) bq))]) rfl zk) ?_
        show own_G p e below s _ _ _ (T19.setTop (mkF m 102 #[.val (.ref ga), .val (.int bq), .val (.ref va), .val (.ref na), .val (.ref wa), .val (.int (Int32.ofNat n)), .val (.int ((Int32.ofNat (own_c0 gf bq j)) + ((own_bt (gf j) bq) ^^^ (1 : Int32)))), .val (.int ((Int32.ofNat (own_c1 gf bq j)) + (own_bt (gf j) bq))), .val (.long ((own_wdf gf bq j) ||| ((own_bt (gf j) bq).toInt64 <<< ((Int32.ofNat j) &&& 0x3f).toInt64))), .second, .val (.int ((Int32.ofNat j) + (1 : Int32))), .val (.int (gf j)), .val (.int (own_bt (gf j) bq))] []))
        refine own_st (fun zt zk => XS.goto X19.here hx rfl (pc0 := 102) (pc' := 16) rfl (hb hby dd_prog_25m2_102) (by decide) (by decide) zk) ?_
        show own_G p e below s _ _ _ (T19.setTop (mkF m 16 #[.val (.ref ga), .val (.int bq), .val (.ref va), .val (.ref na), .val (.ref wa), .val (.int (Int32.ofNat n)), .val (.int ((Int32.ofNat (own_c0 gf bq j)) + ((own_bt (gf j) bq) ^^^ (1 : Int32)))), .val (.int ((Int32.ofNat (own_c1 gf bq j)) + (own_bt (gf j) bq))), .val (.long ((own_wdf gf bq j) ||| ((own_bt (gf j) bq).toInt64 <<< ((Int32.ofNat j) &&& 0x3f).toInt64))), .second, .val (.int ((Int32.ofNat j) + (1 : Int32))), .val (.int (gf j)), .val (.int (own_bt (gf j) bq))] []))
        have hk : ¬ j % 64 = 63 := mt (own_r63 hj).mpr hc55_8
        rw [own_c0_s gf bq j, own_c1_s gf bq j, own_ofS j, ← own_wd0 gf bq hk]
        show own_G p e below s _ _ _ (T19.setTop (mkF m 16 #[.val (.ref ga), .val (.int bq), .val (.ref va), .val (.ref na), .val (.ref wa), .val (.int (Int32.ofNat n)), .val (.int (Int32.ofNat (own_c0 gf bq (j + 1)))), .val (.int (Int32.ofNat (own_c1 gf bq (j + 1)))), .val (.long (own_wdf gf bq (j + 1))), .second, .val (.int (Int32.ofNat (j + 1))), .val (.int (gf j)), .val (.int (own_bt (gf j) bq))] []))
        have V20 : own_A Z h19 ga .int n (fun q => .int (gf q)) := ((B0.other W17 p8_).other W19 p9_)
        have V21 : own_A Z h19 va .long (n / 64 + 1) (fun q => .long ((own_vc gf bq Vz j) q)) := ((B1.other W17 p10_).other W19 p11_)
        have V22 : own_A Z h19 na .int n (fun q => .int ((own_up (own_nxf gf bq Xz j) (own_c0 gf bq j) (gf j)) q)) := (V17a.other W19 p12_)
        exact ih (j + 1) (.val (.int (gf j))) (.val (.int (own_bt (gf j) bq))) T19 h19 _ X19 e19 N19 ((K1.wr W17 (Or.inl (List.mem_of_getElem? (i := 1) rfl))).wr W19 (Or.inl (List.mem_of_getElem? (i := 2) rfl))) V20 (by rw [own_vc0 gf bq hk]; exact V21) V22 V19a (Or.inr (Or.inl ⟨_, rfl⟩)) (Or.inr (Or.inl ⟨_, rfl⟩)) (own_nxt hm)
  exact hL n 0 .unset .unset T0 h0 _ X0 e0 N0 (Keep.refl _ _) p0_ p1_ p2_ p3_ (Or.inl rfl) (Or.inl rfl) (Nat.zero_add n)
theorem own_Fam.low {Z : State} {h : Heap} {lo L n : Nat} {G : Nat → Value} {VV : Nat → Nat → Int64} (F : own_Fam Z h lo L n G VV) : own_Fam Z h 0 L n G VV := fun q hq => by
  obtain ⟨x, h1, -, h3⟩ := F q hq
  exact ⟨x, h1, Nat.zero_le _, h3⟩
theorem own_pn5 : plainFor (⟨"com/example/orderly_results/orderlyresults/engine/WaveletMatrix", "<init>", "([II)V"⟩ : MethodName) = true := plainFor_of_name (by first | (simp [plainName, overriddenIn]; done) | decide +kernel)
theorem dd_prog_25m1_0 : decode prog_25_method_1_code 0 = .ok (.aload_n 0, 1) := by decide +kernel
theorem dd_prog_25m1_1 : decode prog_25_method_1_code 1 = .ok (.invokespecial 1, 3) := by decide +kernel
theorem dd_prog_25m1_4 : decode prog_25_method_1_code 4 = .ok (.aload_n 0, 1) := by decide +kernel
theorem dd_prog_25m1_5 : decode prog_25_method_1_code 5 = .ok (.bipush 32, 2) := by decide +kernel
theorem dd_prog_25m1_7 : decode prog_25_method_1_code 7 = .ok (.iload_n 2, 1) := by decide +kernel
theorem dd_prog_25m1_8 : decode prog_25_method_1_code 8 = .ok (.iconst 1, 1) := by decide +kernel
theorem dd_prog_25m1_9 : decode prog_25_method_1_code 9 = .ok (.isub, 1) := by decide +kernel
theorem dd_prog_25m1_10 : decode prog_25_method_1_code 10 = .ok (.iconst 0, 1) := by decide +kernel
theorem dd_prog_25m1_11 : decode prog_25_method_1_code 11 = .ok (.invokestatic 9, 3) := by decide +kernel
theorem own_pd1 : parseMethodDescriptor "(II)I" = some ⟨[.int, .int], some .int⟩ := by decide +kernel
theorem dd_prog_25m1_14 : decode prog_25_method_1_code 14 = .ok (.invokestatic 15, 3) := by decide +kernel
theorem own_pd2 : parseMethodDescriptor "(I)I" = some ⟨[.int], some .int⟩ := by decide +kernel
theorem dd_prog_25m1_17 : decode prog_25_method_1_code 17 = .ok (.isub, 1) := by decide +kernel
theorem dd_prog_25m1_18 : decode prog_25_method_1_code 18 = .ok (.putfield 19, 3) := by decide +kernel
theorem dd_prog_25m1_21 : decode prog_25_method_1_code 21 = .ok (.aload_n 0, 1) := by decide +kernel
theorem dd_prog_25m1_22 : decode prog_25_method_1_code 22 = .ok (.aload_n 1, 1) := by decide +kernel
theorem dd_prog_25m1_23 : decode prog_25_method_1_code 23 = .ok (.arraylength, 1) := by decide +kernel
theorem dd_prog_25m1_24 : decode prog_25_method_1_code 24 = .ok (.putfield 25, 3) := by decide +kernel
theorem dd_prog_25m1_27 : decode prog_25_method_1_code 27 = .ok (.aload_n 0, 1) := by decide +kernel
theorem dd_prog_25m1_28 : decode prog_25_method_1_code 28 = .ok (.aload_n 0, 1) := by decide +kernel
theorem dd_prog_25m1_29 : decode prog_25_method_1_code 29 = .ok (.getfield 19, 3) := by decide +kernel
theorem dd_prog_25m1_32 : decode prog_25_method_1_code 32 = .ok (.anewarray 28, 3) := by decide +kernel
theorem dd_prog_25m1_35 : decode prog_25_method_1_code 35 = .ok (.putfield 30, 3) := by decide +kernel
theorem dd_prog_25m1_38 : decode prog_25_method_1_code 38 = .ok (.aload_n 0, 1) := by decide +kernel
theorem dd_prog_25m1_39 : decode prog_25_method_1_code 39 = .ok (.aload_n 0, 1) := by decide +kernel
theorem dd_prog_25m1_40 : decode prog_25_method_1_code 40 = .ok (.getfield 19, 3) := by decide +kernel
theorem dd_prog_25m1_43 : decode prog_25_method_1_code 43 = .ok (.anewarray 34, 3) := by decide +kernel
theorem dd_prog_25m1_46 : decode prog_25_method_1_code 46 = .ok (.putfield 36, 3) := by decide +kernel
theorem dd_prog_25m1_49 : decode prog_25_method_1_code 49 = .ok (.aload_n 0, 1) := by decide +kernel
theorem dd_prog_25m1_50 : decode prog_25_method_1_code 50 = .ok (.aload_n 0, 1) := by decide +kernel
theorem dd_prog_25m1_51 : decode prog_25_method_1_code 51 = .ok (.getfield 19, 3) := by decide +kernel
theorem dd_prog_25m1_54 : decode prog_25_method_1_code 54 = .ok (.newarray .int, 2) := by decide +kernel
theorem dd_prog_25m1_56 : decode prog_25_method_1_code 56 = .ok (.putfield 40, 3) := by decide +kernel
theorem dd_prog_25m1_59 : decode prog_25_method_1_code 59 = .ok (.aload_n 1, 1) := by decide +kernel
theorem dd_prog_25m1_60 : decode prog_25_method_1_code 60 = .ok (.invokevirtual 43, 3) := by decide +kernel
theorem dd_prog_25m1_63 : decode prog_25_method_1_code 63 = .ok (.checkcast 34, 3) := by decide +kernel
theorem dd_prog_25m1_66 : decode prog_25_method_1_code 66 = .ok (.astore_n 3, 1) := by decide +kernel
theorem dd_prog_25m1_67 : decode prog_25_method_1_code 67 = .ok (.aload_n 0, 1) := by decide +kernel
theorem dd_prog_25m1_68 : decode prog_25_method_1_code 68 = .ok (.getfield 25, 3) := by decide +kernel
theorem dd_prog_25m1_71 : decode prog_25_method_1_code 71 = .ok (.newarray .int, 2) := by decide +kernel
theorem dd_prog_25m1_73 : decode prog_25_method_1_code 73 = .ok (.astore 4, 2) := by decide +kernel
theorem dd_prog_25m1_75 : decode prog_25_method_1_code 75 = .ok (.aload_n 0, 1) := by decide +kernel
theorem dd_prog_25m1_76 : decode prog_25_method_1_code 76 = .ok (.getfield 25, 3) := by decide +kernel
theorem dd_prog_25m1_79 : decode prog_25_method_1_code 79 = .ok (.newarray .int, 2) := by decide +kernel
theorem dd_prog_25m1_81 : decode prog_25_method_1_code 81 = .ok (.astore 5, 2) := by decide +kernel
theorem dd_prog_25m1_83 : decode prog_25_method_1_code 83 = .ok (.iconst 0, 1) := by decide +kernel
theorem dd_prog_25m1_84 : decode prog_25_method_1_code 84 = .ok (.istore 6, 2) := by decide +kernel
theorem dd_prog_25m1_86 : decode prog_25_method_1_code 86 = .ok (.iload 6, 2) := by decide +kernel
theorem dd_prog_25m1_88 : decode prog_25_method_1_code 88 = .ok (.aload_n 0, 1) := by decide +kernel
theorem dd_prog_25m1_89 : decode prog_25_method_1_code 89 = .ok (.getfield 19, 3) := by decide +kernel
theorem dd_prog_25m1_92 : decode prog_25_method_1_code 92 = .ok (.if_icmp .ge 79, 3) := by decide +kernel
theorem dd_prog_25m1_171 : decode prog_25_method_1_code 171 = .ok (.return_, 1) := by decide +kernel
theorem dd_prog_25m1_95 : decode prog_25_method_1_code 95 = .ok (.aload_n 0, 1) := by decide +kernel
theorem dd_prog_25m1_96 : decode prog_25_method_1_code 96 = .ok (.getfield 25, 3) := by decide +kernel
theorem dd_prog_25m1_99 : decode prog_25_method_1_code 99 = .ok (.bipush 64, 2) := by decide +kernel
theorem dd_prog_25m1_101 : decode prog_25_method_1_code 101 = .ok (.idiv, 1) := by decide +kernel
theorem dd_prog_25m1_102 : decode prog_25_method_1_code 102 = .ok (.iconst 1, 1) := by decide +kernel
theorem dd_prog_25m1_103 : decode prog_25_method_1_code 103 = .ok (.iadd, 1) := by decide +kernel
theorem dd_prog_25m1_104 : decode prog_25_method_1_code 104 = .ok (.newarray .long, 2) := by decide +kernel
theorem dd_prog_25m1_106 : decode prog_25_method_1_code 106 = .ok (.astore 7, 2) := by decide +kernel
theorem dd_prog_25m1_108 : decode prog_25_method_1_code 108 = .ok (.aload_n 0, 1) := by decide +kernel
theorem dd_prog_25m1_109 : decode prog_25_method_1_code 109 = .ok (.getfield 40, 3) := by decide +kernel
theorem dd_prog_25m1_112 : decode prog_25_method_1_code 112 = .ok (.iload 6, 2) := by decide +kernel
theorem dd_prog_25m1_114 : decode prog_25_method_1_code 114 = .ok (.aload_n 3, 1) := by decide +kernel
theorem dd_prog_25m1_115 : decode prog_25_method_1_code 115 = .ok (.aload_n 0, 1) := by decide +kernel
theorem dd_prog_25m1_116 : decode prog_25_method_1_code 116 = .ok (.getfield 19, 3) := by decide +kernel
theorem dd_prog_25m1_119 : decode prog_25_method_1_code 119 = .ok (.iconst 1, 1) := by decide +kernel
theorem dd_prog_25m1_120 : decode prog_25_method_1_code 120 = .ok (.isub, 1) := by decide +kernel
theorem dd_prog_25m1_121 : decode prog_25_method_1_code 121 = .ok (.iload 6, 2) := by decide +kernel
theorem dd_prog_25m1_123 : decode prog_25_method_1_code 123 = .ok (.isub, 1) := by decide +kernel
theorem dd_prog_25m1_124 : decode prog_25_method_1_code 124 = .ok (.aload 7, 2) := by decide +kernel
theorem dd_prog_25m1_126 : decode prog_25_method_1_code 126 = .ok (.aload 4, 2) := by decide +kernel
theorem dd_prog_25m1_128 : decode prog_25_method_1_code 128 = .ok (.aload 5, 2) := by decide +kernel
theorem dd_prog_25m1_130 : decode prog_25_method_1_code 130 = .ok (.invokestatic 49, 3) := by decide +kernel
theorem own_pd3 : parseMethodDescriptor "([II[J[I[I)I" = some ⟨[(.array .int), .int, (.array .long), (.array .int), (.array .int)], some .int⟩ := by decide +kernel
theorem dd_prog_25m1_133 : decode prog_25_method_1_code 133 = .ok (.iastore, 1) := by decide +kernel
theorem dd_prog_25m1_134 : decode prog_25_method_1_code 134 = .ok (.aload_n 0, 1) := by decide +kernel
theorem dd_prog_25m1_135 : decode prog_25_method_1_code 135 = .ok (.getfield 30, 3) := by decide +kernel
theorem dd_prog_25m1_138 : decode prog_25_method_1_code 138 = .ok (.iload 6, 2) := by decide +kernel
theorem dd_prog_25m1_140 : decode prog_25_method_1_code 140 = .ok (.aload 7, 2) := by decide +kernel
theorem dd_prog_25m1_142 : decode prog_25_method_1_code 142 = .ok (.aastore, 1) := by decide +kernel
theorem dd_prog_25m1_143 : decode prog_25_method_1_code 143 = .ok (.aload_n 0, 1) := by decide +kernel
theorem dd_prog_25m1_144 : decode prog_25_method_1_code 144 = .ok (.getfield 36, 3) := by decide +kernel
theorem dd_prog_25m1_147 : decode prog_25_method_1_code 147 = .ok (.iload 6, 2) := by decide +kernel
theorem dd_prog_25m1_149 : decode prog_25_method_1_code 149 = .ok (.aload 7, 2) := by decide +kernel
theorem dd_prog_25m1_151 : decode prog_25_method_1_code 151 = .ok (.invokestatic 53, 3) := by decide +kernel
theorem own_pd4 : parseMethodDescriptor "([J)[I" = some ⟨[(.array .long)], some (.array .int)⟩ := by decide +kernel
theorem dd_prog_25m1_154 : decode prog_25_method_1_code 154 = .ok (.aastore, 1) := by decide +kernel
theorem dd_prog_25m1_155 : decode prog_25_method_1_code 155 = .ok (.aload_n 3, 1) := by decide +kernel
theorem dd_prog_25m1_156 : decode prog_25_method_1_code 156 = .ok (.astore 8, 2) := by decide +kernel
theorem dd_prog_25m1_158 : decode prog_25_method_1_code 158 = .ok (.aload 4, 2) := by decide +kernel
theorem dd_prog_25m1_160 : decode prog_25_method_1_code 160 = .ok (.astore_n 3, 1) := by decide +kernel
theorem dd_prog_25m1_161 : decode prog_25_method_1_code 161 = .ok (.aload 8, 2) := by decide +kernel
theorem dd_prog_25m1_163 : decode prog_25_method_1_code 163 = .ok (.astore 4, 2) := by decide +kernel
theorem dd_prog_25m1_165 : decode prog_25_method_1_code 165 = .ok (.iinc 6 1, 3) := by decide +kernel
theorem dd_prog_25m1_168 : decode prog_25_method_1_code 168 = .ok (.goto (-82), 3) := by decide +kernel
theorem ef_own_wi (m : MethodId) (z0 : Addr) (z1 : Addr) (z2 : Int32) : entryFrame m #[(.ref z0), (.ref z1), (.int z2)] 9 = mkF m 0 #[.val (.ref z0), .val (.ref z1), .val (.int z2), .unset, .unset, .unset, .unset, .unset, .unset] [] := by first | (simp [entryFrame, mkF, argsToLocals, Value.category]; done) | rfl
def Q_own_wi (Z : State) (a : Addr) (ar : Addr) (bv : Int32) (n : Nat) (gf : Nat → Int32) (h0 : Heap) (n0 : Nat) (zv : Option Value) (zh : Heap) (zL : List Loc) : Prop := ∃ vv : Addr, ∃ cc : Addr, ∃ d : Nat, ∃ GV : Nat → Value, zv = none ∧ Fr n0 zL ∧ Keep h0 zh [a] ∧ h0.size ≤ vv ∧ h0.size ≤ cc ∧ Fld Z zh a "com/example/orderly_results/orderlyresults/engine/WaveletMatrix" "bits" "I" (.int (Int32.ofNat d)) ∧ Fld Z zh a "com/example/orderly_results/orderlyresults/engine/WaveletMatrix" "size" "I" (.int (Int32.ofNat n)) ∧ Fld Z zh a "com/example/orderly_results/orderlyresults/engine/WaveletMatrix" "vectors" "[[J" (.ref vv) ∧ Fld Z zh a "com/example/orderly_results/orderlyresults/engine/WaveletMatrix" "clear" "[I" (.ref cc) ∧ own_RA Z zh vv .long "[J" d GV ∧ own_A Z zh cc .int d (fun q => .int ((own_clr gf d n d) q)) ∧ own_Fam Z zh 0 d (n / 64 + 1) GV (own_VV gf d n) ∧ d ≤ 31 ∧ bv.toInt ≤ (2 ^ d : Nat)
set_option maxRecDepth 65536 in
set_option maxHeartbeats 40000000 in
theorem own_wi (l : Launch) (Z : State) (a0 : Array Value) (hw : ∀ d ∈ tables_1, d.before a0 Z = true) (ws : List Jvm.Cond) (a : Addr) (ar : Addr) (bv : Int32) (n : Nat) (gf : Nat → Int32) (h0 : Heap) (n0 : Nat) (Z0 : n0 ≤ h0.size) (p0_ : Exa Z h0 a "com/example/orderly_results/orderlyresults/engine/WaveletMatrix") (p1_ : Fld Z h0 a "com/example/orderly_results/orderlyresults/engine/WaveletMatrix" "bits" "I" (.int (0 : Int32))) (p2_ : Fld Z h0 a "com/example/orderly_results/orderlyresults/engine/WaveletMatrix" "size" "I" (.int (0 : Int32))) (p3_ : Fld Z h0 a "com/example/orderly_results/orderlyresults/engine/WaveletMatrix" "vectors" "[[J" .null) (p4_ : Fld Z h0 a "com/example/orderly_results/orderlyresults/engine/WaveletMatrix" "counts" "[[I" .null) (p5_ : Fld Z h0 a "com/example/orderly_results/orderlyresults/engine/WaveletMatrix" "clear" "[I" .null) (p6_ : own_A Z h0 ar .int n (fun q => .int (gf q))) (p7_ : Exa Z h0 ar "[I") (p8_ : n0 ≤ a) (p9_ : a ≠ ar) (p10_ : n ≤ 255) (p11_ : 1 ≤ bv.toInt) :
    MetFree l (⟨"com/example/orderly_results/orderlyresults/engine/WaveletMatrix", "<init>", "([II)V"⟩ : MethodName) (head1 (Jvm.Cond.code (⟨"com/example/orderly_results/orderlyresults/engine/WaveletMatrix", "<init>", "([II)V"⟩ : MethodName) prog_25_method_1_code 9 none :: ws) ({ frames := 2, cells := 68, slots := 1013, locals := 77 } : Room)) (fun za zU => za = #[(.ref a), (.ref ar), (.int bv)] ∧ Z.Warmed39 zU.vm ∧ zU.heap = h0) (fun _ _ _ _ _ => True) (fun _ zU zo zU' => ∃ zv zL, zo = .returned zv ∧ Q_own_wi Z a ar bv n gf h0 n0 zv zU'.heap zL ∧ FrameEnd zU zo zU' zL ({ frames := 2, cells := 68, slots := 1013, locals := 77 } : Room).cells ({ frames := 2, cells := 68, slots := 1013, locals := 77 } : Room).slots) := by
  refine own_met (y := (⟨"com/example/orderly_results/orderlyresults/engine/WaveletMatrix", "<init>", "([II)V"⟩ : MethodName)) own_pn5 ?_
  intro p e s m below meth c T0 hx hby hml hown hnm hret hlk hZ e0 X0
  have N0 := Fr.nil n0
  refine own_st (fun zt zk => castTop (ef_own_wi m a ar bv) zk) ?_
  show own_G p e below s _ _ _ (T0.setTop (mkF m 0 #[.val (.ref a), .val (.ref ar), .val (.int bv), .unset, .unset, .unset, .unset, .unset, .unset] []))
  refine own_st (fun zt zk => XS.aloadN X0.here hx rfl (hb hby dd_prog_25m1_0) rfl rfl zk) ?_
  show own_G p e below s _ _ _ (T0.setTop (mkF m 1 #[.val (.ref a), .val (.ref ar), .val (.int bv), .unset, .unset, .unset, .unset, .unset, .unset] [(.ref a)]))
  obtain ⟨T1, X1, e1, st1⟩ := initO X0 hx hZ hown (hw _ (List.mem_of_getElem? (i := 12) rfl)) (hw _ (List.mem_of_getElem? (i := 13) rfl)) (hw _ (List.mem_of_getElem? (i := 14) rfl)) e0 (g := (mkF m 1 #[.val (.ref a), .val (.ref ar), .val (.int bv), .unset, .unset, .unset, .unset, .unset, .unset] [(.ref a)])) rfl (by rw [hml]; rfl) rfl (hb hby dd_prog_25m1_1) (by decide) (W := 0) (by show 2 * 0 + _ ≤ _; exact Nat.le_of_eq rfl) (by decide)
  refine own_st st1 ?_
  show own_G p e below s _ _ _ (T1.setTop (mkF m 4 #[.val (.ref a), .val (.ref ar), .val (.int bv), .unset, .unset, .unset, .unset, .unset, .unset] []))
  refine own_st (fun zt zk => XS.aloadN X1.here hx rfl (hb hby dd_prog_25m1_4) rfl rfl zk) ?_
  show own_G p e below s _ _ _ (T1.setTop (mkF m 5 #[.val (.ref a), .val (.ref ar), .val (.int bv), .unset, .unset, .unset, .unset, .unset, .unset] [(.ref a)]))
  refine own_st (fun zt zk => XS.bipush X1.here hx rfl (hb hby dd_prog_25m1_5) zk) ?_
  show own_G p e below s _ _ _ (T1.setTop (mkF m 7 #[.val (.ref a), .val (.ref ar), .val (.int bv), .unset, .unset, .unset, .unset, .unset, .unset] [(.int (32 : Int32)), (.ref a)]))
  refine own_st (fun zt zk => XS.iloadN X1.here hx rfl (hb hby dd_prog_25m1_7) rfl zk) ?_
  show own_G p e below s _ _ _ (T1.setTop (mkF m 8 #[.val (.ref a), .val (.ref ar), .val (.int bv), .unset, .unset, .unset, .unset, .unset, .unset] [(.int bv), (.int (32 : Int32)), (.ref a)]))
  refine own_st (fun zt zk => XS.iconst X1.here hx rfl (hb hby dd_prog_25m1_8) zk) ?_
  show own_G p e below s _ _ _ (T1.setTop (mkF m 9 #[.val (.ref a), .val (.ref ar), .val (.int bv), .unset, .unset, .unset, .unset, .unset, .unset] [(.int (1 : Int32)), (.int bv), (.int (32 : Int32)), (.ref a)]))
  refine own_st (fun zt zk => XS.isub X1.here hx rfl (hb hby dd_prog_25m1_9) rfl zk) ?_
  show own_G p e below s _ _ _ (T1.setTop (mkF m 10 #[.val (.ref a), .val (.ref ar), .val (.int bv), .unset, .unset, .unset, .unset, .unset, .unset] [(.int (bv - (1 : Int32))), (.int (32 : Int32)), (.ref a)]))
  refine own_st (fun zt zk => XS.iconst X1.here hx rfl (hb hby dd_prog_25m1_10) zk) ?_
  show own_G p e below s _ _ _ (T1.setTop (mkF m 11 #[.val (.ref a), .val (.ref ar), .val (.int bv), .unset, .unset, .unset, .unset, .unset, .unset] [(.int (0 : Int32)), (.int (bv - (1 : Int32))), (.int (32 : Int32)), (.ref a)]))
  obtain ⟨_, T2, L2, X2, hQ2, st2⟩ := own_callS X1 hx hZ (y := (⟨"java/lang/Math", "max", "(II)I"⟩ : MethodName)) (argsL := [(.int (bv - (1 : Int32))), (.int (0 : Int32))]) (rest := [(.int (32 : Int32)), (.ref a)]) 2 hown (hw _ (List.mem_of_getElem? (i := 15) rfl)) (hw _ (List.mem_of_getElem? (i := 2) rfl)) (hw _ (List.mem_of_getElem? (i := 3) rfl)) (hw _ (List.mem_of_getElem? (i := 4) rfl)) (by decide) (own_cmx l Z a0 hw [] (bv - (1 : Int32)) (0 : Int32) h0 n0 Z0 ) (by decide) (by decide) e1 (g := (mkF m 11 #[.val (.ref a), .val (.ref ar), .val (.int bv), .unset, .unset, .unset, .unset, .unset, .unset] [(.int (0 : Int32)), (.int (bv - (1 : Int32))), (.int (32 : Int32)), (.ref a)])) rfl (by rw [hml]; rfl) own_pd1 rfl rfl (by show 2 * 0 + _ ≤ _; exact Nat.le_of_eq rfl) (hb hby dd_prog_25m1_11) (by decide) (by decide)
  obtain ⟨rfl, N2q, e2⟩ := hQ2
  have N2 := Fr.app N0 N2q
  refine own_st st2 ?_
  show own_G p e below s _ _ _ (T2.setTop (mkF m 14 #[.val (.ref a), .val (.ref ar), .val (.int bv), .unset, .unset, .unset, .unset, .unset, .unset] [(.int (own_mx (bv - (1 : Int32)) (0 : Int32))), (.int (32 : Int32)), (.ref a)]))
  obtain ⟨_, T3, L3, X3, hQ3, st3⟩ := own_callS X2 hx hZ (y := (⟨"java/lang/Integer", "numberOfLeadingZeros", "(I)I"⟩ : MethodName)) (argsL := [(.int (own_mx (bv - (1 : Int32)) (0 : Int32)))]) (rest := [(.int (32 : Int32)), (.ref a)]) 2 hown (hw _ (List.mem_of_getElem? (i := 16) rfl)) (hw _ (List.mem_of_getElem? (i := 17) rfl)) (hw _ (List.mem_of_getElem? (i := 18) rfl)) (hw _ (List.mem_of_getElem? (i := 19) rfl)) (by decide) (own_nlz l Z a0 hw [] (own_mx (bv - (1 : Int32)) (0 : Int32)) h0 n0 Z0 (own_mx0 _)) (by decide) (by decide) e2 (g := (mkF m 14 #[.val (.ref a), .val (.ref ar), .val (.int bv), .unset, .unset, .unset, .unset, .unset, .unset] [(.int (own_mx (bv - (1 : Int32)) (0 : Int32))), (.int (32 : Int32)), (.ref a)])) rfl (by rw [hml]; rfl) own_pd2 rfl rfl (by show 2 * 0 + _ ≤ _; exact Nat.le_of_eq rfl) (hb hby dd_prog_25m1_14) (by decide) (by decide)
  obtain ⟨r3, rfl, N3q, e3, q3_0⟩ := hQ3
  have N3 := Fr.app N2 N3q
  refine own_st st3 ?_
  show own_G p e below s _ _ _ (T3.setTop (mkF m 17 #[.val (.ref a), .val (.ref ar), .val (.int bv), .unset, .unset, .unset, .unset, .unset, .unset] [(.int r3), (.int (32 : Int32)), (.ref a)]))
  refine own_st (fun zt zk => XS.isub X3.here hx rfl (hb hby dd_prog_25m1_17) rfl zk) ?_
  show own_G p e below s _ _ _ (T3.setTop (mkF m 18 #[.val (.ref a), .val (.ref ar), .val (.int bv), .unset, .unset, .unset, .unset, .unset, .unset] [(.int ((32 : Int32) - r3)), (.ref a)]))
  obtain ⟨d, hd1, hd, hd3⟩ := q3_0
  have hbd : bv.toInt ≤ (2 ^ d : Nat) := own_bnd p11_ hd3
  rw [own_bits hd1 hd]
  show own_G p e below s _ _ _ (T3.setTop (mkF m 18 #[.val (.ref a), .val (.ref ar), .val (.int bv), .unset, .unset, .unset, .unset, .unset, .unset] [(.int (Int32.ofNat d)), (.ref a)]))
  obtain ⟨T4, h4, X4, e4, W4, st4⟩ := putF X3 hx hZ hown (host := "") (Or.inl (hw _ (List.mem_of_getElem? (i := 21) rfl))) Via.refl e3 p1_ p0_ (Or.inr ⟨(hw _ (List.mem_of_getElem? (i := 22) rfl)), rfl, hnm⟩) (hw _ (List.mem_of_getElem? (i := 7) rfl)) (ty := .int) (by decide) rfl rfl (g := (mkF m 18 #[.val (.ref a), .val (.ref ar), .val (.int bv), .unset, .unset, .unset, .unset, .unset, .unset] [(.int (Int32.ofNat d)), (.ref a)])) rfl rfl (hb hby dd_prog_25m1_18)
  refine own_st st4 ?_
  have N4 := Fr.snoc X4 N3 p8_
  show own_G p e below s _ _ _ (T4.setTop (mkF m 21 #[.val (.ref a), .val (.ref ar), .val (.int bv), .unset, .unset, .unset, .unset, .unset, .unset] []))
  refine own_st (fun zt zk => XS.aloadN X4.here hx rfl (hb hby dd_prog_25m1_21) rfl rfl zk) ?_
  show own_G p e below s _ _ _ (T4.setTop (mkF m 22 #[.val (.ref a), .val (.ref ar), .val (.int bv), .unset, .unset, .unset, .unset, .unset, .unset] [(.ref a)]))
  refine own_st (fun zt zk => XS.aloadN X4.here hx rfl (hb hby dd_prog_25m1_22) rfl rfl zk) ?_
  show own_G p e below s _ _ _ (T4.setTop (mkF m 23 #[.val (.ref a), .val (.ref ar), .val (.int bv), .unset, .unset, .unset, .unset, .unset, .unset] [(.ref ar), (.ref a)]))
  have V5 : own_A Z h4 ar .int n (fun q => .int (gf q)) := (p6_.other W4 (Ne.symm p9_))
  refine own_st (own_arraylength X4 hx hZ e4 V5 (Int32.ofNat n) (own_tO p10_) (g := (mkF m 23 #[.val (.ref a), .val (.ref ar), .val (.int bv), .unset, .unset, .unset, .unset, .unset, .unset] [(.ref ar), (.ref a)])) rfl rfl (hb hby dd_prog_25m1_23)) ?_
  show own_G p e below s _ _ _ (T4.setTop (mkF m 24 #[.val (.ref a), .val (.ref ar), .val (.int bv), .unset, .unset, .unset, .unset, .unset, .unset] [(.int (Int32.ofNat n)), (.ref a)]))
  have F6 : Fld Z h4 a "com/example/orderly_results/orderlyresults/engine/WaveletMatrix" "size" "I" (.int (0 : Int32)) := (Fld.other W4 p2_ (Or.inr (slot_ne (Or.inr (hw _ (List.mem_of_getElem? (i := 24) rfl))) (Or.inr (hw _ (List.mem_of_getElem? (i := 22) rfl))) (by decide) (t := .int) (t' := .int) (by decide) (by decide))))
  have E7 : Exa Z h4 a "com/example/orderly_results/orderlyresults/engine/WaveletMatrix" := (p0_.wr W4)
  obtain ⟨T8, h8, X8, e8, W8, st8⟩ := putF X4 hx hZ hown (host := "") (Or.inl (hw _ (List.mem_of_getElem? (i := 23) rfl))) Via.refl e4 F6 E7 (Or.inr ⟨(hw _ (List.mem_of_getElem? (i := 24) rfl)), rfl, hnm⟩) (hw _ (List.mem_of_getElem? (i := 7) rfl)) (ty := .int) (by decide) rfl rfl (g := (mkF m 24 #[.val (.ref a), .val (.ref ar), .val (.int bv), .unset, .unset, .unset, .unset, .unset, .unset] [(.int (Int32.ofNat n)), (.ref a)])) rfl rfl (hb hby dd_prog_25m1_24)
  refine own_st st8 ?_
  have N8 := Fr.snoc X8 N4 p8_
  show own_G p e below s _ _ _ (T8.setTop (mkF m 27 #[.val (.ref a), .val (.ref ar), .val (.int bv), .unset, .unset, .unset, .unset, .unset, .unset] []))
  refine own_st (fun zt zk => XS.aloadN X8.here hx rfl (hb hby dd_prog_25m1_27) rfl rfl zk) ?_
  show own_G p e below s _ _ _ (T8.setTop (mkF m 28 #[.val (.ref a), .val (.ref ar), .val (.int bv), .unset, .unset, .unset, .unset, .unset, .unset] [(.ref a)]))
  refine own_st (fun zt zk => XS.aloadN X8.here hx rfl (hb hby dd_prog_25m1_28) rfl rfl zk) ?_
  show own_G p e below s _ _ _ (T8.setTop (mkF m 29 #[.val (.ref a), .val (.ref ar), .val (.int bv), .unset, .unset, .unset, .unset, .unset, .unset] [(.ref a), (.ref a)]))
  have F9 : Fld Z h8 a "com/example/orderly_results/orderlyresults/engine/WaveletMatrix" "bits" "I" (.int (Int32.ofNat d)) := (Fld.other W8 (Fld.same W4 p1_) (Or.inr (slot_ne (Or.inr (hw _ (List.mem_of_getElem? (i := 22) rfl))) (Or.inr (hw _ (List.mem_of_getElem? (i := 24) rfl))) (by decide) (t := .int) (t' := .int) (by decide) (by decide))))
  obtain ⟨T10, X10, e10, st10⟩ := getF X8 hx hZ hown (host := "") (Or.inl (hw _ (List.mem_of_getElem? (i := 21) rfl))) Via.refl e8 F9 (g := (mkF m 29 #[.val (.ref a), .val (.ref ar), .val (.int bv), .unset, .unset, .unset, .unset, .unset, .unset] [(.ref a), (.ref a)])) rfl rfl (hb hby dd_prog_25m1_29)
  refine own_st st10 ?_
  show own_G p e below s _ _ _ (T10.setTop (mkF m 32 #[.val (.ref a), .val (.ref ar), .val (.int bv), .unset, .unset, .unset, .unset, .unset, .unset] [(.int (Int32.ofNat d)), (.ref a)]))
  have E12 : Exa Z h8 a "com/example/orderly_results/orderlyresults/engine/WaveletMatrix" := (E7.wr W8)
  have E13 : Exa Z h8 ar "[I" := ((p7_.wr W4).wr W8)
  obtain ⟨T11, h11, X11, e11, E11, V11, D11, st11⟩ := own_newRA X10 hx hZ hown (ty := .long) (C := "[J") (by decide +kernel) (hw _ (List.mem_of_getElem? (i := 25) rfl)) (hw _ (List.mem_of_getElem? (i := 26) rfl)) e10 (g := (mkF m 32 #[.val (.ref a), .val (.ref ar), .val (.int bv), .unset, .unset, .unset, .unset, .unset, .unset] [(.int (Int32.ofNat d)), (.ref a)])) rfl (hb hby dd_prog_25m1_32) rfl (n := d) (own_tO (own_l31 hd)) (cap := 31) hd (by decide) (by decide) (by decide) (ad := "[[J") (by decide +kernel)
  obtain ⟨b11, g11⟩ : ∃ z, z = h8.size := ⟨_, rfl⟩
  rw [← g11] at V11 D11 st11
  have ne11_a : a ≠ b11 := by rw [g11]; exact Nat.ne_of_lt E12.lt
  have ne11_ar : ar ≠ b11 := by rw [g11]; exact Nat.ne_of_lt E13.lt
  have ge11 : n0 ≤ b11 := Nat.le_trans (Nat.le_trans (Nat.le_trans Z0 (Nat.le_of_eq W4.size.symm)) (Nat.le_of_eq W8.size.symm)) (Nat.le_of_eq g11.symm)
  have sz11 : h0.size ≤ b11 := Nat.le_trans (Nat.le_trans (Nat.le_trans (Nat.le_refl h0.size) (Nat.le_of_eq W4.size.symm)) (Nat.le_of_eq W8.size.symm)) (Nat.le_of_eq g11.symm)
  refine own_st st11 ?_
  show own_G p e below s _ _ _ (T11.setTop (mkF m 35 #[.val (.ref a), .val (.ref ar), .val (.int bv), .unset, .unset, .unset, .unset, .unset, .unset] [(.ref b11), (.ref a)]))
  have F14 : Fld Z h11 a "com/example/orderly_results/orderlyresults/engine/WaveletMatrix" "vectors" "[[J" .null := ((Fld.other W8 (Fld.other W4 p3_ (Or.inr (slot_ne (Or.inr (hw _ (List.mem_of_getElem? (i := 28) rfl))) (Or.inr (hw _ (List.mem_of_getElem? (i := 22) rfl))) (by decide) (t := (.array (.array .long))) (t' := .int) (by decide) (by decide)))) (Or.inr (slot_ne (Or.inr (hw _ (List.mem_of_getElem? (i := 28) rfl))) (Or.inr (hw _ (List.mem_of_getElem? (i := 24) rfl))) (by decide) (t := (.array (.array .long))) (t' := .int) (by decide) (by decide)))).ext E11)
  have E15 : Exa Z h11 a "com/example/orderly_results/orderlyresults/engine/WaveletMatrix" := (E12.ext E11)
  obtain ⟨T16, h16, X16, e16, W16, st16⟩ := putF X11 hx hZ hown (host := "") (Or.inl (hw _ (List.mem_of_getElem? (i := 27) rfl))) Via.refl e11 F14 E15 (Or.inr ⟨(hw _ (List.mem_of_getElem? (i := 28) rfl)), rfl, hnm⟩) (hw _ (List.mem_of_getElem? (i := 7) rfl)) (ty := (.array (.array .long))) (by decide) rfl rfl (g := (mkF m 35 #[.val (.ref a), .val (.ref ar), .val (.int bv), .unset, .unset, .unset, .unset, .unset, .unset] [(.ref b11), (.ref a)])) rfl rfl (hb hby dd_prog_25m1_35)
  refine own_st st16 ?_
  have N16 := Fr.snoc X16 N8 p8_
  show own_G p e below s _ _ _ (T16.setTop (mkF m 38 #[.val (.ref a), .val (.ref ar), .val (.int bv), .unset, .unset, .unset, .unset, .unset, .unset] []))
  refine own_st (fun zt zk => XS.aloadN X16.here hx rfl (hb hby dd_prog_25m1_38) rfl rfl zk) ?_
  show own_G p e below s _ _ _ (T16.setTop (mkF m 39 #[.val (.ref a), .val (.ref ar), .val (.int bv), .unset, .unset, .unset, .unset, .unset, .unset] [(.ref a)]))
  refine own_st (fun zt zk => XS.aloadN X16.here hx rfl (hb hby dd_prog_25m1_39) rfl rfl zk) ?_
  show own_G p e below s _ _ _ (T16.setTop (mkF m 40 #[.val (.ref a), .val (.ref ar), .val (.int bv), .unset, .unset, .unset, .unset, .unset, .unset] [(.ref a), (.ref a)]))
  have F17 : Fld Z h16 a "com/example/orderly_results/orderlyresults/engine/WaveletMatrix" "bits" "I" (.int (Int32.ofNat d)) := (Fld.other W16 (F9.ext E11) (Or.inr (slot_ne (Or.inr (hw _ (List.mem_of_getElem? (i := 22) rfl))) (Or.inr (hw _ (List.mem_of_getElem? (i := 28) rfl))) (by decide) (t := .int) (t' := (.array (.array .long))) (by decide) (by decide))))
  obtain ⟨T18, X18, e18, st18⟩ := getF X16 hx hZ hown (host := "") (Or.inl (hw _ (List.mem_of_getElem? (i := 21) rfl))) Via.refl e16 F17 (g := (mkF m 40 #[.val (.ref a), .val (.ref ar), .val (.int bv), .unset, .unset, .unset, .unset, .unset, .unset] [(.ref a), (.ref a)])) rfl rfl (hb hby dd_prog_25m1_40)
  refine own_st st18 ?_
  show own_G p e below s _ _ _ (T18.setTop (mkF m 43 #[.val (.ref a), .val (.ref ar), .val (.int bv), .unset, .unset, .unset, .unset, .unset, .unset] [(.int (Int32.ofNat d)), (.ref a)]))
  have E20 : Exa Z h16 a "com/example/orderly_results/orderlyresults/engine/WaveletMatrix" := (E15.wr W16)
  have E21 : Exa Z h16 ar "[I" := ((E13.ext E11).wr W16)
  have V22 : own_RA Z h16 b11 .long "[J" d (fun _ => Value.null) := (V11.other W16 (Ne.symm ne11_a))
  obtain ⟨T19, h19, X19, e19, E19, V19, D19, st19⟩ := own_newRA X18 hx hZ hown (ty := .int) (C := "[I") (by decide +kernel) (hw _ (List.mem_of_getElem? (i := 29) rfl)) (hw _ (List.mem_of_getElem? (i := 30) rfl)) e18 (g := (mkF m 43 #[.val (.ref a), .val (.ref ar), .val (.int bv), .unset, .unset, .unset, .unset, .unset, .unset] [(.int (Int32.ofNat d)), (.ref a)])) rfl (hb hby dd_prog_25m1_43) rfl (n := d) (own_tO (own_l31 hd)) (cap := 31) hd (by decide) (by decide) (by decide) (ad := "[[I") (by decide +kernel)
  obtain ⟨b19, g19⟩ : ∃ z, z = h16.size := ⟨_, rfl⟩
  rw [← g19] at V19 D19 st19
  have ne19_a : a ≠ b19 := by rw [g19]; exact Nat.ne_of_lt E20.lt
  have ne19_ar : ar ≠ b19 := by rw [g19]; exact Nat.ne_of_lt E21.lt
  have ne19_b11 : b11 ≠ b19 := by rw [g19]; exact Nat.ne_of_lt V22.lt
  have ge19 : n0 ≤ b19 := Nat.le_trans (Nat.le_trans (Nat.le_trans (Nat.le_trans (Nat.le_trans Z0 (Nat.le_of_eq W4.size.symm)) (Nat.le_of_eq W8.size.symm)) E11.1) (Nat.le_of_eq W16.size.symm)) (Nat.le_of_eq g19.symm)
  have sz19 : h0.size ≤ b19 := Nat.le_trans (Nat.le_trans (Nat.le_trans (Nat.le_trans (Nat.le_trans (Nat.le_refl h0.size) (Nat.le_of_eq W4.size.symm)) (Nat.le_of_eq W8.size.symm)) E11.1) (Nat.le_of_eq W16.size.symm)) (Nat.le_of_eq g19.symm)
  refine own_st st19 ?_
  show own_G p e below s _ _ _ (T19.setTop (mkF m 46 #[.val (.ref a), .val (.ref ar), .val (.int bv), .unset, .unset, .unset, .unset, .unset, .unset] [(.ref b19), (.ref a)]))
  have F23 : Fld Z h19 a "com/example/orderly_results/orderlyresults/engine/WaveletMatrix" "counts" "[[I" .null := ((Fld.other W16 ((Fld.other W8 (Fld.other W4 p4_ (Or.inr (slot_ne (Or.inr (hw _ (List.mem_of_getElem? (i := 32) rfl))) (Or.inr (hw _ (List.mem_of_getElem? (i := 22) rfl))) (by decide) (t := (.array (.array .int))) (t' := .int) (by decide) (by decide)))) (Or.inr (slot_ne (Or.inr (hw _ (List.mem_of_getElem? (i := 32) rfl))) (Or.inr (hw _ (List.mem_of_getElem? (i := 24) rfl))) (by decide) (t := (.array (.array .int))) (t' := .int) (by decide) (by decide)))).ext E11) (Or.inr (slot_ne (Or.inr (hw _ (List.mem_of_getElem? (i := 32) rfl))) (Or.inr (hw _ (List.mem_of_getElem? (i := 28) rfl))) (by decide) (t := (.array (.array .int))) (t' := (.array (.array .long))) (by decide) (by decide)))).ext E19)
  have E24 : Exa Z h19 a "com/example/orderly_results/orderlyresults/engine/WaveletMatrix" := (E20.ext E19)
  obtain ⟨T25, h25, X25, e25, W25, st25⟩ := putF X19 hx hZ hown (host := "") (Or.inl (hw _ (List.mem_of_getElem? (i := 31) rfl))) Via.refl e19 F23 E24 (Or.inr ⟨(hw _ (List.mem_of_getElem? (i := 32) rfl)), rfl, hnm⟩) (hw _ (List.mem_of_getElem? (i := 7) rfl)) (ty := (.array (.array .int))) (by decide) rfl rfl (g := (mkF m 46 #[.val (.ref a), .val (.ref ar), .val (.int bv), .unset, .unset, .unset, .unset, .unset, .unset] [(.ref b19), (.ref a)])) rfl rfl (hb hby dd_prog_25m1_46)
  refine own_st st25 ?_
  have N25 := Fr.snoc X25 N16 p8_
  show own_G p e below s _ _ _ (T25.setTop (mkF m 49 #[.val (.ref a), .val (.ref ar), .val (.int bv), .unset, .unset, .unset, .unset, .unset, .unset] []))
  refine own_st (fun zt zk => XS.aloadN X25.here hx rfl (hb hby dd_prog_25m1_49) rfl rfl zk) ?_
  show own_G p e below s _ _ _ (T25.setTop (mkF m 50 #[.val (.ref a), .val (.ref ar), .val (.int bv), .unset, .unset, .unset, .unset, .unset, .unset] [(.ref a)]))
  refine own_st (fun zt zk => XS.aloadN X25.here hx rfl (hb hby dd_prog_25m1_50) rfl rfl zk) ?_
  show own_G p e below s _ _ _ (T25.setTop (mkF m 51 #[.val (.ref a), .val (.ref ar), .val (.int bv), .unset, .unset, .unset, .unset, .unset, .unset] [(.ref a), (.ref a)]))
  have F26 : Fld Z h25 a "com/example/orderly_results/orderlyresults/engine/WaveletMatrix" "bits" "I" (.int (Int32.ofNat d)) := (Fld.other W25 (F17.ext E19) (Or.inr (slot_ne (Or.inr (hw _ (List.mem_of_getElem? (i := 22) rfl))) (Or.inr (hw _ (List.mem_of_getElem? (i := 32) rfl))) (by decide) (t := .int) (t' := (.array (.array .int))) (by decide) (by decide))))
  obtain ⟨T27, X27, e27, st27⟩ := getF X25 hx hZ hown (host := "") (Or.inl (hw _ (List.mem_of_getElem? (i := 21) rfl))) Via.refl e25 F26 (g := (mkF m 51 #[.val (.ref a), .val (.ref ar), .val (.int bv), .unset, .unset, .unset, .unset, .unset, .unset] [(.ref a), (.ref a)])) rfl rfl (hb hby dd_prog_25m1_51)
  refine own_st st27 ?_
  show own_G p e below s _ _ _ (T27.setTop (mkF m 54 #[.val (.ref a), .val (.ref ar), .val (.int bv), .unset, .unset, .unset, .unset, .unset, .unset] [(.int (Int32.ofNat d)), (.ref a)]))
  have E29 : Exa Z h25 a "com/example/orderly_results/orderlyresults/engine/WaveletMatrix" := (E24.wr W25)
  have E30 : Exa Z h25 ar "[I" := ((E21.ext E19).wr W25)
  have V31 : own_RA Z h25 b11 .long "[J" d (fun _ => Value.null) := ((V22.ext E19).other W25 (Ne.symm ne11_a))
  have V32 : own_RA Z h25 b19 .int "[I" d (fun _ => Value.null) := (V19.other W25 (Ne.symm ne19_a))
  obtain ⟨T28, h28, X28, e28, E28, V28, st28⟩ := own_newP X27 hx hZ (aty := .int) (hw _ (List.mem_of_getElem? (i := 5) rfl)) e27 (g := (mkF m 54 #[.val (.ref a), .val (.ref ar), .val (.int bv), .unset, .unset, .unset, .unset, .unset, .unset] [(.int (Int32.ofNat d)), (.ref a)])) rfl (hb hby dd_prog_25m1_54) rfl (n := d) (own_tO (own_l31 hd)) (cap := 31) hd (by decide) (by decide) (by decide)
  obtain ⟨b28, g28⟩ : ∃ z, z = h25.size := ⟨_, rfl⟩
  rw [← g28] at V28 st28
  have ne28_a : a ≠ b28 := by rw [g28]; exact Nat.ne_of_lt E29.lt
  have ne28_ar : ar ≠ b28 := by rw [g28]; exact Nat.ne_of_lt E30.lt
  have ne28_b11 : b11 ≠ b28 := by rw [g28]; exact Nat.ne_of_lt V31.lt
  have ne28_b19 : b19 ≠ b28 := by rw [g28]; exact Nat.ne_of_lt V32.lt
  have ge28 : n0 ≤ b28 := Nat.le_trans (Nat.le_trans (Nat.le_trans (Nat.le_trans (Nat.le_trans (Nat.le_trans (Nat.le_trans Z0 (Nat.le_of_eq W4.size.symm)) (Nat.le_of_eq W8.size.symm)) E11.1) (Nat.le_of_eq W16.size.symm)) E19.1) (Nat.le_of_eq W25.size.symm)) (Nat.le_of_eq g28.symm)
  have sz28 : h0.size ≤ b28 := Nat.le_trans (Nat.le_trans (Nat.le_trans (Nat.le_trans (Nat.le_trans (Nat.le_trans (Nat.le_trans (Nat.le_refl h0.size) (Nat.le_of_eq W4.size.symm)) (Nat.le_of_eq W8.size.symm)) E11.1) (Nat.le_of_eq W16.size.symm)) E19.1) (Nat.le_of_eq W25.size.symm)) (Nat.le_of_eq g28.symm)
  have V28a : own_A Z h28 b28 .int d (fun q => .int ((fun _ => (0 : Int32)) q)) := V28
  refine own_st st28 ?_
  show own_G p e below s _ _ _ (T28.setTop (mkF m 56 #[.val (.ref a), .val (.ref ar), .val (.int bv), .unset, .unset, .unset, .unset, .unset, .unset] [(.ref b28), (.ref a)]))
  have F33 : Fld Z h28 a "com/example/orderly_results/orderlyresults/engine/WaveletMatrix" "clear" "[I" .null := ((Fld.other W25 ((Fld.other W16 ((Fld.other W8 (Fld.other W4 p5_ (Or.inr (slot_ne (Or.inr (hw _ (List.mem_of_getElem? (i := 34) rfl))) (Or.inr (hw _ (List.mem_of_getElem? (i := 22) rfl))) (by decide) (t := (.array .int)) (t' := .int) (by decide) (by decide)))) (Or.inr (slot_ne (Or.inr (hw _ (List.mem_of_getElem? (i := 34) rfl))) (Or.inr (hw _ (List.mem_of_getElem? (i := 24) rfl))) (by decide) (t := (.array .int)) (t' := .int) (by decide) (by decide)))).ext E11) (Or.inr (slot_ne (Or.inr (hw _ (List.mem_of_getElem? (i := 34) rfl))) (Or.inr (hw _ (List.mem_of_getElem? (i := 28) rfl))) (by decide) (t := (.array .int)) (t' := (.array (.array .long))) (by decide) (by decide)))).ext E19) (Or.inr (slot_ne (Or.inr (hw _ (List.mem_of_getElem? (i := 34) rfl))) (Or.inr (hw _ (List.mem_of_getElem? (i := 32) rfl))) (by decide) (t := (.array .int)) (t' := (.array (.array .int))) (by decide) (by decide)))).ext E28)
  have E34 : Exa Z h28 a "com/example/orderly_results/orderlyresults/engine/WaveletMatrix" := (E29.ext E28)
  obtain ⟨T35, h35, X35, e35, W35, st35⟩ := putF X28 hx hZ hown (host := "") (Or.inl (hw _ (List.mem_of_getElem? (i := 33) rfl))) Via.refl e28 F33 E34 (Or.inr ⟨(hw _ (List.mem_of_getElem? (i := 34) rfl)), rfl, hnm⟩) (hw _ (List.mem_of_getElem? (i := 7) rfl)) (ty := (.array .int)) (by decide) rfl rfl (g := (mkF m 56 #[.val (.ref a), .val (.ref ar), .val (.int bv), .unset, .unset, .unset, .unset, .unset, .unset] [(.ref b28), (.ref a)])) rfl rfl (hb hby dd_prog_25m1_56)
  refine own_st st35 ?_
  have N35 := Fr.snoc X35 N25 p8_
  show own_G p e below s _ _ _ (T35.setTop (mkF m 59 #[.val (.ref a), .val (.ref ar), .val (.int bv), .unset, .unset, .unset, .unset, .unset, .unset] []))
  refine own_st (fun zt zk => XS.aloadN X35.here hx rfl (hb hby dd_prog_25m1_59) rfl rfl zk) ?_
  show own_G p e below s _ _ _ (T35.setTop (mkF m 60 #[.val (.ref a), .val (.ref ar), .val (.int bv), .unset, .unset, .unset, .unset, .unset, .unset] [(.ref ar)]))
  have V36 : own_A Z h35 ar .int n (fun q => .int (gf q)) := (((((((V5.other W8 (Ne.symm p9_)).ext E11).other W16 (Ne.symm p9_)).ext E19).other W25 (Ne.symm p9_)).ext E28).other W35 (Ne.symm p9_))
  have E37 : Exa Z h35 ar "[I" := ((E30.ext E28).wr W35)
  have E39 : Exa Z h35 a "com/example/orderly_results/orderlyresults/engine/WaveletMatrix" := (E34.wr W35)
  have V40 : own_RA Z h35 b11 .long "[J" d (fun _ => Value.null) := ((V31.ext E28).other W35 (Ne.symm ne11_a))
  have V41 : own_RA Z h35 b19 .int "[I" d (fun _ => Value.null) := ((V32.ext E28).other W35 (Ne.symm ne19_a))
  have V42 : own_A Z h35 b28 .int d (fun q => .int ((fun _ => (0 : Int32)) q)) := (V28a.other W35 (Ne.symm ne28_a))
  obtain ⟨T38, h38, X38, e38, E38, V38, D38, st38⟩ := own_clone X35 hx hZ hown (hw _ (List.mem_of_getElem? (i := 35) rfl)) (hw _ (List.mem_of_getElem? (i := 36) rfl)) (hw _ (List.mem_of_getElem? (i := 40) rfl)) (hw _ (List.mem_of_getElem? (i := 38) rfl)) (hw _ (List.mem_of_getElem? (i := 39) rfl)) (hw _ (List.mem_of_getElem? (i := 41) rfl)) e35 V36 E37 (g := (mkF m 60 #[.val (.ref a), .val (.ref ar), .val (.int bv), .unset, .unset, .unset, .unset, .unset, .unset] [(.ref ar)])) rfl (by rw [hml]; rfl) rfl (hb hby dd_prog_25m1_60) (by decide) (W := 0) (by show 2 * 0 + _ ≤ _; exact Nat.le_of_eq rfl) (by decide) (cap := 255) p10_ (by decide) (by decide)
  obtain ⟨b38, g38⟩ : ∃ z, z = h35.size := ⟨_, rfl⟩
  rw [← g38] at V38 D38 st38
  have ne38_a : a ≠ b38 := by rw [g38]; exact Nat.ne_of_lt E39.lt
  have ne38_ar : ar ≠ b38 := by rw [g38]; exact Nat.ne_of_lt E37.lt
  have ne38_b11 : b11 ≠ b38 := by rw [g38]; exact Nat.ne_of_lt V40.lt
  have ne38_b19 : b19 ≠ b38 := by rw [g38]; exact Nat.ne_of_lt V41.lt
  have ne38_b28 : b28 ≠ b38 := by rw [g38]; exact Nat.ne_of_lt V42.lt
  have ge38 : n0 ≤ b38 := Nat.le_trans (Nat.le_trans (Nat.le_trans (Nat.le_trans (Nat.le_trans (Nat.le_trans (Nat.le_trans (Nat.le_trans (Nat.le_trans Z0 (Nat.le_of_eq W4.size.symm)) (Nat.le_of_eq W8.size.symm)) E11.1) (Nat.le_of_eq W16.size.symm)) E19.1) (Nat.le_of_eq W25.size.symm)) E28.1) (Nat.le_of_eq W35.size.symm)) (Nat.le_of_eq g38.symm)
  have sz38 : h0.size ≤ b38 := Nat.le_trans (Nat.le_trans (Nat.le_trans (Nat.le_trans (Nat.le_trans (Nat.le_trans (Nat.le_trans (Nat.le_trans (Nat.le_trans (Nat.le_refl h0.size) (Nat.le_of_eq W4.size.symm)) (Nat.le_of_eq W8.size.symm)) E11.1) (Nat.le_of_eq W16.size.symm)) E19.1) (Nat.le_of_eq W25.size.symm)) E28.1) (Nat.le_of_eq W35.size.symm)) (Nat.le_of_eq g38.symm)
  refine own_st st38 ?_
  show own_G p e below s _ _ _ (T38.setTop (mkF m 63 #[.val (.ref a), .val (.ref ar), .val (.int bv), .unset, .unset, .unset, .unset, .unset, .unset] [(.ref b38)]))
  obtain ⟨T43, X43, e43, st43⟩ := castY X38 hx hZ hown (hw _ (List.mem_of_getElem? (i := 29) rfl)) e38 (Ins.self D38) (g := (mkF m 63 #[.val (.ref a), .val (.ref ar), .val (.int bv), .unset, .unset, .unset, .unset, .unset, .unset] [(.ref b38)])) rfl rfl (hb hby dd_prog_25m1_63)
  refine own_st st43 ?_
  show own_G p e below s _ _ _ (T43.setTop (mkF m 66 #[.val (.ref a), .val (.ref ar), .val (.int bv), .unset, .unset, .unset, .unset, .unset, .unset] [(.ref b38)]))
  refine own_st (fun zt zk => XS.astoreN X43.here hx rfl (hb hby dd_prog_25m1_66) rfl rfl (l' := #[.val (.ref a), .val (.ref ar), .val (.int bv), .val (.ref b38), .unset, .unset, .unset, .unset, .unset]) rfl zk) ?_
  show own_G p e below s _ _ _ (T43.setTop (mkF m 67 #[.val (.ref a), .val (.ref ar), .val (.int bv), .val (.ref b38), .unset, .unset, .unset, .unset, .unset] []))
  refine own_st (fun zt zk => XS.aloadN X43.here hx rfl (hb hby dd_prog_25m1_67) rfl rfl zk) ?_
  show own_G p e below s _ _ _ (T43.setTop (mkF m 68 #[.val (.ref a), .val (.ref ar), .val (.int bv), .val (.ref b38), .unset, .unset, .unset, .unset, .unset] [(.ref a)]))
  have F44 : Fld Z h38 a "com/example/orderly_results/orderlyresults/engine/WaveletMatrix" "size" "I" (.int (Int32.ofNat n)) := ((Fld.other W35 ((Fld.other W25 ((Fld.other W16 ((Fld.same W8 F6).ext E11) (Or.inr (slot_ne (Or.inr (hw _ (List.mem_of_getElem? (i := 24) rfl))) (Or.inr (hw _ (List.mem_of_getElem? (i := 28) rfl))) (by decide) (t := .int) (t' := (.array (.array .long))) (by decide) (by decide)))).ext E19) (Or.inr (slot_ne (Or.inr (hw _ (List.mem_of_getElem? (i := 24) rfl))) (Or.inr (hw _ (List.mem_of_getElem? (i := 32) rfl))) (by decide) (t := .int) (t' := (.array (.array .int))) (by decide) (by decide)))).ext E28) (Or.inr (slot_ne (Or.inr (hw _ (List.mem_of_getElem? (i := 24) rfl))) (Or.inr (hw _ (List.mem_of_getElem? (i := 34) rfl))) (by decide) (t := .int) (t' := (.array .int)) (by decide) (by decide)))).ext E38)
  obtain ⟨T45, X45, e45, st45⟩ := getF X43 hx hZ hown (host := "") (Or.inl (hw _ (List.mem_of_getElem? (i := 23) rfl))) Via.refl e43 F44 (g := (mkF m 68 #[.val (.ref a), .val (.ref ar), .val (.int bv), .val (.ref b38), .unset, .unset, .unset, .unset, .unset] [(.ref a)])) rfl rfl (hb hby dd_prog_25m1_68)
  refine own_st st45 ?_
  show own_G p e below s _ _ _ (T45.setTop (mkF m 71 #[.val (.ref a), .val (.ref ar), .val (.int bv), .val (.ref b38), .unset, .unset, .unset, .unset, .unset] [(.int (Int32.ofNat n))]))
  have E47 : Exa Z h38 a "com/example/orderly_results/orderlyresults/engine/WaveletMatrix" := (E39.ext E38)
  have E48 : Exa Z h38 ar "[I" := (E37.ext E38)
  have V49 : own_RA Z h38 b11 .long "[J" d (fun _ => Value.null) := (V40.ext E38)
  have V50 : own_RA Z h38 b19 .int "[I" d (fun _ => Value.null) := (V41.ext E38)
  have V51 : own_A Z h38 b28 .int d (fun q => .int ((fun _ => (0 : Int32)) q)) := (V42.ext E38)
  obtain ⟨T46, h46, X46, e46, E46, V46, st46⟩ := own_newP X45 hx hZ (aty := .int) (hw _ (List.mem_of_getElem? (i := 5) rfl)) e45 (g := (mkF m 71 #[.val (.ref a), .val (.ref ar), .val (.int bv), .val (.ref b38), .unset, .unset, .unset, .unset, .unset] [(.int (Int32.ofNat n))])) rfl (hb hby dd_prog_25m1_71) rfl (n := n) (own_tO p10_) (cap := 255) p10_ (by decide) (by decide) (by decide)
  obtain ⟨b46, g46⟩ : ∃ z, z = h38.size := ⟨_, rfl⟩
  rw [← g46] at V46 st46
  have ne46_a : a ≠ b46 := by rw [g46]; exact Nat.ne_of_lt E47.lt
  have ne46_ar : ar ≠ b46 := by rw [g46]; exact Nat.ne_of_lt E48.lt
  have ne46_b38 : b38 ≠ b46 := by rw [g46]; exact Nat.ne_of_lt D38.lt
  have ne46_b11 : b11 ≠ b46 := by rw [g46]; exact Nat.ne_of_lt V49.lt
  have ne46_b19 : b19 ≠ b46 := by rw [g46]; exact Nat.ne_of_lt V50.lt
  have ne46_b28 : b28 ≠ b46 := by rw [g46]; exact Nat.ne_of_lt V51.lt
  have ge46 : n0 ≤ b46 := Nat.le_trans (Nat.le_trans (Nat.le_trans (Nat.le_trans (Nat.le_trans (Nat.le_trans (Nat.le_trans (Nat.le_trans (Nat.le_trans (Nat.le_trans Z0 (Nat.le_of_eq W4.size.symm)) (Nat.le_of_eq W8.size.symm)) E11.1) (Nat.le_of_eq W16.size.symm)) E19.1) (Nat.le_of_eq W25.size.symm)) E28.1) (Nat.le_of_eq W35.size.symm)) E38.1) (Nat.le_of_eq g46.symm)
  have sz46 : h0.size ≤ b46 := Nat.le_trans (Nat.le_trans (Nat.le_trans (Nat.le_trans (Nat.le_trans (Nat.le_trans (Nat.le_trans (Nat.le_trans (Nat.le_trans (Nat.le_trans (Nat.le_refl h0.size) (Nat.le_of_eq W4.size.symm)) (Nat.le_of_eq W8.size.symm)) E11.1) (Nat.le_of_eq W16.size.symm)) E19.1) (Nat.le_of_eq W25.size.symm)) E28.1) (Nat.le_of_eq W35.size.symm)) E38.1) (Nat.le_of_eq g46.symm)
  have V46a : own_A Z h46 b46 .int n (fun q => .int ((fun _ => (0 : Int32)) q)) := V46
  refine own_st st46 ?_
  show own_G p e below s _ _ _ (T46.setTop (mkF m 73 #[.val (.ref a), .val (.ref ar), .val (.int bv), .val (.ref b38), .unset, .unset, .unset, .unset, .unset] [(.ref b46)]))
  refine own_st (fun zt zk => XS.astore X46.here hx rfl (hb hby dd_prog_25m1_73) rfl rfl (l' := #[.val (.ref a), .val (.ref ar), .val (.int bv), .val (.ref b38), .val (.ref b46), .unset, .unset, .unset, .unset]) rfl zk) ?_
  show own_G p e below s _ _ _ (T46.setTop (mkF m 75 #[.val (.ref a), .val (.ref ar), .val (.int bv), .val (.ref b38), .val (.ref b46), .unset, .unset, .unset, .unset] []))
  refine own_st (fun zt zk => XS.aloadN X46.here hx rfl (hb hby dd_prog_25m1_75) rfl rfl zk) ?_
  show own_G p e below s _ _ _ (T46.setTop (mkF m 76 #[.val (.ref a), .val (.ref ar), .val (.int bv), .val (.ref b38), .val (.ref b46), .unset, .unset, .unset, .unset] [(.ref a)]))
  have F52 : Fld Z h46 a "com/example/orderly_results/orderlyresults/engine/WaveletMatrix" "size" "I" (.int (Int32.ofNat n)) := (F44.ext E46)
  obtain ⟨T53, X53, e53, st53⟩ := getF X46 hx hZ hown (host := "") (Or.inl (hw _ (List.mem_of_getElem? (i := 23) rfl))) Via.refl e46 F52 (g := (mkF m 76 #[.val (.ref a), .val (.ref ar), .val (.int bv), .val (.ref b38), .val (.ref b46), .unset, .unset, .unset, .unset] [(.ref a)])) rfl rfl (hb hby dd_prog_25m1_76)
  refine own_st st53 ?_
  show own_G p e below s _ _ _ (T53.setTop (mkF m 79 #[.val (.ref a), .val (.ref ar), .val (.int bv), .val (.ref b38), .val (.ref b46), .unset, .unset, .unset, .unset] [(.int (Int32.ofNat n))]))
  have E55 : Exa Z h46 a "com/example/orderly_results/orderlyresults/engine/WaveletMatrix" := (E47.ext E46)
  have E56 : Exa Z h46 ar "[I" := (E48.ext E46)
  have E57 : Exa Z h46 b38 "[I" := (D38.ext E46)
  have V58 : own_RA Z h46 b11 .long "[J" d (fun _ => Value.null) := (V49.ext E46)
  have V59 : own_RA Z h46 b19 .int "[I" d (fun _ => Value.null) := (V50.ext E46)
  have V60 : own_A Z h46 b28 .int d (fun q => .int ((fun _ => (0 : Int32)) q)) := (V51.ext E46)
  obtain ⟨T54, h54, X54, e54, E54, V54, st54⟩ := own_newP X53 hx hZ (aty := .int) (hw _ (List.mem_of_getElem? (i := 5) rfl)) e53 (g := (mkF m 79 #[.val (.ref a), .val (.ref ar), .val (.int bv), .val (.ref b38), .val (.ref b46), .unset, .unset, .unset, .unset] [(.int (Int32.ofNat n))])) rfl (hb hby dd_prog_25m1_79) rfl (n := n) (own_tO p10_) (cap := 255) p10_ (by decide) (by decide) (by decide)
  obtain ⟨b54, g54⟩ : ∃ z, z = h46.size := ⟨_, rfl⟩
  rw [← g54] at V54 st54
  have ne54_a : a ≠ b54 := by rw [g54]; exact Nat.ne_of_lt E55.lt
  have ne54_ar : ar ≠ b54 := by rw [g54]; exact Nat.ne_of_lt E56.lt
  have ne54_b38 : b38 ≠ b54 := by rw [g54]; exact Nat.ne_of_lt E57.lt
  have ne54_b11 : b11 ≠ b54 := by rw [g54]; exact Nat.ne_of_lt V58.lt
  have ne54_b19 : b19 ≠ b54 := by rw [g54]; exact Nat.ne_of_lt V59.lt
  have ne54_b28 : b28 ≠ b54 := by rw [g54]; exact Nat.ne_of_lt V60.lt
  have ne54_b46 : b46 ≠ b54 := by rw [g54]; exact Nat.ne_of_lt V46a.lt
  have ge54 : n0 ≤ b54 := Nat.le_trans (Nat.le_trans (Nat.le_trans (Nat.le_trans (Nat.le_trans (Nat.le_trans (Nat.le_trans (Nat.le_trans (Nat.le_trans (Nat.le_trans (Nat.le_trans Z0 (Nat.le_of_eq W4.size.symm)) (Nat.le_of_eq W8.size.symm)) E11.1) (Nat.le_of_eq W16.size.symm)) E19.1) (Nat.le_of_eq W25.size.symm)) E28.1) (Nat.le_of_eq W35.size.symm)) E38.1) E46.1) (Nat.le_of_eq g54.symm)
  have sz54 : h0.size ≤ b54 := Nat.le_trans (Nat.le_trans (Nat.le_trans (Nat.le_trans (Nat.le_trans (Nat.le_trans (Nat.le_trans (Nat.le_trans (Nat.le_trans (Nat.le_trans (Nat.le_trans (Nat.le_refl h0.size) (Nat.le_of_eq W4.size.symm)) (Nat.le_of_eq W8.size.symm)) E11.1) (Nat.le_of_eq W16.size.symm)) E19.1) (Nat.le_of_eq W25.size.symm)) E28.1) (Nat.le_of_eq W35.size.symm)) E38.1) E46.1) (Nat.le_of_eq g54.symm)
  have V54a : own_A Z h54 b54 .int n (fun q => .int ((fun _ => (0 : Int32)) q)) := V54
  refine own_st st54 ?_
  show own_G p e below s _ _ _ (T54.setTop (mkF m 81 #[.val (.ref a), .val (.ref ar), .val (.int bv), .val (.ref b38), .val (.ref b46), .unset, .unset, .unset, .unset] [(.ref b54)]))
  refine own_st (fun zt zk => XS.astore X54.here hx rfl (hb hby dd_prog_25m1_81) rfl rfl (l' := #[.val (.ref a), .val (.ref ar), .val (.int bv), .val (.ref b38), .val (.ref b46), .val (.ref b54), .unset, .unset, .unset]) rfl zk) ?_
  show own_G p e below s _ _ _ (T54.setTop (mkF m 83 #[.val (.ref a), .val (.ref ar), .val (.int bv), .val (.ref b38), .val (.ref b46), .val (.ref b54), .unset, .unset, .unset] []))
  refine own_st (fun zt zk => XS.iconst X54.here hx rfl (hb hby dd_prog_25m1_83) zk) ?_
  show own_G p e below s _ _ _ (T54.setTop (mkF m 84 #[.val (.ref a), .val (.ref ar), .val (.int bv), .val (.ref b38), .val (.ref b46), .val (.ref b54), .unset, .unset, .unset] [(.int (0 : Int32))]))
  refine own_st (fun zt zk => XS.istore X54.here hx rfl (hb hby dd_prog_25m1_84) rfl (l' := #[.val (.ref a), .val (.ref ar), .val (.int bv), .val (.ref b38), .val (.ref b46), .val (.ref b54), .val (.int (0 : Int32)), .unset, .unset]) rfl zk) ?_
  show own_G p e below s _ _ _ (T54.setTop (mkF m 86 #[.val (.ref a), .val (.ref ar), .val (.int bv), .val (.ref b38), .val (.ref b46), .val (.ref b54), .val (.int (0 : Int32)), .unset, .unset] []))
  have V61 : own_RA Z h54 b11 .long "[J" d (fun _ => Value.null) := (V58.ext E54)
  have V62 : own_RA Z h54 b19 .int "[I" d (fun _ => Value.null) := (V59.ext E54)
  have V63 : own_A Z h54 b28 .int d (fun q => .int ((fun _ => (0 : Int32)) q)) := (V60.ext E54)
  have V64 : own_A Z h54 b38 .int n (fun q => .int (gf q)) := ((V38.ext E46).ext E54)
  have V65 : own_A Z h54 b46 .int n (fun q => .int ((fun _ => (0 : Int32)) q)) := (V46a.ext E54)
  obtain ⟨lo, glo⟩ : ∃ z, z = h54.size := ⟨_, rfl⟩
  have lo_b11 : b11 < lo := by rw [glo]; exact V61.lt
  have lo_b19 : b19 < lo := by rw [glo]; exact V62.lt
  have lo_b28 : b28 < lo := by rw [glo]; exact V63.lt
  have lo_b38 : b38 < lo := by rw [glo]; exact V64.lt
  have lo_b46 : b46 < lo := by rw [glo]; exact V65.lt
  have lo_b54 : b54 < lo := by rw [glo]; exact V54a.lt
  have hL0 : ∀ (fu : Nat) (L : Nat) (ao : Addr) (an : Addr) (GV : Nat → Value) (GC : Nat → Value) (sa : Slot) (sb : Slot) (ce : Nat) (sl : Nat) (T1 : State) (hp1 : Heap) (locs1 : List Loc) (X1 : Stand p l e ({ frames := 2, cells := 68, slots := 1013, locals := 77 } : Room) s m #[(.ref a), (.ref ar), (.int bv)] below meth c T1 locs1 ce sl) (e1 : T1.heap = hp1) (N1 : Fr n0 locs1) (K1 : Keep h0 hp1 [a]) (B0 : Exa Z hp1 a "com/example/orderly_results/orderlyresults/engine/WaveletMatrix") (B1 : Fld Z hp1 a "com/example/orderly_results/orderlyresults/engine/WaveletMatrix" "bits" "I" (.int (Int32.ofNat d))) (B2 : Fld Z hp1 a "com/example/orderly_results/orderlyresults/engine/WaveletMatrix" "size" "I" (.int (Int32.ofNat n))) (B3 : Fld Z hp1 a "com/example/orderly_results/orderlyresults/engine/WaveletMatrix" "vectors" "[[J" (.ref b11)) (B4 : Fld Z hp1 a "com/example/orderly_results/orderlyresults/engine/WaveletMatrix" "counts" "[[I" (.ref b19)) (B5 : Fld Z hp1 a "com/example/orderly_results/orderlyresults/engine/WaveletMatrix" "clear" "[I" (.ref b28)) (B6 : own_RA Z hp1 b11 .long "[J" d GV) (B7 : own_RA Z hp1 b19 .int "[I" d GC) (B8 : own_A Z hp1 b28 .int d (fun q => .int ((own_clr gf d n L) q))) (B9 : own_A Z hp1 ao .int n (fun q => .int ((own_lv gf d n L).1 q))) (B10 : own_A Z hp1 an .int n (fun q => .int ((own_lv gf d n L).2.1 q))) (B11 : own_A Z hp1 b54 .int n (fun q => .int ((own_lv gf d n L).2.2 q))) (B12 : own_Fam Z hp1 lo L (n / 64 + 1) GV (own_VV gf d n)) (hsw : (ao = b38 ∧ an = b46) ∨ (ao = b46 ∧ an = b38)) (hlo : lo ≤ hp1.size) (hsa : own_sl sa) (hsb : own_sl sb) (hm : L + fu = d) (hce : ce + 2 * fu ≤ 68) (hsl : sl + 5 * fu ≤ 1013), own_G p e below s (Q_own_wi Z a ar bv n gf h0 n0) ({ frames := 2, cells := 68, slots := 1013, locals := 77 } : Room).cells ({ frames := 2, cells := 68, slots := 1013, locals := 77 } : Room).slots (T1.setTop (mkF m 86 #[.val (.ref a), .val (.ref ar), .val (.int bv), .val (.ref ao), .val (.ref an), .val (.ref b54), .val (.int (Int32.ofNat L)), sa, sb] [])) := by
    intro fu
    induction fu with
    | zero =>
      intro L ao an GV GC sa sb ce sl T1 hp1 locs1 X1 e1 N1 K1 B0 B1 B2 B3 B4 B5 B6 B7 B8 B9 B10 B11 B12 hsw hlo hsa hsb hm hce hsl
      have nw_a : ao ≠ a ∧ an ≠ a := own_sw (P := fun z => z ≠ a) hsw (Ne.symm ne38_a) (Ne.symm ne46_a)
      have nw_b11 : ao ≠ b11 ∧ an ≠ b11 := own_sw (P := fun z => z ≠ b11) hsw (Ne.symm ne38_b11) (Ne.symm ne46_b11)
      have nw_b19 : ao ≠ b19 ∧ an ≠ b19 := own_sw (P := fun z => z ≠ b19) hsw (Ne.symm ne38_b19) (Ne.symm ne46_b19)
      have nw_b28 : ao ≠ b28 ∧ an ≠ b28 := own_sw (P := fun z => z ≠ b28) hsw (Ne.symm ne38_b28) (Ne.symm ne46_b28)
      have nw_b54 : ao ≠ b54 ∧ an ≠ b54 := own_sw (P := fun z => z ≠ b54) hsw ne54_b38 ne54_b46
      have nw_o : ao ≠ an := own_swn hsw ne46_b38
      have nge : n0 ≤ ao ∧ n0 ≤ an := own_sw (P := fun z => n0 ≤ z) hsw ge38 ge46
      have nsz : h0.size ≤ ao ∧ h0.size ≤ an := own_sw (P := fun z => h0.size ≤ z) hsw sz38 sz46
      have nlo : ao < lo ∧ an < lo := own_sw (P := fun z => z < lo) hsw lo_b38 lo_b46
      have hLd : d = L := hm.symm
      subst hLd
      show own_G p e below s _ _ _ (T1.setTop (mkF m 86 #[.val (.ref a), .val (.ref ar), .val (.int bv), .val (.ref ao), .val (.ref an), .val (.ref b54), .val (.int (Int32.ofNat d)), sa, sb] []))
      refine own_st (fun zt zk => XS.iload X1.here hx rfl (hb hby dd_prog_25m1_86) rfl zk) ?_
      show own_G p e below s _ _ _ (T1.setTop (mkF m 88 #[.val (.ref a), .val (.ref ar), .val (.int bv), .val (.ref ao), .val (.ref an), .val (.ref b54), .val (.int (Int32.ofNat d)), sa, sb] [(.int (Int32.ofNat d))]))
      refine own_st (fun zt zk => XS.aloadN X1.here hx rfl (hb hby dd_prog_25m1_88) rfl rfl zk) ?_
      show own_G p e below s _ _ _ (T1.setTop (mkF m 89 #[.val (.ref a), .val (.ref ar), .val (.int bv), .val (.ref ao), .val (.ref an), .val (.ref b54), .val (.int (Int32.ofNat d)), sa, sb] [(.ref a), (.int (Int32.ofNat d))]))
      obtain ⟨T66, X66, e66, st66⟩ := getF X1 hx hZ hown (host := "") (Or.inl (hw _ (List.mem_of_getElem? (i := 21) rfl))) Via.refl e1 B1 (g := (mkF m 89 #[.val (.ref a), .val (.ref ar), .val (.int bv), .val (.ref ao), .val (.ref an), .val (.ref b54), .val (.int (Int32.ofNat d)), sa, sb] [(.ref a), (.int (Int32.ofNat d))])) rfl rfl (hb hby dd_prog_25m1_89)
      refine own_st st66 ?_
      show own_G p e below s _ _ _ (T66.setTop (mkF m 92 #[.val (.ref a), .val (.ref ar), .val (.int bv), .val (.ref ao), .val (.ref an), .val (.ref b54), .val (.int (Int32.ofNat d)), sa, sb] [(.int (Int32.ofNat d)), (.int (Int32.ofNat d))]))
      refine own_st (fun zt zk => XS.icmpYes X66.here hx rfl (pc0 := 92) (pc' := 171) rfl (hb hby dd_prog_25m1_92) rfl (flt (Int32.lt_irrefl : ¬ ((Int32.ofNat d) < (Int32.ofNat d)))).2.1 (by decide) (by decide) zk) ?_
      show own_G p e below s _ _ _ (T66.setTop (mkF m 171 #[.val (.ref a), .val (.ref ar), .val (.int bv), .val (.ref ao), .val (.ref an), .val (.ref b54), .val (.int (Int32.ofNat d)), sa, sb] []))
      have X66 : Stand p l e ({ frames := 2, cells := 68, slots := 1013, locals := 77 } : Room) s m #[(.ref a), (.ref ar), (.int bv)] below meth c T66 _ ce sl := X66
      refine own_retV X66 hx hlk hret (hb hby dd_prog_25m1_171) (Nat.le_trans (own_bud0 hce) (by decide)) (Nat.le_trans (own_bud0 hsl) (by decide)) ?_
      show Q_own_wi Z a ar bv n gf h0 n0 none T66.heap _
      rw [e66]
      exact ⟨b11, b28, d, GV, rfl, N1, K1, sz11, sz28, B1, B2, B3, B5, B6, B8, (own_Fam.low B12), hd, hbd⟩
    | succ fu ih =>
      intro L ao an GV GC sa sb ce sl T1 hp1 locs1 X1 e1 N1 K1 B0 B1 B2 B3 B4 B5 B6 B7 B8 B9 B10 B11 B12 hsw hlo hsa hsb hm hce hsl
      have nw_a : ao ≠ a ∧ an ≠ a := own_sw (P := fun z => z ≠ a) hsw (Ne.symm ne38_a) (Ne.symm ne46_a)
      have nw_b11 : ao ≠ b11 ∧ an ≠ b11 := own_sw (P := fun z => z ≠ b11) hsw (Ne.symm ne38_b11) (Ne.symm ne46_b11)
      have nw_b19 : ao ≠ b19 ∧ an ≠ b19 := own_sw (P := fun z => z ≠ b19) hsw (Ne.symm ne38_b19) (Ne.symm ne46_b19)
      have nw_b28 : ao ≠ b28 ∧ an ≠ b28 := own_sw (P := fun z => z ≠ b28) hsw (Ne.symm ne38_b28) (Ne.symm ne46_b28)
      have nw_b54 : ao ≠ b54 ∧ an ≠ b54 := own_sw (P := fun z => z ≠ b54) hsw ne54_b38 ne54_b46
      have nw_o : ao ≠ an := own_swn hsw ne46_b38
      have nge : n0 ≤ ao ∧ n0 ≤ an := own_sw (P := fun z => n0 ≤ z) hsw ge38 ge46
      have nsz : h0.size ≤ ao ∧ h0.size ≤ an := own_sw (P := fun z => h0.size ≤ z) hsw sz38 sz46
      have nlo : ao < lo ∧ an < lo := own_sw (P := fun z => z < lo) hsw lo_b38 lo_b46
      have hlt : L < d := own_lta hm
      have hL : L ≤ 255 := own_l25 hlt hd
      show own_G p e below s _ _ _ (T1.setTop (mkF m 86 #[.val (.ref a), .val (.ref ar), .val (.int bv), .val (.ref ao), .val (.ref an), .val (.ref b54), .val (.int (Int32.ofNat L)), sa, sb] []))
      refine own_st (fun zt zk => XS.iload X1.here hx rfl (hb hby dd_prog_25m1_86) rfl zk) ?_
      show own_G p e below s _ _ _ (T1.setTop (mkF m 88 #[.val (.ref a), .val (.ref ar), .val (.int bv), .val (.ref ao), .val (.ref an), .val (.ref b54), .val (.int (Int32.ofNat L)), sa, sb] [(.int (Int32.ofNat L))]))
      refine own_st (fun zt zk => XS.aloadN X1.here hx rfl (hb hby dd_prog_25m1_88) rfl rfl zk) ?_
      show own_G p e below s _ _ _ (T1.setTop (mkF m 89 #[.val (.ref a), .val (.ref ar), .val (.int bv), .val (.ref ao), .val (.ref an), .val (.ref b54), .val (.int (Int32.ofNat L)), sa, sb] [(.ref a), (.int (Int32.ofNat L))]))
      obtain ⟨T67, X67, e67, st67⟩ := getF X1 hx hZ hown (host := "") (Or.inl (hw _ (List.mem_of_getElem? (i := 21) rfl))) Via.refl e1 B1 (g := (mkF m 89 #[.val (.ref a), .val (.ref ar), .val (.int bv), .val (.ref ao), .val (.ref an), .val (.ref b54), .val (.int (Int32.ofNat L)), sa, sb] [(.ref a), (.int (Int32.ofNat L))])) rfl rfl (hb hby dd_prog_25m1_89)
      refine own_st st67 ?_
      show own_G p e below s _ _ _ (T67.setTop (mkF m 92 #[.val (.ref a), .val (.ref ar), .val (.int bv), .val (.ref ao), .val (.ref an), .val (.ref b54), .val (.int (Int32.ofNat L)), sa, sb] [(.int (Int32.ofNat d)), (.int (Int32.ofNat L))]))
      have hc92_68 : (Int32.ofNat L) < (Int32.ofNat d) := (own_ltO hL (own_l31 hd)).mpr hlt
      refine own_st (fun zt zk => XS.icmpNo X67.here hx rfl (hb hby dd_prog_25m1_92) rfl (tlt hc92_68).2.1 zk) ?_
      show own_G p e below s _ _ _ (T67.setTop (mkF m 95 #[.val (.ref a), .val (.ref ar), .val (.int bv), .val (.ref ao), .val (.ref an), .val (.ref b54), .val (.int (Int32.ofNat L)), sa, sb] []))
      refine own_st (fun zt zk => XS.aloadN X67.here hx rfl (hb hby dd_prog_25m1_95) rfl rfl zk) ?_
      show own_G p e below s _ _ _ (T67.setTop (mkF m 96 #[.val (.ref a), .val (.ref ar), .val (.int bv), .val (.ref ao), .val (.ref an), .val (.ref b54), .val (.int (Int32.ofNat L)), sa, sb] [(.ref a)]))
      obtain ⟨T69, X69, e69, st69⟩ := getF X67 hx hZ hown (host := "") (Or.inl (hw _ (List.mem_of_getElem? (i := 23) rfl))) Via.refl e67 B2 (g := (mkF m 96 #[.val (.ref a), .val (.ref ar), .val (.int bv), .val (.ref ao), .val (.ref an), .val (.ref b54), .val (.int (Int32.ofNat L)), sa, sb] [(.ref a)])) rfl rfl (hb hby dd_prog_25m1_96)
      refine own_st st69 ?_
      show own_G p e below s _ _ _ (T69.setTop (mkF m 99 #[.val (.ref a), .val (.ref ar), .val (.int bv), .val (.ref ao), .val (.ref an), .val (.ref b54), .val (.int (Int32.ofNat L)), sa, sb] [(.int (Int32.ofNat n))]))
      refine own_st (fun zt zk => XS.bipush X69.here hx rfl (hb hby dd_prog_25m1_99) zk) ?_
      show own_G p e below s _ _ _ (T69.setTop (mkF m 101 #[.val (.ref a), .val (.ref ar), .val (.int bv), .val (.ref ao), .val (.ref an), .val (.ref b54), .val (.int (Int32.ofNat L)), sa, sb] [(.int (64 : Int32)), (.int (Int32.ofNat n))]))
      refine own_st (fun zt zk => XS.idiv X69.here hx rfl (hb hby dd_prog_25m1_101) rfl (by decide) zk) ?_
      show own_G p e below s _ _ _ (T69.setTop (mkF m 102 #[.val (.ref a), .val (.ref ar), .val (.int bv), .val (.ref ao), .val (.ref an), .val (.ref b54), .val (.int (Int32.ofNat L)), sa, sb] [(.int ((Int32.ofNat n) / (64 : Int32)))]))
      refine own_st (fun zt zk => XS.iconst X69.here hx rfl (hb hby dd_prog_25m1_102) zk) ?_
      show own_G p e below s _ _ _ (T69.setTop (mkF m 103 #[.val (.ref a), .val (.ref ar), .val (.int bv), .val (.ref ao), .val (.ref an), .val (.ref b54), .val (.int (Int32.ofNat L)), sa, sb] [(.int (1 : Int32)), (.int ((Int32.ofNat n) / (64 : Int32)))]))
      refine own_st (fun zt zk => XS.iadd X69.here hx rfl (hb hby dd_prog_25m1_103) rfl zk) ?_
      show own_G p e below s _ _ _ (T69.setTop (mkF m 104 #[.val (.ref a), .val (.ref ar), .val (.int bv), .val (.ref ao), .val (.ref an), .val (.ref b54), .val (.int (Int32.ofNat L)), sa, sb] [(.int (((Int32.ofNat n) / (64 : Int32)) + (1 : Int32)))]))
      obtain ⟨T70, h70, X70, e70, E70, V70, D70, st70⟩ := own_newPE X69 hx hZ (aty := .long) (hw _ (List.mem_of_getElem? (i := 43) rfl)) e69 (g := (mkF m 104 #[.val (.ref a), .val (.ref ar), .val (.int bv), .val (.ref ao), .val (.ref an), .val (.ref b54), .val (.int (Int32.ofNat L)), sa, sb] [(.int (((Int32.ofNat n) / (64 : Int32)) + (1 : Int32)))])) rfl (hb hby dd_prog_25m1_104) rfl (n := (n / 64 + 1)) (own_dvO1 p10_ 64 (by decide) (by decide)) (cap := 4) (own_cap4 p10_) (by decide) (show ce + 1 ≤ _ from Nat.le_trans (Nat.le_trans (Nat.add_le_add_left (by decide : 1 ≤ 2) _) (own_bud1 hce)) (by decide)) (show sl + 4 ≤ _ from Nat.le_trans (Nat.le_trans (Nat.add_le_add_left (by decide : 4 ≤ 5) _) (own_bud1 hsl)) (by decide)) (ad := "[J") (by decide +kernel)
      obtain ⟨b70, g70⟩ : ∃ z, z = hp1.size := ⟨_, rfl⟩
      rw [← g70] at V70 D70 st70
      have ne70_a : a ≠ b70 := by rw [g70]; exact Nat.ne_of_lt B0.lt
      have ne70_b11 : b11 ≠ b70 := by rw [g70]; exact Nat.ne_of_lt B6.lt
      have ne70_b19 : b19 ≠ b70 := by rw [g70]; exact Nat.ne_of_lt B7.lt
      have ne70_b28 : b28 ≠ b70 := by rw [g70]; exact Nat.ne_of_lt B8.lt
      have ne70_ao : ao ≠ b70 := by rw [g70]; exact Nat.ne_of_lt B9.lt
      have ne70_an : an ≠ b70 := by rw [g70]; exact Nat.ne_of_lt B10.lt
      have ne70_b54 : b54 ≠ b70 := by rw [g70]; exact Nat.ne_of_lt B11.lt
      have ge70 : n0 ≤ b70 := Nat.le_trans (Nat.le_trans Z0 K1.1) (Nat.le_of_eq g70.symm)
      have sz70 : h0.size ≤ b70 := Nat.le_trans K1.1 (Nat.le_of_eq g70.symm)
      have V70a : own_A Z h70 b70 .long (n / 64 + 1) (fun q => .long ((fun _ => (0 : Int64)) q)) := V70
      refine own_st st70 ?_
      have X70 : Stand p l e ({ frames := 2, cells := 68, slots := 1013, locals := 77 } : Room) s m #[(.ref a), (.ref ar), (.int bv)] below meth c T70 _ (ce + 1) (sl + 4) := X70
      show own_G p e below s _ _ _ (T70.setTop (mkF m 106 #[.val (.ref a), .val (.ref ar), .val (.int bv), .val (.ref ao), .val (.ref an), .val (.ref b54), .val (.int (Int32.ofNat L)), sa, sb] [(.ref b70)]))
      refine own_st (fun zt zk => XS.astore X70.here hx rfl (hb hby dd_prog_25m1_106) rfl rfl (l' := #[.val (.ref a), .val (.ref ar), .val (.int bv), .val (.ref ao), .val (.ref an), .val (.ref b54), .val (.int (Int32.ofNat L)), .val (.ref b70), sb]) (by rcases hsa with q | ⟨z, q⟩ | ⟨z, q⟩ <;> subst q <;> rfl) zk) ?_
      show own_G p e below s _ _ _ (T70.setTop (mkF m 108 #[.val (.ref a), .val (.ref ar), .val (.int bv), .val (.ref ao), .val (.ref an), .val (.ref b54), .val (.int (Int32.ofNat L)), .val (.ref b70), sb] []))
      refine own_st (fun zt zk => XS.aloadN X70.here hx rfl (hb hby dd_prog_25m1_108) rfl rfl zk) ?_
      show own_G p e below s _ _ _ (T70.setTop (mkF m 109 #[.val (.ref a), .val (.ref ar), .val (.int bv), .val (.ref ao), .val (.ref an), .val (.ref b54), .val (.int (Int32.ofNat L)), .val (.ref b70), sb] [(.ref a)]))
      have F71 : Fld Z h70 a "com/example/orderly_results/orderlyresults/engine/WaveletMatrix" "clear" "[I" (.ref b28) := (B5.ext E70)
      obtain ⟨T72, X72, e72, st72⟩ := getF X70 hx hZ hown (host := "") (Or.inl (hw _ (List.mem_of_getElem? (i := 33) rfl))) Via.refl e70 F71 (g := (mkF m 109 #[.val (.ref a), .val (.ref ar), .val (.int bv), .val (.ref ao), .val (.ref an), .val (.ref b54), .val (.int (Int32.ofNat L)), .val (.ref b70), sb] [(.ref a)])) rfl rfl (hb hby dd_prog_25m1_109)
      refine own_st st72 ?_
      show own_G p e below s _ _ _ (T72.setTop (mkF m 112 #[.val (.ref a), .val (.ref ar), .val (.int bv), .val (.ref ao), .val (.ref an), .val (.ref b54), .val (.int (Int32.ofNat L)), .val (.ref b70), sb] [(.ref b28)]))
      refine own_st (fun zt zk => XS.iload X72.here hx rfl (hb hby dd_prog_25m1_112) rfl zk) ?_
      show own_G p e below s _ _ _ (T72.setTop (mkF m 114 #[.val (.ref a), .val (.ref ar), .val (.int bv), .val (.ref ao), .val (.ref an), .val (.ref b54), .val (.int (Int32.ofNat L)), .val (.ref b70), sb] [(.int (Int32.ofNat L)), (.ref b28)]))
      refine own_st (fun zt zk => XS.aloadN X72.here hx rfl (hb hby dd_prog_25m1_114) rfl rfl zk) ?_
      show own_G p e below s _ _ _ (T72.setTop (mkF m 115 #[.val (.ref a), .val (.ref ar), .val (.int bv), .val (.ref ao), .val (.ref an), .val (.ref b54), .val (.int (Int32.ofNat L)), .val (.ref b70), sb] [(.ref ao), (.int (Int32.ofNat L)), (.ref b28)]))
      refine own_st (fun zt zk => XS.aloadN X72.here hx rfl (hb hby dd_prog_25m1_115) rfl rfl zk) ?_
      show own_G p e below s _ _ _ (T72.setTop (mkF m 116 #[.val (.ref a), .val (.ref ar), .val (.int bv), .val (.ref ao), .val (.ref an), .val (.ref b54), .val (.int (Int32.ofNat L)), .val (.ref b70), sb] [(.ref a), (.ref ao), (.int (Int32.ofNat L)), (.ref b28)]))
      have F73 : Fld Z h70 a "com/example/orderly_results/orderlyresults/engine/WaveletMatrix" "bits" "I" (.int (Int32.ofNat d)) := (B1.ext E70)
      obtain ⟨T74, X74, e74, st74⟩ := getF X72 hx hZ hown (host := "") (Or.inl (hw _ (List.mem_of_getElem? (i := 21) rfl))) Via.refl e72 F73 (g := (mkF m 116 #[.val (.ref a), .val (.ref ar), .val (.int bv), .val (.ref ao), .val (.ref an), .val (.ref b54), .val (.int (Int32.ofNat L)), .val (.ref b70), sb] [(.ref a), (.ref ao), (.int (Int32.ofNat L)), (.ref b28)])) rfl rfl (hb hby dd_prog_25m1_116)
      refine own_st st74 ?_
      show own_G p e below s _ _ _ (T74.setTop (mkF m 119 #[.val (.ref a), .val (.ref ar), .val (.int bv), .val (.ref ao), .val (.ref an), .val (.ref b54), .val (.int (Int32.ofNat L)), .val (.ref b70), sb] [(.int (Int32.ofNat d)), (.ref ao), (.int (Int32.ofNat L)), (.ref b28)]))
      refine own_st (fun zt zk => XS.iconst X74.here hx rfl (hb hby dd_prog_25m1_119) zk) ?_
      show own_G p e below s _ _ _ (T74.setTop (mkF m 120 #[.val (.ref a), .val (.ref ar), .val (.int bv), .val (.ref ao), .val (.ref an), .val (.ref b54), .val (.int (Int32.ofNat L)), .val (.ref b70), sb] [(.int (1 : Int32)), (.int (Int32.ofNat d)), (.ref ao), (.int (Int32.ofNat L)), (.ref b28)]))
      refine own_st (fun zt zk => XS.isub X74.here hx rfl (hb hby dd_prog_25m1_120) rfl zk) ?_
      show own_G p e below s _ _ _ (T74.setTop (mkF m 121 #[.val (.ref a), .val (.ref ar), .val (.int bv), .val (.ref ao), .val (.ref an), .val (.ref b54), .val (.int (Int32.ofNat L)), .val (.ref b70), sb] [(.int ((Int32.ofNat d) - (1 : Int32))), (.ref ao), (.int (Int32.ofNat L)), (.ref b28)]))
      refine own_st (fun zt zk => XS.iload X74.here hx rfl (hb hby dd_prog_25m1_121) rfl zk) ?_
      show own_G p e below s _ _ _ (T74.setTop (mkF m 123 #[.val (.ref a), .val (.ref ar), .val (.int bv), .val (.ref ao), .val (.ref an), .val (.ref b54), .val (.int (Int32.ofNat L)), .val (.ref b70), sb] [(.int (Int32.ofNat L)), (.int ((Int32.ofNat d) - (1 : Int32))), (.ref ao), (.int (Int32.ofNat L)), (.ref b28)]))
      refine own_st (fun zt zk => XS.isub X74.here hx rfl (hb hby dd_prog_25m1_123) rfl zk) ?_
      show own_G p e below s _ _ _ (T74.setTop (mkF m 124 #[.val (.ref a), .val (.ref ar), .val (.int bv), .val (.ref ao), .val (.ref an), .val (.ref b54), .val (.int (Int32.ofNat L)), .val (.ref b70), sb] [(.int (((Int32.ofNat d) - (1 : Int32)) - (Int32.ofNat L))), (.ref ao), (.int (Int32.ofNat L)), (.ref b28)]))
      refine own_st (fun zt zk => XS.aload X74.here hx rfl (hb hby dd_prog_25m1_124) rfl rfl zk) ?_
      show own_G p e below s _ _ _ (T74.setTop (mkF m 126 #[.val (.ref a), .val (.ref ar), .val (.int bv), .val (.ref ao), .val (.ref an), .val (.ref b54), .val (.int (Int32.ofNat L)), .val (.ref b70), sb] [(.ref b70), (.int (((Int32.ofNat d) - (1 : Int32)) - (Int32.ofNat L))), (.ref ao), (.int (Int32.ofNat L)), (.ref b28)]))
      refine own_st (fun zt zk => XS.aload X74.here hx rfl (hb hby dd_prog_25m1_126) rfl rfl zk) ?_
      show own_G p e below s _ _ _ (T74.setTop (mkF m 128 #[.val (.ref a), .val (.ref ar), .val (.int bv), .val (.ref ao), .val (.ref an), .val (.ref b54), .val (.int (Int32.ofNat L)), .val (.ref b70), sb] [(.ref an), (.ref b70), (.int (((Int32.ofNat d) - (1 : Int32)) - (Int32.ofNat L))), (.ref ao), (.int (Int32.ofNat L)), (.ref b28)]))
      refine own_st (fun zt zk => XS.aload X74.here hx rfl (hb hby dd_prog_25m1_128) rfl rfl zk) ?_
      show own_G p e below s _ _ _ (T74.setTop (mkF m 130 #[.val (.ref a), .val (.ref ar), .val (.int bv), .val (.ref ao), .val (.ref an), .val (.ref b54), .val (.int (Int32.ofNat L)), .val (.ref b70), sb] [(.ref b54), (.ref an), (.ref b70), (.int (((Int32.ofNat d) - (1 : Int32)) - (Int32.ofNat L))), (.ref ao), (.int (Int32.ofNat L)), (.ref b28)]))
      show own_G p e below s _ _ _ (T74.setTop (mkF m 130 #[.val (.ref a), .val (.ref ar), .val (.int bv), .val (.ref ao), .val (.ref an), .val (.ref b54), .val (.int (Int32.ofNat L)), .val (.ref b70), sb] [(.ref b54), (.ref an), (.ref b70), (.int (own_bb d L)), (.ref ao), (.int (Int32.ofNat L)), (.ref b28)]))
      have V76 : own_A Z h70 ao .int n (fun q => .int ((own_lv gf d n L).1 q)) := (B9.ext E70)
      have V77 : own_A Z h70 an .int n (fun q => .int ((own_lv gf d n L).2.1 q)) := (B10.ext E70)
      have V78 : own_A Z h70 b54 .int n (fun q => .int ((own_lv gf d n L).2.2 q)) := (B11.ext E70)
      obtain ⟨_, T75, L75, X75, hQ75, st75⟩ := own_callS X74 hx hZ (y := (⟨"com/example/orderly_results/orderlyresults/engine/WaveletMatrix", "placed", "([II[J[I[I)I"⟩ : MethodName)) (argsL := [(.ref ao), (.int (own_bb d L)), (.ref b70), (.ref an), (.ref b54)]) (rest := [(.int (Int32.ofNat L)), (.ref b28)]) 2 hown (hw _ (List.mem_of_getElem? (i := 44) rfl)) (hw _ (List.mem_of_getElem? (i := 45) rfl)) (hw _ (List.mem_of_getElem? (i := 8) rfl)) (hw _ (List.mem_of_getElem? (i := 46) rfl)) (by decide) (own_pl l Z a0 hw [] ao b70 an b54 (own_bb d L) n ((own_lv gf d n L).1) (fun _ => (0 : Int64)) ((own_lv gf d n L).2.1) ((own_lv gf d n L).2.2) h70 n0 (Nat.le_trans (Nat.le_trans Z0 K1.1) E70.1) V76 V70a V77 V78 ge70 nge.2 ge54 ne70_ao nw_o nw_b54.1 (Ne.symm ne70_an) (Ne.symm ne70_b54) nw_b54.2 p10_) (by decide) (by decide) e74 (g := (mkF m 130 #[.val (.ref a), .val (.ref ar), .val (.int bv), .val (.ref ao), .val (.ref an), .val (.ref b54), .val (.int (Int32.ofNat L)), .val (.ref b70), sb] [(.ref b54), (.ref an), (.ref b70), (.int (own_bb d L)), (.ref ao), (.int (Int32.ofNat L)), (.ref b28)])) rfl (by rw [hml]; rfl) own_pd3 rfl rfl (by show 2 * 0 + _ ≤ _; exact Nat.le_of_eq rfl) (hb hby dd_prog_25m1_130) (show ce + 1 ≤ _ from Nat.le_trans (Nat.le_trans (Nat.add_le_add_left (by decide : 1 ≤ 2) _) (own_bud1 hce)) (by decide)) (show sl + 4 ≤ _ from Nat.le_trans (Nat.le_trans (Nat.add_le_add_left (by decide : 4 ≤ 5) _) (own_bud1 hsl)) (by decide))
      obtain ⟨rfl, N75q, K75, q75_0, q75_1, q75_2⟩ := hQ75
      have N75 := Fr.app N1 N75q
      refine own_st st75 ?_
      have X75 : Stand p l e ({ frames := 2, cells := 68, slots := 1013, locals := 77 } : Room) s m #[(.ref a), (.ref ar), (.int bv)] below meth c T75 _ (ce + 1) (sl + 4) := X75
      show own_G p e below s _ _ _ (T75.setTop (mkF m 133 #[.val (.ref a), .val (.ref ar), .val (.int bv), .val (.ref ao), .val (.ref an), .val (.ref b54), .val (.int (Int32.ofNat L)), .val (.ref b70), sb] [(.int (Int32.ofNat (own_c0 (own_lv gf d n L).1 (own_bb d L) n))), (.int (Int32.ofNat L)), (.ref b28)]))
      have V79 : own_A Z T75.heap b28 .int d (fun q => .int ((own_clr gf d n L) q)) := ((B8.ext E70).keep K75 (ninS ne70_b28 (ninS (Ne.symm nw_b28.2) (ninS ne54_b28 nin0))))
      obtain ⟨T80, h80, X80, e80, W80, V80, st80⟩ := own_iastore X75 hx hZ rfl V79 (i := L) (own_tO hL) hlt (g := (mkF m 133 #[.val (.ref a), .val (.ref ar), .val (.int bv), .val (.ref ao), .val (.ref an), .val (.ref b54), .val (.int (Int32.ofNat L)), .val (.ref b70), sb] [(.int (Int32.ofNat (own_c0 (own_lv gf d n L).1 (own_bb d L) n))), (.int (Int32.ofNat L)), (.ref b28)])) rfl rfl (hb hby dd_prog_25m1_133)
      refine own_st st80 ?_
      have N80 := Fr.snoc X80 N75 ge28
      have V80a : own_A Z h80 b28 .int d (fun q => .int ((own_up (own_clr gf d n L) L (Int32.ofNat (own_c0 (own_lv gf d n L).1 (own_bb d L) n))) q)) := V80.congr (fun q _ => by simp only [own_up]; split <;> rfl)
      show own_G p e below s _ _ _ (T80.setTop (mkF m 134 #[.val (.ref a), .val (.ref ar), .val (.int bv), .val (.ref ao), .val (.ref an), .val (.ref b54), .val (.int (Int32.ofNat L)), .val (.ref b70), sb] []))
      refine own_st (fun zt zk => XS.aloadN X80.here hx rfl (hb hby dd_prog_25m1_134) rfl rfl zk) ?_
      show own_G p e below s _ _ _ (T80.setTop (mkF m 135 #[.val (.ref a), .val (.ref ar), .val (.int bv), .val (.ref ao), .val (.ref an), .val (.ref b54), .val (.int (Int32.ofNat L)), .val (.ref b70), sb] [(.ref a)]))
      have F81 : Fld Z h80 a "com/example/orderly_results/orderlyresults/engine/WaveletMatrix" "vectors" "[[J" (.ref b11) := (Fld.other W80 ((B3.ext E70).keep K75 (ninS ne70_a (ninS (Ne.symm nw_a.2) (ninS ne54_a nin0)))) (Or.inl ne28_a))
      obtain ⟨T82, X82, e82, st82⟩ := getF X80 hx hZ hown (host := "") (Or.inl (hw _ (List.mem_of_getElem? (i := 27) rfl))) Via.refl e80 F81 (g := (mkF m 135 #[.val (.ref a), .val (.ref ar), .val (.int bv), .val (.ref ao), .val (.ref an), .val (.ref b54), .val (.int (Int32.ofNat L)), .val (.ref b70), sb] [(.ref a)])) rfl rfl (hb hby dd_prog_25m1_135)
      refine own_st st82 ?_
      show own_G p e below s _ _ _ (T82.setTop (mkF m 138 #[.val (.ref a), .val (.ref ar), .val (.int bv), .val (.ref ao), .val (.ref an), .val (.ref b54), .val (.int (Int32.ofNat L)), .val (.ref b70), sb] [(.ref b11)]))
      refine own_st (fun zt zk => XS.iload X82.here hx rfl (hb hby dd_prog_25m1_138) rfl zk) ?_
      show own_G p e below s _ _ _ (T82.setTop (mkF m 140 #[.val (.ref a), .val (.ref ar), .val (.int bv), .val (.ref ao), .val (.ref an), .val (.ref b54), .val (.int (Int32.ofNat L)), .val (.ref b70), sb] [(.int (Int32.ofNat L)), (.ref b11)]))
      refine own_st (fun zt zk => XS.aload X82.here hx rfl (hb hby dd_prog_25m1_140) rfl rfl zk) ?_
      show own_G p e below s _ _ _ (T82.setTop (mkF m 142 #[.val (.ref a), .val (.ref ar), .val (.int bv), .val (.ref ao), .val (.ref an), .val (.ref b54), .val (.int (Int32.ofNat L)), .val (.ref b70), sb] [(.ref b70), (.int (Int32.ofNat L)), (.ref b11)]))
      have V83 : own_RA Z h80 b11 .long "[J" d GV := (((B6.ext E70).keep K75 (ninS ne70_b11 (ninS (Ne.symm nw_b11.2) (ninS ne54_b11 nin0)))).other W80 ne28_b11)
      have E84 : Exa Z h80 b70 "[J" := ((D70.keep K75).wr W80)
      obtain ⟨T85, h85, X85, e85, W85, V85, st85⟩ := own_aastore X82 hx hZ e82 V83 E84 (i := L) (own_tO hL) hlt (g := (mkF m 142 #[.val (.ref a), .val (.ref ar), .val (.int bv), .val (.ref ao), .val (.ref an), .val (.ref b54), .val (.int (Int32.ofNat L)), .val (.ref b70), sb] [(.ref b70), (.int (Int32.ofNat L)), (.ref b11)])) rfl rfl (hb hby dd_prog_25m1_142)
      refine own_st st85 ?_
      have N85 := Fr.snoc X85 N80 ge11
      show own_G p e below s _ _ _ (T85.setTop (mkF m 143 #[.val (.ref a), .val (.ref ar), .val (.int bv), .val (.ref ao), .val (.ref an), .val (.ref b54), .val (.int (Int32.ofNat L)), .val (.ref b70), sb] []))
      refine own_st (fun zt zk => XS.aloadN X85.here hx rfl (hb hby dd_prog_25m1_143) rfl rfl zk) ?_
      show own_G p e below s _ _ _ (T85.setTop (mkF m 144 #[.val (.ref a), .val (.ref ar), .val (.int bv), .val (.ref ao), .val (.ref an), .val (.ref b54), .val (.int (Int32.ofNat L)), .val (.ref b70), sb] [(.ref a)]))
      have F86 : Fld Z h85 a "com/example/orderly_results/orderlyresults/engine/WaveletMatrix" "counts" "[[I" (.ref b19) := (Fld.other W85 (Fld.other W80 ((B4.ext E70).keep K75 (ninS ne70_a (ninS (Ne.symm nw_a.2) (ninS ne54_a nin0)))) (Or.inl ne28_a)) (Or.inl ne11_a))
      obtain ⟨T87, X87, e87, st87⟩ := getF X85 hx hZ hown (host := "") (Or.inl (hw _ (List.mem_of_getElem? (i := 31) rfl))) Via.refl e85 F86 (g := (mkF m 144 #[.val (.ref a), .val (.ref ar), .val (.int bv), .val (.ref ao), .val (.ref an), .val (.ref b54), .val (.int (Int32.ofNat L)), .val (.ref b70), sb] [(.ref a)])) rfl rfl (hb hby dd_prog_25m1_144)
      refine own_st st87 ?_
      show own_G p e below s _ _ _ (T87.setTop (mkF m 147 #[.val (.ref a), .val (.ref ar), .val (.int bv), .val (.ref ao), .val (.ref an), .val (.ref b54), .val (.int (Int32.ofNat L)), .val (.ref b70), sb] [(.ref b19)]))
      refine own_st (fun zt zk => XS.iload X87.here hx rfl (hb hby dd_prog_25m1_147) rfl zk) ?_
      show own_G p e below s _ _ _ (T87.setTop (mkF m 149 #[.val (.ref a), .val (.ref ar), .val (.int bv), .val (.ref ao), .val (.ref an), .val (.ref b54), .val (.int (Int32.ofNat L)), .val (.ref b70), sb] [(.int (Int32.ofNat L)), (.ref b19)]))
      refine own_st (fun zt zk => XS.aload X87.here hx rfl (hb hby dd_prog_25m1_149) rfl rfl zk) ?_
      show own_G p e below s _ _ _ (T87.setTop (mkF m 151 #[.val (.ref a), .val (.ref ar), .val (.int bv), .val (.ref ao), .val (.ref an), .val (.ref b54), .val (.int (Int32.ofNat L)), .val (.ref b70), sb] [(.ref b70), (.int (Int32.ofNat L)), (.ref b19)]))
      have V89 : own_A Z h85 b70 .long (n / 64 + 1) (fun q => .long ((own_V (own_lv gf d n L).1 (own_bb d L) (fun _ => (0 : Int64)) n) q)) := ((q75_0.other W80 (Ne.symm ne70_b28)).other W85 (Ne.symm ne70_b11))
      obtain ⟨_, T88, L88, X88, hQ88, st88⟩ := own_callS X87 hx hZ (y := (⟨"com/example/orderly_results/orderlyresults/engine/WaveletMatrix", "counts", "([J)[I"⟩ : MethodName)) (argsL := [(.ref b70)]) (rest := [(.int (Int32.ofNat L)), (.ref b19)]) 2 hown (hw _ (List.mem_of_getElem? (i := 52) rfl)) (hw _ (List.mem_of_getElem? (i := 53) rfl)) (hw _ (List.mem_of_getElem? (i := 8) rfl)) (hw _ (List.mem_of_getElem? (i := 54) rfl)) (by decide) (own_ct l Z a0 hw [] b70 (n / 64 + 1) (own_V (own_lv gf d n L).1 (own_bb d L) (fun _ => (0 : Int64)) n) h85 n0 (Nat.le_trans (Nat.le_trans (Nat.le_trans (Nat.le_trans (Nat.le_trans Z0 K1.1) E70.1) K75.1) (Nat.le_of_eq W80.size.symm)) (Nat.le_of_eq W85.size.symm)) V89 (own_cap4 p10_)) (by decide) (by decide) e87 (g := (mkF m 151 #[.val (.ref a), .val (.ref ar), .val (.int bv), .val (.ref ao), .val (.ref an), .val (.ref b54), .val (.int (Int32.ofNat L)), .val (.ref b70), sb] [(.ref b70), (.int (Int32.ofNat L)), (.ref b19)])) rfl (by rw [hml]; rfl) own_pd4 rfl rfl (by show 2 * 0 + _ ≤ _; exact Nat.le_of_eq rfl) (hb hby dd_prog_25m1_151) (show ce + 2 ≤ _ from Nat.le_trans (Nat.le_trans (Nat.add_le_add_left (by decide : 2 ≤ 2) _) (own_bud1 hce)) (by decide)) (show sl + 5 ≤ _ from Nat.le_trans (Nat.le_trans (Nat.add_le_add_left (by decide : 5 ≤ 5) _) (own_bud1 hsl)) (by decide))
      obtain ⟨rb88, rfl, N88q, K88, srb88, q88_0⟩ := hQ88
      have N88 := Fr.app N85 N88q
      refine own_st st88 ?_
      have X88 : Stand p l e ({ frames := 2, cells := 68, slots := 1013, locals := 77 } : Room) s m #[(.ref a), (.ref ar), (.int bv)] below meth c T88 _ (ce + 2) (sl + 5) := X88
      have V90 : own_RA Z h85 b19 .int "[I" d GC := ((((B7.ext E70).keep K75 (ninS ne70_b19 (ninS (Ne.symm nw_b19.2) (ninS ne54_b19 nin0)))).other W80 ne28_b19).other W85 (Ne.symm ne19_b11))
      have V91 : own_A Z h85 b28 .int d (fun q => .int ((own_up (own_clr gf d n L) L (Int32.ofNat (own_c0 (own_lv gf d n L).1 (own_bb d L) n))) q)) := (V80a.other W85 (Ne.symm ne28_b11))
      have V92 : own_A Z h85 ao .int n (fun q => .int ((own_lv gf d n L).1 q)) := (((V76.keep K75 (ninS ne70_ao (ninS nw_o (ninS nw_b54.1 nin0)))).other W80 nw_b28.1).other W85 nw_b11.1)
      have V93 : own_A Z h85 an .int n (fun q => .int ((own_F (own_lv gf d n L).1 (own_bb d L) (own_lv gf d n L).2.1 (own_lv gf d n L).2.2 n) q)) := ((q75_1.other W80 nw_b28.2).other W85 nw_b11.2)
      have V94 : own_A Z h85 b54 .int n (fun q => .int ((own_wsf (own_lv gf d n L).1 (own_bb d L) (own_lv gf d n L).2.2 n) q)) := ((q75_2.other W80 (Ne.symm ne54_b28)).other W85 (Ne.symm ne54_b11))
      have ne88_rb_a : a ≠ rb88 := Nat.ne_of_lt (Nat.lt_of_lt_of_le ((((B0.ext E70).keep K75).wr W80).wr W85).lt srb88)
      have ne88_rb_b70 : b70 ≠ rb88 := Nat.ne_of_lt (Nat.lt_of_lt_of_le (E84.wr W85).lt srb88)
      have ne88_rb_b11 : b11 ≠ rb88 := Nat.ne_of_lt (Nat.lt_of_lt_of_le V85.lt srb88)
      have ne88_rb_b19 : b19 ≠ rb88 := Nat.ne_of_lt (Nat.lt_of_lt_of_le V90.lt srb88)
      have ne88_rb_b28 : b28 ≠ rb88 := Nat.ne_of_lt (Nat.lt_of_lt_of_le V91.lt srb88)
      have ne88_rb_ao : ao ≠ rb88 := Nat.ne_of_lt (Nat.lt_of_lt_of_le V92.lt srb88)
      have ne88_rb_an : an ≠ rb88 := Nat.ne_of_lt (Nat.lt_of_lt_of_le V93.lt srb88)
      have ne88_rb_b54 : b54 ≠ rb88 := Nat.ne_of_lt (Nat.lt_of_lt_of_le V94.lt srb88)
      have ge88_rb : n0 ≤ rb88 := Nat.le_trans (Nat.le_trans (Nat.le_trans (Nat.le_trans (Nat.le_trans (Nat.le_trans Z0 K1.1) E70.1) K75.1) (Nat.le_of_eq W80.size.symm)) (Nat.le_of_eq W85.size.symm)) srb88
      have sz88_rb : h0.size ≤ rb88 := Nat.le_trans (Nat.le_trans (Nat.le_trans (Nat.le_trans (Nat.le_trans K1.1 E70.1) K75.1) (Nat.le_of_eq W80.size.symm)) (Nat.le_of_eq W85.size.symm)) srb88
      show own_G p e below s _ _ _ (T88.setTop (mkF m 154 #[.val (.ref a), .val (.ref ar), .val (.int bv), .val (.ref ao), .val (.ref an), .val (.ref b54), .val (.int (Int32.ofNat L)), .val (.ref b70), sb] [(.ref rb88), (.int (Int32.ofNat L)), (.ref b19)]))
      have V95 : own_RA Z T88.heap b19 .int "[I" d GC := (V90.keep K88 nin0)
      obtain ⟨T96, h96, X96, e96, W96, V96, st96⟩ := own_aastore X88 hx hZ rfl V95 q88_0 (i := L) (own_tO hL) hlt (g := (mkF m 154 #[.val (.ref a), .val (.ref ar), .val (.int bv), .val (.ref ao), .val (.ref an), .val (.ref b54), .val (.int (Int32.ofNat L)), .val (.ref b70), sb] [(.ref rb88), (.int (Int32.ofNat L)), (.ref b19)])) rfl rfl (hb hby dd_prog_25m1_154)
      refine own_st st96 ?_
      have N96 := Fr.snoc X96 N88 ge19
      show own_G p e below s _ _ _ (T96.setTop (mkF m 155 #[.val (.ref a), .val (.ref ar), .val (.int bv), .val (.ref ao), .val (.ref an), .val (.ref b54), .val (.int (Int32.ofNat L)), .val (.ref b70), sb] []))
      refine own_st (fun zt zk => XS.aloadN X96.here hx rfl (hb hby dd_prog_25m1_155) rfl rfl zk) ?_
      show own_G p e below s _ _ _ (T96.setTop (mkF m 156 #[.val (.ref a), .val (.ref ar), .val (.int bv), .val (.ref ao), .val (.ref an), .val (.ref b54), .val (.int (Int32.ofNat L)), .val (.ref b70), sb] [(.ref ao)]))
      refine own_st (fun zt zk => XS.astore X96.here hx rfl (hb hby dd_prog_25m1_156) rfl rfl (l' := #[.val (.ref a), .val (.ref ar), .val (.int bv), .val (.ref ao), .val (.ref an), .val (.ref b54), .val (.int (Int32.ofNat L)), .val (.ref b70), .val (.ref ao)]) (by rcases hsb with q | ⟨z, q⟩ | ⟨z, q⟩ <;> subst q <;> rfl) zk) ?_
      show own_G p e below s _ _ _ (T96.setTop (mkF m 158 #[.val (.ref a), .val (.ref ar), .val (.int bv), .val (.ref ao), .val (.ref an), .val (.ref b54), .val (.int (Int32.ofNat L)), .val (.ref b70), .val (.ref ao)] []))
      refine own_st (fun zt zk => XS.aload X96.here hx rfl (hb hby dd_prog_25m1_158) rfl rfl zk) ?_
      show own_G p e below s _ _ _ (T96.setTop (mkF m 160 #[.val (.ref a), .val (.ref ar), .val (.int bv), .val (.ref ao), .val (.ref an), .val (.ref b54), .val (.int (Int32.ofNat L)), .val (.ref b70), .val (.ref ao)] [(.ref an)]))
      refine own_st (fun zt zk => XS.astoreN X96.here hx rfl (hb hby dd_prog_25m1_160) rfl rfl (l' := #[.val (.ref a), .val (.ref ar), .val (.int bv), .val (.ref an), .val (.ref an), .val (.ref b54), .val (.int (Int32.ofNat L)), .val (.ref b70), .val (.ref ao)]) rfl zk) ?_
      show own_G p e below s _ _ _ (T96.setTop (mkF m 161 #[.val (.ref a), .val (.ref ar), .val (.int bv), .val (.ref an), .val (.ref an), .val (.ref b54), .val (.int (Int32.ofNat L)), .val (.ref b70), .val (.ref ao)] []))
      refine own_st (fun zt zk => XS.aload X96.here hx rfl (hb hby dd_prog_25m1_161) rfl rfl zk) ?_
      show own_G p e below s _ _ _ (T96.setTop (mkF m 163 #[.val (.ref a), .val (.ref ar), .val (.int bv), .val (.ref an), .val (.ref an), .val (.ref b54), .val (.int (Int32.ofNat L)), .val (.ref b70), .val (.ref ao)] [(.ref ao)]))
      refine own_st (fun zt zk => XS.astore X96.here hx rfl (hb hby dd_prog_25m1_163) rfl rfl (l' := #[.val (.ref a), .val (.ref ar), .val (.int bv), .val (.ref an), .val (.ref ao), .val (.ref b54), .val (.int (Int32.ofNat L)), .val (.ref b70), .val (.ref ao)]) rfl zk) ?_
      show own_G p e below s _ _ _ (T96.setTop (mkF m 165 #[.val (.ref a), .val (.ref ar), .val (.int bv), .val (.ref an), .val (.ref ao), .val (.ref b54), .val (.int (Int32.ofNat L)), .val (.ref b70), .val (.ref ao)] []))
      refine own_st (fun zt zk => XS.iinc X96.here hx rfl (hb hby dd_prog_25m1_165) rfl (l' := #[.val (.ref a), .val (.ref ar), .val (.int bv), .val (.ref an), .val (.ref ao), .val (.ref b54), .val (.int ((Int32.ofNat L) + (1 : Int32))), .val (.ref b70), .val (.ref ao)]) rfl zk) ?_
      show own_G p e below s _ _ _ (T96.setTop (mkF m 168 #[.val (.ref a), .val (.ref ar), .val (.int bv), .val (.ref an), .val (.ref ao), .val (.ref b54), .val (.int ((Int32.ofNat L) + (1 : Int32))), .val (.ref b70), .val (.ref ao)] []))
      refine own_st (fun zt zk => XS.goto X96.here hx rfl (pc0 := 168) (pc' := 86) rfl (hb hby dd_prog_25m1_168) (by decide) (by decide) zk) ?_
      show own_G p e below s _ _ _ (T96.setTop (mkF m 86 #[.val (.ref a), .val (.ref ar), .val (.int bv), .val (.ref an), .val (.ref ao), .val (.ref b54), .val (.int ((Int32.ofNat L) + (1 : Int32))), .val (.ref b70), .val (.ref ao)] []))
      rw [own_ofS L]
      show own_G p e below s _ _ _ (T96.setTop (mkF m 86 #[.val (.ref a), .val (.ref ar), .val (.int bv), .val (.ref an), .val (.ref ao), .val (.ref b54), .val (.int (Int32.ofNat (L + 1))), .val (.ref b70), .val (.ref ao)] []))
      have V97 : own_A Z h96 b70 .long (n / 64 + 1) (fun q => .long ((own_V (own_lv gf d n L).1 (own_bb d L) (fun _ => (0 : Int64)) n) q)) := ((V89.keep K88 nin0).other W96 (Ne.symm ne70_b19))
      have KF : Keep hp1 h96 [an, b54, b28, b11, b19] := (((((((Keep.refl hp1 _).ext E70).trans K75 (allS (Or.inr (Nat.le_of_eq g70.symm)) (allS (Or.inl (List.mem_of_getElem? (i := 0) rfl)) (allS (Or.inl (List.mem_of_getElem? (i := 1) rfl)) all0)))).wr W80 (Or.inl (List.mem_of_getElem? (i := 2) rfl))).wr W85 (Or.inl (List.mem_of_getElem? (i := 3) rfl))).trans K88 all0).wr W96 (Or.inl (List.mem_of_getElem? (i := 4) rfl)))
      have E98 : Exa Z h96 a "com/example/orderly_results/orderlyresults/engine/WaveletMatrix" := ((((((B0.ext E70).keep K75).wr W80).wr W85).keep K88).wr W96)
      have F99 : Fld Z h96 a "com/example/orderly_results/orderlyresults/engine/WaveletMatrix" "bits" "I" (.int (Int32.ofNat d)) := (Fld.other W96 ((Fld.other W85 (Fld.other W80 (F73.keep K75 (ninS ne70_a (ninS (Ne.symm nw_a.2) (ninS ne54_a nin0)))) (Or.inl ne28_a)) (Or.inl ne11_a)).keep K88 nin0) (Or.inl ne19_a))
      have F100 : Fld Z h96 a "com/example/orderly_results/orderlyresults/engine/WaveletMatrix" "size" "I" (.int (Int32.ofNat n)) := (Fld.other W96 ((Fld.other W85 (Fld.other W80 ((B2.ext E70).keep K75 (ninS ne70_a (ninS (Ne.symm nw_a.2) (ninS ne54_a nin0)))) (Or.inl ne28_a)) (Or.inl ne11_a)).keep K88 nin0) (Or.inl ne19_a))
      have F101 : Fld Z h96 a "com/example/orderly_results/orderlyresults/engine/WaveletMatrix" "vectors" "[[J" (.ref b11) := (Fld.other W96 ((Fld.other W85 F81 (Or.inl ne11_a)).keep K88 nin0) (Or.inl ne19_a))
      have F102 : Fld Z h96 a "com/example/orderly_results/orderlyresults/engine/WaveletMatrix" "counts" "[[I" (.ref b19) := (Fld.other W96 (F86.keep K88 nin0) (Or.inl ne19_a))
      have F103 : Fld Z h96 a "com/example/orderly_results/orderlyresults/engine/WaveletMatrix" "clear" "[I" (.ref b28) := (Fld.other W96 ((Fld.other W85 (Fld.other W80 (F71.keep K75 (ninS ne70_a (ninS (Ne.symm nw_a.2) (ninS ne54_a nin0)))) (Or.inl ne28_a)) (Or.inl ne11_a)).keep K88 nin0) (Or.inl ne19_a))
      have V104 : own_RA Z h96 b11 .long "[J" d (own_up GV L (.ref b70)) := ((V85.keep K88 nin0).other W96 ne19_b11)
      have V105 : own_A Z h96 b28 .int d (fun q => .int ((own_up (own_clr gf d n L) L (Int32.ofNat (own_c0 (own_lv gf d n L).1 (own_bb d L) n))) q)) := ((V91.keep K88 nin0).other W96 (Ne.symm ne28_b19))
      have V106 : own_A Z h96 an .int n (fun q => .int ((own_F (own_lv gf d n L).1 (own_bb d L) (own_lv gf d n L).2.1 (own_lv gf d n L).2.2 n) q)) := ((V93.keep K88 nin0).other W96 nw_b19.2)
      have V107 : own_A Z h96 ao .int n (fun q => .int ((own_lv gf d n L).1 q)) := ((V92.keep K88 nin0).other W96 nw_b19.1)
      have V108 : own_A Z h96 b54 .int n (fun q => .int ((own_wsf (own_lv gf d n L).1 (own_bb d L) (own_lv gf d n L).2.2 n) q)) := ((V94.keep K88 nin0).other W96 (Ne.symm ne54_b19))
      exact ih (L + 1) an ao (own_up GV L (.ref b70)) (own_up GC L (.ref rb88)) (.val (.ref b70)) (.val (.ref ao)) (ce + 2) (sl + 5) T96 h96 _ X96 e96 N96 ((((((K1.ext E70).trans K75 (allS (Or.inr sz70) (allS (Or.inr nsz.2) (allS (Or.inr sz54) all0)))).wr W80 (Or.inr sz28)).wr W85 (Or.inr sz11)).trans K88 all0).wr W96 (Or.inr sz19)) E98 F99 F100 F101 F102 F103 V104 V96 V105 V106 V107 V108 (own_Fam.step B12 KF (allS nlo.2 (allS lo_b54 (allS lo_b28 (allS lo_b11 (allS lo_b19 all0))))) (Nat.le_trans hlo (Nat.le_of_eq g70.symm)) V97) (own_swap hsw) (Nat.le_trans hlo KF.1) (Or.inr (Or.inr ⟨_, rfl⟩)) (Or.inr (Or.inr ⟨_, rfl⟩)) (own_nxt hm) (own_budn hce) (own_budn hsl)
  have E109 : Exa Z h54 a "com/example/orderly_results/orderlyresults/engine/WaveletMatrix" := (E55.ext E54)
  have F110 : Fld Z h54 a "com/example/orderly_results/orderlyresults/engine/WaveletMatrix" "bits" "I" (.int (Int32.ofNat d)) := ((((Fld.other W35 (F26.ext E28) (Or.inr (slot_ne (Or.inr (hw _ (List.mem_of_getElem? (i := 22) rfl))) (Or.inr (hw _ (List.mem_of_getElem? (i := 34) rfl))) (by decide) (t := .int) (t' := (.array .int)) (by decide) (by decide)))).ext E38).ext E46).ext E54)
  have F111 : Fld Z h54 a "com/example/orderly_results/orderlyresults/engine/WaveletMatrix" "size" "I" (.int (Int32.ofNat n)) := (F52.ext E54)
  have F112 : Fld Z h54 a "com/example/orderly_results/orderlyresults/engine/WaveletMatrix" "vectors" "[[J" (.ref b11) := ((((Fld.other W35 ((Fld.other W25 ((Fld.same W16 F14).ext E19) (Or.inr (slot_ne (Or.inr (hw _ (List.mem_of_getElem? (i := 28) rfl))) (Or.inr (hw _ (List.mem_of_getElem? (i := 32) rfl))) (by decide) (t := (.array (.array .long))) (t' := (.array (.array .int))) (by decide) (by decide)))).ext E28) (Or.inr (slot_ne (Or.inr (hw _ (List.mem_of_getElem? (i := 28) rfl))) (Or.inr (hw _ (List.mem_of_getElem? (i := 34) rfl))) (by decide) (t := (.array (.array .long))) (t' := (.array .int)) (by decide) (by decide)))).ext E38).ext E46).ext E54)
  have F113 : Fld Z h54 a "com/example/orderly_results/orderlyresults/engine/WaveletMatrix" "counts" "[[I" (.ref b19) := ((((Fld.other W35 ((Fld.same W25 F23).ext E28) (Or.inr (slot_ne (Or.inr (hw _ (List.mem_of_getElem? (i := 32) rfl))) (Or.inr (hw _ (List.mem_of_getElem? (i := 34) rfl))) (by decide) (t := (.array (.array .int))) (t' := (.array .int)) (by decide) (by decide)))).ext E38).ext E46).ext E54)
  have F114 : Fld Z h54 a "com/example/orderly_results/orderlyresults/engine/WaveletMatrix" "clear" "[I" (.ref b28) := ((((Fld.same W35 F33).ext E38).ext E46).ext E54)
  exact hL0 d 0 b38 b46 (fun _ => Value.null) (fun _ => Value.null) .unset .unset 6 858 T54 h54 _ X54 e54 N35 ((((((((((((Keep.refl _ _).wr W4 (Or.inl (List.mem_of_getElem? (i := 0) rfl))).wr W8 (Or.inl (List.mem_of_getElem? (i := 0) rfl))).ext E11).wr W16 (Or.inl (List.mem_of_getElem? (i := 0) rfl))).ext E19).wr W25 (Or.inl (List.mem_of_getElem? (i := 0) rfl))).ext E28).wr W35 (Or.inl (List.mem_of_getElem? (i := 0) rfl))).ext E38).ext E46).ext E54) E109 F110 F111 F112 F113 F114 V61 V62 V63 V64 V65 V54a (fun q hq => absurd hq (Nat.not_lt_zero q)) (Or.inl ⟨rfl, rfl⟩) (Nat.le_of_eq glo) (Or.inl rfl) (Or.inl rfl) (Nat.zero_add d) (own_bud hd (by decide)) (own_bud hd (by decide))
theorem own_pn6 : plainFor (⟨"com/example/orderly_results/orderlyresults/engine/WaveletMatrix", "numbers", "()[I"⟩ : MethodName) = true := plainFor_of_name (by first | (simp [plainName, overriddenIn]; done) | decide +kernel)
theorem dd_prog_25m5_0 : decode prog_25_method_5_code 0 = .ok (.aload_n 0, 1) := by decide +kernel
theorem dd_prog_25m5_1 : decode prog_25_method_5_code 1 = .ok (.getfield 25, 3) := by decide +kernel
theorem dd_prog_25m5_4 : decode prog_25_method_5_code 4 = .ok (.newarray .int, 2) := by decide +kernel
theorem dd_prog_25m5_6 : decode prog_25_method_5_code 6 = .ok (.astore_n 1, 1) := by decide +kernel
theorem dd_prog_25m5_7 : decode prog_25_method_5_code 7 = .ok (.aload_n 0, 1) := by decide +kernel
theorem dd_prog_25m5_8 : decode prog_25_method_5_code 8 = .ok (.getfield 25, 3) := by decide +kernel
theorem dd_prog_25m5_11 : decode prog_25_method_5_code 11 = .ok (.newarray .int, 2) := by decide +kernel
theorem dd_prog_25m5_13 : decode prog_25_method_5_code 13 = .ok (.astore_n 2, 1) := by decide +kernel
theorem dd_prog_25m5_14 : decode prog_25_method_5_code 14 = .ok (.iconst 0, 1) := by decide +kernel
theorem dd_prog_25m5_15 : decode prog_25_method_5_code 15 = .ok (.istore_n 3, 1) := by decide +kernel
theorem dd_prog_25m5_16 : decode prog_25_method_5_code 16 = .ok (.iload_n 3, 1) := by decide +kernel
theorem dd_prog_25m5_17 : decode prog_25_method_5_code 17 = .ok (.aload_n 0, 1) := by decide +kernel
theorem dd_prog_25m5_18 : decode prog_25_method_5_code 18 = .ok (.getfield 25, 3) := by decide +kernel
theorem dd_prog_25m5_21 : decode prog_25_method_5_code 21 = .ok (.if_icmp .ge 13, 3) := by decide +kernel
theorem dd_prog_25m5_34 : decode prog_25_method_5_code 34 = .ok (.aload_n 0, 1) := by decide +kernel
theorem dd_prog_25m5_35 : decode prog_25_method_5_code 35 = .ok (.getfield 25, 3) := by decide +kernel
theorem dd_prog_25m5_38 : decode prog_25_method_5_code 38 = .ok (.newarray .int, 2) := by decide +kernel
theorem dd_prog_25m5_40 : decode prog_25_method_5_code 40 = .ok (.astore_n 3, 1) := by decide +kernel
theorem dd_prog_25m5_41 : decode prog_25_method_5_code 41 = .ok (.iconst 0, 1) := by decide +kernel
theorem dd_prog_25m5_42 : decode prog_25_method_5_code 42 = .ok (.istore 4, 2) := by decide +kernel
theorem dd_prog_25m5_44 : decode prog_25_method_5_code 44 = .ok (.iload 4, 2) := by decide +kernel
theorem dd_prog_25m5_46 : decode prog_25_method_5_code 46 = .ok (.aload_n 0, 1) := by decide +kernel
theorem dd_prog_25m5_47 : decode prog_25_method_5_code 47 = .ok (.getfield 19, 3) := by decide +kernel
theorem dd_prog_25m5_50 : decode prog_25_method_5_code 50 = .ok (.if_icmp .ge 115, 3) := by decide +kernel
theorem dd_prog_25m5_165 : decode prog_25_method_5_code 165 = .ok (.aload_n 1, 1) := by decide +kernel
theorem dd_prog_25m5_166 : decode prog_25_method_5_code 166 = .ok (.areturn, 1) := by decide +kernel
theorem dd_prog_25m5_53 : decode prog_25_method_5_code 53 = .ok (.iconst 0, 1) := by decide +kernel
theorem dd_prog_25m5_54 : decode prog_25_method_5_code 54 = .ok (.istore 5, 2) := by decide +kernel
theorem dd_prog_25m5_56 : decode prog_25_method_5_code 56 = .ok (.aload_n 0, 1) := by decide +kernel
theorem dd_prog_25m5_57 : decode prog_25_method_5_code 57 = .ok (.getfield 40, 3) := by decide +kernel
theorem dd_prog_25m5_60 : decode prog_25_method_5_code 60 = .ok (.iload 4, 2) := by decide +kernel
theorem dd_prog_25m5_62 : decode prog_25_method_5_code 62 = .ok (.iaload, 1) := by decide +kernel
theorem dd_prog_25m5_63 : decode prog_25_method_5_code 63 = .ok (.istore 6, 2) := by decide +kernel
theorem dd_prog_25m5_65 : decode prog_25_method_5_code 65 = .ok (.iconst 0, 1) := by decide +kernel
theorem dd_prog_25m5_66 : decode prog_25_method_5_code 66 = .ok (.istore 7, 2) := by decide +kernel
theorem dd_prog_25m5_68 : decode prog_25_method_5_code 68 = .ok (.iload 7, 2) := by decide +kernel
theorem dd_prog_25m5_70 : decode prog_25_method_5_code 70 = .ok (.aload_n 0, 1) := by decide +kernel
theorem dd_prog_25m5_71 : decode prog_25_method_5_code 71 = .ok (.getfield 25, 3) := by decide +kernel
theorem dd_prog_25m5_74 : decode prog_25_method_5_code 74 = .ok (.if_icmp .ge 77, 3) := by decide +kernel
theorem dd_prog_25m5_151 : decode prog_25_method_5_code 151 = .ok (.aload_n 2, 1) := by decide +kernel
theorem dd_prog_25m5_152 : decode prog_25_method_5_code 152 = .ok (.astore 7, 2) := by decide +kernel
theorem dd_prog_25m5_154 : decode prog_25_method_5_code 154 = .ok (.aload_n 3, 1) := by decide +kernel
theorem dd_prog_25m5_155 : decode prog_25_method_5_code 155 = .ok (.astore_n 2, 1) := by decide +kernel
theorem dd_prog_25m5_156 : decode prog_25_method_5_code 156 = .ok (.aload 7, 2) := by decide +kernel
theorem dd_prog_25m5_158 : decode prog_25_method_5_code 158 = .ok (.astore_n 3, 1) := by decide +kernel
theorem dd_prog_25m5_159 : decode prog_25_method_5_code 159 = .ok (.iinc 4 1, 3) := by decide +kernel
theorem dd_prog_25m5_162 : decode prog_25_method_5_code 162 = .ok (.goto (-118), 3) := by decide +kernel
theorem dd_prog_25m5_77 : decode prog_25_method_5_code 77 = .ok (.aload_n 0, 1) := by decide +kernel
theorem dd_prog_25m5_78 : decode prog_25_method_5_code 78 = .ok (.getfield 30, 3) := by decide +kernel
theorem dd_prog_25m5_81 : decode prog_25_method_5_code 81 = .ok (.iload 4, 2) := by decide +kernel
theorem dd_prog_25m5_83 : decode prog_25_method_5_code 83 = .ok (.aaload, 1) := by decide +kernel
theorem dd_prog_25m5_84 : decode prog_25_method_5_code 84 = .ok (.iload 7, 2) := by decide +kernel
theorem dd_prog_25m5_86 : decode prog_25_method_5_code 86 = .ok (.bipush 64, 2) := by decide +kernel
theorem dd_prog_25m5_88 : decode prog_25_method_5_code 88 = .ok (.idiv, 1) := by decide +kernel
theorem dd_prog_25m5_89 : decode prog_25_method_5_code 89 = .ok (.laload, 1) := by decide +kernel
theorem dd_prog_25m5_90 : decode prog_25_method_5_code 90 = .ok (.iload 7, 2) := by decide +kernel
theorem dd_prog_25m5_92 : decode prog_25_method_5_code 92 = .ok (.lushr, 1) := by decide +kernel
theorem dd_prog_25m5_93 : decode prog_25_method_5_code 93 = .ok (.lconst 1, 1) := by decide +kernel
theorem dd_prog_25m5_94 : decode prog_25_method_5_code 94 = .ok (.land, 1) := by decide +kernel
theorem dd_prog_25m5_95 : decode prog_25_method_5_code 95 = .ok (.lconst 0, 1) := by decide +kernel
theorem dd_prog_25m5_96 : decode prog_25_method_5_code 96 = .ok (.lcmp, 1) := by decide +kernel
theorem dd_prog_25m5_97 : decode prog_25_method_5_code 97 = .ok (.ifCond .ne 17, 3) := by decide +kernel
theorem dd_prog_25m5_100 : decode prog_25_method_5_code 100 = .ok (.aload_n 3, 1) := by decide +kernel
theorem dd_prog_25m5_101 : decode prog_25_method_5_code 101 = .ok (.iload 5, 2) := by decide +kernel
theorem dd_prog_25m5_103 : decode prog_25_method_5_code 103 = .ok (.iinc 5 1, 3) := by decide +kernel
theorem dd_prog_25m5_106 : decode prog_25_method_5_code 106 = .ok (.aload_n 2, 1) := by decide +kernel
theorem dd_prog_25m5_107 : decode prog_25_method_5_code 107 = .ok (.iload 7, 2) := by decide +kernel
theorem dd_prog_25m5_109 : decode prog_25_method_5_code 109 = .ok (.iaload, 1) := by decide +kernel
theorem dd_prog_25m5_110 : decode prog_25_method_5_code 110 = .ok (.iastore, 1) := by decide +kernel
theorem dd_prog_25m5_111 : decode prog_25_method_5_code 111 = .ok (.goto 34, 3) := by decide +kernel
theorem dd_prog_25m5_145 : decode prog_25_method_5_code 145 = .ok (.iinc 7 1, 3) := by decide +kernel
theorem dd_prog_25m5_148 : decode prog_25_method_5_code 148 = .ok (.goto (-80), 3) := by decide +kernel
theorem dd_prog_25m5_114 : decode prog_25_method_5_code 114 = .ok (.aload_n 1, 1) := by decide +kernel
theorem dd_prog_25m5_115 : decode prog_25_method_5_code 115 = .ok (.aload_n 2, 1) := by decide +kernel
theorem dd_prog_25m5_116 : decode prog_25_method_5_code 116 = .ok (.iload 7, 2) := by decide +kernel
theorem dd_prog_25m5_118 : decode prog_25_method_5_code 118 = .ok (.iaload, 1) := by decide +kernel
theorem dd_prog_25m5_119 : decode prog_25_method_5_code 119 = .ok (.dup2, 1) := by decide +kernel
theorem dd_prog_25m5_120 : decode prog_25_method_5_code 120 = .ok (.iaload, 1) := by decide +kernel
theorem dd_prog_25m5_121 : decode prog_25_method_5_code 121 = .ok (.iconst 1, 1) := by decide +kernel
theorem dd_prog_25m5_122 : decode prog_25_method_5_code 122 = .ok (.aload_n 0, 1) := by decide +kernel
theorem dd_prog_25m5_123 : decode prog_25_method_5_code 123 = .ok (.getfield 19, 3) := by decide +kernel
theorem dd_prog_25m5_126 : decode prog_25_method_5_code 126 = .ok (.iconst 1, 1) := by decide +kernel
theorem dd_prog_25m5_127 : decode prog_25_method_5_code 127 = .ok (.isub, 1) := by decide +kernel
theorem dd_prog_25m5_128 : decode prog_25_method_5_code 128 = .ok (.iload 4, 2) := by decide +kernel
theorem dd_prog_25m5_130 : decode prog_25_method_5_code 130 = .ok (.isub, 1) := by decide +kernel
theorem dd_prog_25m5_131 : decode prog_25_method_5_code 131 = .ok (.ishl, 1) := by decide +kernel
theorem dd_prog_25m5_132 : decode prog_25_method_5_code 132 = .ok (.ior, 1) := by decide +kernel
theorem dd_prog_25m5_133 : decode prog_25_method_5_code 133 = .ok (.iastore, 1) := by decide +kernel
theorem dd_prog_25m5_134 : decode prog_25_method_5_code 134 = .ok (.aload_n 3, 1) := by decide +kernel
theorem dd_prog_25m5_135 : decode prog_25_method_5_code 135 = .ok (.iload 6, 2) := by decide +kernel
theorem dd_prog_25m5_137 : decode prog_25_method_5_code 137 = .ok (.iinc 6 1, 3) := by decide +kernel
theorem dd_prog_25m5_140 : decode prog_25_method_5_code 140 = .ok (.aload_n 2, 1) := by decide +kernel
theorem dd_prog_25m5_141 : decode prog_25_method_5_code 141 = .ok (.iload 7, 2) := by decide +kernel
theorem dd_prog_25m5_143 : decode prog_25_method_5_code 143 = .ok (.iaload, 1) := by decide +kernel
theorem dd_prog_25m5_144 : decode prog_25_method_5_code 144 = .ok (.iastore, 1) := by decide +kernel
theorem dd_prog_25m5_24 : decode prog_25_method_5_code 24 = .ok (.aload_n 2, 1) := by decide +kernel
theorem dd_prog_25m5_25 : decode prog_25_method_5_code 25 = .ok (.iload_n 3, 1) := by decide +kernel
theorem dd_prog_25m5_26 : decode prog_25_method_5_code 26 = .ok (.iload_n 3, 1) := by decide +kernel
theorem dd_prog_25m5_27 : decode prog_25_method_5_code 27 = .ok (.iastore, 1) := by decide +kernel
theorem dd_prog_25m5_28 : decode prog_25_method_5_code 28 = .ok (.iinc 3 1, 3) := by decide +kernel
theorem dd_prog_25m5_31 : decode prog_25_method_5_code 31 = .ok (.goto (-15), 3) := by decide +kernel
theorem ef_own_nu (m : MethodId) (z0 : Addr) : entryFrame m #[(.ref z0)] 8 = mkF m 0 #[.val (.ref z0), .unset, .unset, .unset, .unset, .unset, .unset, .unset] [] := by first | (simp [entryFrame, mkF, argsToLocals, Value.category]; done) | rfl
def Q_own_nu (Z : State) (a : Addr) (vv : Addr) (cc : Addr) (n : Nat) (d : Nat) (gf : Nat → Int32) (GV : Nat → Value) (h0 : Heap) (n0 : Nat) (zv : Option Value) (zh : Heap) (zL : List Loc) : Prop := ∃ rb : Addr, zv = some (.ref rb) ∧ Fr n0 zL ∧ Keep h0 zh [] ∧ h0.size ≤ rb ∧ own_A Z zh rb .int n (fun q => .int ((own_nl gf d n d).1 q))
set_option maxRecDepth 65536 in
set_option maxHeartbeats 40000000 in
theorem own_nu (l : Launch) (Z : State) (a0 : Array Value) (hw : ∀ d ∈ tables_1, d.before a0 Z = true) (ws : List Jvm.Cond) (a : Addr) (vv : Addr) (cc : Addr) (n : Nat) (d : Nat) (gf : Nat → Int32) (GV : Nat → Value) (h0 : Heap) (n0 : Nat) (Z0 : n0 ≤ h0.size) (p0_ : Exa Z h0 a "com/example/orderly_results/orderlyresults/engine/WaveletMatrix") (p1_ : Fld Z h0 a "com/example/orderly_results/orderlyresults/engine/WaveletMatrix" "bits" "I" (.int (Int32.ofNat d))) (p2_ : Fld Z h0 a "com/example/orderly_results/orderlyresults/engine/WaveletMatrix" "size" "I" (.int (Int32.ofNat n))) (p3_ : Fld Z h0 a "com/example/orderly_results/orderlyresults/engine/WaveletMatrix" "vectors" "[[J" (.ref vv)) (p4_ : Fld Z h0 a "com/example/orderly_results/orderlyresults/engine/WaveletMatrix" "clear" "[I" (.ref cc)) (p5_ : own_RA Z h0 vv .long "[J" d GV) (p6_ : own_A Z h0 cc .int d (fun q => .int ((own_clr gf d n d) q))) (p7_ : own_Fam Z h0 0 d (n / 64 + 1) GV (own_VV gf d n)) (p8_ : n ≤ 255) (p9_ : d ≤ 31) :
    MetFree l (⟨"com/example/orderly_results/orderlyresults/engine/WaveletMatrix", "numbers", "()[I"⟩ : MethodName) (head1 (Jvm.Cond.code (⟨"com/example/orderly_results/orderlyresults/engine/WaveletMatrix", "numbers", "()[I"⟩ : MethodName) prog_25_method_5_code 8 (some (.array .int)) :: ws) ({ frames := 0, cells := 3, slots := 765, locals := 0 } : Room)) (fun za zU => za = #[(.ref a)] ∧ Z.Warmed39 zU.vm ∧ zU.heap = h0) (fun _ _ _ _ _ => True) (fun _ zU zo zU' => ∃ zv zL, zo = .returned zv ∧ Q_own_nu Z a vv cc n d gf GV h0 n0 zv zU'.heap zL ∧ FrameEnd zU zo zU' zL ({ frames := 0, cells := 3, slots := 765, locals := 0 } : Room).cells ({ frames := 0, cells := 3, slots := 765, locals := 0 } : Room).slots) := by
  refine own_met (y := (⟨"com/example/orderly_results/orderlyresults/engine/WaveletMatrix", "numbers", "()[I"⟩ : MethodName)) own_pn6 ?_
  intro p e s m below meth c T0 hx hby hml hown hnm hret hlk hZ e0 X0
  have N0 := Fr.nil n0
  refine own_st (fun zt zk => castTop (ef_own_nu m a) zk) ?_
  show own_G p e below s _ _ _ (T0.setTop (mkF m 0 #[.val (.ref a), .unset, .unset, .unset, .unset, .unset, .unset, .unset] []))
  refine own_st (fun zt zk => XS.aloadN X0.here hx rfl (hb hby dd_prog_25m5_0) rfl rfl zk) ?_
  show own_G p e below s _ _ _ (T0.setTop (mkF m 1 #[.val (.ref a), .unset, .unset, .unset, .unset, .unset, .unset, .unset] [(.ref a)]))
  obtain ⟨T1, X1, e1, st1⟩ := getF X0 hx hZ hown (host := "") (Or.inl (hw _ (List.mem_of_getElem? (i := 23) rfl))) Via.refl e0 p2_ (g := (mkF m 1 #[.val (.ref a), .unset, .unset, .unset, .unset, .unset, .unset, .unset] [(.ref a)])) rfl rfl (hb hby dd_prog_25m5_1)
  refine own_st st1 ?_
  show own_G p e below s _ _ _ (T1.setTop (mkF m 4 #[.val (.ref a), .unset, .unset, .unset, .unset, .unset, .unset, .unset] [(.int (Int32.ofNat n))]))
  obtain ⟨T2, h2, X2, e2, E2, V2, st2⟩ := own_newP X1 hx hZ (aty := .int) (hw _ (List.mem_of_getElem? (i := 5) rfl)) e1 (g := (mkF m 4 #[.val (.ref a), .unset, .unset, .unset, .unset, .unset, .unset, .unset] [(.int (Int32.ofNat n))])) rfl (hb hby dd_prog_25m5_4) rfl (n := n) (own_tO p8_) (cap := 255) p8_ (by decide) (by decide) (by decide)
  obtain ⟨b2, g2⟩ : ∃ z, z = h0.size := ⟨_, rfl⟩
  rw [← g2] at V2 st2
  have ne2_a : a ≠ b2 := by rw [g2]; exact Nat.ne_of_lt p0_.lt
  have ne2_vv : vv ≠ b2 := by rw [g2]; exact Nat.ne_of_lt p5_.lt
  have ne2_cc : cc ≠ b2 := by rw [g2]; exact Nat.ne_of_lt p6_.lt
  have ge2 : n0 ≤ b2 := Nat.le_trans Z0 (Nat.le_of_eq g2.symm)
  have sz2 : h0.size ≤ b2 := Nat.le_trans (Nat.le_refl h0.size) (Nat.le_of_eq g2.symm)
  have V2a : own_A Z h2 b2 .int n (fun q => .int ((fun _ => (0 : Int32)) q)) := V2
  refine own_st st2 ?_
  show own_G p e below s _ _ _ (T2.setTop (mkF m 6 #[.val (.ref a), .unset, .unset, .unset, .unset, .unset, .unset, .unset] [(.ref b2)]))
  refine own_st (fun zt zk => XS.astoreN X2.here hx rfl (hb hby dd_prog_25m5_6) rfl rfl (l' := #[.val (.ref a), .val (.ref b2), .unset, .unset, .unset, .unset, .unset, .unset]) rfl zk) ?_
  show own_G p e below s _ _ _ (T2.setTop (mkF m 7 #[.val (.ref a), .val (.ref b2), .unset, .unset, .unset, .unset, .unset, .unset] []))
  refine own_st (fun zt zk => XS.aloadN X2.here hx rfl (hb hby dd_prog_25m5_7) rfl rfl zk) ?_
  show own_G p e below s _ _ _ (T2.setTop (mkF m 8 #[.val (.ref a), .val (.ref b2), .unset, .unset, .unset, .unset, .unset, .unset] [(.ref a)]))
  have F3 : Fld Z h2 a "com/example/orderly_results/orderlyresults/engine/WaveletMatrix" "size" "I" (.int (Int32.ofNat n)) := (p2_.ext E2)
  obtain ⟨T4, X4, e4, st4⟩ := getF X2 hx hZ hown (host := "") (Or.inl (hw _ (List.mem_of_getElem? (i := 23) rfl))) Via.refl e2 F3 (g := (mkF m 8 #[.val (.ref a), .val (.ref b2), .unset, .unset, .unset, .unset, .unset, .unset] [(.ref a)])) rfl rfl (hb hby dd_prog_25m5_8)
  refine own_st st4 ?_
  show own_G p e below s _ _ _ (T4.setTop (mkF m 11 #[.val (.ref a), .val (.ref b2), .unset, .unset, .unset, .unset, .unset, .unset] [(.int (Int32.ofNat n))]))
  have E6 : Exa Z h2 a "com/example/orderly_results/orderlyresults/engine/WaveletMatrix" := (p0_.ext E2)
  have V7 : own_RA Z h2 vv .long "[J" d GV := (p5_.ext E2)
  have V8 : own_A Z h2 cc .int d (fun q => .int ((own_clr gf d n d) q)) := (p6_.ext E2)
  obtain ⟨T5, h5, X5, e5, E5, V5, st5⟩ := own_newP X4 hx hZ (aty := .int) (hw _ (List.mem_of_getElem? (i := 5) rfl)) e4 (g := (mkF m 11 #[.val (.ref a), .val (.ref b2), .unset, .unset, .unset, .unset, .unset, .unset] [(.int (Int32.ofNat n))])) rfl (hb hby dd_prog_25m5_11) rfl (n := n) (own_tO p8_) (cap := 255) p8_ (by decide) (by decide) (by decide)
  obtain ⟨b5, g5⟩ : ∃ z, z = h2.size := ⟨_, rfl⟩
  rw [← g5] at V5 st5
  have ne5_a : a ≠ b5 := by rw [g5]; exact Nat.ne_of_lt E6.lt
  have ne5_vv : vv ≠ b5 := by rw [g5]; exact Nat.ne_of_lt V7.lt
  have ne5_cc : cc ≠ b5 := by rw [g5]; exact Nat.ne_of_lt V8.lt
  have ne5_b2 : b2 ≠ b5 := by rw [g5]; exact Nat.ne_of_lt V2a.lt
  have ge5 : n0 ≤ b5 := Nat.le_trans (Nat.le_trans Z0 E2.1) (Nat.le_of_eq g5.symm)
  have sz5 : h0.size ≤ b5 := Nat.le_trans (Nat.le_trans (Nat.le_refl h0.size) E2.1) (Nat.le_of_eq g5.symm)
  have V5a : own_A Z h5 b5 .int n (fun q => .int ((fun _ => (0 : Int32)) q)) := V5
  refine own_st st5 ?_
  show own_G p e below s _ _ _ (T5.setTop (mkF m 13 #[.val (.ref a), .val (.ref b2), .unset, .unset, .unset, .unset, .unset, .unset] [(.ref b5)]))
  refine own_st (fun zt zk => XS.astoreN X5.here hx rfl (hb hby dd_prog_25m5_13) rfl rfl (l' := #[.val (.ref a), .val (.ref b2), .val (.ref b5), .unset, .unset, .unset, .unset, .unset]) rfl zk) ?_
  show own_G p e below s _ _ _ (T5.setTop (mkF m 14 #[.val (.ref a), .val (.ref b2), .val (.ref b5), .unset, .unset, .unset, .unset, .unset] []))
  refine own_st (fun zt zk => XS.iconst X5.here hx rfl (hb hby dd_prog_25m5_14) zk) ?_
  show own_G p e below s _ _ _ (T5.setTop (mkF m 15 #[.val (.ref a), .val (.ref b2), .val (.ref b5), .unset, .unset, .unset, .unset, .unset] [(.int (0 : Int32))]))
  refine own_st (fun zt zk => XS.istoreN X5.here hx rfl (hb hby dd_prog_25m5_15) rfl (l' := #[.val (.ref a), .val (.ref b2), .val (.ref b5), .val (.int (0 : Int32)), .unset, .unset, .unset, .unset]) rfl zk) ?_
  show own_G p e below s _ _ _ (T5.setTop (mkF m 16 #[.val (.ref a), .val (.ref b2), .val (.ref b5), .val (.int (0 : Int32)), .unset, .unset, .unset, .unset] []))
  have hL1 : ∀ (fu1 : Nat) (i : Nat) (T1 : State) (hp1 : Heap) (locs1 : List Loc) (X1 : Stand p l e ({ frames := 0, cells := 3, slots := 765, locals := 0 } : Room) s m #[(.ref a)] below meth c T1 locs1 2 510) (e1 : T1.heap = hp1) (N1 : Fr n0 locs1) (K1 : Keep h0 hp1 []) (B0 : own_A Z hp1 b2 .int n (fun q => .int ((fun _ => (0 : Int32)) q))) (B1 : own_A Z hp1 b5 .int n (fun q => .int ((own_fil i) q))) (hm1 : i + fu1 = n), own_G p e below s (Q_own_nu Z a vv cc n d gf GV h0 n0) ({ frames := 0, cells := 3, slots := 765, locals := 0 } : Room).cells ({ frames := 0, cells := 3, slots := 765, locals := 0 } : Room).slots (T1.setTop (mkF m 16 #[.val (.ref a), .val (.ref b2), .val (.ref b5), .val (.int (Int32.ofNat i)), .unset, .unset, .unset, .unset] [])) := by
    intro fu1
    induction fu1 with
    | zero =>
      intro i T1 hp1 locs1 X1 e1 N1 K1 B0 B1 hm1
      have hin : n = i := hm1.symm
      subst hin
      show own_G p e below s _ _ _ (T1.setTop (mkF m 16 #[.val (.ref a), .val (.ref b2), .val (.ref b5), .val (.int (Int32.ofNat n)), .unset, .unset, .unset, .unset] []))
      refine own_st (fun zt zk => XS.iloadN X1.here hx rfl (hb hby dd_prog_25m5_16) rfl zk) ?_
      show own_G p e below s _ _ _ (T1.setTop (mkF m 17 #[.val (.ref a), .val (.ref b2), .val (.ref b5), .val (.int (Int32.ofNat n)), .unset, .unset, .unset, .unset] [(.int (Int32.ofNat n))]))
      refine own_st (fun zt zk => XS.aloadN X1.here hx rfl (hb hby dd_prog_25m5_17) rfl rfl zk) ?_
      show own_G p e below s _ _ _ (T1.setTop (mkF m 18 #[.val (.ref a), .val (.ref b2), .val (.ref b5), .val (.int (Int32.ofNat n)), .unset, .unset, .unset, .unset] [(.ref a), (.int (Int32.ofNat n))]))
      obtain ⟨T9, X9, e9, st9⟩ := getF X1 hx hZ hown (host := "") (Or.inl (hw _ (List.mem_of_getElem? (i := 23) rfl))) Via.refl e1 (p2_.keep K1 nin0) (g := (mkF m 18 #[.val (.ref a), .val (.ref b2), .val (.ref b5), .val (.int (Int32.ofNat n)), .unset, .unset, .unset, .unset] [(.ref a), (.int (Int32.ofNat n))])) rfl rfl (hb hby dd_prog_25m5_18)
      refine own_st st9 ?_
      show own_G p e below s _ _ _ (T9.setTop (mkF m 21 #[.val (.ref a), .val (.ref b2), .val (.ref b5), .val (.int (Int32.ofNat n)), .unset, .unset, .unset, .unset] [(.int (Int32.ofNat n)), (.int (Int32.ofNat n))]))
      refine own_st (fun zt zk => XS.icmpYes X9.here hx rfl (pc0 := 21) (pc' := 34) rfl (hb hby dd_prog_25m5_21) rfl (flt (Int32.lt_irrefl : ¬ ((Int32.ofNat n) < (Int32.ofNat n)))).2.1 (by decide) (by decide) zk) ?_
      show own_G p e below s _ _ _ (T9.setTop (mkF m 34 #[.val (.ref a), .val (.ref b2), .val (.ref b5), .val (.int (Int32.ofNat n)), .unset, .unset, .unset, .unset] []))
      refine own_st (fun zt zk => XS.aloadN X9.here hx rfl (hb hby dd_prog_25m5_34) rfl rfl zk) ?_
      show own_G p e below s _ _ _ (T9.setTop (mkF m 35 #[.val (.ref a), .val (.ref b2), .val (.ref b5), .val (.int (Int32.ofNat n)), .unset, .unset, .unset, .unset] [(.ref a)]))
      obtain ⟨T10, X10, e10, st10⟩ := getF X9 hx hZ hown (host := "") (Or.inl (hw _ (List.mem_of_getElem? (i := 23) rfl))) Via.refl e9 (p2_.keep K1 nin0) (g := (mkF m 35 #[.val (.ref a), .val (.ref b2), .val (.ref b5), .val (.int (Int32.ofNat n)), .unset, .unset, .unset, .unset] [(.ref a)])) rfl rfl (hb hby dd_prog_25m5_35)
      refine own_st st10 ?_
      show own_G p e below s _ _ _ (T10.setTop (mkF m 38 #[.val (.ref a), .val (.ref b2), .val (.ref b5), .val (.int (Int32.ofNat n)), .unset, .unset, .unset, .unset] [(.int (Int32.ofNat n))]))
      obtain ⟨T11, h11, X11, e11, E11, V11, st11⟩ := own_newP X10 hx hZ (aty := .int) (hw _ (List.mem_of_getElem? (i := 5) rfl)) e10 (g := (mkF m 38 #[.val (.ref a), .val (.ref b2), .val (.ref b5), .val (.int (Int32.ofNat n)), .unset, .unset, .unset, .unset] [(.int (Int32.ofNat n))])) rfl (hb hby dd_prog_25m5_38) rfl (n := n) (own_tO p8_) (cap := 255) p8_ (by decide) (by decide) (by decide)
      obtain ⟨b11, g11⟩ : ∃ z, z = hp1.size := ⟨_, rfl⟩
      rw [← g11] at V11 st11
      have ne11_a : a ≠ b11 := by rw [g11]; exact Nat.ne_of_lt (p0_.keep K1).lt
      have ne11_b2 : b2 ≠ b11 := by rw [g11]; exact Nat.ne_of_lt B0.lt
      have ne11_b5 : b5 ≠ b11 := by rw [g11]; exact Nat.ne_of_lt B1.lt
      have ne11_vv : vv ≠ b11 := by rw [g11]; exact Nat.ne_of_lt (p5_.keep K1 nin0).lt
      have ne11_cc : cc ≠ b11 := by rw [g11]; exact Nat.ne_of_lt (p6_.keep K1 nin0).lt
      have ge11 : n0 ≤ b11 := Nat.le_trans (Nat.le_trans Z0 K1.1) (Nat.le_of_eq g11.symm)
      have sz11 : h0.size ≤ b11 := Nat.le_trans K1.1 (Nat.le_of_eq g11.symm)
      have V11a : own_A Z h11 b11 .int n (fun q => .int ((fun _ => (0 : Int32)) q)) := V11
      refine own_st st11 ?_
      show own_G p e below s _ _ _ (T11.setTop (mkF m 40 #[.val (.ref a), .val (.ref b2), .val (.ref b5), .val (.int (Int32.ofNat n)), .unset, .unset, .unset, .unset] [(.ref b11)]))
      refine own_st (fun zt zk => XS.astoreN X11.here hx rfl (hb hby dd_prog_25m5_40) rfl rfl (l' := #[.val (.ref a), .val (.ref b2), .val (.ref b5), .val (.ref b11), .unset, .unset, .unset, .unset]) rfl zk) ?_
      show own_G p e below s _ _ _ (T11.setTop (mkF m 41 #[.val (.ref a), .val (.ref b2), .val (.ref b5), .val (.ref b11), .unset, .unset, .unset, .unset] []))
      refine own_st (fun zt zk => XS.iconst X11.here hx rfl (hb hby dd_prog_25m5_41) zk) ?_
      show own_G p e below s _ _ _ (T11.setTop (mkF m 42 #[.val (.ref a), .val (.ref b2), .val (.ref b5), .val (.ref b11), .unset, .unset, .unset, .unset] [(.int (0 : Int32))]))
      refine own_st (fun zt zk => XS.istore X11.here hx rfl (hb hby dd_prog_25m5_42) rfl (l' := #[.val (.ref a), .val (.ref b2), .val (.ref b5), .val (.ref b11), .val (.int (0 : Int32)), .unset, .unset, .unset]) rfl zk) ?_
      show own_G p e below s _ _ _ (T11.setTop (mkF m 44 #[.val (.ref a), .val (.ref b2), .val (.ref b5), .val (.ref b11), .val (.int (0 : Int32)), .unset, .unset, .unset] []))
      have hL2 : ∀ (fu : Nat) (L : Nat) (oa : Addr) (na : Addr) (sa : Slot) (sb : Slot) (sc : Slot) (T1 : State) (hp1 : Heap) (locs1 : List Loc) (X1 : Stand p l e ({ frames := 0, cells := 3, slots := 765, locals := 0 } : Room) s m #[(.ref a)] below meth c T1 locs1 3 765) (e1 : T1.heap = hp1) (N1 : Fr n0 locs1) (K1 : Keep h0 hp1 []) (B0 : own_A Z hp1 b2 .int n (fun q => .int ((own_nl gf d n L).1 q))) (B1 : own_A Z hp1 oa .int n (fun q => .int ((own_oi (own_nl gf d n L).2.1) q))) (B2 : own_A Z hp1 na .int n (fun q => .int ((own_oi (own_nl gf d n L).2.2) q))) (hsw : (oa = b5 ∧ na = b11) ∨ (oa = b11 ∧ na = b5)) (hsa : own_sl sa) (hsb : own_sl sb) (hsc : own_sl sc) (hm : L + fu = d), own_G p e below s (Q_own_nu Z a vv cc n d gf GV h0 n0) ({ frames := 0, cells := 3, slots := 765, locals := 0 } : Room).cells ({ frames := 0, cells := 3, slots := 765, locals := 0 } : Room).slots (T1.setTop (mkF m 44 #[.val (.ref a), .val (.ref b2), .val (.ref oa), .val (.ref na), .val (.int (Int32.ofNat L)), sa, sb, sc] [])) := by
        intro fu
        induction fu with
        | zero =>
          intro L oa na sa sb sc T1 hp1 locs1 X1 e1 N1 K1 B0 B1 B2 hsw hsa hsb hsc hm
          have nw_b : oa ≠ b2 ∧ na ≠ b2 := own_sw (P := fun z => z ≠ b2) hsw (Ne.symm ne5_b2) (Ne.symm ne11_b2)
          have nw_o : oa ≠ na := own_swn hsw ne11_b5
          have nge : n0 ≤ oa ∧ n0 ≤ na := own_sw (P := fun z => n0 ≤ z) hsw ge5 ge11
          have nsz : h0.size ≤ oa ∧ h0.size ≤ na := own_sw (P := fun z => h0.size ≤ z) hsw sz5 sz11
          have hLd : d = L := hm.symm
          subst hLd
          show own_G p e below s _ _ _ (T1.setTop (mkF m 44 #[.val (.ref a), .val (.ref b2), .val (.ref oa), .val (.ref na), .val (.int (Int32.ofNat d)), sa, sb, sc] []))
          refine own_st (fun zt zk => XS.iload X1.here hx rfl (hb hby dd_prog_25m5_44) rfl zk) ?_
          show own_G p e below s _ _ _ (T1.setTop (mkF m 46 #[.val (.ref a), .val (.ref b2), .val (.ref oa), .val (.ref na), .val (.int (Int32.ofNat d)), sa, sb, sc] [(.int (Int32.ofNat d))]))
          refine own_st (fun zt zk => XS.aloadN X1.here hx rfl (hb hby dd_prog_25m5_46) rfl rfl zk) ?_
          show own_G p e below s _ _ _ (T1.setTop (mkF m 47 #[.val (.ref a), .val (.ref b2), .val (.ref oa), .val (.ref na), .val (.int (Int32.ofNat d)), sa, sb, sc] [(.ref a), (.int (Int32.ofNat d))]))
          obtain ⟨T12, X12, e12, st12⟩ := getF X1 hx hZ hown (host := "") (Or.inl (hw _ (List.mem_of_getElem? (i := 21) rfl))) Via.refl e1 (p1_.keep K1 nin0) (g := (mkF m 47 #[.val (.ref a), .val (.ref b2), .val (.ref oa), .val (.ref na), .val (.int (Int32.ofNat d)), sa, sb, sc] [(.ref a), (.int (Int32.ofNat d))])) rfl rfl (hb hby dd_prog_25m5_47)
          refine own_st st12 ?_
          show own_G p e below s _ _ _ (T12.setTop (mkF m 50 #[.val (.ref a), .val (.ref b2), .val (.ref oa), .val (.ref na), .val (.int (Int32.ofNat d)), sa, sb, sc] [(.int (Int32.ofNat d)), (.int (Int32.ofNat d))]))
          refine own_st (fun zt zk => XS.icmpYes X12.here hx rfl (pc0 := 50) (pc' := 165) rfl (hb hby dd_prog_25m5_50) rfl (flt (Int32.lt_irrefl : ¬ ((Int32.ofNat d) < (Int32.ofNat d)))).2.1 (by decide) (by decide) zk) ?_
          show own_G p e below s _ _ _ (T12.setTop (mkF m 165 #[.val (.ref a), .val (.ref b2), .val (.ref oa), .val (.ref na), .val (.int (Int32.ofNat d)), sa, sb, sc] []))
          refine own_st (fun zt zk => XS.aloadN X12.here hx rfl (hb hby dd_prog_25m5_165) rfl rfl zk) ?_
          show own_G p e below s _ _ _ (T12.setTop (mkF m 166 #[.val (.ref a), .val (.ref b2), .val (.ref oa), .val (.ref na), .val (.int (Int32.ofNat d)), sa, sb, sc] [(.ref b2)]))
          refine own_retA X12 hx hlk hret rfl rfl (hb hby dd_prog_25m5_166) (by decide) (by decide) ?_
          show Q_own_nu Z a vv cc n d gf GV h0 n0 (some (.ref b2)) T12.heap _
          rw [e12]
          exact ⟨b2, rfl, N1, K1, sz2, B0⟩
        | succ fu ih =>
          intro L oa na sa sb sc T1 hp1 locs1 X1 e1 N1 K1 B0 B1 B2 hsw hsa hsb hsc hm
          have nw_b : oa ≠ b2 ∧ na ≠ b2 := own_sw (P := fun z => z ≠ b2) hsw (Ne.symm ne5_b2) (Ne.symm ne11_b2)
          have nw_o : oa ≠ na := own_swn hsw ne11_b5
          have nge : n0 ≤ oa ∧ n0 ≤ na := own_sw (P := fun z => n0 ≤ z) hsw ge5 ge11
          have nsz : h0.size ≤ oa ∧ h0.size ≤ na := own_sw (P := fun z => h0.size ≤ z) hsw sz5 sz11
          have hlt : L < d := own_lta hm
          have hL : L ≤ 255 := own_l25 hlt p9_
          obtain ⟨xv, gx1, -, gx3⟩ := p7_ L hlt
          show own_G p e below s _ _ _ (T1.setTop (mkF m 44 #[.val (.ref a), .val (.ref b2), .val (.ref oa), .val (.ref na), .val (.int (Int32.ofNat L)), sa, sb, sc] []))
          refine own_st (fun zt zk => XS.iload X1.here hx rfl (hb hby dd_prog_25m5_44) rfl zk) ?_
          show own_G p e below s _ _ _ (T1.setTop (mkF m 46 #[.val (.ref a), .val (.ref b2), .val (.ref oa), .val (.ref na), .val (.int (Int32.ofNat L)), sa, sb, sc] [(.int (Int32.ofNat L))]))
          refine own_st (fun zt zk => XS.aloadN X1.here hx rfl (hb hby dd_prog_25m5_46) rfl rfl zk) ?_
          show own_G p e below s _ _ _ (T1.setTop (mkF m 47 #[.val (.ref a), .val (.ref b2), .val (.ref oa), .val (.ref na), .val (.int (Int32.ofNat L)), sa, sb, sc] [(.ref a), (.int (Int32.ofNat L))]))
          obtain ⟨T13, X13, e13, st13⟩ := getF X1 hx hZ hown (host := "") (Or.inl (hw _ (List.mem_of_getElem? (i := 21) rfl))) Via.refl e1 (p1_.keep K1 nin0) (g := (mkF m 47 #[.val (.ref a), .val (.ref b2), .val (.ref oa), .val (.ref na), .val (.int (Int32.ofNat L)), sa, sb, sc] [(.ref a), (.int (Int32.ofNat L))])) rfl rfl (hb hby dd_prog_25m5_47)
          refine own_st st13 ?_
          show own_G p e below s _ _ _ (T13.setTop (mkF m 50 #[.val (.ref a), .val (.ref b2), .val (.ref oa), .val (.ref na), .val (.int (Int32.ofNat L)), sa, sb, sc] [(.int (Int32.ofNat d)), (.int (Int32.ofNat L))]))
          have hc50_14 : (Int32.ofNat L) < (Int32.ofNat d) := (own_ltO hL (own_l31 p9_)).mpr hlt
          refine own_st (fun zt zk => XS.icmpNo X13.here hx rfl (hb hby dd_prog_25m5_50) rfl (tlt hc50_14).2.1 zk) ?_
          show own_G p e below s _ _ _ (T13.setTop (mkF m 53 #[.val (.ref a), .val (.ref b2), .val (.ref oa), .val (.ref na), .val (.int (Int32.ofNat L)), sa, sb, sc] []))
          refine own_st (fun zt zk => XS.iconst X13.here hx rfl (hb hby dd_prog_25m5_53) zk) ?_
          show own_G p e below s _ _ _ (T13.setTop (mkF m 54 #[.val (.ref a), .val (.ref b2), .val (.ref oa), .val (.ref na), .val (.int (Int32.ofNat L)), sa, sb, sc] [(.int (0 : Int32))]))
          refine own_st (fun zt zk => XS.istore X13.here hx rfl (hb hby dd_prog_25m5_54) rfl (l' := #[.val (.ref a), .val (.ref b2), .val (.ref oa), .val (.ref na), .val (.int (Int32.ofNat L)), .val (.int (0 : Int32)), sb, sc]) (by rcases hsa with q | ⟨z, q⟩ | ⟨z, q⟩ <;> subst q <;> rfl) zk) ?_
          show own_G p e below s _ _ _ (T13.setTop (mkF m 56 #[.val (.ref a), .val (.ref b2), .val (.ref oa), .val (.ref na), .val (.int (Int32.ofNat L)), .val (.int (0 : Int32)), sb, sc] []))
          refine own_st (fun zt zk => XS.aloadN X13.here hx rfl (hb hby dd_prog_25m5_56) rfl rfl zk) ?_
          show own_G p e below s _ _ _ (T13.setTop (mkF m 57 #[.val (.ref a), .val (.ref b2), .val (.ref oa), .val (.ref na), .val (.int (Int32.ofNat L)), .val (.int (0 : Int32)), sb, sc] [(.ref a)]))
          obtain ⟨T15, X15, e15, st15⟩ := getF X13 hx hZ hown (host := "") (Or.inl (hw _ (List.mem_of_getElem? (i := 33) rfl))) Via.refl e13 (p4_.keep K1 nin0) (g := (mkF m 57 #[.val (.ref a), .val (.ref b2), .val (.ref oa), .val (.ref na), .val (.int (Int32.ofNat L)), .val (.int (0 : Int32)), sb, sc] [(.ref a)])) rfl rfl (hb hby dd_prog_25m5_57)
          refine own_st st15 ?_
          show own_G p e below s _ _ _ (T15.setTop (mkF m 60 #[.val (.ref a), .val (.ref b2), .val (.ref oa), .val (.ref na), .val (.int (Int32.ofNat L)), .val (.int (0 : Int32)), sb, sc] [(.ref cc)]))
          refine own_st (fun zt zk => XS.iload X15.here hx rfl (hb hby dd_prog_25m5_60) rfl zk) ?_
          show own_G p e below s _ _ _ (T15.setTop (mkF m 62 #[.val (.ref a), .val (.ref b2), .val (.ref oa), .val (.ref na), .val (.int (Int32.ofNat L)), .val (.int (0 : Int32)), sb, sc] [(.int (Int32.ofNat L)), (.ref cc)]))
          refine own_st (own_iaload X15 hx hZ e15 (p6_.keep K1 nin0) (own_tO hL) hlt (.int (Int32.ofNat (own_c0 (own_lv gf d n L).1 (own_bb d L) n))) (congrArg Value.int (own_clr_at gf d n hlt)) (g := (mkF m 62 #[.val (.ref a), .val (.ref b2), .val (.ref oa), .val (.ref na), .val (.int (Int32.ofNat L)), .val (.int (0 : Int32)), sb, sc] [(.int (Int32.ofNat L)), (.ref cc)])) rfl rfl (hb hby dd_prog_25m5_62)) ?_
          show own_G p e below s _ _ _ (T15.setTop (mkF m 63 #[.val (.ref a), .val (.ref b2), .val (.ref oa), .val (.ref na), .val (.int (Int32.ofNat L)), .val (.int (0 : Int32)), sb, sc] [(.int (Int32.ofNat (own_c0 (own_lv gf d n L).1 (own_bb d L) n)))]))
          refine own_st (fun zt zk => XS.istore X15.here hx rfl (hb hby dd_prog_25m5_63) rfl (l' := #[.val (.ref a), .val (.ref b2), .val (.ref oa), .val (.ref na), .val (.int (Int32.ofNat L)), .val (.int (0 : Int32)), .val (.int (Int32.ofNat (own_c0 (own_lv gf d n L).1 (own_bb d L) n))), sc]) (by rcases hsb with q | ⟨z, q⟩ | ⟨z, q⟩ <;> subst q <;> rfl) zk) ?_
          show own_G p e below s _ _ _ (T15.setTop (mkF m 65 #[.val (.ref a), .val (.ref b2), .val (.ref oa), .val (.ref na), .val (.int (Int32.ofNat L)), .val (.int (0 : Int32)), .val (.int (Int32.ofNat (own_c0 (own_lv gf d n L).1 (own_bb d L) n))), sc] []))
          refine own_st (fun zt zk => XS.iconst X15.here hx rfl (hb hby dd_prog_25m5_65) zk) ?_
          show own_G p e below s _ _ _ (T15.setTop (mkF m 66 #[.val (.ref a), .val (.ref b2), .val (.ref oa), .val (.ref na), .val (.int (Int32.ofNat L)), .val (.int (0 : Int32)), .val (.int (Int32.ofNat (own_c0 (own_lv gf d n L).1 (own_bb d L) n))), sc] [(.int (0 : Int32))]))
          refine own_st (fun zt zk => XS.istore X15.here hx rfl (hb hby dd_prog_25m5_66) rfl (l' := #[.val (.ref a), .val (.ref b2), .val (.ref oa), .val (.ref na), .val (.int (Int32.ofNat L)), .val (.int (0 : Int32)), .val (.int (Int32.ofNat (own_c0 (own_lv gf d n L).1 (own_bb d L) n))), .val (.int (0 : Int32))]) (by rcases hsc with q | ⟨z, q⟩ | ⟨z, q⟩ <;> subst q <;> rfl) zk) ?_
          show own_G p e below s _ _ _ (T15.setTop (mkF m 68 #[.val (.ref a), .val (.ref b2), .val (.ref oa), .val (.ref na), .val (.int (Int32.ofNat L)), .val (.int (0 : Int32)), .val (.int (Int32.ofNat (own_c0 (own_lv gf d n L).1 (own_bb d L) n))), .val (.int (0 : Int32))] []))
          have hL3 : ∀ (fu3 : Nat) (j : Nat) (T1 : State) (hp1 : Heap) (locs1 : List Loc) (X1 : Stand p l e ({ frames := 0, cells := 3, slots := 765, locals := 0 } : Room) s m #[(.ref a)] below meth c T1 locs1 3 765) (e1 : T1.heap = hp1) (N1 : Fr n0 locs1) (K1 : Keep h0 hp1 []) (B0 : own_A Z hp1 b2 .int n (fun q => .int ((own_sN (own_lv gf d n L).1 (own_bb d L) (own_nl gf d n L).2.1 (own_nl gf d n L).1 j) q))) (B1 : own_A Z hp1 oa .int n (fun q => .int ((own_oi (own_nl gf d n L).2.1) q))) (B2 : own_A Z hp1 na .int n (fun q => .int ((own_oi (own_sX (own_lv gf d n L).1 (own_bb d L) n (own_nl gf d n L).2.1 (own_nl gf d n L).2.2 j)) q))) (hm3 : j + fu3 = n), own_G p e below s (Q_own_nu Z a vv cc n d gf GV h0 n0) ({ frames := 0, cells := 3, slots := 765, locals := 0 } : Room).cells ({ frames := 0, cells := 3, slots := 765, locals := 0 } : Room).slots (T1.setTop (mkF m 68 #[.val (.ref a), .val (.ref b2), .val (.ref oa), .val (.ref na), .val (.int (Int32.ofNat L)), .val (.int (Int32.ofNat (own_c0 (own_lv gf d n L).1 (own_bb d L) j))), .val (.int (Int32.ofNat (own_c0 (own_lv gf d n L).1 (own_bb d L) n + own_c1 (own_lv gf d n L).1 (own_bb d L) j))), .val (.int (Int32.ofNat j))] [])) := by
            intro fu3
            induction fu3 with
            | zero =>
              intro j T1 hp1 locs1 X1 e1 N1 K1 B0 B1 B2 hm3
              have hjn : n = j := hm3.symm
              subst hjn
              show own_G p e below s _ _ _ (T1.setTop (mkF m 68 #[.val (.ref a), .val (.ref b2), .val (.ref oa), .val (.ref na), .val (.int (Int32.ofNat L)), .val (.int (Int32.ofNat (own_c0 (own_lv gf d n L).1 (own_bb d L) n))), .val (.int (Int32.ofNat (own_c0 (own_lv gf d n L).1 (own_bb d L) n + own_c1 (own_lv gf d n L).1 (own_bb d L) n))), .val (.int (Int32.ofNat n))] []))
              refine own_st (fun zt zk => XS.iload X1.here hx rfl (hb hby dd_prog_25m5_68) rfl zk) ?_
              show own_G p e below s _ _ _ (T1.setTop (mkF m 70 #[.val (.ref a), .val (.ref b2), .val (.ref oa), .val (.ref na), .val (.int (Int32.ofNat L)), .val (.int (Int32.ofNat (own_c0 (own_lv gf d n L).1 (own_bb d L) n))), .val (.int (Int32.ofNat (own_c0 (own_lv gf d n L).1 (own_bb d L) n + own_c1 (own_lv gf d n L).1 (own_bb d L) n))), .val (.int (Int32.ofNat n))] [(.int (Int32.ofNat n))]))
              refine own_st (fun zt zk => XS.aloadN X1.here hx rfl (hb hby dd_prog_25m5_70) rfl rfl zk) ?_
              show own_G p e below s _ _ _ (T1.setTop (mkF m 71 #[.val (.ref a), .val (.ref b2), .val (.ref oa), .val (.ref na), .val (.int (Int32.ofNat L)), .val (.int (Int32.ofNat (own_c0 (own_lv gf d n L).1 (own_bb d L) n))), .val (.int (Int32.ofNat (own_c0 (own_lv gf d n L).1 (own_bb d L) n + own_c1 (own_lv gf d n L).1 (own_bb d L) n))), .val (.int (Int32.ofNat n))] [(.ref a), (.int (Int32.ofNat n))]))
              obtain ⟨T16, X16, e16, st16⟩ := getF X1 hx hZ hown (host := "") (Or.inl (hw _ (List.mem_of_getElem? (i := 23) rfl))) Via.refl e1 (p2_.keep K1 nin0) (g := (mkF m 71 #[.val (.ref a), .val (.ref b2), .val (.ref oa), .val (.ref na), .val (.int (Int32.ofNat L)), .val (.int (Int32.ofNat (own_c0 (own_lv gf d n L).1 (own_bb d L) n))), .val (.int (Int32.ofNat (own_c0 (own_lv gf d n L).1 (own_bb d L) n + own_c1 (own_lv gf d n L).1 (own_bb d L) n))), .val (.int (Int32.ofNat n))] [(.ref a), (.int (Int32.ofNat n))])) rfl rfl (hb hby dd_prog_25m5_71)
              refine own_st st16 ?_
              show own_G p e below s _ _ _ (T16.setTop (mkF m 74 #[.val (.ref a), .val (.ref b2), .val (.ref oa), .val (.ref na), .val (.int (Int32.ofNat L)), .val (.int (Int32.ofNat (own_c0 (own_lv gf d n L).1 (own_bb d L) n))), .val (.int (Int32.ofNat (own_c0 (own_lv gf d n L).1 (own_bb d L) n + own_c1 (own_lv gf d n L).1 (own_bb d L) n))), .val (.int (Int32.ofNat n))] [(.int (Int32.ofNat n)), (.int (Int32.ofNat n))]))
              refine own_st (fun zt zk => XS.icmpYes X16.here hx rfl (pc0 := 74) (pc' := 151) rfl (hb hby dd_prog_25m5_74) rfl (flt (Int32.lt_irrefl : ¬ ((Int32.ofNat n) < (Int32.ofNat n)))).2.1 (by decide) (by decide) zk) ?_
              show own_G p e below s _ _ _ (T16.setTop (mkF m 151 #[.val (.ref a), .val (.ref b2), .val (.ref oa), .val (.ref na), .val (.int (Int32.ofNat L)), .val (.int (Int32.ofNat (own_c0 (own_lv gf d n L).1 (own_bb d L) n))), .val (.int (Int32.ofNat (own_c0 (own_lv gf d n L).1 (own_bb d L) n + own_c1 (own_lv gf d n L).1 (own_bb d L) n))), .val (.int (Int32.ofNat n))] []))
              refine own_st (fun zt zk => XS.aloadN X16.here hx rfl (hb hby dd_prog_25m5_151) rfl rfl zk) ?_
              show own_G p e below s _ _ _ (T16.setTop (mkF m 152 #[.val (.ref a), .val (.ref b2), .val (.ref oa), .val (.ref na), .val (.int (Int32.ofNat L)), .val (.int (Int32.ofNat (own_c0 (own_lv gf d n L).1 (own_bb d L) n))), .val (.int (Int32.ofNat (own_c0 (own_lv gf d n L).1 (own_bb d L) n + own_c1 (own_lv gf d n L).1 (own_bb d L) n))), .val (.int (Int32.ofNat n))] [(.ref oa)]))
              refine own_st (fun zt zk => XS.astore X16.here hx rfl (hb hby dd_prog_25m5_152) rfl rfl (l' := #[.val (.ref a), .val (.ref b2), .val (.ref oa), .val (.ref na), .val (.int (Int32.ofNat L)), .val (.int (Int32.ofNat (own_c0 (own_lv gf d n L).1 (own_bb d L) n))), .val (.int (Int32.ofNat (own_c0 (own_lv gf d n L).1 (own_bb d L) n + own_c1 (own_lv gf d n L).1 (own_bb d L) n))), .val (.ref oa)]) rfl zk) ?_
              show own_G p e below s _ _ _ (T16.setTop (mkF m 154 #[.val (.ref a), .val (.ref b2), .val (.ref oa), .val (.ref na), .val (.int (Int32.ofNat L)), .val (.int (Int32.ofNat (own_c0 (own_lv gf d n L).1 (own_bb d L) n))), .val (.int (Int32.ofNat (own_c0 (own_lv gf d n L).1 (own_bb d L) n + own_c1 (own_lv gf d n L).1 (own_bb d L) n))), .val (.ref oa)] []))
              refine own_st (fun zt zk => XS.aloadN X16.here hx rfl (hb hby dd_prog_25m5_154) rfl rfl zk) ?_
              show own_G p e below s _ _ _ (T16.setTop (mkF m 155 #[.val (.ref a), .val (.ref b2), .val (.ref oa), .val (.ref na), .val (.int (Int32.ofNat L)), .val (.int (Int32.ofNat (own_c0 (own_lv gf d n L).1 (own_bb d L) n))), .val (.int (Int32.ofNat (own_c0 (own_lv gf d n L).1 (own_bb d L) n + own_c1 (own_lv gf d n L).1 (own_bb d L) n))), .val (.ref oa)] [(.ref na)]))
              refine own_st (fun zt zk => XS.astoreN X16.here hx rfl (hb hby dd_prog_25m5_155) rfl rfl (l' := #[.val (.ref a), .val (.ref b2), .val (.ref na), .val (.ref na), .val (.int (Int32.ofNat L)), .val (.int (Int32.ofNat (own_c0 (own_lv gf d n L).1 (own_bb d L) n))), .val (.int (Int32.ofNat (own_c0 (own_lv gf d n L).1 (own_bb d L) n + own_c1 (own_lv gf d n L).1 (own_bb d L) n))), .val (.ref oa)]) rfl zk) ?_
              show own_G p e below s _ _ _ (T16.setTop (mkF m 156 #[.val (.ref a), .val (.ref b2), .val (.ref na), .val (.ref na), .val (.int (Int32.ofNat L)), .val (.int (Int32.ofNat (own_c0 (own_lv gf d n L).1 (own_bb d L) n))), .val (.int (Int32.ofNat (own_c0 (own_lv gf d n L).1 (own_bb d L) n + own_c1 (own_lv gf d n L).1 (own_bb d L) n))), .val (.ref oa)] []))
              refine own_st (fun zt zk => XS.aload X16.here hx rfl (hb hby dd_prog_25m5_156) rfl rfl zk) ?_
              show own_G p e below s _ _ _ (T16.setTop (mkF m 158 #[.val (.ref a), .val (.ref b2), .val (.ref na), .val (.ref na), .val (.int (Int32.ofNat L)), .val (.int (Int32.ofNat (own_c0 (own_lv gf d n L).1 (own_bb d L) n))), .val (.int (Int32.ofNat (own_c0 (own_lv gf d n L).1 (own_bb d L) n + own_c1 (own_lv gf d n L).1 (own_bb d L) n))), .val (.ref oa)] [(.ref oa)]))
              refine own_st (fun zt zk => XS.astoreN X16.here hx rfl (hb hby dd_prog_25m5_158) rfl rfl (l' := #[.val (.ref a), .val (.ref b2), .val (.ref na), .val (.ref oa), .val (.int (Int32.ofNat L)), .val (.int (Int32.ofNat (own_c0 (own_lv gf d n L).1 (own_bb d L) n))), .val (.int (Int32.ofNat (own_c0 (own_lv gf d n L).1 (own_bb d L) n + own_c1 (own_lv gf d n L).1 (own_bb d L) n))), .val (.ref oa)]) rfl zk) ?_
              show own_G p e below s _ _ _ (T16.setTop (mkF m 159 #[.val (.ref a), .val (.ref b2), .val (.ref na), .val (.ref oa), .val (.int (Int32.ofNat L)), .val (.int (Int32.ofNat (own_c0 (own_lv gf d n L).1 (own_bb d L) n))), .val (.int (Int32.ofNat (own_c0 (own_lv gf d n L).1 (own_bb d L) n + own_c1 (own_lv gf d n L).1 (own_bb d L) n))), .val (.ref oa)] []))
              refine own_st (fun zt zk => XS.iinc X16.here hx rfl (hb hby dd_prog_25m5_159) rfl (l' := #[.val (.ref a), .val (.ref b2), .val (.ref na), .val (.ref oa), .val (.int ((Int32.ofNat L) + (1 : Int32))), .val (.int (Int32.ofNat (own_c0 (own_lv gf d n L).1 (own_bb d L) n))), .val (.int (Int32.ofNat (own_c0 (own_lv gf d n L).1 (own_bb d L) n + own_c1 (own_lv gf d n L).1 (own_bb d L) n))), .val (.ref oa)]) rfl zk) ?_
              show own_G p e below s _ _ _ (T16.setTop (mkF m 162 #[.val (.ref a), .val (.ref b2), .val (.ref na), .val (.ref oa), .val (.int ((Int32.ofNat L) + (1 : Int32))), .val (.int (Int32.ofNat (own_c0 (own_lv gf d n L).1 (own_bb d L) n))), .val (.int (Int32.ofNat (own_c0 (own_lv gf d n L).1 (own_bb d L) n + own_c1 (own_lv gf d n L).1 (own_bb d L) n))), .val (.ref oa)] []))
              refine own_st (fun zt zk => XS.goto X16.here hx rfl (pc0 := 162) (pc' := 44) rfl (hb hby dd_prog_25m5_162) (by decide) (by decide) zk) ?_
              show own_G p e below s _ _ _ (T16.setTop (mkF m 44 #[.val (.ref a), .val (.ref b2), .val (.ref na), .val (.ref oa), .val (.int ((Int32.ofNat L) + (1 : Int32))), .val (.int (Int32.ofNat (own_c0 (own_lv gf d n L).1 (own_bb d L) n))), .val (.int (Int32.ofNat (own_c0 (own_lv gf d n L).1 (own_bb d L) n + own_c1 (own_lv gf d n L).1 (own_bb d L) n))), .val (.ref oa)] []))
              rw [own_ofS L]
              show own_G p e below s _ _ _ (T16.setTop (mkF m 44 #[.val (.ref a), .val (.ref b2), .val (.ref na), .val (.ref oa), .val (.int (Int32.ofNat (L + 1))), .val (.int (Int32.ofNat (own_c0 (own_lv gf d n L).1 (own_bb d L) n))), .val (.int (Int32.ofNat (own_c0 (own_lv gf d n L).1 (own_bb d L) n + own_c1 (own_lv gf d n L).1 (own_bb d L) n))), .val (.ref oa)] []))
              exact ih (L + 1) na oa (.val (.int (Int32.ofNat (own_c0 (own_lv gf d n L).1 (own_bb d L) n)))) (.val (.int (Int32.ofNat (own_c0 (own_lv gf d n L).1 (own_bb d L) n + own_c1 (own_lv gf d n L).1 (own_bb d L) n)))) (.val (.ref oa)) T16 hp1 _ X16 e16 N1 K1 B0 B2 B1 (own_swap hsw) (Or.inr (Or.inl ⟨_, rfl⟩)) (Or.inr (Or.inl ⟨_, rfl⟩)) (Or.inr (Or.inr ⟨_, rfl⟩)) (own_nxt hm)
            | succ fu3 ih3 =>
              intro j T1 hp1 locs1 X1 e1 N1 K1 B0 B1 B2 hm3
              have hlt3 : j < n := own_lta hm3
              have hj : j ≤ 255 := own_lle hlt3 p8_
              have hO : (own_nl gf d n L).2.1 j < n := ((own_nl_ok gf d n L).1 j hlt3).1
              show own_G p e below s _ _ _ (T1.setTop (mkF m 68 #[.val (.ref a), .val (.ref b2), .val (.ref oa), .val (.ref na), .val (.int (Int32.ofNat L)), .val (.int (Int32.ofNat (own_c0 (own_lv gf d n L).1 (own_bb d L) j))), .val (.int (Int32.ofNat (own_c0 (own_lv gf d n L).1 (own_bb d L) n + own_c1 (own_lv gf d n L).1 (own_bb d L) j))), .val (.int (Int32.ofNat j))] []))
              refine own_st (fun zt zk => XS.iload X1.here hx rfl (hb hby dd_prog_25m5_68) rfl zk) ?_
              show own_G p e below s _ _ _ (T1.setTop (mkF m 70 #[.val (.ref a), .val (.ref b2), .val (.ref oa), .val (.ref na), .val (.int (Int32.ofNat L)), .val (.int (Int32.ofNat (own_c0 (own_lv gf d n L).1 (own_bb d L) j))), .val (.int (Int32.ofNat (own_c0 (own_lv gf d n L).1 (own_bb d L) n + own_c1 (own_lv gf d n L).1 (own_bb d L) j))), .val (.int (Int32.ofNat j))] [(.int (Int32.ofNat j))]))
              refine own_st (fun zt zk => XS.aloadN X1.here hx rfl (hb hby dd_prog_25m5_70) rfl rfl zk) ?_
              show own_G p e below s _ _ _ (T1.setTop (mkF m 71 #[.val (.ref a), .val (.ref b2), .val (.ref oa), .val (.ref na), .val (.int (Int32.ofNat L)), .val (.int (Int32.ofNat (own_c0 (own_lv gf d n L).1 (own_bb d L) j))), .val (.int (Int32.ofNat (own_c0 (own_lv gf d n L).1 (own_bb d L) n + own_c1 (own_lv gf d n L).1 (own_bb d L) j))), .val (.int (Int32.ofNat j))] [(.ref a), (.int (Int32.ofNat j))]))
              obtain ⟨T17, X17, e17, st17⟩ := getF X1 hx hZ hown (host := "") (Or.inl (hw _ (List.mem_of_getElem? (i := 23) rfl))) Via.refl e1 (p2_.keep K1 nin0) (g := (mkF m 71 #[.val (.ref a), .val (.ref b2), .val (.ref oa), .val (.ref na), .val (.int (Int32.ofNat L)), .val (.int (Int32.ofNat (own_c0 (own_lv gf d n L).1 (own_bb d L) j))), .val (.int (Int32.ofNat (own_c0 (own_lv gf d n L).1 (own_bb d L) n + own_c1 (own_lv gf d n L).1 (own_bb d L) j))), .val (.int (Int32.ofNat j))] [(.ref a), (.int (Int32.ofNat j))])) rfl rfl (hb hby dd_prog_25m5_71)
              refine own_st st17 ?_
              show own_G p e below s _ _ _ (T17.setTop (mkF m 74 #[.val (.ref a), .val (.ref b2), .val (.ref oa), .val (.ref na), .val (.int (Int32.ofNat L)), .val (.int (Int32.ofNat (own_c0 (own_lv gf d n L).1 (own_bb d L) j))), .val (.int (Int32.ofNat (own_c0 (own_lv gf d n L).1 (own_bb d L) n + own_c1 (own_lv gf d n L).1 (own_bb d L) j))), .val (.int (Int32.ofNat j))] [(.int (Int32.ofNat n)), (.int (Int32.ofNat j))]))
              have hc74_18 : (Int32.ofNat j) < (Int32.ofNat n) := (own_ltO hj p8_).mpr hlt3
              refine own_st (fun zt zk => XS.icmpNo X17.here hx rfl (hb hby dd_prog_25m5_74) rfl (tlt hc74_18).2.1 zk) ?_
              show own_G p e below s _ _ _ (T17.setTop (mkF m 77 #[.val (.ref a), .val (.ref b2), .val (.ref oa), .val (.ref na), .val (.int (Int32.ofNat L)), .val (.int (Int32.ofNat (own_c0 (own_lv gf d n L).1 (own_bb d L) j))), .val (.int (Int32.ofNat (own_c0 (own_lv gf d n L).1 (own_bb d L) n + own_c1 (own_lv gf d n L).1 (own_bb d L) j))), .val (.int (Int32.ofNat j))] []))
              refine own_st (fun zt zk => XS.aloadN X17.here hx rfl (hb hby dd_prog_25m5_77) rfl rfl zk) ?_
              show own_G p e below s _ _ _ (T17.setTop (mkF m 78 #[.val (.ref a), .val (.ref b2), .val (.ref oa), .val (.ref na), .val (.int (Int32.ofNat L)), .val (.int (Int32.ofNat (own_c0 (own_lv gf d n L).1 (own_bb d L) j))), .val (.int (Int32.ofNat (own_c0 (own_lv gf d n L).1 (own_bb d L) n + own_c1 (own_lv gf d n L).1 (own_bb d L) j))), .val (.int (Int32.ofNat j))] [(.ref a)]))
              obtain ⟨T19, X19, e19, st19⟩ := getF X17 hx hZ hown (host := "") (Or.inl (hw _ (List.mem_of_getElem? (i := 27) rfl))) Via.refl e17 (p3_.keep K1 nin0) (g := (mkF m 78 #[.val (.ref a), .val (.ref b2), .val (.ref oa), .val (.ref na), .val (.int (Int32.ofNat L)), .val (.int (Int32.ofNat (own_c0 (own_lv gf d n L).1 (own_bb d L) j))), .val (.int (Int32.ofNat (own_c0 (own_lv gf d n L).1 (own_bb d L) n + own_c1 (own_lv gf d n L).1 (own_bb d L) j))), .val (.int (Int32.ofNat j))] [(.ref a)])) rfl rfl (hb hby dd_prog_25m5_78)
              refine own_st st19 ?_
              show own_G p e below s _ _ _ (T19.setTop (mkF m 81 #[.val (.ref a), .val (.ref b2), .val (.ref oa), .val (.ref na), .val (.int (Int32.ofNat L)), .val (.int (Int32.ofNat (own_c0 (own_lv gf d n L).1 (own_bb d L) j))), .val (.int (Int32.ofNat (own_c0 (own_lv gf d n L).1 (own_bb d L) n + own_c1 (own_lv gf d n L).1 (own_bb d L) j))), .val (.int (Int32.ofNat j))] [(.ref vv)]))
              refine own_st (fun zt zk => XS.iload X19.here hx rfl (hb hby dd_prog_25m5_81) rfl zk) ?_
              show own_G p e below s _ _ _ (T19.setTop (mkF m 83 #[.val (.ref a), .val (.ref b2), .val (.ref oa), .val (.ref na), .val (.int (Int32.ofNat L)), .val (.int (Int32.ofNat (own_c0 (own_lv gf d n L).1 (own_bb d L) j))), .val (.int (Int32.ofNat (own_c0 (own_lv gf d n L).1 (own_bb d L) n + own_c1 (own_lv gf d n L).1 (own_bb d L) j))), .val (.int (Int32.ofNat j))] [(.int (Int32.ofNat L)), (.ref vv)]))
              refine own_st (own_aaload X19 hx hZ e19 (p5_.keep K1 nin0).toA rfl (own_tO hL) hlt (.ref xv) gx1 (g := (mkF m 83 #[.val (.ref a), .val (.ref b2), .val (.ref oa), .val (.ref na), .val (.int (Int32.ofNat L)), .val (.int (Int32.ofNat (own_c0 (own_lv gf d n L).1 (own_bb d L) j))), .val (.int (Int32.ofNat (own_c0 (own_lv gf d n L).1 (own_bb d L) n + own_c1 (own_lv gf d n L).1 (own_bb d L) j))), .val (.int (Int32.ofNat j))] [(.int (Int32.ofNat L)), (.ref vv)])) rfl rfl (hb hby dd_prog_25m5_83)) ?_
              show own_G p e below s _ _ _ (T19.setTop (mkF m 84 #[.val (.ref a), .val (.ref b2), .val (.ref oa), .val (.ref na), .val (.int (Int32.ofNat L)), .val (.int (Int32.ofNat (own_c0 (own_lv gf d n L).1 (own_bb d L) j))), .val (.int (Int32.ofNat (own_c0 (own_lv gf d n L).1 (own_bb d L) n + own_c1 (own_lv gf d n L).1 (own_bb d L) j))), .val (.int (Int32.ofNat j))] [(.ref xv)]))
              refine own_st (fun zt zk => XS.iload X19.here hx rfl (hb hby dd_prog_25m5_84) rfl zk) ?_
              show own_G p e below s _ _ _ (T19.setTop (mkF m 86 #[.val (.ref a), .val (.ref b2), .val (.ref oa), .val (.ref na), .val (.int (Int32.ofNat L)), .val (.int (Int32.ofNat (own_c0 (own_lv gf d n L).1 (own_bb d L) j))), .val (.int (Int32.ofNat (own_c0 (own_lv gf d n L).1 (own_bb d L) n + own_c1 (own_lv gf d n L).1 (own_bb d L) j))), .val (.int (Int32.ofNat j))] [(.int (Int32.ofNat j)), (.ref xv)]))
              refine own_st (fun zt zk => XS.bipush X19.here hx rfl (hb hby dd_prog_25m5_86) zk) ?_
              show own_G p e below s _ _ _ (T19.setTop (mkF m 88 #[.val (.ref a), .val (.ref b2), .val (.ref oa), .val (.ref na), .val (.int (Int32.ofNat L)), .val (.int (Int32.ofNat (own_c0 (own_lv gf d n L).1 (own_bb d L) j))), .val (.int (Int32.ofNat (own_c0 (own_lv gf d n L).1 (own_bb d L) n + own_c1 (own_lv gf d n L).1 (own_bb d L) j))), .val (.int (Int32.ofNat j))] [(.int (64 : Int32)), (.int (Int32.ofNat j)), (.ref xv)]))
              refine own_st (fun zt zk => XS.idiv X19.here hx rfl (hb hby dd_prog_25m5_88) rfl (by decide) zk) ?_
              show own_G p e below s _ _ _ (T19.setTop (mkF m 89 #[.val (.ref a), .val (.ref b2), .val (.ref oa), .val (.ref na), .val (.int (Int32.ofNat L)), .val (.int (Int32.ofNat (own_c0 (own_lv gf d n L).1 (own_bb d L) j))), .val (.int (Int32.ofNat (own_c0 (own_lv gf d n L).1 (own_bb d L) n + own_c1 (own_lv gf d n L).1 (own_bb d L) j))), .val (.int (Int32.ofNat j))] [(.int ((Int32.ofNat j) / (64 : Int32))), (.ref xv)]))
              refine own_st (own_laload X19 hx hZ e19 (gx3.keep K1 nin0) (own_dvO hj 64 (by decide) (by decide)) (own_ix64 hlt3) (.long ((own_VV gf d n L) (j / 64))) rfl (g := (mkF m 89 #[.val (.ref a), .val (.ref b2), .val (.ref oa), .val (.ref na), .val (.int (Int32.ofNat L)), .val (.int (Int32.ofNat (own_c0 (own_lv gf d n L).1 (own_bb d L) j))), .val (.int (Int32.ofNat (own_c0 (own_lv gf d n L).1 (own_bb d L) n + own_c1 (own_lv gf d n L).1 (own_bb d L) j))), .val (.int (Int32.ofNat j))] [(.int ((Int32.ofNat j) / (64 : Int32))), (.ref xv)])) rfl rfl (hb hby dd_prog_25m5_89)) ?_
              show own_G p e below s _ _ _ (T19.setTop (mkF m 90 #[.val (.ref a), .val (.ref b2), .val (.ref oa), .val (.ref na), .val (.int (Int32.ofNat L)), .val (.int (Int32.ofNat (own_c0 (own_lv gf d n L).1 (own_bb d L) j))), .val (.int (Int32.ofNat (own_c0 (own_lv gf d n L).1 (own_bb d L) n + own_c1 (own_lv gf d n L).1 (own_bb d L) j))), .val (.int (Int32.ofNat j))] [(.long ((own_VV gf d n L) (j / 64)))]))
              refine own_st (fun zt zk => XS.iload X19.here hx rfl (hb hby dd_prog_25m5_90) rfl zk) ?_
              show own_G p e below s _ _ _ (T19.setTop (mkF m 92 #[.val (.ref a), .val (.ref b2), .val (.ref oa), .val (.ref na), .val (.int (Int32.ofNat L)), .val (.int (Int32.ofNat (own_c0 (own_lv gf d n L).1 (own_bb d L) j))), .val (.int (Int32.ofNat (own_c0 (own_lv gf d n L).1 (own_bb d L) n + own_c1 (own_lv gf d n L).1 (own_bb d L) j))), .val (.int (Int32.ofNat j))] [(.int (Int32.ofNat j)), (.long ((own_VV gf d n L) (j / 64)))]))
              refine own_st (fun zt zk => XS.lushr X19.here hx rfl (hb hby dd_prog_25m5_92) rfl zk) ?_
              show own_G p e below s _ _ _ (T19.setTop (mkF m 93 #[.val (.ref a), .val (.ref b2), .val (.ref oa), .val (.ref na), .val (.int (Int32.ofNat L)), .val (.int (Int32.ofNat (own_c0 (own_lv gf d n L).1 (own_bb d L) j))), .val (.int (Int32.ofNat (own_c0 (own_lv gf d n L).1 (own_bb d L) n + own_c1 (own_lv gf d n L).1 (own_bb d L) j))), .val (.int (Int32.ofNat j))] [(.long ((((own_VV gf d n L) (j / 64)).toUInt64 >>> ((Int32.ofNat j) &&& 0x3f).toInt64.toUInt64).toInt64))]))
              refine own_st (fun zt zk => XS.lconst X19.here hx rfl (hb hby dd_prog_25m5_93) zk) ?_
              show own_G p e below s _ _ _ (T19.setTop (mkF m 94 #[.val (.ref a), .val (.ref b2), .val (.ref oa), .val (.ref na), .val (.int (Int32.ofNat L)), .val (.int (Int32.ofNat (own_c0 (own_lv gf d n L).1 (own_bb d L) j))), .val (.int (Int32.ofNat (own_c0 (own_lv gf d n L).1 (own_bb d L) n + own_c1 (own_lv gf d n L).1 (own_bb d L) j))), .val (.int (Int32.ofNat j))] [(.long (1 : Int64)), (.long ((((own_VV gf d n L) (j / 64)).toUInt64 >>> ((Int32.ofNat j) &&& 0x3f).toInt64.toUInt64).toInt64))]))
              refine own_st (fun zt zk => XS.land X19.here hx rfl (hb hby dd_prog_25m5_94) rfl zk) ?_
              show own_G p e below s _ _ _ (T19.setTop (mkF m 95 #[.val (.ref a), .val (.ref b2), .val (.ref oa), .val (.ref na), .val (.int (Int32.ofNat L)), .val (.int (Int32.ofNat (own_c0 (own_lv gf d n L).1 (own_bb d L) j))), .val (.int (Int32.ofNat (own_c0 (own_lv gf d n L).1 (own_bb d L) n + own_c1 (own_lv gf d n L).1 (own_bb d L) j))), .val (.int (Int32.ofNat j))] [(.long (((((own_VV gf d n L) (j / 64)).toUInt64 >>> ((Int32.ofNat j) &&& 0x3f).toInt64.toUInt64).toInt64) &&& (1 : Int64)))]))
              refine own_st (fun zt zk => XS.lconst X19.here hx rfl (hb hby dd_prog_25m5_95) zk) ?_
              show own_G p e below s _ _ _ (T19.setTop (mkF m 96 #[.val (.ref a), .val (.ref b2), .val (.ref oa), .val (.ref na), .val (.int (Int32.ofNat L)), .val (.int (Int32.ofNat (own_c0 (own_lv gf d n L).1 (own_bb d L) j))), .val (.int (Int32.ofNat (own_c0 (own_lv gf d n L).1 (own_bb d L) n + own_c1 (own_lv gf d n L).1 (own_bb d L) j))), .val (.int (Int32.ofNat j))] [(.long (0 : Int64)), (.long (((((own_VV gf d n L) (j / 64)).toUInt64 >>> ((Int32.ofNat j) &&& 0x3f).toInt64.toUInt64).toInt64) &&& (1 : Int64)))]))
              refine own_st (fun zt zk => XS.lcmp X19.here hx rfl (hb hby dd_prog_25m5_96) rfl zk) ?_
              show own_G p e below s _ _ _ (T19.setTop (mkF m 97 #[.val (.ref a), .val (.ref b2), .val (.ref oa), .val (.ref na), .val (.int (Int32.ofNat L)), .val (.int (Int32.ofNat (own_c0 (own_lv gf d n L).1 (own_bb d L) j))), .val (.int (Int32.ofNat (own_c0 (own_lv gf d n L).1 (own_bb d L) n + own_c1 (own_lv gf d n L).1 (own_bb d L) j))), .val (.int (Int32.ofNat j))] [(.int (lcmpW (((((own_VV gf d n L) (j / 64)).toUInt64 >>> ((Int32.ofNat j) &&& 0x3f).toInt64.toUInt64).toInt64) &&& (1 : Int64)) (0 : Int64)))]))
              by_cases hc97_20 : (((((own_VV gf d n L) (j / 64)).toUInt64 >>> ((Int32.ofNat j) &&& 0x3f).toInt64.toUInt64).toInt64) &&& (1 : Int64)) = (0 : Int64)
              · refine own_st (fun zt zk => XS.ifNo X19.here hx rfl (hb hby dd_prog_25m5_97) rfl ((if0 _ _).trans (teq ((lw_eq (((((own_VV gf d n L) (j / 64)).toUInt64 >>> ((Int32.ofNat j) &&& 0x3f).toInt64.toUInt64).toInt64) &&& (1 : Int64)) (0 : Int64)).mpr hc97_20)).2) zk) ?_
                show own_G p e below s _ _ _ (T19.setTop (mkF m 100 #[.val (.ref a), .val (.ref b2), .val (.ref oa), .val (.ref na), .val (.int (Int32.ofNat L)), .val (.int (Int32.ofNat (own_c0 (own_lv gf d n L).1 (own_bb d L) j))), .val (.int (Int32.ofNat (own_c0 (own_lv gf d n L).1 (own_bb d L) n + own_c1 (own_lv gf d n L).1 (own_bb d L) j))), .val (.int (Int32.ofNat j))] []))
                have hbt : own_bt ((own_lv gf d n L).1 j) (own_bb d L) = 0 := (own_Vbit (own_lv gf d n L).1 (own_bb d L) (fun _ => (0 : Int64)) hlt3 (Nat.lt_of_le_of_lt p8_ (by decide))).mp hc97_20
                refine own_st (fun zt zk => XS.aloadN X19.here hx rfl (hb hby dd_prog_25m5_100) rfl rfl zk) ?_
                show own_G p e below s _ _ _ (T19.setTop (mkF m 101 #[.val (.ref a), .val (.ref b2), .val (.ref oa), .val (.ref na), .val (.int (Int32.ofNat L)), .val (.int (Int32.ofNat (own_c0 (own_lv gf d n L).1 (own_bb d L) j))), .val (.int (Int32.ofNat (own_c0 (own_lv gf d n L).1 (own_bb d L) n + own_c1 (own_lv gf d n L).1 (own_bb d L) j))), .val (.int (Int32.ofNat j))] [(.ref na)]))
                refine own_st (fun zt zk => XS.iload X19.here hx rfl (hb hby dd_prog_25m5_101) rfl zk) ?_
                show own_G p e below s _ _ _ (T19.setTop (mkF m 103 #[.val (.ref a), .val (.ref b2), .val (.ref oa), .val (.ref na), .val (.int (Int32.ofNat L)), .val (.int (Int32.ofNat (own_c0 (own_lv gf d n L).1 (own_bb d L) j))), .val (.int (Int32.ofNat (own_c0 (own_lv gf d n L).1 (own_bb d L) n + own_c1 (own_lv gf d n L).1 (own_bb d L) j))), .val (.int (Int32.ofNat j))] [(.int (Int32.ofNat (own_c0 (own_lv gf d n L).1 (own_bb d L) j))), (.ref na)]))
                refine own_st (fun zt zk => XS.iinc X19.here hx rfl (hb hby dd_prog_25m5_103) rfl (l' := #[.val (.ref a), .val (.ref b2), .val (.ref oa), .val (.ref na), .val (.int (Int32.ofNat L)), .val (.int ((Int32.ofNat (own_c0 (own_lv gf d n L).1 (own_bb d L) j)) + (1 : Int32))), .val (.int (Int32.ofNat (own_c0 (own_lv gf d n L).1 (own_bb d L) n + own_c1 (own_lv gf d n L).1 (own_bb d L) j))), .val (.int (Int32.ofNat j))]) rfl zk) ?_
                show own_G p e below s _ _ _ (T19.setTop (mkF m 106 #[.val (.ref a), .val (.ref b2), .val (.ref oa), .val (.ref na), .val (.int (Int32.ofNat L)), .val (.int ((Int32.ofNat (own_c0 (own_lv gf d n L).1 (own_bb d L) j)) + (1 : Int32))), .val (.int (Int32.ofNat (own_c0 (own_lv gf d n L).1 (own_bb d L) n + own_c1 (own_lv gf d n L).1 (own_bb d L) j))), .val (.int (Int32.ofNat j))] [(.int (Int32.ofNat (own_c0 (own_lv gf d n L).1 (own_bb d L) j))), (.ref na)]))
                refine own_st (fun zt zk => XS.aloadN X19.here hx rfl (hb hby dd_prog_25m5_106) rfl rfl zk) ?_
                show own_G p e below s _ _ _ (T19.setTop (mkF m 107 #[.val (.ref a), .val (.ref b2), .val (.ref oa), .val (.ref na), .val (.int (Int32.ofNat L)), .val (.int ((Int32.ofNat (own_c0 (own_lv gf d n L).1 (own_bb d L) j)) + (1 : Int32))), .val (.int (Int32.ofNat (own_c0 (own_lv gf d n L).1 (own_bb d L) n + own_c1 (own_lv gf d n L).1 (own_bb d L) j))), .val (.int (Int32.ofNat j))] [(.ref oa), (.int (Int32.ofNat (own_c0 (own_lv gf d n L).1 (own_bb d L) j))), (.ref na)]))
                refine own_st (fun zt zk => XS.iload X19.here hx rfl (hb hby dd_prog_25m5_107) rfl zk) ?_
                show own_G p e below s _ _ _ (T19.setTop (mkF m 109 #[.val (.ref a), .val (.ref b2), .val (.ref oa), .val (.ref na), .val (.int (Int32.ofNat L)), .val (.int ((Int32.ofNat (own_c0 (own_lv gf d n L).1 (own_bb d L) j)) + (1 : Int32))), .val (.int (Int32.ofNat (own_c0 (own_lv gf d n L).1 (own_bb d L) n + own_c1 (own_lv gf d n L).1 (own_bb d L) j))), .val (.int (Int32.ofNat j))] [(.int (Int32.ofNat j)), (.ref oa), (.int (Int32.ofNat (own_c0 (own_lv gf d n L).1 (own_bb d L) j))), (.ref na)]))
                refine own_st (own_iaload X19 hx hZ e19 B1 (own_tO hj) hlt3 (.int ((own_oi (own_nl gf d n L).2.1) j)) rfl (g := (mkF m 109 #[.val (.ref a), .val (.ref b2), .val (.ref oa), .val (.ref na), .val (.int (Int32.ofNat L)), .val (.int ((Int32.ofNat (own_c0 (own_lv gf d n L).1 (own_bb d L) j)) + (1 : Int32))), .val (.int (Int32.ofNat (own_c0 (own_lv gf d n L).1 (own_bb d L) n + own_c1 (own_lv gf d n L).1 (own_bb d L) j))), .val (.int (Int32.ofNat j))] [(.int (Int32.ofNat j)), (.ref oa), (.int (Int32.ofNat (own_c0 (own_lv gf d n L).1 (own_bb d L) j))), (.ref na)])) rfl rfl (hb hby dd_prog_25m5_109)) ?_
                show own_G p e below s _ _ _ (T19.setTop (mkF m 110 #[.val (.ref a), .val (.ref b2), .val (.ref oa), .val (.ref na), .val (.int (Int32.ofNat L)), .val (.int ((Int32.ofNat (own_c0 (own_lv gf d n L).1 (own_bb d L) j)) + (1 : Int32))), .val (.int (Int32.ofNat (own_c0 (own_lv gf d n L).1 (own_bb d L) n + own_c1 (own_lv gf d n L).1 (own_bb d L) j))), .val (.int (Int32.ofNat j))] [(.int ((own_oi (own_nl gf d n L).2.1) j)), (.int (Int32.ofNat (own_c0 (own_lv gf d n L).1 (own_bb d L) j))), (.ref na)]))
                obtain ⟨T21, h21, X21, e21, W21, V21, st21⟩ := own_iastore X19 hx hZ e19 B2 (i := (own_c0 (own_lv gf d n L).1 (own_bb d L) j)) (own_tO (own_ltF (own_x0 (own_lv gf d n L).1 (own_bb d L) hlt3) p8_)) (own_x0 (own_lv gf d n L).1 (own_bb d L) hlt3) (g := (mkF m 110 #[.val (.ref a), .val (.ref b2), .val (.ref oa), .val (.ref na), .val (.int (Int32.ofNat L)), .val (.int ((Int32.ofNat (own_c0 (own_lv gf d n L).1 (own_bb d L) j)) + (1 : Int32))), .val (.int (Int32.ofNat (own_c0 (own_lv gf d n L).1 (own_bb d L) n + own_c1 (own_lv gf d n L).1 (own_bb d L) j))), .val (.int (Int32.ofNat j))] [(.int ((own_oi (own_nl gf d n L).2.1) j)), (.int (Int32.ofNat (own_c0 (own_lv gf d n L).1 (own_bb d L) j))), (.ref na)])) rfl rfl (hb hby dd_prog_25m5_110)
                refine own_st st21 ?_
                have N21 := Fr.snoc X21 N1 nge.2
                have V21a : own_A Z h21 na .int n (fun q => .int ((own_up (own_oi (own_sX (own_lv gf d n L).1 (own_bb d L) n (own_nl gf d n L).2.1 (own_nl gf d n L).2.2 j)) (own_c0 (own_lv gf d n L).1 (own_bb d L) j) ((own_oi (own_nl gf d n L).2.1) j)) q)) := V21.congr (fun q _ => by simp only [own_up]; split <;> rfl)
                show own_G p e below s _ _ _ (T21.setTop (mkF m 111 #[.val (.ref a), .val (.ref b2), .val (.ref oa), .val (.ref na), .val (.int (Int32.ofNat L)), .val (.int ((Int32.ofNat (own_c0 (own_lv gf d n L).1 (own_bb d L) j)) + (1 : Int32))), .val (.int (Int32.ofNat (own_c0 (own_lv gf d n L).1 (own_bb d L) n + own_c1 (own_lv gf d n L).1 (own_bb d L) j))), .val (.int (Int32.ofNat j))] []))
                refine own_st (fun zt zk => XS.goto X21.here hx rfl (pc0 := 111) (pc' := 145) rfl (hb hby dd_prog_25m5_111) (by decide) (by decide) zk) ?_
                show own_G p e below s _ _ _ (T21.setTop (mkF m 145 #[.val (.ref a), .val (.ref b2), .val (.ref oa), .val (.ref na), .val (.int (Int32.ofNat L)), .val (.int ((Int32.ofNat (own_c0 (own_lv gf d n L).1 (own_bb d L) j)) + (1 : Int32))), .val (.int (Int32.ofNat (own_c0 (own_lv gf d n L).1 (own_bb d L) n + own_c1 (own_lv gf d n L).1 (own_bb d L) j))), .val (.int (Int32.ofNat j))] []))
                refine own_st (fun zt zk => XS.iinc X21.here hx rfl (hb hby dd_prog_25m5_145) rfl (l' := #[.val (.ref a), .val (.ref b2), .val (.ref oa), .val (.ref na), .val (.int (Int32.ofNat L)), .val (.int ((Int32.ofNat (own_c0 (own_lv gf d n L).1 (own_bb d L) j)) + (1 : Int32))), .val (.int (Int32.ofNat (own_c0 (own_lv gf d n L).1 (own_bb d L) n + own_c1 (own_lv gf d n L).1 (own_bb d L) j))), .val (.int ((Int32.ofNat j) + (1 : Int32)))]) rfl zk) ?_
                show own_G p e below s _ _ _ (T21.setTop (mkF m 148 #[.val (.ref a), .val (.ref b2), .val (.ref oa), .val (.ref na), .val (.int (Int32.ofNat L)), .val (.int ((Int32.ofNat (own_c0 (own_lv gf d n L).1 (own_bb d L) j)) + (1 : Int32))), .val (.int (Int32.ofNat (own_c0 (own_lv gf d n L).1 (own_bb d L) n + own_c1 (own_lv gf d n L).1 (own_bb d L) j))), .val (.int ((Int32.ofNat j) + (1 : Int32)))] []))
                refine own_st (fun zt zk => XS.goto X21.here hx rfl (pc0 := 148) (pc' := 68) rfl (hb hby dd_prog_25m5_148) (by decide) (by decide) zk) ?_
                show own_G p e below s _ _ _ (T21.setTop (mkF m 68 #[.val (.ref a), .val (.ref b2), .val (.ref oa), .val (.ref na), .val (.int (Int32.ofNat L)), .val (.int ((Int32.ofNat (own_c0 (own_lv gf d n L).1 (own_bb d L) j)) + (1 : Int32))), .val (.int (Int32.ofNat (own_c0 (own_lv gf d n L).1 (own_bb d L) n + own_c1 (own_lv gf d n L).1 (own_bb d L) j))), .val (.int ((Int32.ofNat j) + (1 : Int32)))] []))
                rw [own_k0 (own_lv gf d n L).1 (own_bb d L) hbt, own_k0' (own_lv gf d n L).1 (own_bb d L) hbt, own_ofS j]
                show own_G p e below s _ _ _ (T21.setTop (mkF m 68 #[.val (.ref a), .val (.ref b2), .val (.ref oa), .val (.ref na), .val (.int (Int32.ofNat L)), .val (.int (Int32.ofNat (own_c0 (own_lv gf d n L).1 (own_bb d L) (j + 1)))), .val (.int (Int32.ofNat (own_c0 (own_lv gf d n L).1 (own_bb d L) n + own_c1 (own_lv gf d n L).1 (own_bb d L) (j + 1)))), .val (.int (Int32.ofNat (j + 1)))] []))
                have V22 : own_A Z h21 b2 .int n (fun q => .int ((own_sN (own_lv gf d n L).1 (own_bb d L) (own_nl gf d n L).2.1 (own_nl gf d n L).1 j) q)) := (B0.other W21 (Ne.symm nw_b.2))
                have V23 : own_A Z h21 oa .int n (fun q => .int ((own_oi (own_nl gf d n L).2.1) q)) := (B1.other W21 nw_o)
                exact ih3 (j + 1) T21 h21 _ X21 e21 N21 (K1.wr W21 (Or.inr nsz.2)) (by rw [own_sN0 (own_lv gf d n L).1 (own_bb d L) hbt]; exact V22) V23 (by rw [← own_oi0 (own_lv gf d n L).1 (own_bb d L) hbt]; exact V21a) (own_nxt hm3)
              · refine own_st (fun zt zk => XS.ifYes X19.here hx rfl (pc0 := 97) (pc' := 114) rfl (hb hby dd_prog_25m5_97) rfl ((if0 _ _).trans (feq (mt (lw_eq (((((own_VV gf d n L) (j / 64)).toUInt64 >>> ((Int32.ofNat j) &&& 0x3f).toInt64.toUInt64).toInt64) &&& (1 : Int64)) (0 : Int64)).mp hc97_20)).2) (by decide) (by decide) zk) ?_
                show own_G p e below s _ _ _ (T19.setTop (mkF m 114 #[.val (.ref a), .val (.ref b2), .val (.ref oa), .val (.ref na), .val (.int (Int32.ofNat L)), .val (.int (Int32.ofNat (own_c0 (own_lv gf d n L).1 (own_bb d L) j))), .val (.int (Int32.ofNat (own_c0 (own_lv gf d n L).1 (own_bb d L) n + own_c1 (own_lv gf d n L).1 (own_bb d L) j))), .val (.int (Int32.ofNat j))] []))
                have hbt : ¬ own_bt ((own_lv gf d n L).1 j) (own_bb d L) = 0 := mt (own_Vbit (own_lv gf d n L).1 (own_bb d L) (fun _ => (0 : Int64)) hlt3 (Nat.lt_of_le_of_lt p8_ (by decide))).mpr hc97_20
                refine own_st (fun zt zk => XS.aloadN X19.here hx rfl (hb hby dd_prog_25m5_114) rfl rfl zk) ?_
                show own_G p e below s _ _ _ (T19.setTop (mkF m 115 #[.val (.ref a), .val (.ref b2), .val (.ref oa), .val (.ref na), .val (.int (Int32.ofNat L)), .val (.int (Int32.ofNat (own_c0 (own_lv gf d n L).1 (own_bb d L) j))), .val (.int (Int32.ofNat (own_c0 (own_lv gf d n L).1 (own_bb d L) n + own_c1 (own_lv gf d n L).1 (own_bb d L) j))), .val (.int (Int32.ofNat j))] [(.ref b2)]))
                refine own_st (fun zt zk => XS.aloadN X19.here hx rfl (hb hby dd_prog_25m5_115) rfl rfl zk) ?_
                show own_G p e below s _ _ _ (T19.setTop (mkF m 116 #[.val (.ref a), .val (.ref b2), .val (.ref oa), .val (.ref na), .val (.int (Int32.ofNat L)), .val (.int (Int32.ofNat (own_c0 (own_lv gf d n L).1 (own_bb d L) j))), .val (.int (Int32.ofNat (own_c0 (own_lv gf d n L).1 (own_bb d L) n + own_c1 (own_lv gf d n L).1 (own_bb d L) j))), .val (.int (Int32.ofNat j))] [(.ref oa), (.ref b2)]))
                refine own_st (fun zt zk => XS.iload X19.here hx rfl (hb hby dd_prog_25m5_116) rfl zk) ?_
                show own_G p e below s _ _ _ (T19.setTop (mkF m 118 #[.val (.ref a), .val (.ref b2), .val (.ref oa), .val (.ref na), .val (.int (Int32.ofNat L)), .val (.int (Int32.ofNat (own_c0 (own_lv gf d n L).1 (own_bb d L) j))), .val (.int (Int32.ofNat (own_c0 (own_lv gf d n L).1 (own_bb d L) n + own_c1 (own_lv gf d n L).1 (own_bb d L) j))), .val (.int (Int32.ofNat j))] [(.int (Int32.ofNat j)), (.ref oa), (.ref b2)]))
                refine own_st (own_iaload X19 hx hZ e19 B1 (own_tO hj) hlt3 (.int ((own_oi (own_nl gf d n L).2.1) j)) rfl (g := (mkF m 118 #[.val (.ref a), .val (.ref b2), .val (.ref oa), .val (.ref na), .val (.int (Int32.ofNat L)), .val (.int (Int32.ofNat (own_c0 (own_lv gf d n L).1 (own_bb d L) j))), .val (.int (Int32.ofNat (own_c0 (own_lv gf d n L).1 (own_bb d L) n + own_c1 (own_lv gf d n L).1 (own_bb d L) j))), .val (.int (Int32.ofNat j))] [(.int (Int32.ofNat j)), (.ref oa), (.ref b2)])) rfl rfl (hb hby dd_prog_25m5_118)) ?_
                show own_G p e below s _ _ _ (T19.setTop (mkF m 119 #[.val (.ref a), .val (.ref b2), .val (.ref oa), .val (.ref na), .val (.int (Int32.ofNat L)), .val (.int (Int32.ofNat (own_c0 (own_lv gf d n L).1 (own_bb d L) j))), .val (.int (Int32.ofNat (own_c0 (own_lv gf d n L).1 (own_bb d L) n + own_c1 (own_lv gf d n L).1 (own_bb d L) j))), .val (.int (Int32.ofNat j))] [(.int ((own_oi (own_nl gf d n L).2.1) j)), (.ref b2)]))
                refine own_st (fun zt zk => Jvm.Free.XT.dup2 X19.here hx rfl (hb hby dd_prog_25m5_119) rfl rfl rfl zk) ?_
                show own_G p e below s _ _ _ (T19.setTop (mkF m 120 #[.val (.ref a), .val (.ref b2), .val (.ref oa), .val (.ref na), .val (.int (Int32.ofNat L)), .val (.int (Int32.ofNat (own_c0 (own_lv gf d n L).1 (own_bb d L) j))), .val (.int (Int32.ofNat (own_c0 (own_lv gf d n L).1 (own_bb d L) n + own_c1 (own_lv gf d n L).1 (own_bb d L) j))), .val (.int (Int32.ofNat j))] [(.int ((own_oi (own_nl gf d n L).2.1) j)), (.ref b2), (.int ((own_oi (own_nl gf d n L).2.1) j)), (.ref b2)]))
                refine own_st (own_iaload X19 hx hZ e19 B0 (show (own_oi (own_nl gf d n L).2.1 j).toInt = ((own_nl gf d n L).2.1 j : Nat) from own_tO (own_ltF hO p8_)) hO (.int ((own_sN (own_lv gf d n L).1 (own_bb d L) (own_nl gf d n L).2.1 (own_nl gf d n L).1 j) ((own_nl gf d n L).2.1 j))) rfl (g := (mkF m 120 #[.val (.ref a), .val (.ref b2), .val (.ref oa), .val (.ref na), .val (.int (Int32.ofNat L)), .val (.int (Int32.ofNat (own_c0 (own_lv gf d n L).1 (own_bb d L) j))), .val (.int (Int32.ofNat (own_c0 (own_lv gf d n L).1 (own_bb d L) n + own_c1 (own_lv gf d n L).1 (own_bb d L) j))), .val (.int (Int32.ofNat j))] [(.int ((own_oi (own_nl gf d n L).2.1) j)), (.ref b2), (.int ((own_oi (own_nl gf d n L).2.1) j)), (.ref b2)])) rfl rfl (hb hby dd_prog_25m5_120)) ?_
                show own_G p e below s _ _ _ (T19.setTop (mkF m 121 #[.val (.ref a), .val (.ref b2), .val (.ref oa), .val (.ref na), .val (.int (Int32.ofNat L)), .val (.int (Int32.ofNat (own_c0 (own_lv gf d n L).1 (own_bb d L) j))), .val (.int (Int32.ofNat (own_c0 (own_lv gf d n L).1 (own_bb d L) n + own_c1 (own_lv gf d n L).1 (own_bb d L) j))), .val (.int (Int32.ofNat j))] [(.int ((own_sN (own_lv gf d n L).1 (own_bb d L) (own_nl gf d n L).2.1 (own_nl gf d n L).1 j) ((own_nl gf d n L).2.1 j))), (.int ((own_oi (own_nl gf d n L).2.1) j)), (.ref b2)]))
                refine own_st (fun zt zk => XS.iconst X19.here hx rfl (hb hby dd_prog_25m5_121) zk) ?_
                show own_G p e below s _ _ _ (T19.setTop (mkF m 122 #[.val (.ref a), .val (.ref b2), .val (.ref oa), .val (.ref na), .val (.int (Int32.ofNat L)), .val (.int (Int32.ofNat (own_c0 (own_lv gf d n L).1 (own_bb d L) j))), .val (.int (Int32.ofNat (own_c0 (own_lv gf d n L).1 (own_bb d L) n + own_c1 (own_lv gf d n L).1 (own_bb d L) j))), .val (.int (Int32.ofNat j))] [(.int (1 : Int32)), (.int ((own_sN (own_lv gf d n L).1 (own_bb d L) (own_nl gf d n L).2.1 (own_nl gf d n L).1 j) ((own_nl gf d n L).2.1 j))), (.int ((own_oi (own_nl gf d n L).2.1) j)), (.ref b2)]))
                refine own_st (fun zt zk => XS.aloadN X19.here hx rfl (hb hby dd_prog_25m5_122) rfl rfl zk) ?_
                show own_G p e below s _ _ _ (T19.setTop (mkF m 123 #[.val (.ref a), .val (.ref b2), .val (.ref oa), .val (.ref na), .val (.int (Int32.ofNat L)), .val (.int (Int32.ofNat (own_c0 (own_lv gf d n L).1 (own_bb d L) j))), .val (.int (Int32.ofNat (own_c0 (own_lv gf d n L).1 (own_bb d L) n + own_c1 (own_lv gf d n L).1 (own_bb d L) j))), .val (.int (Int32.ofNat j))] [(.ref a), (.int (1 : Int32)), (.int ((own_sN (own_lv gf d n L).1 (own_bb d L) (own_nl gf d n L).2.1 (own_nl gf d n L).1 j) ((own_nl gf d n L).2.1 j))), (.int ((own_oi (own_nl gf d n L).2.1) j)), (.ref b2)]))
                obtain ⟨T24, X24, e24, st24⟩ := getF X19 hx hZ hown (host := "") (Or.inl (hw _ (List.mem_of_getElem? (i := 21) rfl))) Via.refl e19 (p1_.keep K1 nin0) (g := (mkF m 123 #[.val (.ref a), .val (.ref b2), .val (.ref oa), .val (.ref na), .val (.int (Int32.ofNat L)), .val (.int (Int32.ofNat (own_c0 (own_lv gf d n L).1 (own_bb d L) j))), .val (.int (Int32.ofNat (own_c0 (own_lv gf d n L).1 (own_bb d L) n + own_c1 (own_lv gf d n L).1 (own_bb d L) j))), .val (.int (Int32.ofNat j))] [(.ref a), (.int (1 : Int32)), (.int ((own_sN (own_lv gf d n L).1 (own_bb d L) (own_nl gf d n L).2.1 (own_nl gf d n L).1 j) ((own_nl gf d n L).2.1 j))), (.int ((own_oi (own_nl gf d n L).2.1) j)), (.ref b2)])) rfl rfl (hb hby dd_prog_25m5_123)
                refine own_st st24 ?_
                show own_G p e below s _ _ _ (T24.setTop (mkF m 126 #[.val (.ref a), .val (.ref b2), .val (.ref oa), .val (.ref na), .val (.int (Int32.ofNat L)), .val (.int (Int32.ofNat (own_c0 (own_lv gf d n L).1 (own_bb d L) j))), .val (.int (Int32.ofNat (own_c0 (own_lv gf d n L).1 (own_bb d L) n + own_c1 (own_lv gf d n L).1 (own_bb d L) j))), .val (.int (Int32.ofNat j))] [(.int (Int32.ofNat d)), (.int (1 : Int32)), (.int ((own_sN (own_lv gf d n L).1 (own_bb d L) (own_nl gf d n L).2.1 (own_nl gf d n L).1 j) ((own_nl gf d n L).2.1 j))), (.int ((own_oi (own_nl gf d n L).2.1) j)), (.ref b2)]))
                refine own_st (fun zt zk => XS.iconst X24.here hx rfl (hb hby dd_prog_25m5_126) zk) ?_
                show own_G p e below s _ _ _ (T24.setTop (mkF m 127 #[.val (.ref a), .val (.ref b2), .val (.ref oa), .val (.ref na), .val (.int (Int32.ofNat L)), .val (.int (Int32.ofNat (own_c0 (own_lv gf d n L).1 (own_bb d L) j))), .val (.int (Int32.ofNat (own_c0 (own_lv gf d n L).1 (own_bb d L) n + own_c1 (own_lv gf d n L).1 (own_bb d L) j))), .val (.int (Int32.ofNat j))] [(.int (1 : Int32)), (.int (Int32.ofNat d)), (.int (1 : Int32)), (.int ((own_sN (own_lv gf d n L).1 (own_bb d L) (own_nl gf d n L).2.1 (own_nl gf d n L).1 j) ((own_nl gf d n L).2.1 j))), (.int ((own_oi (own_nl gf d n L).2.1) j)), (.ref b2)]))
                refine own_st (fun zt zk => XS.isub X24.here hx rfl (hb hby dd_prog_25m5_127) rfl zk) ?_
                show own_G p e below s _ _ _ (T24.setTop (mkF m 128 #[.val (.ref a), .val (.ref b2), .val (.ref oa), .val (.ref na), .val (.int (Int32.ofNat L)), .val (.int (Int32.ofNat (own_c0 (own_lv gf d n L).1 (own_bb d L) j))), .val (.int (Int32.ofNat (own_c0 (own_lv gf d n L).1 (own_bb d L) n + own_c1 (own_lv gf d n L).1 (own_bb d L) j))), .val (.int (Int32.ofNat j))] [(.int ((Int32.ofNat d) - (1 : Int32))), (.int (1 : Int32)), (.int ((own_sN (own_lv gf d n L).1 (own_bb d L) (own_nl gf d n L).2.1 (own_nl gf d n L).1 j) ((own_nl gf d n L).2.1 j))), (.int ((own_oi (own_nl gf d n L).2.1) j)), (.ref b2)]))
                refine own_st (fun zt zk => XS.iload X24.here hx rfl (hb hby dd_prog_25m5_128) rfl zk) ?_
                show own_G p e below s _ _ _ (T24.setTop (mkF m 130 #[.val (.ref a), .val (.ref b2), .val (.ref oa), .val (.ref na), .val (.int (Int32.ofNat L)), .val (.int (Int32.ofNat (own_c0 (own_lv gf d n L).1 (own_bb d L) j))), .val (.int (Int32.ofNat (own_c0 (own_lv gf d n L).1 (own_bb d L) n + own_c1 (own_lv gf d n L).1 (own_bb d L) j))), .val (.int (Int32.ofNat j))] [(.int (Int32.ofNat L)), (.int ((Int32.ofNat d) - (1 : Int32))), (.int (1 : Int32)), (.int ((own_sN (own_lv gf d n L).1 (own_bb d L) (own_nl gf d n L).2.1 (own_nl gf d n L).1 j) ((own_nl gf d n L).2.1 j))), (.int ((own_oi (own_nl gf d n L).2.1) j)), (.ref b2)]))
                refine own_st (fun zt zk => XS.isub X24.here hx rfl (hb hby dd_prog_25m5_130) rfl zk) ?_
                show own_G p e below s _ _ _ (T24.setTop (mkF m 131 #[.val (.ref a), .val (.ref b2), .val (.ref oa), .val (.ref na), .val (.int (Int32.ofNat L)), .val (.int (Int32.ofNat (own_c0 (own_lv gf d n L).1 (own_bb d L) j))), .val (.int (Int32.ofNat (own_c0 (own_lv gf d n L).1 (own_bb d L) n + own_c1 (own_lv gf d n L).1 (own_bb d L) j))), .val (.int (Int32.ofNat j))] [(.int (((Int32.ofNat d) - (1 : Int32)) - (Int32.ofNat L))), (.int (1 : Int32)), (.int ((own_sN (own_lv gf d n L).1 (own_bb d L) (own_nl gf d n L).2.1 (own_nl gf d n L).1 j) ((own_nl gf d n L).2.1 j))), (.int ((own_oi (own_nl gf d n L).2.1) j)), (.ref b2)]))
                refine own_st (fun zt zk => XS.ishl X24.here hx rfl (hb hby dd_prog_25m5_131) rfl zk) ?_
                show own_G p e below s _ _ _ (T24.setTop (mkF m 132 #[.val (.ref a), .val (.ref b2), .val (.ref oa), .val (.ref na), .val (.int (Int32.ofNat L)), .val (.int (Int32.ofNat (own_c0 (own_lv gf d n L).1 (own_bb d L) j))), .val (.int (Int32.ofNat (own_c0 (own_lv gf d n L).1 (own_bb d L) n + own_c1 (own_lv gf d n L).1 (own_bb d L) j))), .val (.int (Int32.ofNat j))] [(.int ((1 : Int32) <<< ((((Int32.ofNat d) - (1 : Int32)) - (Int32.ofNat L)) &&& 31))), (.int ((own_sN (own_lv gf d n L).1 (own_bb d L) (own_nl gf d n L).2.1 (own_nl gf d n L).1 j) ((own_nl gf d n L).2.1 j))), (.int ((own_oi (own_nl gf d n L).2.1) j)), (.ref b2)]))
                refine own_st (fun zt zk => XS.ior X24.here hx rfl (hb hby dd_prog_25m5_132) rfl zk) ?_
                show own_G p e below s _ _ _ (T24.setTop (mkF m 133 #[.val (.ref a), .val (.ref b2), .val (.ref oa), .val (.ref na), .val (.int (Int32.ofNat L)), .val (.int (Int32.ofNat (own_c0 (own_lv gf d n L).1 (own_bb d L) j))), .val (.int (Int32.ofNat (own_c0 (own_lv gf d n L).1 (own_bb d L) n + own_c1 (own_lv gf d n L).1 (own_bb d L) j))), .val (.int (Int32.ofNat j))] [(.int (((own_sN (own_lv gf d n L).1 (own_bb d L) (own_nl gf d n L).2.1 (own_nl gf d n L).1 j) ((own_nl gf d n L).2.1 j)) ||| ((1 : Int32) <<< ((((Int32.ofNat d) - (1 : Int32)) - (Int32.ofNat L)) &&& 31)))), (.int ((own_oi (own_nl gf d n L).2.1) j)), (.ref b2)]))
                obtain ⟨T25, h25, X25, e25, W25, V25, st25⟩ := own_iastore X24 hx hZ e24 B0 (i := ((own_nl gf d n L).2.1 j)) (show (own_oi (own_nl gf d n L).2.1 j).toInt = ((own_nl gf d n L).2.1 j : Nat) from own_tO (own_ltF hO p8_)) hO (g := (mkF m 133 #[.val (.ref a), .val (.ref b2), .val (.ref oa), .val (.ref na), .val (.int (Int32.ofNat L)), .val (.int (Int32.ofNat (own_c0 (own_lv gf d n L).1 (own_bb d L) j))), .val (.int (Int32.ofNat (own_c0 (own_lv gf d n L).1 (own_bb d L) n + own_c1 (own_lv gf d n L).1 (own_bb d L) j))), .val (.int (Int32.ofNat j))] [(.int (((own_sN (own_lv gf d n L).1 (own_bb d L) (own_nl gf d n L).2.1 (own_nl gf d n L).1 j) ((own_nl gf d n L).2.1 j)) ||| ((1 : Int32) <<< ((((Int32.ofNat d) - (1 : Int32)) - (Int32.ofNat L)) &&& 31)))), (.int ((own_oi (own_nl gf d n L).2.1) j)), (.ref b2)])) rfl rfl (hb hby dd_prog_25m5_133)
                refine own_st st25 ?_
                have N25 := Fr.snoc X25 N1 ge2
                have V25a : own_A Z h25 b2 .int n (fun q => .int ((own_up (own_sN (own_lv gf d n L).1 (own_bb d L) (own_nl gf d n L).2.1 (own_nl gf d n L).1 j) ((own_nl gf d n L).2.1 j) (((own_sN (own_lv gf d n L).1 (own_bb d L) (own_nl gf d n L).2.1 (own_nl gf d n L).1 j) ((own_nl gf d n L).2.1 j)) ||| ((1 : Int32) <<< ((((Int32.ofNat d) - (1 : Int32)) - (Int32.ofNat L)) &&& 31)))) q)) := V25.congr (fun q _ => by simp only [own_up]; split <;> rfl)
                show own_G p e below s _ _ _ (T25.setTop (mkF m 134 #[.val (.ref a), .val (.ref b2), .val (.ref oa), .val (.ref na), .val (.int (Int32.ofNat L)), .val (.int (Int32.ofNat (own_c0 (own_lv gf d n L).1 (own_bb d L) j))), .val (.int (Int32.ofNat (own_c0 (own_lv gf d n L).1 (own_bb d L) n + own_c1 (own_lv gf d n L).1 (own_bb d L) j))), .val (.int (Int32.ofNat j))] []))
                refine own_st (fun zt zk => XS.aloadN X25.here hx rfl (hb hby dd_prog_25m5_134) rfl rfl zk) ?_
                show own_G p e below s _ _ _ (T25.setTop (mkF m 135 #[.val (.ref a), .val (.ref b2), .val (.ref oa), .val (.ref na), .val (.int (Int32.ofNat L)), .val (.int (Int32.ofNat (own_c0 (own_lv gf d n L).1 (own_bb d L) j))), .val (.int (Int32.ofNat (own_c0 (own_lv gf d n L).1 (own_bb d L) n + own_c1 (own_lv gf d n L).1 (own_bb d L) j))), .val (.int (Int32.ofNat j))] [(.ref na)]))
                refine own_st (fun zt zk => XS.iload X25.here hx rfl (hb hby dd_prog_25m5_135) rfl zk) ?_
                show own_G p e below s _ _ _ (T25.setTop (mkF m 137 #[.val (.ref a), .val (.ref b2), .val (.ref oa), .val (.ref na), .val (.int (Int32.ofNat L)), .val (.int (Int32.ofNat (own_c0 (own_lv gf d n L).1 (own_bb d L) j))), .val (.int (Int32.ofNat (own_c0 (own_lv gf d n L).1 (own_bb d L) n + own_c1 (own_lv gf d n L).1 (own_bb d L) j))), .val (.int (Int32.ofNat j))] [(.int (Int32.ofNat (own_c0 (own_lv gf d n L).1 (own_bb d L) n + own_c1 (own_lv gf d n L).1 (own_bb d L) j))), (.ref na)]))
                refine own_st (fun zt zk => XS.iinc X25.here hx rfl (hb hby dd_prog_25m5_137) rfl (l' := #[.val (.ref a), .val (.ref b2), .val (.ref oa), .val (.ref na), .val (.int (Int32.ofNat L)), .val (.int (Int32.ofNat (own_c0 (own_lv gf d n L).1 (own_bb d L) j))), .val (.int ((Int32.ofNat (own_c0 (own_lv gf d n L).1 (own_bb d L) n + own_c1 (own_lv gf d n L).1 (own_bb d L) j)) + (1 : Int32))), .val (.int (Int32.ofNat j))]) rfl zk) ?_
                show own_G p e below s _ _ _ (T25.setTop (mkF m 140 #[.val (.ref a), .val (.ref b2), .val (.ref oa), .val (.ref na), .val (.int (Int32.ofNat L)), .val (.int (Int32.ofNat (own_c0 (own_lv gf d n L).1 (own_bb d L) j))), .val (.int ((Int32.ofNat (own_c0 (own_lv gf d n L).1 (own_bb d L) n + own_c1 (own_lv gf d n L).1 (own_bb d L) j)) + (1 : Int32))), .val (.int (Int32.ofNat j))] [(.int (Int32.ofNat (own_c0 (own_lv gf d n L).1 (own_bb d L) n + own_c1 (own_lv gf d n L).1 (own_bb d L) j))), (.ref na)]))
                refine own_st (fun zt zk => XS.aloadN X25.here hx rfl (hb hby dd_prog_25m5_140) rfl rfl zk) ?_
                show own_G p e below s _ _ _ (T25.setTop (mkF m 141 #[.val (.ref a), .val (.ref b2), .val (.ref oa), .val (.ref na), .val (.int (Int32.ofNat L)), .val (.int (Int32.ofNat (own_c0 (own_lv gf d n L).1 (own_bb d L) j))), .val (.int ((Int32.ofNat (own_c0 (own_lv gf d n L).1 (own_bb d L) n + own_c1 (own_lv gf d n L).1 (own_bb d L) j)) + (1 : Int32))), .val (.int (Int32.ofNat j))] [(.ref oa), (.int (Int32.ofNat (own_c0 (own_lv gf d n L).1 (own_bb d L) n + own_c1 (own_lv gf d n L).1 (own_bb d L) j))), (.ref na)]))
                refine own_st (fun zt zk => XS.iload X25.here hx rfl (hb hby dd_prog_25m5_141) rfl zk) ?_
                show own_G p e below s _ _ _ (T25.setTop (mkF m 143 #[.val (.ref a), .val (.ref b2), .val (.ref oa), .val (.ref na), .val (.int (Int32.ofNat L)), .val (.int (Int32.ofNat (own_c0 (own_lv gf d n L).1 (own_bb d L) j))), .val (.int ((Int32.ofNat (own_c0 (own_lv gf d n L).1 (own_bb d L) n + own_c1 (own_lv gf d n L).1 (own_bb d L) j)) + (1 : Int32))), .val (.int (Int32.ofNat j))] [(.int (Int32.ofNat j)), (.ref oa), (.int (Int32.ofNat (own_c0 (own_lv gf d n L).1 (own_bb d L) n + own_c1 (own_lv gf d n L).1 (own_bb d L) j))), (.ref na)]))
                have V26 : own_A Z h25 oa .int n (fun q => .int ((own_oi (own_nl gf d n L).2.1) q)) := (B1.other W25 nw_b.1)
                refine own_st (own_iaload X25 hx hZ e25 V26 (own_tO hj) hlt3 (.int ((own_oi (own_nl gf d n L).2.1) j)) rfl (g := (mkF m 143 #[.val (.ref a), .val (.ref b2), .val (.ref oa), .val (.ref na), .val (.int (Int32.ofNat L)), .val (.int (Int32.ofNat (own_c0 (own_lv gf d n L).1 (own_bb d L) j))), .val (.int ((Int32.ofNat (own_c0 (own_lv gf d n L).1 (own_bb d L) n + own_c1 (own_lv gf d n L).1 (own_bb d L) j)) + (1 : Int32))), .val (.int (Int32.ofNat j))] [(.int (Int32.ofNat j)), (.ref oa), (.int (Int32.ofNat (own_c0 (own_lv gf d n L).1 (own_bb d L) n + own_c1 (own_lv gf d n L).1 (own_bb d L) j))), (.ref na)])) rfl rfl (hb hby dd_prog_25m5_143)) ?_
                show own_G p e below s _ _ _ (T25.setTop (mkF m 144 #[.val (.ref a), .val (.ref b2), .val (.ref oa), .val (.ref na), .val (.int (Int32.ofNat L)), .val (.int (Int32.ofNat (own_c0 (own_lv gf d n L).1 (own_bb d L) j))), .val (.int ((Int32.ofNat (own_c0 (own_lv gf d n L).1 (own_bb d L) n + own_c1 (own_lv gf d n L).1 (own_bb d L) j)) + (1 : Int32))), .val (.int (Int32.ofNat j))] [(.int ((own_oi (own_nl gf d n L).2.1) j)), (.int (Int32.ofNat (own_c0 (own_lv gf d n L).1 (own_bb d L) n + own_c1 (own_lv gf d n L).1 (own_bb d L) j))), (.ref na)]))
                have V27 : own_A Z h25 na .int n (fun q => .int ((own_oi (own_sX (own_lv gf d n L).1 (own_bb d L) n (own_nl gf d n L).2.1 (own_nl gf d n L).2.2 j)) q)) := (B2.other W25 nw_b.2)
                obtain ⟨T28, h28, X28, e28, W28, V28, st28⟩ := own_iastore X25 hx hZ e25 V27 (i := (own_c0 (own_lv gf d n L).1 (own_bb d L) n + own_c1 (own_lv gf d n L).1 (own_bb d L) j)) (own_tO (own_ltF (own_x2 (own_lv gf d n L).1 (own_bb d L) hlt3 hbt) p8_)) (own_x2 (own_lv gf d n L).1 (own_bb d L) hlt3 hbt) (g := (mkF m 144 #[.val (.ref a), .val (.ref b2), .val (.ref oa), .val (.ref na), .val (.int (Int32.ofNat L)), .val (.int (Int32.ofNat (own_c0 (own_lv gf d n L).1 (own_bb d L) j))), .val (.int ((Int32.ofNat (own_c0 (own_lv gf d n L).1 (own_bb d L) n + own_c1 (own_lv gf d n L).1 (own_bb d L) j)) + (1 : Int32))), .val (.int (Int32.ofNat j))] [(.int ((own_oi (own_nl gf d n L).2.1) j)), (.int (Int32.ofNat (own_c0 (own_lv gf d n L).1 (own_bb d L) n + own_c1 (own_lv gf d n L).1 (own_bb d L) j))), (.ref na)])) rfl rfl (hb hby dd_prog_25m5_144)
                refine own_st st28 ?_
                have N28 := Fr.snoc X28 N25 nge.2
                have V28a : own_A Z h28 na .int n (fun q => .int ((own_up (own_oi (own_sX (own_lv gf d n L).1 (own_bb d L) n (own_nl gf d n L).2.1 (own_nl gf d n L).2.2 j)) (own_c0 (own_lv gf d n L).1 (own_bb d L) n + own_c1 (own_lv gf d n L).1 (own_bb d L) j) ((own_oi (own_nl gf d n L).2.1) j)) q)) := V28.congr (fun q _ => by simp only [own_up]; split <;> rfl)
                show own_G p e below s _ _ _ (T28.setTop (mkF m 145 #[.val (.ref a), .val (.ref b2), .val (.ref oa), .val (.ref na), .val (.int (Int32.ofNat L)), .val (.int (Int32.ofNat (own_c0 (own_lv gf d n L).1 (own_bb d L) j))), .val (.int ((Int32.ofNat (own_c0 (own_lv gf d n L).1 (own_bb d L) n + own_c1 (own_lv gf d n L).1 (own_bb d L) j)) + (1 : Int32))), .val (.int (Int32.ofNat j))] []))
                refine own_st (fun zt zk => XS.iinc X28.here hx rfl (hb hby dd_prog_25m5_145) rfl (l' := #[.val (.ref a), .val (.ref b2), .val (.ref oa), .val (.ref na), .val (.int (Int32.ofNat L)), .val (.int (Int32.ofNat (own_c0 (own_lv gf d n L).1 (own_bb d L) j))), .val (.int ((Int32.ofNat (own_c0 (own_lv gf d n L).1 (own_bb d L) n + own_c1 (own_lv gf d n L).1 (own_bb d L) j)) + (1 : Int32))), .val (.int ((Int32.ofNat j) + (1 : Int32)))]) rfl zk) ?_
                show own_G p e below s _ _ _ (T28.setTop (mkF m 148 #[.val (.ref a), .val (.ref b2), .val (.ref oa), .val (.ref na), .val (.int (Int32.ofNat L)), .val (.int (Int32.ofNat (own_c0 (own_lv gf d n L).1 (own_bb d L) j))), .val (.int ((Int32.ofNat (own_c0 (own_lv gf d n L).1 (own_bb d L) n + own_c1 (own_lv gf d n L).1 (own_bb d L) j)) + (1 : Int32))), .val (.int ((Int32.ofNat j) + (1 : Int32)))] []))
                refine own_st (fun zt zk => XS.goto X28.here hx rfl (pc0 := 148) (pc' := 68) rfl (hb hby dd_prog_25m5_148) (by decide) (by decide) zk) ?_
                show own_G p e below s _ _ _ (T28.setTop (mkF m 68 #[.val (.ref a), .val (.ref b2), .val (.ref oa), .val (.ref na), .val (.int (Int32.ofNat L)), .val (.int (Int32.ofNat (own_c0 (own_lv gf d n L).1 (own_bb d L) j))), .val (.int ((Int32.ofNat (own_c0 (own_lv gf d n L).1 (own_bb d L) n + own_c1 (own_lv gf d n L).1 (own_bb d L) j)) + (1 : Int32))), .val (.int ((Int32.ofNat j) + (1 : Int32)))] []))
                rw [own_k1 (own_lv gf d n L).1 (own_bb d L) hbt, own_k1' (own_lv gf d n L).1 (own_bb d L) hbt, own_ofS j]
                show own_G p e below s _ _ _ (T28.setTop (mkF m 68 #[.val (.ref a), .val (.ref b2), .val (.ref oa), .val (.ref na), .val (.int (Int32.ofNat L)), .val (.int (Int32.ofNat (own_c0 (own_lv gf d n L).1 (own_bb d L) (j + 1)))), .val (.int (Int32.ofNat (own_c0 (own_lv gf d n L).1 (own_bb d L) n + own_c1 (own_lv gf d n L).1 (own_bb d L) (j + 1)))), .val (.int (Int32.ofNat (j + 1)))] []))
                have V29 : own_A Z h28 b2 .int n (fun q => .int ((own_up (own_sN (own_lv gf d n L).1 (own_bb d L) (own_nl gf d n L).2.1 (own_nl gf d n L).1 j) ((own_nl gf d n L).2.1 j) (((own_sN (own_lv gf d n L).1 (own_bb d L) (own_nl gf d n L).2.1 (own_nl gf d n L).1 j) ((own_nl gf d n L).2.1 j)) ||| ((1 : Int32) <<< ((((Int32.ofNat d) - (1 : Int32)) - (Int32.ofNat L)) &&& 31)))) q)) := (V25a.other W28 (Ne.symm nw_b.2))
                have V30 : own_A Z h28 oa .int n (fun q => .int ((own_oi (own_nl gf d n L).2.1) q)) := (V26.other W28 nw_o)
                exact ih3 (j + 1) T28 h28 _ X28 e28 N28 ((K1.wr W25 (Or.inr sz2)).wr W28 (Or.inr nsz.2)) (by rw [own_sN1 (own_lv gf d n L).1 (own_bb d L) hbt]; exact V29) V30 (by rw [← own_oi1 (own_lv gf d n L).1 (own_bb d L) hbt]; exact V28a) (own_nxt hm3)
          exact hL3 n 0 T15 hp1 _ X15 e15 N1 K1 B0 B1 B2 (Nat.zero_add n)
      have V31 : own_A Z h11 b2 .int n (fun q => .int ((fun _ => (0 : Int32)) q)) := (B0.ext E11)
      have V32 : own_A Z h11 b5 .int n (fun q => .int ((own_fil n) q)) := (B1.ext E11)
      exact hL2 d 0 b5 b11 .unset .unset .unset T11 h11 _ X11 e11 N1 (K1.ext E11) V31 (V32.congr (fun q hq => congrArg Value.int (own_filE hq))) (V11a.congr (fun q _ => rfl)) (Or.inl ⟨rfl, rfl⟩) (Or.inl rfl) (Or.inl rfl) (Or.inl rfl) (Nat.zero_add d)
    | succ fu1 ih1 =>
      intro i T1 hp1 locs1 X1 e1 N1 K1 B0 B1 hm1
      have hlt1 : i < n := own_lta hm1
      have hi1 : i ≤ 255 := own_lle hlt1 p8_
      show own_G p e below s _ _ _ (T1.setTop (mkF m 16 #[.val (.ref a), .val (.ref b2), .val (.ref b5), .val (.int (Int32.ofNat i)), .unset, .unset, .unset, .unset] []))
      refine own_st (fun zt zk => XS.iloadN X1.here hx rfl (hb hby dd_prog_25m5_16) rfl zk) ?_
      show own_G p e below s _ _ _ (T1.setTop (mkF m 17 #[.val (.ref a), .val (.ref b2), .val (.ref b5), .val (.int (Int32.ofNat i)), .unset, .unset, .unset, .unset] [(.int (Int32.ofNat i))]))
      refine own_st (fun zt zk => XS.aloadN X1.here hx rfl (hb hby dd_prog_25m5_17) rfl rfl zk) ?_
      show own_G p e below s _ _ _ (T1.setTop (mkF m 18 #[.val (.ref a), .val (.ref b2), .val (.ref b5), .val (.int (Int32.ofNat i)), .unset, .unset, .unset, .unset] [(.ref a), (.int (Int32.ofNat i))]))
      obtain ⟨T33, X33, e33, st33⟩ := getF X1 hx hZ hown (host := "") (Or.inl (hw _ (List.mem_of_getElem? (i := 23) rfl))) Via.refl e1 (p2_.keep K1 nin0) (g := (mkF m 18 #[.val (.ref a), .val (.ref b2), .val (.ref b5), .val (.int (Int32.ofNat i)), .unset, .unset, .unset, .unset] [(.ref a), (.int (Int32.ofNat i))])) rfl rfl (hb hby dd_prog_25m5_18)
      refine own_st st33 ?_
      show own_G p e below s _ _ _ (T33.setTop (mkF m 21 #[.val (.ref a), .val (.ref b2), .val (.ref b5), .val (.int (Int32.ofNat i)), .unset, .unset, .unset, .unset] [(.int (Int32.ofNat n)), (.int (Int32.ofNat i))]))
      have hc21_34 : (Int32.ofNat i) < (Int32.ofNat n) := (own_ltO hi1 p8_).mpr hlt1
      refine own_st (fun zt zk => XS.icmpNo X33.here hx rfl (hb hby dd_prog_25m5_21) rfl (tlt hc21_34).2.1 zk) ?_
      show own_G p e below s _ _ _ (T33.setTop (mkF m 24 #[.val (.ref a), .val (.ref b2), .val (.ref b5), .val (.int (Int32.ofNat i)), .unset, .unset, .unset, .unset] []))
      refine own_st (fun zt zk => XS.aloadN X33.here hx rfl (hb hby dd_prog_25m5_24) rfl rfl zk) ?_
      show own_G p e below s _ _ _ (T33.setTop (mkF m 25 #[.val (.ref a), .val (.ref b2), .val (.ref b5), .val (.int (Int32.ofNat i)), .unset, .unset, .unset, .unset] [(.ref b5)]))
      refine own_st (fun zt zk => XS.iloadN X33.here hx rfl (hb hby dd_prog_25m5_25) rfl zk) ?_
      show own_G p e below s _ _ _ (T33.setTop (mkF m 26 #[.val (.ref a), .val (.ref b2), .val (.ref b5), .val (.int (Int32.ofNat i)), .unset, .unset, .unset, .unset] [(.int (Int32.ofNat i)), (.ref b5)]))
      refine own_st (fun zt zk => XS.iloadN X33.here hx rfl (hb hby dd_prog_25m5_26) rfl zk) ?_
      show own_G p e below s _ _ _ (T33.setTop (mkF m 27 #[.val (.ref a), .val (.ref b2), .val (.ref b5), .val (.int (Int32.ofNat i)), .unset, .unset, .unset, .unset] [(.int (Int32.ofNat i)), (.int (Int32.ofNat i)), (.ref b5)]))
      obtain ⟨T35, h35, X35, e35, W35, V35, st35⟩ := own_iastore X33 hx hZ e33 B1 (i := i) (own_tO hi1) hlt1 (g := (mkF m 27 #[.val (.ref a), .val (.ref b2), .val (.ref b5), .val (.int (Int32.ofNat i)), .unset, .unset, .unset, .unset] [(.int (Int32.ofNat i)), (.int (Int32.ofNat i)), (.ref b5)])) rfl rfl (hb hby dd_prog_25m5_27)
      refine own_st st35 ?_
      have N35 := Fr.snoc X35 N1 ge5
      have V35a : own_A Z h35 b5 .int n (fun q => .int ((own_up (own_fil i) i (Int32.ofNat i)) q)) := V35.congr (fun q _ => by simp only [own_up]; split <;> rfl)
      show own_G p e below s _ _ _ (T35.setTop (mkF m 28 #[.val (.ref a), .val (.ref b2), .val (.ref b5), .val (.int (Int32.ofNat i)), .unset, .unset, .unset, .unset] []))
      refine own_st (fun zt zk => XS.iinc X35.here hx rfl (hb hby dd_prog_25m5_28) rfl (l' := #[.val (.ref a), .val (.ref b2), .val (.ref b5), .val (.int ((Int32.ofNat i) + (1 : Int32))), .unset, .unset, .unset, .unset]) rfl zk) ?_
      show own_G p e below s _ _ _ (T35.setTop (mkF m 31 #[.val (.ref a), .val (.ref b2), .val (.ref b5), .val (.int ((Int32.ofNat i) + (1 : Int32))), .unset, .unset, .unset, .unset] []))
      refine own_st (fun zt zk => XS.goto X35.here hx rfl (pc0 := 31) (pc' := 16) rfl (hb hby dd_prog_25m5_31) (by decide) (by decide) zk) ?_
      show own_G p e below s _ _ _ (T35.setTop (mkF m 16 #[.val (.ref a), .val (.ref b2), .val (.ref b5), .val (.int ((Int32.ofNat i) + (1 : Int32))), .unset, .unset, .unset, .unset] []))
      rw [own_ofS i]
      show own_G p e below s _ _ _ (T35.setTop (mkF m 16 #[.val (.ref a), .val (.ref b2), .val (.ref b5), .val (.int (Int32.ofNat (i + 1))), .unset, .unset, .unset, .unset] []))
      have V36 : own_A Z h35 b2 .int n (fun q => .int ((fun _ => (0 : Int32)) q)) := (B0.other W35 ne5_b2)
      exact ih1 (i + 1) T35 h35 _ X35 e35 N35 (K1.wr W35 (Or.inr sz5)) V36 (by rw [← own_filS i]; exact V35a) (own_nxt hm1)
  have V37 : own_A Z h5 b2 .int n (fun q => .int ((fun _ => (0 : Int32)) q)) := (V2a.ext E5)
  exact hL1 n 0 T5 h5 _ X5 e5 N0 (((Keep.refl _ _).ext E2).ext E5) V37 (V5a.congr (fun q _ => congrArg Value.int (own_fil0 q).symm)) (Nat.zero_add n)
theorem own_pn7 : plainFor (⟨"com/example/orderly_results/orderlyresults/engine/WaveletMatrixNumbersPinLaw", "law", "(IIIIII)Z"⟩ : MethodName) = true := plainFor_of_name (by first | (simp [plainName, overriddenIn]; done) | decide +kernel)
theorem own_pd5 : parseMethodDescriptor "([II)V" = some ⟨[(.array .int), .int], none⟩ := by decide +kernel
theorem own_pd6 : parseMethodDescriptor "()[I" = some ⟨[], some (.array .int)⟩ := by decide +kernel
theorem ef_own_law (m : MethodId) (z0 : Int32) (z1 : Int32) (z2 : Int32) (z3 : Int32) (z4 : Int32) (z5 : Int32) : entryFrame m #[(.int z0), (.int z1), (.int z2), (.int z3), (.int z4), (.int z5)] maxLocals = mkF m 0 #[.val (.int z0), .val (.int z1), .val (.int z2), .val (.int z3), .val (.int z4), .val (.int z5), .unset, .unset, .unset, .unset, .unset, .unset, .unset, .unset, .unset, .unset, .unset, .unset, .unset] [] := by first | (simp [entryFrame, mkF, argsToLocals, Value.category, maxLocals]; done) | rfl
def Q_own_law (Z : State) (qa : Int32) (qb : Int32) (qc : Int32) (qd : Int32) (qe : Int32) (qf : Int32) (h0 : Heap) (n0 : Nat) (zv : Option Value) (zh : Heap) (zL : List Loc) : Prop := zv = some (.int (1 : Int32)) ∧ Fr n0 zL
set_option maxRecDepth 65536 in
set_option maxHeartbeats 40000000 in
theorem own_law (l : Launch) (Z : State) (a0 : Array Value) (hw : ∀ d ∈ tables_1, d.before a0 Z = true) (ws : List Jvm.Cond) (qa : Int32) (qb : Int32) (qc : Int32) (qd : Int32) (qe : Int32) (qf : Int32) (h0 : Heap) (n0 : Nat) (Z0 : n0 ≤ h0.size)  :
    MetFree l x (head1 (Jvm.Cond.code x code maxLocals ret :: ws) room_1) (fun za zU => za = #[(.int qa), (.int qb), (.int qc), (.int qd), (.int qe), (.int qf)] ∧ Z.Warmed39 zU.vm ∧ zU.heap = h0) (fun _ _ _ _ _ => True) (fun _ zU zo zU' => ∃ zv zL, zo = .returned zv ∧ Q_own_law Z qa qb qc qd qe qf h0 n0 zv zU'.heap zL ∧ FrameEnd zU zo zU' zL 73 2038) := by
  refine own_met (y := x) own_pn7 ?_
  intro p e s m below meth c T0 hx hby hml hown hnm hret hlk hZ e0 X0
  have N0 := Fr.nil n0
  refine own_st (fun zt zk => castTop (ef_own_law m qa qb qc qd qe qf) zk) ?_
  show own_G p e below s _ _ _ (T0.setTop (mkF m 0 #[.val (.int qa), .val (.int qb), .val (.int qc), .val (.int qd), .val (.int qe), .val (.int qf), .unset, .unset, .unset, .unset, .unset, .unset, .unset, .unset, .unset, .unset, .unset, .unset, .unset] []))
  refine own_st (fun zt zk => XS.iloadN X0.here hx rfl (hb hby at_0) rfl zk) ?_
  show own_G p e below s _ _ _ (T0.setTop (mkF m 1 #[.val (.int qa), .val (.int qb), .val (.int qc), .val (.int qd), .val (.int qe), .val (.int qf), .unset, .unset, .unset, .unset, .unset, .unset, .unset, .unset, .unset, .unset, .unset, .unset, .unset] [(.int qa)]))
  refine own_st (fun zt zk => XS.sipush X0.here hx rfl (hb hby at_1) zk) ?_
  show own_G p e below s _ _ _ (T0.setTop (mkF m 4 #[.val (.int qa), .val (.int qb), .val (.int qc), .val (.int qd), .val (.int qe), .val (.int qf), .unset, .unset, .unset, .unset, .unset, .unset, .unset, .unset, .unset, .unset, .unset, .unset, .unset] [(.int (255 : Int32)), (.int qa)]))
  refine own_st (fun zt zk => XS.iand X0.here hx rfl (hb hby at_4) rfl zk) ?_
  show own_G p e below s _ _ _ (T0.setTop (mkF m 5 #[.val (.int qa), .val (.int qb), .val (.int qc), .val (.int qd), .val (.int qe), .val (.int qf), .unset, .unset, .unset, .unset, .unset, .unset, .unset, .unset, .unset, .unset, .unset, .unset, .unset] [(.int (qa &&& (255 : Int32)))]))
  obtain ⟨n, hn1, hn⟩ := own_q255 qa
  rw [hn1]
  show own_G p e below s _ _ _ (T0.setTop (mkF m 5 #[.val (.int qa), .val (.int qb), .val (.int qc), .val (.int qd), .val (.int qe), .val (.int qf), .unset, .unset, .unset, .unset, .unset, .unset, .unset, .unset, .unset, .unset, .unset, .unset, .unset] [(.int (Int32.ofNat n))]))
  refine own_st (fun zt zk => XS.istore X0.here hx rfl (hb hby at_5) rfl (l' := #[.val (.int qa), .val (.int qb), .val (.int qc), .val (.int qd), .val (.int qe), .val (.int qf), .val (.int (Int32.ofNat n)), .unset, .unset, .unset, .unset, .unset, .unset, .unset, .unset, .unset, .unset, .unset, .unset]) rfl zk) ?_
  show own_G p e below s _ _ _ (T0.setTop (mkF m 7 #[.val (.int qa), .val (.int qb), .val (.int qc), .val (.int qd), .val (.int qe), .val (.int qf), .val (.int (Int32.ofNat n)), .unset, .unset, .unset, .unset, .unset, .unset, .unset, .unset, .unset, .unset, .unset, .unset] []))
  refine own_st (fun zt zk => XS.iloadN X0.here hx rfl (hb hby at_7) rfl zk) ?_
  show own_G p e below s _ _ _ (T0.setTop (mkF m 8 #[.val (.int qa), .val (.int qb), .val (.int qc), .val (.int qd), .val (.int qe), .val (.int qf), .val (.int (Int32.ofNat n)), .unset, .unset, .unset, .unset, .unset, .unset, .unset, .unset, .unset, .unset, .unset, .unset] [(.int qb)]))
  refine own_st (X0.ldcInt hx hown (mvT hZ (hw _ (List.mem_of_getElem? (i := 0) rfl))) (g := (mkF m 8 #[.val (.int qa), .val (.int qb), .val (.int qc), .val (.int qd), .val (.int qe), .val (.int qf), .val (.int (Int32.ofNat n)), .unset, .unset, .unset, .unset, .unset, .unset, .unset, .unset, .unset, .unset, .unset, .unset] [(.int qb)])) rfl (hb hby at_8)) ?_
  show own_G p e below s _ _ _ (T0.setTop (mkF m 10 #[.val (.int qa), .val (.int qb), .val (.int qc), .val (.int qd), .val (.int qe), .val (.int qf), .val (.int (Int32.ofNat n)), .unset, .unset, .unset, .unset, .unset, .unset, .unset, .unset, .unset, .unset, .unset, .unset] [(.int (2147483647 : Int32)), (.int qb)]))
  refine own_st (fun zt zk => XS.iand X0.here hx rfl (hb hby at_10) rfl zk) ?_
  show own_G p e below s _ _ _ (T0.setTop (mkF m 11 #[.val (.int qa), .val (.int qb), .val (.int qc), .val (.int qd), .val (.int qe), .val (.int qf), .val (.int (Int32.ofNat n)), .unset, .unset, .unset, .unset, .unset, .unset, .unset, .unset, .unset, .unset, .unset, .unset] [(.int (qb &&& (2147483647 : Int32)))]))
  refine own_st (fun zt zk => XS.iconst X0.here hx rfl (hb hby at_11) zk) ?_
  show own_G p e below s _ _ _ (T0.setTop (mkF m 12 #[.val (.int qa), .val (.int qb), .val (.int qc), .val (.int qd), .val (.int qe), .val (.int qf), .val (.int (Int32.ofNat n)), .unset, .unset, .unset, .unset, .unset, .unset, .unset, .unset, .unset, .unset, .unset, .unset] [(.int (1 : Int32)), (.int (qb &&& (2147483647 : Int32)))]))
  obtain ⟨_, T1, L1, X1, hQ1, st1⟩ := own_callS X0 hx hZ (y := (⟨"java/lang/Math", "max", "(II)I"⟩ : MethodName)) (argsL := [(.int (qb &&& (2147483647 : Int32))), (.int (1 : Int32))]) (rest := []) 0 hown (hw _ (List.mem_of_getElem? (i := 1) rfl)) (hw _ (List.mem_of_getElem? (i := 2) rfl)) (hw _ (List.mem_of_getElem? (i := 3) rfl)) (hw _ (List.mem_of_getElem? (i := 4) rfl)) (by decide) (own_cmx l Z a0 hw [] (qb &&& (2147483647 : Int32)) (1 : Int32) h0 n0 Z0 ) (by decide) (by decide) e0 (g := (mkF m 12 #[.val (.int qa), .val (.int qb), .val (.int qc), .val (.int qd), .val (.int qe), .val (.int qf), .val (.int (Int32.ofNat n)), .unset, .unset, .unset, .unset, .unset, .unset, .unset, .unset, .unset, .unset, .unset, .unset] [(.int (1 : Int32)), (.int (qb &&& (2147483647 : Int32)))])) rfl (by rw [hml]; rfl) own_pd1 rfl rfl (by show 2 * 0 + _ ≤ _; exact Nat.le_of_eq rfl) (hb hby at_12) (by decide) (by decide)
  obtain ⟨rfl, N1q, e1⟩ := hQ1
  have N1 := Fr.app N0 N1q
  refine own_st st1 ?_
  show own_G p e below s _ _ _ (T1.setTop (mkF m 15 #[.val (.int qa), .val (.int qb), .val (.int qc), .val (.int qd), .val (.int qe), .val (.int qf), .val (.int (Int32.ofNat n)), .unset, .unset, .unset, .unset, .unset, .unset, .unset, .unset, .unset, .unset, .unset, .unset] [(.int (own_mx (qb &&& (2147483647 : Int32)) (1 : Int32)))]))
  obtain ⟨bd, hbd0, hbd⟩ : ∃ z, z = (own_mx (qb &&& (2147483647 : Int32)) (1 : Int32)) ∧ 1 ≤ z.toInt := ⟨_, rfl, own_qbd _⟩
  rw [← hbd0]
  show own_G p e below s _ _ _ (T1.setTop (mkF m 15 #[.val (.int qa), .val (.int qb), .val (.int qc), .val (.int qd), .val (.int qe), .val (.int qf), .val (.int (Int32.ofNat n)), .unset, .unset, .unset, .unset, .unset, .unset, .unset, .unset, .unset, .unset, .unset, .unset] [(.int bd)]))
  refine own_st (fun zt zk => XS.istore X1.here hx rfl (hb hby at_15) rfl (l' := #[.val (.int qa), .val (.int qb), .val (.int qc), .val (.int qd), .val (.int qe), .val (.int qf), .val (.int (Int32.ofNat n)), .val (.int bd), .unset, .unset, .unset, .unset, .unset, .unset, .unset, .unset, .unset, .unset, .unset]) rfl zk) ?_
  show own_G p e below s _ _ _ (T1.setTop (mkF m 17 #[.val (.int qa), .val (.int qb), .val (.int qc), .val (.int qd), .val (.int qe), .val (.int qf), .val (.int (Int32.ofNat n)), .val (.int bd), .unset, .unset, .unset, .unset, .unset, .unset, .unset, .unset, .unset, .unset, .unset] []))
  refine own_st (fun zt zk => XS.iload X1.here hx rfl (hb hby at_17) rfl zk) ?_
  show own_G p e below s _ _ _ (T1.setTop (mkF m 19 #[.val (.int qa), .val (.int qb), .val (.int qc), .val (.int qd), .val (.int qe), .val (.int qf), .val (.int (Int32.ofNat n)), .val (.int bd), .unset, .unset, .unset, .unset, .unset, .unset, .unset, .unset, .unset, .unset, .unset] [(.int (Int32.ofNat n))]))
  obtain ⟨T2, h2, X2, e2, E2, V2, D2, st2⟩ := own_newPE X1 hx hZ (aty := .int) (hw _ (List.mem_of_getElem? (i := 5) rfl)) e1 (g := (mkF m 19 #[.val (.int qa), .val (.int qb), .val (.int qc), .val (.int qd), .val (.int qe), .val (.int qf), .val (.int (Int32.ofNat n)), .val (.int bd), .unset, .unset, .unset, .unset, .unset, .unset, .unset, .unset, .unset, .unset, .unset] [(.int (Int32.ofNat n))])) rfl (hb hby at_19) rfl (n := n) (own_tO hn) (cap := 255) hn (by decide) (by decide) (by decide) (ad := "[I") (by decide +kernel)
  obtain ⟨b2, g2⟩ : ∃ z, z = h0.size := ⟨_, rfl⟩
  rw [← g2] at V2 D2 st2
  have ge2 : n0 ≤ b2 := Nat.le_trans Z0 (Nat.le_of_eq g2.symm)
  have sz2 : h0.size ≤ b2 := Nat.le_trans (Nat.le_refl h0.size) (Nat.le_of_eq g2.symm)
  have V2a : own_A Z h2 b2 .int n (fun q => .int ((fun _ => (0 : Int32)) q)) := V2
  refine own_st st2 ?_
  show own_G p e below s _ _ _ (T2.setTop (mkF m 21 #[.val (.int qa), .val (.int qb), .val (.int qc), .val (.int qd), .val (.int qe), .val (.int qf), .val (.int (Int32.ofNat n)), .val (.int bd), .unset, .unset, .unset, .unset, .unset, .unset, .unset, .unset, .unset, .unset, .unset] [(.ref b2)]))
  refine own_st (fun zt zk => XS.astore X2.here hx rfl (hb hby at_21) rfl rfl (l' := #[.val (.int qa), .val (.int qb), .val (.int qc), .val (.int qd), .val (.int qe), .val (.int qf), .val (.int (Int32.ofNat n)), .val (.int bd), .val (.ref b2), .unset, .unset, .unset, .unset, .unset, .unset, .unset, .unset, .unset, .unset]) rfl zk) ?_
  show own_G p e below s _ _ _ (T2.setTop (mkF m 23 #[.val (.int qa), .val (.int qb), .val (.int qc), .val (.int qd), .val (.int qe), .val (.int qf), .val (.int (Int32.ofNat n)), .val (.int bd), .val (.ref b2), .unset, .unset, .unset, .unset, .unset, .unset, .unset, .unset, .unset, .unset] []))
  refine own_st (fun zt zk => XS.iconst X2.here hx rfl (hb hby at_23) zk) ?_
  show own_G p e below s _ _ _ (T2.setTop (mkF m 24 #[.val (.int qa), .val (.int qb), .val (.int qc), .val (.int qd), .val (.int qe), .val (.int qf), .val (.int (Int32.ofNat n)), .val (.int bd), .val (.ref b2), .unset, .unset, .unset, .unset, .unset, .unset, .unset, .unset, .unset, .unset] [(.int (0 : Int32))]))
  refine own_st (fun zt zk => XS.istore X2.here hx rfl (hb hby at_24) rfl (l' := #[.val (.int qa), .val (.int qb), .val (.int qc), .val (.int qd), .val (.int qe), .val (.int qf), .val (.int (Int32.ofNat n)), .val (.int bd), .val (.ref b2), .val (.int (0 : Int32)), .unset, .unset, .unset, .unset, .unset, .unset, .unset, .unset, .unset]) rfl zk) ?_
  show own_G p e below s _ _ _ (T2.setTop (mkF m 26 #[.val (.int qa), .val (.int qb), .val (.int qc), .val (.int qd), .val (.int qe), .val (.int qf), .val (.int (Int32.ofNat n)), .val (.int bd), .val (.ref b2), .val (.int (0 : Int32)), .unset, .unset, .unset, .unset, .unset, .unset, .unset, .unset, .unset] []))
  refine own_st (fun zt zk => XS.iconst X2.here hx rfl (hb hby at_26) zk) ?_
  show own_G p e below s _ _ _ (T2.setTop (mkF m 27 #[.val (.int qa), .val (.int qb), .val (.int qc), .val (.int qd), .val (.int qe), .val (.int qf), .val (.int (Int32.ofNat n)), .val (.int bd), .val (.ref b2), .val (.int (0 : Int32)), .unset, .unset, .unset, .unset, .unset, .unset, .unset, .unset, .unset] [(.int (0 : Int32))]))
  refine own_st (fun zt zk => XS.istore X2.here hx rfl (hb hby at_27) rfl (l' := #[.val (.int qa), .val (.int qb), .val (.int qc), .val (.int qd), .val (.int qe), .val (.int qf), .val (.int (Int32.ofNat n)), .val (.int bd), .val (.ref b2), .val (.int (0 : Int32)), .val (.int (0 : Int32)), .unset, .unset, .unset, .unset, .unset, .unset, .unset, .unset]) rfl zk) ?_
  show own_G p e below s _ _ _ (T2.setTop (mkF m 29 #[.val (.int qa), .val (.int qb), .val (.int qc), .val (.int qd), .val (.int qe), .val (.int qf), .val (.int (Int32.ofNat n)), .val (.int bd), .val (.ref b2), .val (.int (0 : Int32)), .val (.int (0 : Int32)), .unset, .unset, .unset, .unset, .unset, .unset, .unset, .unset] []))
  refine own_st (fun zt zk => XS.iconst X2.here hx rfl (hb hby at_29) zk) ?_
  show own_G p e below s _ _ _ (T2.setTop (mkF m 30 #[.val (.int qa), .val (.int qb), .val (.int qc), .val (.int qd), .val (.int qe), .val (.int qf), .val (.int (Int32.ofNat n)), .val (.int bd), .val (.ref b2), .val (.int (0 : Int32)), .val (.int (0 : Int32)), .unset, .unset, .unset, .unset, .unset, .unset, .unset, .unset] [(.int (0 : Int32))]))
  refine own_st (fun zt zk => XS.istore X2.here hx rfl (hb hby at_30) rfl (l' := #[.val (.int qa), .val (.int qb), .val (.int qc), .val (.int qd), .val (.int qe), .val (.int qf), .val (.int (Int32.ofNat n)), .val (.int bd), .val (.ref b2), .val (.int (0 : Int32)), .val (.int (0 : Int32)), .val (.int (0 : Int32)), .unset, .unset, .unset, .unset, .unset, .unset, .unset]) rfl zk) ?_
  show own_G p e below s _ _ _ (T2.setTop (mkF m 32 #[.val (.int qa), .val (.int qb), .val (.int qc), .val (.int qd), .val (.int qe), .val (.int qf), .val (.int (Int32.ofNat n)), .val (.int bd), .val (.ref b2), .val (.int (0 : Int32)), .val (.int (0 : Int32)), .val (.int (0 : Int32)), .unset, .unset, .unset, .unset, .unset, .unset, .unset] []))
  refine own_st (fun zt zk => XS.iconst X2.here hx rfl (hb hby at_32) zk) ?_
  show own_G p e below s _ _ _ (T2.setTop (mkF m 33 #[.val (.int qa), .val (.int qb), .val (.int qc), .val (.int qd), .val (.int qe), .val (.int qf), .val (.int (Int32.ofNat n)), .val (.int bd), .val (.ref b2), .val (.int (0 : Int32)), .val (.int (0 : Int32)), .val (.int (0 : Int32)), .unset, .unset, .unset, .unset, .unset, .unset, .unset] [(.int (0 : Int32))]))
  refine own_st (fun zt zk => XS.istore X2.here hx rfl (hb hby at_33) rfl (l' := #[.val (.int qa), .val (.int qb), .val (.int qc), .val (.int qd), .val (.int qe), .val (.int qf), .val (.int (Int32.ofNat n)), .val (.int bd), .val (.ref b2), .val (.int (0 : Int32)), .val (.int (0 : Int32)), .val (.int (0 : Int32)), .val (.int (0 : Int32)), .unset, .unset, .unset, .unset, .unset, .unset]) rfl zk) ?_
  show own_G p e below s _ _ _ (T2.setTop (mkF m 35 #[.val (.int qa), .val (.int qb), .val (.int qc), .val (.int qd), .val (.int qe), .val (.int qf), .val (.int (Int32.ofNat n)), .val (.int bd), .val (.ref b2), .val (.int (0 : Int32)), .val (.int (0 : Int32)), .val (.int (0 : Int32)), .val (.int (0 : Int32)), .unset, .unset, .unset, .unset, .unset, .unset] []))
  refine own_st (fun zt zk => XS.iconst X2.here hx rfl (hb hby at_35) zk) ?_
  show own_G p e below s _ _ _ (T2.setTop (mkF m 36 #[.val (.int qa), .val (.int qb), .val (.int qc), .val (.int qd), .val (.int qe), .val (.int qf), .val (.int (Int32.ofNat n)), .val (.int bd), .val (.ref b2), .val (.int (0 : Int32)), .val (.int (0 : Int32)), .val (.int (0 : Int32)), .val (.int (0 : Int32)), .unset, .unset, .unset, .unset, .unset, .unset] [(.int (0 : Int32))]))
  refine own_st (fun zt zk => XS.istore X2.here hx rfl (hb hby at_36) rfl (l' := #[.val (.int qa), .val (.int qb), .val (.int qc), .val (.int qd), .val (.int qe), .val (.int qf), .val (.int (Int32.ofNat n)), .val (.int bd), .val (.ref b2), .val (.int (0 : Int32)), .val (.int (0 : Int32)), .val (.int (0 : Int32)), .val (.int (0 : Int32)), .val (.int (0 : Int32)), .unset, .unset, .unset, .unset, .unset]) rfl zk) ?_
  show own_G p e below s _ _ _ (T2.setTop (mkF m 38 #[.val (.int qa), .val (.int qb), .val (.int qc), .val (.int qd), .val (.int qe), .val (.int qf), .val (.int (Int32.ofNat n)), .val (.int bd), .val (.ref b2), .val (.int (0 : Int32)), .val (.int (0 : Int32)), .val (.int (0 : Int32)), .val (.int (0 : Int32)), .val (.int (0 : Int32)), .unset, .unset, .unset, .unset, .unset] []))
  refine own_st (fun zt zk => XS.iconst X2.here hx rfl (hb hby at_38) zk) ?_
  show own_G p e below s _ _ _ (T2.setTop (mkF m 39 #[.val (.int qa), .val (.int qb), .val (.int qc), .val (.int qd), .val (.int qe), .val (.int qf), .val (.int (Int32.ofNat n)), .val (.int bd), .val (.ref b2), .val (.int (0 : Int32)), .val (.int (0 : Int32)), .val (.int (0 : Int32)), .val (.int (0 : Int32)), .val (.int (0 : Int32)), .unset, .unset, .unset, .unset, .unset] [(.int (0 : Int32))]))
  refine own_st (fun zt zk => XS.istore X2.here hx rfl (hb hby at_39) rfl (l' := #[.val (.int qa), .val (.int qb), .val (.int qc), .val (.int qd), .val (.int qe), .val (.int qf), .val (.int (Int32.ofNat n)), .val (.int bd), .val (.ref b2), .val (.int (0 : Int32)), .val (.int (0 : Int32)), .val (.int (0 : Int32)), .val (.int (0 : Int32)), .val (.int (0 : Int32)), .val (.int (0 : Int32)), .unset, .unset, .unset, .unset]) rfl zk) ?_
  show own_G p e below s _ _ _ (T2.setTop (mkF m 41 #[.val (.int qa), .val (.int qb), .val (.int qc), .val (.int qd), .val (.int qe), .val (.int qf), .val (.int (Int32.ofNat n)), .val (.int bd), .val (.ref b2), .val (.int (0 : Int32)), .val (.int (0 : Int32)), .val (.int (0 : Int32)), .val (.int (0 : Int32)), .val (.int (0 : Int32)), .val (.int (0 : Int32)), .unset, .unset, .unset, .unset] []))
  refine own_st (fun zt zk => XS.iconst X2.here hx rfl (hb hby at_41) zk) ?_
  show own_G p e below s _ _ _ (T2.setTop (mkF m 42 #[.val (.int qa), .val (.int qb), .val (.int qc), .val (.int qd), .val (.int qe), .val (.int qf), .val (.int (Int32.ofNat n)), .val (.int bd), .val (.ref b2), .val (.int (0 : Int32)), .val (.int (0 : Int32)), .val (.int (0 : Int32)), .val (.int (0 : Int32)), .val (.int (0 : Int32)), .val (.int (0 : Int32)), .unset, .unset, .unset, .unset] [(.int (0 : Int32))]))
  refine own_st (fun zt zk => XS.istore X2.here hx rfl (hb hby at_42) rfl (l' := #[.val (.int qa), .val (.int qb), .val (.int qc), .val (.int qd), .val (.int qe), .val (.int qf), .val (.int (Int32.ofNat n)), .val (.int bd), .val (.ref b2), .val (.int (0 : Int32)), .val (.int (0 : Int32)), .val (.int (0 : Int32)), .val (.int (0 : Int32)), .val (.int (0 : Int32)), .val (.int (0 : Int32)), .val (.int (0 : Int32)), .unset, .unset, .unset]) rfl zk) ?_
  show own_G p e below s _ _ _ (T2.setTop (mkF m 44 #[.val (.int qa), .val (.int qb), .val (.int qc), .val (.int qd), .val (.int qe), .val (.int qf), .val (.int (Int32.ofNat n)), .val (.int bd), .val (.ref b2), .val (.int (0 : Int32)), .val (.int (0 : Int32)), .val (.int (0 : Int32)), .val (.int (0 : Int32)), .val (.int (0 : Int32)), .val (.int (0 : Int32)), .val (.int (0 : Int32)), .unset, .unset, .unset] []))
  refine own_st (fun zt zk => XS.iconst X2.here hx rfl (hb hby at_44) zk) ?_
  show own_G p e below s _ _ _ (T2.setTop (mkF m 45 #[.val (.int qa), .val (.int qb), .val (.int qc), .val (.int qd), .val (.int qe), .val (.int qf), .val (.int (Int32.ofNat n)), .val (.int bd), .val (.ref b2), .val (.int (0 : Int32)), .val (.int (0 : Int32)), .val (.int (0 : Int32)), .val (.int (0 : Int32)), .val (.int (0 : Int32)), .val (.int (0 : Int32)), .val (.int (0 : Int32)), .unset, .unset, .unset] [(.int (0 : Int32))]))
  refine own_st (fun zt zk => XS.istore X2.here hx rfl (hb hby at_45) rfl (l' := #[.val (.int qa), .val (.int qb), .val (.int qc), .val (.int qd), .val (.int qe), .val (.int qf), .val (.int (Int32.ofNat n)), .val (.int bd), .val (.ref b2), .val (.int (0 : Int32)), .val (.int (0 : Int32)), .val (.int (0 : Int32)), .val (.int (0 : Int32)), .val (.int (0 : Int32)), .val (.int (0 : Int32)), .val (.int (0 : Int32)), .val (.int (0 : Int32)), .unset, .unset]) rfl zk) ?_
  show own_G p e below s _ _ _ (T2.setTop (mkF m 47 #[.val (.int qa), .val (.int qb), .val (.int qc), .val (.int qd), .val (.int qe), .val (.int qf), .val (.int (Int32.ofNat n)), .val (.int bd), .val (.ref b2), .val (.int (0 : Int32)), .val (.int (0 : Int32)), .val (.int (0 : Int32)), .val (.int (0 : Int32)), .val (.int (0 : Int32)), .val (.int (0 : Int32)), .val (.int (0 : Int32)), .val (.int (0 : Int32)), .unset, .unset] []))
  refine own_st (fun zt zk => XS.iload X2.here hx rfl (hb hby at_47) rfl zk) ?_
  show own_G p e below s _ _ _ (T2.setTop (mkF m 49 #[.val (.int qa), .val (.int qb), .val (.int qc), .val (.int qd), .val (.int qe), .val (.int qf), .val (.int (Int32.ofNat n)), .val (.int bd), .val (.ref b2), .val (.int (0 : Int32)), .val (.int (0 : Int32)), .val (.int (0 : Int32)), .val (.int (0 : Int32)), .val (.int (0 : Int32)), .val (.int (0 : Int32)), .val (.int (0 : Int32)), .val (.int (0 : Int32)), .unset, .unset] [(.int (Int32.ofNat n))]))
  by_cases hc49_3 : (0 : Int32) < (Int32.ofNat n)
  · refine own_st (fun zt zk => XS.ifNo X2.here hx rfl (hb hby at_49) rfl ((if0 _ _).trans (tlt hc49_3).2.2.2) zk) ?_
    show own_G p e below s _ _ _ (T2.setTop (mkF m 52 #[.val (.int qa), .val (.int qb), .val (.int qc), .val (.int qd), .val (.int qe), .val (.int qf), .val (.int (Int32.ofNat n)), .val (.int bd), .val (.ref b2), .val (.int (0 : Int32)), .val (.int (0 : Int32)), .val (.int (0 : Int32)), .val (.int (0 : Int32)), .val (.int (0 : Int32)), .val (.int (0 : Int32)), .val (.int (0 : Int32)), .val (.int (0 : Int32)), .unset, .unset] []))
    refine own_st (fun zt zk => XS.iload X2.here hx rfl (hb hby at_52) rfl zk) ?_
    show own_G p e below s _ _ _ (T2.setTop (mkF m 54 #[.val (.int qa), .val (.int qb), .val (.int qc), .val (.int qd), .val (.int qe), .val (.int qf), .val (.int (Int32.ofNat n)), .val (.int bd), .val (.ref b2), .val (.int (0 : Int32)), .val (.int (0 : Int32)), .val (.int (0 : Int32)), .val (.int (0 : Int32)), .val (.int (0 : Int32)), .val (.int (0 : Int32)), .val (.int (0 : Int32)), .val (.int (0 : Int32)), .unset, .unset] [(.int qf)]))
    refine own_st (fun zt zk => XS.sipush X2.here hx rfl (hb hby at_54) zk) ?_
    show own_G p e below s _ _ _ (T2.setTop (mkF m 57 #[.val (.int qa), .val (.int qb), .val (.int qc), .val (.int qd), .val (.int qe), .val (.int qf), .val (.int (Int32.ofNat n)), .val (.int bd), .val (.ref b2), .val (.int (0 : Int32)), .val (.int (0 : Int32)), .val (.int (0 : Int32)), .val (.int (0 : Int32)), .val (.int (0 : Int32)), .val (.int (0 : Int32)), .val (.int (0 : Int32)), .val (.int (0 : Int32)), .unset, .unset] [(.int (1023 : Int32)), (.int qf)]))
    refine own_st (fun zt zk => XS.iand X2.here hx rfl (hb hby at_57) rfl zk) ?_
    show own_G p e below s _ _ _ (T2.setTop (mkF m 58 #[.val (.int qa), .val (.int qb), .val (.int qc), .val (.int qd), .val (.int qe), .val (.int qf), .val (.int (Int32.ofNat n)), .val (.int bd), .val (.ref b2), .val (.int (0 : Int32)), .val (.int (0 : Int32)), .val (.int (0 : Int32)), .val (.int (0 : Int32)), .val (.int (0 : Int32)), .val (.int (0 : Int32)), .val (.int (0 : Int32)), .val (.int (0 : Int32)), .unset, .unset] [(.int (qf &&& (1023 : Int32)))]))
    refine own_st (fun zt zk => XS.iload X2.here hx rfl (hb hby at_58) rfl zk) ?_
    show own_G p e below s _ _ _ (T2.setTop (mkF m 60 #[.val (.int qa), .val (.int qb), .val (.int qc), .val (.int qd), .val (.int qe), .val (.int qf), .val (.int (Int32.ofNat n)), .val (.int bd), .val (.ref b2), .val (.int (0 : Int32)), .val (.int (0 : Int32)), .val (.int (0 : Int32)), .val (.int (0 : Int32)), .val (.int (0 : Int32)), .val (.int (0 : Int32)), .val (.int (0 : Int32)), .val (.int (0 : Int32)), .unset, .unset] [(.int (Int32.ofNat n)), (.int (qf &&& (1023 : Int32)))]))
    refine own_st (fun zt zk => Jvm.RoadKit.iremM X2 hx rfl (hb hby at_60) rfl (own_nzO hn hc49_3) zk) ?_
    show own_G p e below s _ _ _ (T2.setTop (mkF m 61 #[.val (.int qa), .val (.int qb), .val (.int qc), .val (.int qd), .val (.int qe), .val (.int qf), .val (.int (Int32.ofNat n)), .val (.int bd), .val (.ref b2), .val (.int (0 : Int32)), .val (.int (0 : Int32)), .val (.int (0 : Int32)), .val (.int (0 : Int32)), .val (.int (0 : Int32)), .val (.int (0 : Int32)), .val (.int (0 : Int32)), .val (.int (0 : Int32)), .unset, .unset] [(.int ((qf &&& (1023 : Int32)) % (Int32.ofNat n)))]))
    have hpos : 0 < n := (own_pos hn).mp hc49_3
    obtain ⟨ka, e_ka, l_ka⟩ := own_qmd (x := (qf &&& (1023 : Int32))) (own_m1023 _) hn hpos
    rw [e_ka]
    show own_G p e below s _ _ _ (T2.setTop (mkF m 61 #[.val (.int qa), .val (.int qb), .val (.int qc), .val (.int qd), .val (.int qe), .val (.int qf), .val (.int (Int32.ofNat n)), .val (.int bd), .val (.ref b2), .val (.int (0 : Int32)), .val (.int (0 : Int32)), .val (.int (0 : Int32)), .val (.int (0 : Int32)), .val (.int (0 : Int32)), .val (.int (0 : Int32)), .val (.int (0 : Int32)), .val (.int (0 : Int32)), .unset, .unset] [(.int (Int32.ofNat ka))]))
    refine own_st (fun zt zk => XS.istore X2.here hx rfl (hb hby at_61) rfl (l' := #[.val (.int qa), .val (.int qb), .val (.int qc), .val (.int qd), .val (.int qe), .val (.int qf), .val (.int (Int32.ofNat n)), .val (.int bd), .val (.ref b2), .val (.int (Int32.ofNat ka)), .val (.int (0 : Int32)), .val (.int (0 : Int32)), .val (.int (0 : Int32)), .val (.int (0 : Int32)), .val (.int (0 : Int32)), .val (.int (0 : Int32)), .val (.int (0 : Int32)), .unset, .unset]) rfl zk) ?_
    show own_G p e below s _ _ _ (T2.setTop (mkF m 63 #[.val (.int qa), .val (.int qb), .val (.int qc), .val (.int qd), .val (.int qe), .val (.int qf), .val (.int (Int32.ofNat n)), .val (.int bd), .val (.ref b2), .val (.int (Int32.ofNat ka)), .val (.int (0 : Int32)), .val (.int (0 : Int32)), .val (.int (0 : Int32)), .val (.int (0 : Int32)), .val (.int (0 : Int32)), .val (.int (0 : Int32)), .val (.int (0 : Int32)), .unset, .unset] []))
    refine own_st (fun zt zk => XS.iload X2.here hx rfl (hb hby at_63) rfl zk) ?_
    show own_G p e below s _ _ _ (T2.setTop (mkF m 65 #[.val (.int qa), .val (.int qb), .val (.int qc), .val (.int qd), .val (.int qe), .val (.int qf), .val (.int (Int32.ofNat n)), .val (.int bd), .val (.ref b2), .val (.int (Int32.ofNat ka)), .val (.int (0 : Int32)), .val (.int (0 : Int32)), .val (.int (0 : Int32)), .val (.int (0 : Int32)), .val (.int (0 : Int32)), .val (.int (0 : Int32)), .val (.int (0 : Int32)), .unset, .unset] [(.int qf)]))
    refine own_st (fun zt zk => XS.bipush X2.here hx rfl (hb hby at_65) zk) ?_
    show own_G p e below s _ _ _ (T2.setTop (mkF m 67 #[.val (.int qa), .val (.int qb), .val (.int qc), .val (.int qd), .val (.int qe), .val (.int qf), .val (.int (Int32.ofNat n)), .val (.int bd), .val (.ref b2), .val (.int (Int32.ofNat ka)), .val (.int (0 : Int32)), .val (.int (0 : Int32)), .val (.int (0 : Int32)), .val (.int (0 : Int32)), .val (.int (0 : Int32)), .val (.int (0 : Int32)), .val (.int (0 : Int32)), .unset, .unset] [(.int (10 : Int32)), (.int qf)]))
    refine own_st (fun zt zk => XS.iushr X2.here hx rfl (hb hby at_67) rfl zk) ?_
    show own_G p e below s _ _ _ (T2.setTop (mkF m 68 #[.val (.int qa), .val (.int qb), .val (.int qc), .val (.int qd), .val (.int qe), .val (.int qf), .val (.int (Int32.ofNat n)), .val (.int bd), .val (.ref b2), .val (.int (Int32.ofNat ka)), .val (.int (0 : Int32)), .val (.int (0 : Int32)), .val (.int (0 : Int32)), .val (.int (0 : Int32)), .val (.int (0 : Int32)), .val (.int (0 : Int32)), .val (.int (0 : Int32)), .unset, .unset] [(.int ((qf.toUInt32 >>> ((10 : Int32) &&& 31).toUInt32).toInt32))]))
    refine own_st (fun zt zk => XS.sipush X2.here hx rfl (hb hby at_68) zk) ?_
    show own_G p e below s _ _ _ (T2.setTop (mkF m 71 #[.val (.int qa), .val (.int qb), .val (.int qc), .val (.int qd), .val (.int qe), .val (.int qf), .val (.int (Int32.ofNat n)), .val (.int bd), .val (.ref b2), .val (.int (Int32.ofNat ka)), .val (.int (0 : Int32)), .val (.int (0 : Int32)), .val (.int (0 : Int32)), .val (.int (0 : Int32)), .val (.int (0 : Int32)), .val (.int (0 : Int32)), .val (.int (0 : Int32)), .unset, .unset] [(.int (1023 : Int32)), (.int ((qf.toUInt32 >>> ((10 : Int32) &&& 31).toUInt32).toInt32))]))
    refine own_st (fun zt zk => XS.iand X2.here hx rfl (hb hby at_71) rfl zk) ?_
    show own_G p e below s _ _ _ (T2.setTop (mkF m 72 #[.val (.int qa), .val (.int qb), .val (.int qc), .val (.int qd), .val (.int qe), .val (.int qf), .val (.int (Int32.ofNat n)), .val (.int bd), .val (.ref b2), .val (.int (Int32.ofNat ka)), .val (.int (0 : Int32)), .val (.int (0 : Int32)), .val (.int (0 : Int32)), .val (.int (0 : Int32)), .val (.int (0 : Int32)), .val (.int (0 : Int32)), .val (.int (0 : Int32)), .unset, .unset] [(.int (((qf.toUInt32 >>> ((10 : Int32) &&& 31).toUInt32).toInt32) &&& (1023 : Int32)))]))
    refine own_st (fun zt zk => XS.iload X2.here hx rfl (hb hby at_72) rfl zk) ?_
    show own_G p e below s _ _ _ (T2.setTop (mkF m 74 #[.val (.int qa), .val (.int qb), .val (.int qc), .val (.int qd), .val (.int qe), .val (.int qf), .val (.int (Int32.ofNat n)), .val (.int bd), .val (.ref b2), .val (.int (Int32.ofNat ka)), .val (.int (0 : Int32)), .val (.int (0 : Int32)), .val (.int (0 : Int32)), .val (.int (0 : Int32)), .val (.int (0 : Int32)), .val (.int (0 : Int32)), .val (.int (0 : Int32)), .unset, .unset] [(.int (Int32.ofNat n)), (.int (((qf.toUInt32 >>> ((10 : Int32) &&& 31).toUInt32).toInt32) &&& (1023 : Int32)))]))
    refine own_st (fun zt zk => Jvm.RoadKit.iremM X2 hx rfl (hb hby at_74) rfl (own_nzO hn hc49_3) zk) ?_
    show own_G p e below s _ _ _ (T2.setTop (mkF m 75 #[.val (.int qa), .val (.int qb), .val (.int qc), .val (.int qd), .val (.int qe), .val (.int qf), .val (.int (Int32.ofNat n)), .val (.int bd), .val (.ref b2), .val (.int (Int32.ofNat ka)), .val (.int (0 : Int32)), .val (.int (0 : Int32)), .val (.int (0 : Int32)), .val (.int (0 : Int32)), .val (.int (0 : Int32)), .val (.int (0 : Int32)), .val (.int (0 : Int32)), .unset, .unset] [(.int ((((qf.toUInt32 >>> ((10 : Int32) &&& 31).toUInt32).toInt32) &&& (1023 : Int32)) % (Int32.ofNat n)))]))
    obtain ⟨kb, e_kb, l_kb⟩ := own_qmd (x := (((qf.toUInt32 >>> ((10 : Int32) &&& 31).toUInt32).toInt32) &&& (1023 : Int32))) (own_m1023 _) hn hpos
    rw [e_kb]
    show own_G p e below s _ _ _ (T2.setTop (mkF m 75 #[.val (.int qa), .val (.int qb), .val (.int qc), .val (.int qd), .val (.int qe), .val (.int qf), .val (.int (Int32.ofNat n)), .val (.int bd), .val (.ref b2), .val (.int (Int32.ofNat ka)), .val (.int (0 : Int32)), .val (.int (0 : Int32)), .val (.int (0 : Int32)), .val (.int (0 : Int32)), .val (.int (0 : Int32)), .val (.int (0 : Int32)), .val (.int (0 : Int32)), .unset, .unset] [(.int (Int32.ofNat kb))]))
    refine own_st (fun zt zk => XS.istore X2.here hx rfl (hb hby at_75) rfl (l' := #[.val (.int qa), .val (.int qb), .val (.int qc), .val (.int qd), .val (.int qe), .val (.int qf), .val (.int (Int32.ofNat n)), .val (.int bd), .val (.ref b2), .val (.int (Int32.ofNat ka)), .val (.int (Int32.ofNat kb)), .val (.int (0 : Int32)), .val (.int (0 : Int32)), .val (.int (0 : Int32)), .val (.int (0 : Int32)), .val (.int (0 : Int32)), .val (.int (0 : Int32)), .unset, .unset]) rfl zk) ?_
    show own_G p e below s _ _ _ (T2.setTop (mkF m 77 #[.val (.int qa), .val (.int qb), .val (.int qc), .val (.int qd), .val (.int qe), .val (.int qf), .val (.int (Int32.ofNat n)), .val (.int bd), .val (.ref b2), .val (.int (Int32.ofNat ka)), .val (.int (Int32.ofNat kb)), .val (.int (0 : Int32)), .val (.int (0 : Int32)), .val (.int (0 : Int32)), .val (.int (0 : Int32)), .val (.int (0 : Int32)), .val (.int (0 : Int32)), .unset, .unset] []))
    refine own_st (fun zt zk => XS.iload X2.here hx rfl (hb hby at_77) rfl zk) ?_
    show own_G p e below s _ _ _ (T2.setTop (mkF m 79 #[.val (.int qa), .val (.int qb), .val (.int qc), .val (.int qd), .val (.int qe), .val (.int qf), .val (.int (Int32.ofNat n)), .val (.int bd), .val (.ref b2), .val (.int (Int32.ofNat ka)), .val (.int (Int32.ofNat kb)), .val (.int (0 : Int32)), .val (.int (0 : Int32)), .val (.int (0 : Int32)), .val (.int (0 : Int32)), .val (.int (0 : Int32)), .val (.int (0 : Int32)), .unset, .unset] [(.int qf)]))
    refine own_st (fun zt zk => XS.bipush X2.here hx rfl (hb hby at_79) zk) ?_
    show own_G p e below s _ _ _ (T2.setTop (mkF m 81 #[.val (.int qa), .val (.int qb), .val (.int qc), .val (.int qd), .val (.int qe), .val (.int qf), .val (.int (Int32.ofNat n)), .val (.int bd), .val (.ref b2), .val (.int (Int32.ofNat ka)), .val (.int (Int32.ofNat kb)), .val (.int (0 : Int32)), .val (.int (0 : Int32)), .val (.int (0 : Int32)), .val (.int (0 : Int32)), .val (.int (0 : Int32)), .val (.int (0 : Int32)), .unset, .unset] [(.int (20 : Int32)), (.int qf)]))
    refine own_st (fun zt zk => XS.iushr X2.here hx rfl (hb hby at_81) rfl zk) ?_
    show own_G p e below s _ _ _ (T2.setTop (mkF m 82 #[.val (.int qa), .val (.int qb), .val (.int qc), .val (.int qd), .val (.int qe), .val (.int qf), .val (.int (Int32.ofNat n)), .val (.int bd), .val (.ref b2), .val (.int (Int32.ofNat ka)), .val (.int (Int32.ofNat kb)), .val (.int (0 : Int32)), .val (.int (0 : Int32)), .val (.int (0 : Int32)), .val (.int (0 : Int32)), .val (.int (0 : Int32)), .val (.int (0 : Int32)), .unset, .unset] [(.int ((qf.toUInt32 >>> ((20 : Int32) &&& 31).toUInt32).toInt32))]))
    refine own_st (fun zt zk => XS.sipush X2.here hx rfl (hb hby at_82) zk) ?_
    show own_G p e below s _ _ _ (T2.setTop (mkF m 85 #[.val (.int qa), .val (.int qb), .val (.int qc), .val (.int qd), .val (.int qe), .val (.int qf), .val (.int (Int32.ofNat n)), .val (.int bd), .val (.ref b2), .val (.int (Int32.ofNat ka)), .val (.int (Int32.ofNat kb)), .val (.int (0 : Int32)), .val (.int (0 : Int32)), .val (.int (0 : Int32)), .val (.int (0 : Int32)), .val (.int (0 : Int32)), .val (.int (0 : Int32)), .unset, .unset] [(.int (1023 : Int32)), (.int ((qf.toUInt32 >>> ((20 : Int32) &&& 31).toUInt32).toInt32))]))
    refine own_st (fun zt zk => XS.iand X2.here hx rfl (hb hby at_85) rfl zk) ?_
    show own_G p e below s _ _ _ (T2.setTop (mkF m 86 #[.val (.int qa), .val (.int qb), .val (.int qc), .val (.int qd), .val (.int qe), .val (.int qf), .val (.int (Int32.ofNat n)), .val (.int bd), .val (.ref b2), .val (.int (Int32.ofNat ka)), .val (.int (Int32.ofNat kb)), .val (.int (0 : Int32)), .val (.int (0 : Int32)), .val (.int (0 : Int32)), .val (.int (0 : Int32)), .val (.int (0 : Int32)), .val (.int (0 : Int32)), .unset, .unset] [(.int (((qf.toUInt32 >>> ((20 : Int32) &&& 31).toUInt32).toInt32) &&& (1023 : Int32)))]))
    refine own_st (fun zt zk => XS.iload X2.here hx rfl (hb hby at_86) rfl zk) ?_
    show own_G p e below s _ _ _ (T2.setTop (mkF m 88 #[.val (.int qa), .val (.int qb), .val (.int qc), .val (.int qd), .val (.int qe), .val (.int qf), .val (.int (Int32.ofNat n)), .val (.int bd), .val (.ref b2), .val (.int (Int32.ofNat ka)), .val (.int (Int32.ofNat kb)), .val (.int (0 : Int32)), .val (.int (0 : Int32)), .val (.int (0 : Int32)), .val (.int (0 : Int32)), .val (.int (0 : Int32)), .val (.int (0 : Int32)), .unset, .unset] [(.int (Int32.ofNat n)), (.int (((qf.toUInt32 >>> ((20 : Int32) &&& 31).toUInt32).toInt32) &&& (1023 : Int32)))]))
    refine own_st (fun zt zk => Jvm.RoadKit.iremM X2 hx rfl (hb hby at_88) rfl (own_nzO hn hc49_3) zk) ?_
    show own_G p e below s _ _ _ (T2.setTop (mkF m 89 #[.val (.int qa), .val (.int qb), .val (.int qc), .val (.int qd), .val (.int qe), .val (.int qf), .val (.int (Int32.ofNat n)), .val (.int bd), .val (.ref b2), .val (.int (Int32.ofNat ka)), .val (.int (Int32.ofNat kb)), .val (.int (0 : Int32)), .val (.int (0 : Int32)), .val (.int (0 : Int32)), .val (.int (0 : Int32)), .val (.int (0 : Int32)), .val (.int (0 : Int32)), .unset, .unset] [(.int ((((qf.toUInt32 >>> ((20 : Int32) &&& 31).toUInt32).toInt32) &&& (1023 : Int32)) % (Int32.ofNat n)))]))
    obtain ⟨kc, e_kc, l_kc⟩ := own_qmd (x := (((qf.toUInt32 >>> ((20 : Int32) &&& 31).toUInt32).toInt32) &&& (1023 : Int32))) (own_m1023 _) hn hpos
    rw [e_kc]
    show own_G p e below s _ _ _ (T2.setTop (mkF m 89 #[.val (.int qa), .val (.int qb), .val (.int qc), .val (.int qd), .val (.int qe), .val (.int qf), .val (.int (Int32.ofNat n)), .val (.int bd), .val (.ref b2), .val (.int (Int32.ofNat ka)), .val (.int (Int32.ofNat kb)), .val (.int (0 : Int32)), .val (.int (0 : Int32)), .val (.int (0 : Int32)), .val (.int (0 : Int32)), .val (.int (0 : Int32)), .val (.int (0 : Int32)), .unset, .unset] [(.int (Int32.ofNat kc))]))
    refine own_st (fun zt zk => XS.istore X2.here hx rfl (hb hby at_89) rfl (l' := #[.val (.int qa), .val (.int qb), .val (.int qc), .val (.int qd), .val (.int qe), .val (.int qf), .val (.int (Int32.ofNat n)), .val (.int bd), .val (.ref b2), .val (.int (Int32.ofNat ka)), .val (.int (Int32.ofNat kb)), .val (.int (Int32.ofNat kc)), .val (.int (0 : Int32)), .val (.int (0 : Int32)), .val (.int (0 : Int32)), .val (.int (0 : Int32)), .val (.int (0 : Int32)), .unset, .unset]) rfl zk) ?_
    show own_G p e below s _ _ _ (T2.setTop (mkF m 91 #[.val (.int qa), .val (.int qb), .val (.int qc), .val (.int qd), .val (.int qe), .val (.int qf), .val (.int (Int32.ofNat n)), .val (.int bd), .val (.ref b2), .val (.int (Int32.ofNat ka)), .val (.int (Int32.ofNat kb)), .val (.int (Int32.ofNat kc)), .val (.int (0 : Int32)), .val (.int (0 : Int32)), .val (.int (0 : Int32)), .val (.int (0 : Int32)), .val (.int (0 : Int32)), .unset, .unset] []))
    refine own_st (fun zt zk => XS.iloadN X2.here hx rfl (hb hby at_91) rfl zk) ?_
    show own_G p e below s _ _ _ (T2.setTop (mkF m 92 #[.val (.int qa), .val (.int qb), .val (.int qc), .val (.int qd), .val (.int qe), .val (.int qf), .val (.int (Int32.ofNat n)), .val (.int bd), .val (.ref b2), .val (.int (Int32.ofNat ka)), .val (.int (Int32.ofNat kb)), .val (.int (Int32.ofNat kc)), .val (.int (0 : Int32)), .val (.int (0 : Int32)), .val (.int (0 : Int32)), .val (.int (0 : Int32)), .val (.int (0 : Int32)), .unset, .unset] [(.int qa)]))
    refine own_st (fun zt zk => XS.bipush X2.here hx rfl (hb hby at_92) zk) ?_
    show own_G p e below s _ _ _ (T2.setTop (mkF m 94 #[.val (.int qa), .val (.int qb), .val (.int qc), .val (.int qd), .val (.int qe), .val (.int qf), .val (.int (Int32.ofNat n)), .val (.int bd), .val (.ref b2), .val (.int (Int32.ofNat ka)), .val (.int (Int32.ofNat kb)), .val (.int (Int32.ofNat kc)), .val (.int (0 : Int32)), .val (.int (0 : Int32)), .val (.int (0 : Int32)), .val (.int (0 : Int32)), .val (.int (0 : Int32)), .unset, .unset] [(.int (8 : Int32)), (.int qa)]))
    refine own_st (fun zt zk => XS.iushr X2.here hx rfl (hb hby at_94) rfl zk) ?_
    show own_G p e below s _ _ _ (T2.setTop (mkF m 95 #[.val (.int qa), .val (.int qb), .val (.int qc), .val (.int qd), .val (.int qe), .val (.int qf), .val (.int (Int32.ofNat n)), .val (.int bd), .val (.ref b2), .val (.int (Int32.ofNat ka)), .val (.int (Int32.ofNat kb)), .val (.int (Int32.ofNat kc)), .val (.int (0 : Int32)), .val (.int (0 : Int32)), .val (.int (0 : Int32)), .val (.int (0 : Int32)), .val (.int (0 : Int32)), .unset, .unset] [(.int ((qa.toUInt32 >>> ((8 : Int32) &&& 31).toUInt32).toInt32))]))
    refine own_st (fun zt zk => XS.sipush X2.here hx rfl (hb hby at_95) zk) ?_
    show own_G p e below s _ _ _ (T2.setTop (mkF m 98 #[.val (.int qa), .val (.int qb), .val (.int qc), .val (.int qd), .val (.int qe), .val (.int qf), .val (.int (Int32.ofNat n)), .val (.int bd), .val (.ref b2), .val (.int (Int32.ofNat ka)), .val (.int (Int32.ofNat kb)), .val (.int (Int32.ofNat kc)), .val (.int (0 : Int32)), .val (.int (0 : Int32)), .val (.int (0 : Int32)), .val (.int (0 : Int32)), .val (.int (0 : Int32)), .unset, .unset] [(.int (1023 : Int32)), (.int ((qa.toUInt32 >>> ((8 : Int32) &&& 31).toUInt32).toInt32))]))
    refine own_st (fun zt zk => XS.iand X2.here hx rfl (hb hby at_98) rfl zk) ?_
    show own_G p e below s _ _ _ (T2.setTop (mkF m 99 #[.val (.int qa), .val (.int qb), .val (.int qc), .val (.int qd), .val (.int qe), .val (.int qf), .val (.int (Int32.ofNat n)), .val (.int bd), .val (.ref b2), .val (.int (Int32.ofNat ka)), .val (.int (Int32.ofNat kb)), .val (.int (Int32.ofNat kc)), .val (.int (0 : Int32)), .val (.int (0 : Int32)), .val (.int (0 : Int32)), .val (.int (0 : Int32)), .val (.int (0 : Int32)), .unset, .unset] [(.int (((qa.toUInt32 >>> ((8 : Int32) &&& 31).toUInt32).toInt32) &&& (1023 : Int32)))]))
    refine own_st (fun zt zk => XS.iload X2.here hx rfl (hb hby at_99) rfl zk) ?_
    show own_G p e below s _ _ _ (T2.setTop (mkF m 101 #[.val (.int qa), .val (.int qb), .val (.int qc), .val (.int qd), .val (.int qe), .val (.int qf), .val (.int (Int32.ofNat n)), .val (.int bd), .val (.ref b2), .val (.int (Int32.ofNat ka)), .val (.int (Int32.ofNat kb)), .val (.int (Int32.ofNat kc)), .val (.int (0 : Int32)), .val (.int (0 : Int32)), .val (.int (0 : Int32)), .val (.int (0 : Int32)), .val (.int (0 : Int32)), .unset, .unset] [(.int (Int32.ofNat n)), (.int (((qa.toUInt32 >>> ((8 : Int32) &&& 31).toUInt32).toInt32) &&& (1023 : Int32)))]))
    refine own_st (fun zt zk => Jvm.RoadKit.iremM X2 hx rfl (hb hby at_101) rfl (own_nzO hn hc49_3) zk) ?_
    show own_G p e below s _ _ _ (T2.setTop (mkF m 102 #[.val (.int qa), .val (.int qb), .val (.int qc), .val (.int qd), .val (.int qe), .val (.int qf), .val (.int (Int32.ofNat n)), .val (.int bd), .val (.ref b2), .val (.int (Int32.ofNat ka)), .val (.int (Int32.ofNat kb)), .val (.int (Int32.ofNat kc)), .val (.int (0 : Int32)), .val (.int (0 : Int32)), .val (.int (0 : Int32)), .val (.int (0 : Int32)), .val (.int (0 : Int32)), .unset, .unset] [(.int ((((qa.toUInt32 >>> ((8 : Int32) &&& 31).toUInt32).toInt32) &&& (1023 : Int32)) % (Int32.ofNat n)))]))
    obtain ⟨kq, e_kq, l_kq⟩ := own_qmd (x := (((qa.toUInt32 >>> ((8 : Int32) &&& 31).toUInt32).toInt32) &&& (1023 : Int32))) (own_m1023 _) hn hpos
    rw [e_kq]
    show own_G p e below s _ _ _ (T2.setTop (mkF m 102 #[.val (.int qa), .val (.int qb), .val (.int qc), .val (.int qd), .val (.int qe), .val (.int qf), .val (.int (Int32.ofNat n)), .val (.int bd), .val (.ref b2), .val (.int (Int32.ofNat ka)), .val (.int (Int32.ofNat kb)), .val (.int (Int32.ofNat kc)), .val (.int (0 : Int32)), .val (.int (0 : Int32)), .val (.int (0 : Int32)), .val (.int (0 : Int32)), .val (.int (0 : Int32)), .unset, .unset] [(.int (Int32.ofNat kq))]))
    refine own_st (fun zt zk => XS.istore X2.here hx rfl (hb hby at_102) rfl (l' := #[.val (.int qa), .val (.int qb), .val (.int qc), .val (.int qd), .val (.int qe), .val (.int qf), .val (.int (Int32.ofNat n)), .val (.int bd), .val (.ref b2), .val (.int (Int32.ofNat ka)), .val (.int (Int32.ofNat kb)), .val (.int (Int32.ofNat kc)), .val (.int (Int32.ofNat kq)), .val (.int (0 : Int32)), .val (.int (0 : Int32)), .val (.int (0 : Int32)), .val (.int (0 : Int32)), .unset, .unset]) rfl zk) ?_
    show own_G p e below s _ _ _ (T2.setTop (mkF m 104 #[.val (.int qa), .val (.int qb), .val (.int qc), .val (.int qd), .val (.int qe), .val (.int qf), .val (.int (Int32.ofNat n)), .val (.int bd), .val (.ref b2), .val (.int (Int32.ofNat ka)), .val (.int (Int32.ofNat kb)), .val (.int (Int32.ofNat kc)), .val (.int (Int32.ofNat kq)), .val (.int (0 : Int32)), .val (.int (0 : Int32)), .val (.int (0 : Int32)), .val (.int (0 : Int32)), .unset, .unset] []))
    refine own_st (fun zt zk => XS.aload X2.here hx rfl (hb hby at_104) rfl rfl zk) ?_
    show own_G p e below s _ _ _ (T2.setTop (mkF m 106 #[.val (.int qa), .val (.int qb), .val (.int qc), .val (.int qd), .val (.int qe), .val (.int qf), .val (.int (Int32.ofNat n)), .val (.int bd), .val (.ref b2), .val (.int (Int32.ofNat ka)), .val (.int (Int32.ofNat kb)), .val (.int (Int32.ofNat kc)), .val (.int (Int32.ofNat kq)), .val (.int (0 : Int32)), .val (.int (0 : Int32)), .val (.int (0 : Int32)), .val (.int (0 : Int32)), .unset, .unset] [(.ref b2)]))
    refine own_st (fun zt zk => XS.iload X2.here hx rfl (hb hby at_106) rfl zk) ?_
    show own_G p e below s _ _ _ (T2.setTop (mkF m 108 #[.val (.int qa), .val (.int qb), .val (.int qc), .val (.int qd), .val (.int qe), .val (.int qf), .val (.int (Int32.ofNat n)), .val (.int bd), .val (.ref b2), .val (.int (Int32.ofNat ka)), .val (.int (Int32.ofNat kb)), .val (.int (Int32.ofNat kc)), .val (.int (Int32.ofNat kq)), .val (.int (0 : Int32)), .val (.int (0 : Int32)), .val (.int (0 : Int32)), .val (.int (0 : Int32)), .unset, .unset] [(.int (Int32.ofNat ka)), (.ref b2)]))
    refine own_st (fun zt zk => XS.iloadN X2.here hx rfl (hb hby at_108) rfl zk) ?_
    show own_G p e below s _ _ _ (T2.setTop (mkF m 109 #[.val (.int qa), .val (.int qb), .val (.int qc), .val (.int qd), .val (.int qe), .val (.int qf), .val (.int (Int32.ofNat n)), .val (.int bd), .val (.ref b2), .val (.int (Int32.ofNat ka)), .val (.int (Int32.ofNat kb)), .val (.int (Int32.ofNat kc)), .val (.int (Int32.ofNat kq)), .val (.int (0 : Int32)), .val (.int (0 : Int32)), .val (.int (0 : Int32)), .val (.int (0 : Int32)), .unset, .unset] [(.int qc), (.int (Int32.ofNat ka)), (.ref b2)]))
    refine own_st (X2.ldcInt hx hown (mvT hZ (hw _ (List.mem_of_getElem? (i := 0) rfl))) (g := (mkF m 109 #[.val (.int qa), .val (.int qb), .val (.int qc), .val (.int qd), .val (.int qe), .val (.int qf), .val (.int (Int32.ofNat n)), .val (.int bd), .val (.ref b2), .val (.int (Int32.ofNat ka)), .val (.int (Int32.ofNat kb)), .val (.int (Int32.ofNat kc)), .val (.int (Int32.ofNat kq)), .val (.int (0 : Int32)), .val (.int (0 : Int32)), .val (.int (0 : Int32)), .val (.int (0 : Int32)), .unset, .unset] [(.int qc), (.int (Int32.ofNat ka)), (.ref b2)])) rfl (hb hby at_109)) ?_
    show own_G p e below s _ _ _ (T2.setTop (mkF m 111 #[.val (.int qa), .val (.int qb), .val (.int qc), .val (.int qd), .val (.int qe), .val (.int qf), .val (.int (Int32.ofNat n)), .val (.int bd), .val (.ref b2), .val (.int (Int32.ofNat ka)), .val (.int (Int32.ofNat kb)), .val (.int (Int32.ofNat kc)), .val (.int (Int32.ofNat kq)), .val (.int (0 : Int32)), .val (.int (0 : Int32)), .val (.int (0 : Int32)), .val (.int (0 : Int32)), .unset, .unset] [(.int (2147483647 : Int32)), (.int qc), (.int (Int32.ofNat ka)), (.ref b2)]))
    refine own_st (fun zt zk => XS.iand X2.here hx rfl (hb hby at_111) rfl zk) ?_
    show own_G p e below s _ _ _ (T2.setTop (mkF m 112 #[.val (.int qa), .val (.int qb), .val (.int qc), .val (.int qd), .val (.int qe), .val (.int qf), .val (.int (Int32.ofNat n)), .val (.int bd), .val (.ref b2), .val (.int (Int32.ofNat ka)), .val (.int (Int32.ofNat kb)), .val (.int (Int32.ofNat kc)), .val (.int (Int32.ofNat kq)), .val (.int (0 : Int32)), .val (.int (0 : Int32)), .val (.int (0 : Int32)), .val (.int (0 : Int32)), .unset, .unset] [(.int (qc &&& (2147483647 : Int32))), (.int (Int32.ofNat ka)), (.ref b2)]))
    refine own_st (fun zt zk => XS.iload X2.here hx rfl (hb hby at_112) rfl zk) ?_
    show own_G p e below s _ _ _ (T2.setTop (mkF m 114 #[.val (.int qa), .val (.int qb), .val (.int qc), .val (.int qd), .val (.int qe), .val (.int qf), .val (.int (Int32.ofNat n)), .val (.int bd), .val (.ref b2), .val (.int (Int32.ofNat ka)), .val (.int (Int32.ofNat kb)), .val (.int (Int32.ofNat kc)), .val (.int (Int32.ofNat kq)), .val (.int (0 : Int32)), .val (.int (0 : Int32)), .val (.int (0 : Int32)), .val (.int (0 : Int32)), .unset, .unset] [(.int bd), (.int (qc &&& (2147483647 : Int32))), (.int (Int32.ofNat ka)), (.ref b2)]))
    refine own_st (fun zt zk => Jvm.RoadKit.iremM X2 hx rfl (hb hby at_114) rfl (own_nz hbd) zk) ?_
    show own_G p e below s _ _ _ (T2.setTop (mkF m 115 #[.val (.int qa), .val (.int qb), .val (.int qc), .val (.int qd), .val (.int qe), .val (.int qf), .val (.int (Int32.ofNat n)), .val (.int bd), .val (.ref b2), .val (.int (Int32.ofNat ka)), .val (.int (Int32.ofNat kb)), .val (.int (Int32.ofNat kc)), .val (.int (Int32.ofNat kq)), .val (.int (0 : Int32)), .val (.int (0 : Int32)), .val (.int (0 : Int32)), .val (.int (0 : Int32)), .unset, .unset] [(.int ((qc &&& (2147483647 : Int32)) % bd)), (.int (Int32.ofNat ka)), (.ref b2)]))
    obtain ⟨ya, e_ya, g_ya⟩ : ∃ z, z = ((qc &&& (2147483647 : Int32)) % bd) ∧ (0 ≤ z.toInt ∧ z.toInt < bd.toInt) := ⟨_, rfl, own_mval _ _ hbd⟩
    rw [← e_ya]
    show own_G p e below s _ _ _ (T2.setTop (mkF m 115 #[.val (.int qa), .val (.int qb), .val (.int qc), .val (.int qd), .val (.int qe), .val (.int qf), .val (.int (Int32.ofNat n)), .val (.int bd), .val (.ref b2), .val (.int (Int32.ofNat ka)), .val (.int (Int32.ofNat kb)), .val (.int (Int32.ofNat kc)), .val (.int (Int32.ofNat kq)), .val (.int (0 : Int32)), .val (.int (0 : Int32)), .val (.int (0 : Int32)), .val (.int (0 : Int32)), .unset, .unset] [(.int ya), (.int (Int32.ofNat ka)), (.ref b2)]))
    obtain ⟨T4, h4, X4, e4, W4, V4, st4⟩ := own_iastore X2 hx hZ e2 V2a (i := ka) (own_tO (own_ltF l_ka hn)) l_ka (g := (mkF m 115 #[.val (.int qa), .val (.int qb), .val (.int qc), .val (.int qd), .val (.int qe), .val (.int qf), .val (.int (Int32.ofNat n)), .val (.int bd), .val (.ref b2), .val (.int (Int32.ofNat ka)), .val (.int (Int32.ofNat kb)), .val (.int (Int32.ofNat kc)), .val (.int (Int32.ofNat kq)), .val (.int (0 : Int32)), .val (.int (0 : Int32)), .val (.int (0 : Int32)), .val (.int (0 : Int32)), .unset, .unset] [(.int ya), (.int (Int32.ofNat ka)), (.ref b2)])) rfl rfl (hb hby at_115)
    refine own_st st4 ?_
    have N4 := Fr.snoc X4 N1 ge2
    have V4a : own_A Z h4 b2 .int n (fun q => .int ((own_up (fun _ => (0 : Int32)) ka ya) q)) := V4.congr (fun q _ => by simp only [own_up]; split <;> rfl)
    show own_G p e below s _ _ _ (T4.setTop (mkF m 116 #[.val (.int qa), .val (.int qb), .val (.int qc), .val (.int qd), .val (.int qe), .val (.int qf), .val (.int (Int32.ofNat n)), .val (.int bd), .val (.ref b2), .val (.int (Int32.ofNat ka)), .val (.int (Int32.ofNat kb)), .val (.int (Int32.ofNat kc)), .val (.int (Int32.ofNat kq)), .val (.int (0 : Int32)), .val (.int (0 : Int32)), .val (.int (0 : Int32)), .val (.int (0 : Int32)), .unset, .unset] []))
    refine own_st (fun zt zk => XS.aload X4.here hx rfl (hb hby at_116) rfl rfl zk) ?_
    show own_G p e below s _ _ _ (T4.setTop (mkF m 118 #[.val (.int qa), .val (.int qb), .val (.int qc), .val (.int qd), .val (.int qe), .val (.int qf), .val (.int (Int32.ofNat n)), .val (.int bd), .val (.ref b2), .val (.int (Int32.ofNat ka)), .val (.int (Int32.ofNat kb)), .val (.int (Int32.ofNat kc)), .val (.int (Int32.ofNat kq)), .val (.int (0 : Int32)), .val (.int (0 : Int32)), .val (.int (0 : Int32)), .val (.int (0 : Int32)), .unset, .unset] [(.ref b2)]))
    refine own_st (fun zt zk => XS.iload X4.here hx rfl (hb hby at_118) rfl zk) ?_
    show own_G p e below s _ _ _ (T4.setTop (mkF m 120 #[.val (.int qa), .val (.int qb), .val (.int qc), .val (.int qd), .val (.int qe), .val (.int qf), .val (.int (Int32.ofNat n)), .val (.int bd), .val (.ref b2), .val (.int (Int32.ofNat ka)), .val (.int (Int32.ofNat kb)), .val (.int (Int32.ofNat kc)), .val (.int (Int32.ofNat kq)), .val (.int (0 : Int32)), .val (.int (0 : Int32)), .val (.int (0 : Int32)), .val (.int (0 : Int32)), .unset, .unset] [(.int (Int32.ofNat kb)), (.ref b2)]))
    refine own_st (fun zt zk => XS.iloadN X4.here hx rfl (hb hby at_120) rfl zk) ?_
    show own_G p e below s _ _ _ (T4.setTop (mkF m 121 #[.val (.int qa), .val (.int qb), .val (.int qc), .val (.int qd), .val (.int qe), .val (.int qf), .val (.int (Int32.ofNat n)), .val (.int bd), .val (.ref b2), .val (.int (Int32.ofNat ka)), .val (.int (Int32.ofNat kb)), .val (.int (Int32.ofNat kc)), .val (.int (Int32.ofNat kq)), .val (.int (0 : Int32)), .val (.int (0 : Int32)), .val (.int (0 : Int32)), .val (.int (0 : Int32)), .unset, .unset] [(.int qd), (.int (Int32.ofNat kb)), (.ref b2)]))
    refine own_st (X4.ldcInt hx hown (mvT hZ (hw _ (List.mem_of_getElem? (i := 0) rfl))) (g := (mkF m 121 #[.val (.int qa), .val (.int qb), .val (.int qc), .val (.int qd), .val (.int qe), .val (.int qf), .val (.int (Int32.ofNat n)), .val (.int bd), .val (.ref b2), .val (.int (Int32.ofNat ka)), .val (.int (Int32.ofNat kb)), .val (.int (Int32.ofNat kc)), .val (.int (Int32.ofNat kq)), .val (.int (0 : Int32)), .val (.int (0 : Int32)), .val (.int (0 : Int32)), .val (.int (0 : Int32)), .unset, .unset] [(.int qd), (.int (Int32.ofNat kb)), (.ref b2)])) rfl (hb hby at_121)) ?_
    show own_G p e below s _ _ _ (T4.setTop (mkF m 123 #[.val (.int qa), .val (.int qb), .val (.int qc), .val (.int qd), .val (.int qe), .val (.int qf), .val (.int (Int32.ofNat n)), .val (.int bd), .val (.ref b2), .val (.int (Int32.ofNat ka)), .val (.int (Int32.ofNat kb)), .val (.int (Int32.ofNat kc)), .val (.int (Int32.ofNat kq)), .val (.int (0 : Int32)), .val (.int (0 : Int32)), .val (.int (0 : Int32)), .val (.int (0 : Int32)), .unset, .unset] [(.int (2147483647 : Int32)), (.int qd), (.int (Int32.ofNat kb)), (.ref b2)]))
    refine own_st (fun zt zk => XS.iand X4.here hx rfl (hb hby at_123) rfl zk) ?_
    show own_G p e below s _ _ _ (T4.setTop (mkF m 124 #[.val (.int qa), .val (.int qb), .val (.int qc), .val (.int qd), .val (.int qe), .val (.int qf), .val (.int (Int32.ofNat n)), .val (.int bd), .val (.ref b2), .val (.int (Int32.ofNat ka)), .val (.int (Int32.ofNat kb)), .val (.int (Int32.ofNat kc)), .val (.int (Int32.ofNat kq)), .val (.int (0 : Int32)), .val (.int (0 : Int32)), .val (.int (0 : Int32)), .val (.int (0 : Int32)), .unset, .unset] [(.int (qd &&& (2147483647 : Int32))), (.int (Int32.ofNat kb)), (.ref b2)]))
    refine own_st (fun zt zk => XS.iload X4.here hx rfl (hb hby at_124) rfl zk) ?_
    show own_G p e below s _ _ _ (T4.setTop (mkF m 126 #[.val (.int qa), .val (.int qb), .val (.int qc), .val (.int qd), .val (.int qe), .val (.int qf), .val (.int (Int32.ofNat n)), .val (.int bd), .val (.ref b2), .val (.int (Int32.ofNat ka)), .val (.int (Int32.ofNat kb)), .val (.int (Int32.ofNat kc)), .val (.int (Int32.ofNat kq)), .val (.int (0 : Int32)), .val (.int (0 : Int32)), .val (.int (0 : Int32)), .val (.int (0 : Int32)), .unset, .unset] [(.int bd), (.int (qd &&& (2147483647 : Int32))), (.int (Int32.ofNat kb)), (.ref b2)]))
    refine own_st (fun zt zk => Jvm.RoadKit.iremM X4 hx rfl (hb hby at_126) rfl (own_nz hbd) zk) ?_
    show own_G p e below s _ _ _ (T4.setTop (mkF m 127 #[.val (.int qa), .val (.int qb), .val (.int qc), .val (.int qd), .val (.int qe), .val (.int qf), .val (.int (Int32.ofNat n)), .val (.int bd), .val (.ref b2), .val (.int (Int32.ofNat ka)), .val (.int (Int32.ofNat kb)), .val (.int (Int32.ofNat kc)), .val (.int (Int32.ofNat kq)), .val (.int (0 : Int32)), .val (.int (0 : Int32)), .val (.int (0 : Int32)), .val (.int (0 : Int32)), .unset, .unset] [(.int ((qd &&& (2147483647 : Int32)) % bd)), (.int (Int32.ofNat kb)), (.ref b2)]))
    obtain ⟨yb, e_yb, g_yb⟩ : ∃ z, z = ((qd &&& (2147483647 : Int32)) % bd) ∧ (0 ≤ z.toInt ∧ z.toInt < bd.toInt) := ⟨_, rfl, own_mval _ _ hbd⟩
    rw [← e_yb]
    show own_G p e below s _ _ _ (T4.setTop (mkF m 127 #[.val (.int qa), .val (.int qb), .val (.int qc), .val (.int qd), .val (.int qe), .val (.int qf), .val (.int (Int32.ofNat n)), .val (.int bd), .val (.ref b2), .val (.int (Int32.ofNat ka)), .val (.int (Int32.ofNat kb)), .val (.int (Int32.ofNat kc)), .val (.int (Int32.ofNat kq)), .val (.int (0 : Int32)), .val (.int (0 : Int32)), .val (.int (0 : Int32)), .val (.int (0 : Int32)), .unset, .unset] [(.int yb), (.int (Int32.ofNat kb)), (.ref b2)]))
    obtain ⟨T5, h5, X5, e5, W5, V5, st5⟩ := own_iastore X4 hx hZ e4 V4a (i := kb) (own_tO (own_ltF l_kb hn)) l_kb (g := (mkF m 127 #[.val (.int qa), .val (.int qb), .val (.int qc), .val (.int qd), .val (.int qe), .val (.int qf), .val (.int (Int32.ofNat n)), .val (.int bd), .val (.ref b2), .val (.int (Int32.ofNat ka)), .val (.int (Int32.ofNat kb)), .val (.int (Int32.ofNat kc)), .val (.int (Int32.ofNat kq)), .val (.int (0 : Int32)), .val (.int (0 : Int32)), .val (.int (0 : Int32)), .val (.int (0 : Int32)), .unset, .unset] [(.int yb), (.int (Int32.ofNat kb)), (.ref b2)])) rfl rfl (hb hby at_127)
    refine own_st st5 ?_
    have N5 := Fr.snoc X5 N4 ge2
    have V5a : own_A Z h5 b2 .int n (fun q => .int ((own_up (own_up (fun _ => (0 : Int32)) ka ya) kb yb) q)) := V5.congr (fun q _ => by simp only [own_up]; split <;> rfl)
    show own_G p e below s _ _ _ (T5.setTop (mkF m 128 #[.val (.int qa), .val (.int qb), .val (.int qc), .val (.int qd), .val (.int qe), .val (.int qf), .val (.int (Int32.ofNat n)), .val (.int bd), .val (.ref b2), .val (.int (Int32.ofNat ka)), .val (.int (Int32.ofNat kb)), .val (.int (Int32.ofNat kc)), .val (.int (Int32.ofNat kq)), .val (.int (0 : Int32)), .val (.int (0 : Int32)), .val (.int (0 : Int32)), .val (.int (0 : Int32)), .unset, .unset] []))
    refine own_st (fun zt zk => XS.aload X5.here hx rfl (hb hby at_128) rfl rfl zk) ?_
    show own_G p e below s _ _ _ (T5.setTop (mkF m 130 #[.val (.int qa), .val (.int qb), .val (.int qc), .val (.int qd), .val (.int qe), .val (.int qf), .val (.int (Int32.ofNat n)), .val (.int bd), .val (.ref b2), .val (.int (Int32.ofNat ka)), .val (.int (Int32.ofNat kb)), .val (.int (Int32.ofNat kc)), .val (.int (Int32.ofNat kq)), .val (.int (0 : Int32)), .val (.int (0 : Int32)), .val (.int (0 : Int32)), .val (.int (0 : Int32)), .unset, .unset] [(.ref b2)]))
    refine own_st (fun zt zk => XS.iload X5.here hx rfl (hb hby at_130) rfl zk) ?_
    show own_G p e below s _ _ _ (T5.setTop (mkF m 132 #[.val (.int qa), .val (.int qb), .val (.int qc), .val (.int qd), .val (.int qe), .val (.int qf), .val (.int (Int32.ofNat n)), .val (.int bd), .val (.ref b2), .val (.int (Int32.ofNat ka)), .val (.int (Int32.ofNat kb)), .val (.int (Int32.ofNat kc)), .val (.int (Int32.ofNat kq)), .val (.int (0 : Int32)), .val (.int (0 : Int32)), .val (.int (0 : Int32)), .val (.int (0 : Int32)), .unset, .unset] [(.int (Int32.ofNat kc)), (.ref b2)]))
    refine own_st (fun zt zk => XS.iload X5.here hx rfl (hb hby at_132) rfl zk) ?_
    show own_G p e below s _ _ _ (T5.setTop (mkF m 134 #[.val (.int qa), .val (.int qb), .val (.int qc), .val (.int qd), .val (.int qe), .val (.int qf), .val (.int (Int32.ofNat n)), .val (.int bd), .val (.ref b2), .val (.int (Int32.ofNat ka)), .val (.int (Int32.ofNat kb)), .val (.int (Int32.ofNat kc)), .val (.int (Int32.ofNat kq)), .val (.int (0 : Int32)), .val (.int (0 : Int32)), .val (.int (0 : Int32)), .val (.int (0 : Int32)), .unset, .unset] [(.int qe), (.int (Int32.ofNat kc)), (.ref b2)]))
    refine own_st (X5.ldcInt hx hown (mvT hZ (hw _ (List.mem_of_getElem? (i := 0) rfl))) (g := (mkF m 134 #[.val (.int qa), .val (.int qb), .val (.int qc), .val (.int qd), .val (.int qe), .val (.int qf), .val (.int (Int32.ofNat n)), .val (.int bd), .val (.ref b2), .val (.int (Int32.ofNat ka)), .val (.int (Int32.ofNat kb)), .val (.int (Int32.ofNat kc)), .val (.int (Int32.ofNat kq)), .val (.int (0 : Int32)), .val (.int (0 : Int32)), .val (.int (0 : Int32)), .val (.int (0 : Int32)), .unset, .unset] [(.int qe), (.int (Int32.ofNat kc)), (.ref b2)])) rfl (hb hby at_134)) ?_
    show own_G p e below s _ _ _ (T5.setTop (mkF m 136 #[.val (.int qa), .val (.int qb), .val (.int qc), .val (.int qd), .val (.int qe), .val (.int qf), .val (.int (Int32.ofNat n)), .val (.int bd), .val (.ref b2), .val (.int (Int32.ofNat ka)), .val (.int (Int32.ofNat kb)), .val (.int (Int32.ofNat kc)), .val (.int (Int32.ofNat kq)), .val (.int (0 : Int32)), .val (.int (0 : Int32)), .val (.int (0 : Int32)), .val (.int (0 : Int32)), .unset, .unset] [(.int (2147483647 : Int32)), (.int qe), (.int (Int32.ofNat kc)), (.ref b2)]))
    refine own_st (fun zt zk => XS.iand X5.here hx rfl (hb hby at_136) rfl zk) ?_
    show own_G p e below s _ _ _ (T5.setTop (mkF m 137 #[.val (.int qa), .val (.int qb), .val (.int qc), .val (.int qd), .val (.int qe), .val (.int qf), .val (.int (Int32.ofNat n)), .val (.int bd), .val (.ref b2), .val (.int (Int32.ofNat ka)), .val (.int (Int32.ofNat kb)), .val (.int (Int32.ofNat kc)), .val (.int (Int32.ofNat kq)), .val (.int (0 : Int32)), .val (.int (0 : Int32)), .val (.int (0 : Int32)), .val (.int (0 : Int32)), .unset, .unset] [(.int (qe &&& (2147483647 : Int32))), (.int (Int32.ofNat kc)), (.ref b2)]))
    refine own_st (fun zt zk => XS.iload X5.here hx rfl (hb hby at_137) rfl zk) ?_
    show own_G p e below s _ _ _ (T5.setTop (mkF m 139 #[.val (.int qa), .val (.int qb), .val (.int qc), .val (.int qd), .val (.int qe), .val (.int qf), .val (.int (Int32.ofNat n)), .val (.int bd), .val (.ref b2), .val (.int (Int32.ofNat ka)), .val (.int (Int32.ofNat kb)), .val (.int (Int32.ofNat kc)), .val (.int (Int32.ofNat kq)), .val (.int (0 : Int32)), .val (.int (0 : Int32)), .val (.int (0 : Int32)), .val (.int (0 : Int32)), .unset, .unset] [(.int bd), (.int (qe &&& (2147483647 : Int32))), (.int (Int32.ofNat kc)), (.ref b2)]))
    refine own_st (fun zt zk => Jvm.RoadKit.iremM X5 hx rfl (hb hby at_139) rfl (own_nz hbd) zk) ?_
    show own_G p e below s _ _ _ (T5.setTop (mkF m 140 #[.val (.int qa), .val (.int qb), .val (.int qc), .val (.int qd), .val (.int qe), .val (.int qf), .val (.int (Int32.ofNat n)), .val (.int bd), .val (.ref b2), .val (.int (Int32.ofNat ka)), .val (.int (Int32.ofNat kb)), .val (.int (Int32.ofNat kc)), .val (.int (Int32.ofNat kq)), .val (.int (0 : Int32)), .val (.int (0 : Int32)), .val (.int (0 : Int32)), .val (.int (0 : Int32)), .unset, .unset] [(.int ((qe &&& (2147483647 : Int32)) % bd)), (.int (Int32.ofNat kc)), (.ref b2)]))
    obtain ⟨yc, e_yc, g_yc⟩ : ∃ z, z = ((qe &&& (2147483647 : Int32)) % bd) ∧ (0 ≤ z.toInt ∧ z.toInt < bd.toInt) := ⟨_, rfl, own_mval _ _ hbd⟩
    rw [← e_yc]
    show own_G p e below s _ _ _ (T5.setTop (mkF m 140 #[.val (.int qa), .val (.int qb), .val (.int qc), .val (.int qd), .val (.int qe), .val (.int qf), .val (.int (Int32.ofNat n)), .val (.int bd), .val (.ref b2), .val (.int (Int32.ofNat ka)), .val (.int (Int32.ofNat kb)), .val (.int (Int32.ofNat kc)), .val (.int (Int32.ofNat kq)), .val (.int (0 : Int32)), .val (.int (0 : Int32)), .val (.int (0 : Int32)), .val (.int (0 : Int32)), .unset, .unset] [(.int yc), (.int (Int32.ofNat kc)), (.ref b2)]))
    obtain ⟨T6, h6, X6, e6, W6, V6, st6⟩ := own_iastore X5 hx hZ e5 V5a (i := kc) (own_tO (own_ltF l_kc hn)) l_kc (g := (mkF m 140 #[.val (.int qa), .val (.int qb), .val (.int qc), .val (.int qd), .val (.int qe), .val (.int qf), .val (.int (Int32.ofNat n)), .val (.int bd), .val (.ref b2), .val (.int (Int32.ofNat ka)), .val (.int (Int32.ofNat kb)), .val (.int (Int32.ofNat kc)), .val (.int (Int32.ofNat kq)), .val (.int (0 : Int32)), .val (.int (0 : Int32)), .val (.int (0 : Int32)), .val (.int (0 : Int32)), .unset, .unset] [(.int yc), (.int (Int32.ofNat kc)), (.ref b2)])) rfl rfl (hb hby at_140)
    refine own_st st6 ?_
    have N6 := Fr.snoc X6 N5 ge2
    have V6a : own_A Z h6 b2 .int n (fun q => .int ((own_up (own_up (own_up (fun _ => (0 : Int32)) ka ya) kb yb) kc yc) q)) := V6.congr (fun q _ => by simp only [own_up]; split <;> rfl)
    show own_G p e below s _ _ _ (T6.setTop (mkF m 141 #[.val (.int qa), .val (.int qb), .val (.int qc), .val (.int qd), .val (.int qe), .val (.int qf), .val (.int (Int32.ofNat n)), .val (.int bd), .val (.ref b2), .val (.int (Int32.ofNat ka)), .val (.int (Int32.ofNat kb)), .val (.int (Int32.ofNat kc)), .val (.int (Int32.ofNat kq)), .val (.int (0 : Int32)), .val (.int (0 : Int32)), .val (.int (0 : Int32)), .val (.int (0 : Int32)), .unset, .unset] []))
    obtain ⟨gf, hgf⟩ : ∃ z, z = (own_up (own_up (own_up (fun _ => (0 : Int32)) ka ya) kb yb) kc yc) := ⟨_, rfl⟩
    have hgb : ∀ i, i < n → 0 ≤ (gf i).toInt ∧ (gf i).toInt < bd.toInt := by rw [hgf]; exact own_ups (own_ups (own_ups (own_ups0 hbd) g_ya) g_yb) g_yc
    have VG : own_A Z h6 b2 .int n (fun q => .int (gf q)) := by rw [hgf]; exact V6a
    refine own_st (fun zt zk => XS.aload X6.here hx rfl (hb hby at_141) rfl rfl zk) ?_
    show own_G p e below s _ _ _ (T6.setTop (mkF m 143 #[.val (.int qa), .val (.int qb), .val (.int qc), .val (.int qd), .val (.int qe), .val (.int qf), .val (.int (Int32.ofNat n)), .val (.int bd), .val (.ref b2), .val (.int (Int32.ofNat ka)), .val (.int (Int32.ofNat kb)), .val (.int (Int32.ofNat kc)), .val (.int (Int32.ofNat kq)), .val (.int (0 : Int32)), .val (.int (0 : Int32)), .val (.int (0 : Int32)), .val (.int (0 : Int32)), .unset, .unset] [(.ref b2)]))
    refine own_st (fun zt zk => XS.iload X6.here hx rfl (hb hby at_143) rfl zk) ?_
    show own_G p e below s _ _ _ (T6.setTop (mkF m 145 #[.val (.int qa), .val (.int qb), .val (.int qc), .val (.int qd), .val (.int qe), .val (.int qf), .val (.int (Int32.ofNat n)), .val (.int bd), .val (.ref b2), .val (.int (Int32.ofNat ka)), .val (.int (Int32.ofNat kb)), .val (.int (Int32.ofNat kc)), .val (.int (Int32.ofNat kq)), .val (.int (0 : Int32)), .val (.int (0 : Int32)), .val (.int (0 : Int32)), .val (.int (0 : Int32)), .unset, .unset] [(.int (Int32.ofNat ka)), (.ref b2)]))
    refine own_st (own_iaload X6 hx hZ e6 VG (own_tO (own_ltF l_ka hn)) l_ka (.int (gf ka)) rfl (g := (mkF m 145 #[.val (.int qa), .val (.int qb), .val (.int qc), .val (.int qd), .val (.int qe), .val (.int qf), .val (.int (Int32.ofNat n)), .val (.int bd), .val (.ref b2), .val (.int (Int32.ofNat ka)), .val (.int (Int32.ofNat kb)), .val (.int (Int32.ofNat kc)), .val (.int (Int32.ofNat kq)), .val (.int (0 : Int32)), .val (.int (0 : Int32)), .val (.int (0 : Int32)), .val (.int (0 : Int32)), .unset, .unset] [(.int (Int32.ofNat ka)), (.ref b2)])) rfl rfl (hb hby at_145)) ?_
    show own_G p e below s _ _ _ (T6.setTop (mkF m 146 #[.val (.int qa), .val (.int qb), .val (.int qc), .val (.int qd), .val (.int qe), .val (.int qf), .val (.int (Int32.ofNat n)), .val (.int bd), .val (.ref b2), .val (.int (Int32.ofNat ka)), .val (.int (Int32.ofNat kb)), .val (.int (Int32.ofNat kc)), .val (.int (Int32.ofNat kq)), .val (.int (0 : Int32)), .val (.int (0 : Int32)), .val (.int (0 : Int32)), .val (.int (0 : Int32)), .unset, .unset] [(.int (gf ka))]))
    refine own_st (fun zt zk => XS.istore X6.here hx rfl (hb hby at_146) rfl (l' := #[.val (.int qa), .val (.int qb), .val (.int qc), .val (.int qd), .val (.int qe), .val (.int qf), .val (.int (Int32.ofNat n)), .val (.int bd), .val (.ref b2), .val (.int (Int32.ofNat ka)), .val (.int (Int32.ofNat kb)), .val (.int (Int32.ofNat kc)), .val (.int (Int32.ofNat kq)), .val (.int (gf ka)), .val (.int (0 : Int32)), .val (.int (0 : Int32)), .val (.int (0 : Int32)), .unset, .unset]) rfl zk) ?_
    show own_G p e below s _ _ _ (T6.setTop (mkF m 148 #[.val (.int qa), .val (.int qb), .val (.int qc), .val (.int qd), .val (.int qe), .val (.int qf), .val (.int (Int32.ofNat n)), .val (.int bd), .val (.ref b2), .val (.int (Int32.ofNat ka)), .val (.int (Int32.ofNat kb)), .val (.int (Int32.ofNat kc)), .val (.int (Int32.ofNat kq)), .val (.int (gf ka)), .val (.int (0 : Int32)), .val (.int (0 : Int32)), .val (.int (0 : Int32)), .unset, .unset] []))
    refine own_st (fun zt zk => XS.aload X6.here hx rfl (hb hby at_148) rfl rfl zk) ?_
    show own_G p e below s _ _ _ (T6.setTop (mkF m 150 #[.val (.int qa), .val (.int qb), .val (.int qc), .val (.int qd), .val (.int qe), .val (.int qf), .val (.int (Int32.ofNat n)), .val (.int bd), .val (.ref b2), .val (.int (Int32.ofNat ka)), .val (.int (Int32.ofNat kb)), .val (.int (Int32.ofNat kc)), .val (.int (Int32.ofNat kq)), .val (.int (gf ka)), .val (.int (0 : Int32)), .val (.int (0 : Int32)), .val (.int (0 : Int32)), .unset, .unset] [(.ref b2)]))
    refine own_st (fun zt zk => XS.iload X6.here hx rfl (hb hby at_150) rfl zk) ?_
    show own_G p e below s _ _ _ (T6.setTop (mkF m 152 #[.val (.int qa), .val (.int qb), .val (.int qc), .val (.int qd), .val (.int qe), .val (.int qf), .val (.int (Int32.ofNat n)), .val (.int bd), .val (.ref b2), .val (.int (Int32.ofNat ka)), .val (.int (Int32.ofNat kb)), .val (.int (Int32.ofNat kc)), .val (.int (Int32.ofNat kq)), .val (.int (gf ka)), .val (.int (0 : Int32)), .val (.int (0 : Int32)), .val (.int (0 : Int32)), .unset, .unset] [(.int (Int32.ofNat kb)), (.ref b2)]))
    refine own_st (own_iaload X6 hx hZ e6 VG (own_tO (own_ltF l_kb hn)) l_kb (.int (gf kb)) rfl (g := (mkF m 152 #[.val (.int qa), .val (.int qb), .val (.int qc), .val (.int qd), .val (.int qe), .val (.int qf), .val (.int (Int32.ofNat n)), .val (.int bd), .val (.ref b2), .val (.int (Int32.ofNat ka)), .val (.int (Int32.ofNat kb)), .val (.int (Int32.ofNat kc)), .val (.int (Int32.ofNat kq)), .val (.int (gf ka)), .val (.int (0 : Int32)), .val (.int (0 : Int32)), .val (.int (0 : Int32)), .unset, .unset] [(.int (Int32.ofNat kb)), (.ref b2)])) rfl rfl (hb hby at_152)) ?_
    show own_G p e below s _ _ _ (T6.setTop (mkF m 153 #[.val (.int qa), .val (.int qb), .val (.int qc), .val (.int qd), .val (.int qe), .val (.int qf), .val (.int (Int32.ofNat n)), .val (.int bd), .val (.ref b2), .val (.int (Int32.ofNat ka)), .val (.int (Int32.ofNat kb)), .val (.int (Int32.ofNat kc)), .val (.int (Int32.ofNat kq)), .val (.int (gf ka)), .val (.int (0 : Int32)), .val (.int (0 : Int32)), .val (.int (0 : Int32)), .unset, .unset] [(.int (gf kb))]))
    refine own_st (fun zt zk => XS.istore X6.here hx rfl (hb hby at_153) rfl (l' := #[.val (.int qa), .val (.int qb), .val (.int qc), .val (.int qd), .val (.int qe), .val (.int qf), .val (.int (Int32.ofNat n)), .val (.int bd), .val (.ref b2), .val (.int (Int32.ofNat ka)), .val (.int (Int32.ofNat kb)), .val (.int (Int32.ofNat kc)), .val (.int (Int32.ofNat kq)), .val (.int (gf ka)), .val (.int (gf kb)), .val (.int (0 : Int32)), .val (.int (0 : Int32)), .unset, .unset]) rfl zk) ?_
    show own_G p e below s _ _ _ (T6.setTop (mkF m 155 #[.val (.int qa), .val (.int qb), .val (.int qc), .val (.int qd), .val (.int qe), .val (.int qf), .val (.int (Int32.ofNat n)), .val (.int bd), .val (.ref b2), .val (.int (Int32.ofNat ka)), .val (.int (Int32.ofNat kb)), .val (.int (Int32.ofNat kc)), .val (.int (Int32.ofNat kq)), .val (.int (gf ka)), .val (.int (gf kb)), .val (.int (0 : Int32)), .val (.int (0 : Int32)), .unset, .unset] []))
    refine own_st (fun zt zk => XS.aload X6.here hx rfl (hb hby at_155) rfl rfl zk) ?_
    show own_G p e below s _ _ _ (T6.setTop (mkF m 157 #[.val (.int qa), .val (.int qb), .val (.int qc), .val (.int qd), .val (.int qe), .val (.int qf), .val (.int (Int32.ofNat n)), .val (.int bd), .val (.ref b2), .val (.int (Int32.ofNat ka)), .val (.int (Int32.ofNat kb)), .val (.int (Int32.ofNat kc)), .val (.int (Int32.ofNat kq)), .val (.int (gf ka)), .val (.int (gf kb)), .val (.int (0 : Int32)), .val (.int (0 : Int32)), .unset, .unset] [(.ref b2)]))
    refine own_st (fun zt zk => XS.iload X6.here hx rfl (hb hby at_157) rfl zk) ?_
    show own_G p e below s _ _ _ (T6.setTop (mkF m 159 #[.val (.int qa), .val (.int qb), .val (.int qc), .val (.int qd), .val (.int qe), .val (.int qf), .val (.int (Int32.ofNat n)), .val (.int bd), .val (.ref b2), .val (.int (Int32.ofNat ka)), .val (.int (Int32.ofNat kb)), .val (.int (Int32.ofNat kc)), .val (.int (Int32.ofNat kq)), .val (.int (gf ka)), .val (.int (gf kb)), .val (.int (0 : Int32)), .val (.int (0 : Int32)), .unset, .unset] [(.int (Int32.ofNat kc)), (.ref b2)]))
    refine own_st (own_iaload X6 hx hZ e6 VG (own_tO (own_ltF l_kc hn)) l_kc (.int (gf kc)) rfl (g := (mkF m 159 #[.val (.int qa), .val (.int qb), .val (.int qc), .val (.int qd), .val (.int qe), .val (.int qf), .val (.int (Int32.ofNat n)), .val (.int bd), .val (.ref b2), .val (.int (Int32.ofNat ka)), .val (.int (Int32.ofNat kb)), .val (.int (Int32.ofNat kc)), .val (.int (Int32.ofNat kq)), .val (.int (gf ka)), .val (.int (gf kb)), .val (.int (0 : Int32)), .val (.int (0 : Int32)), .unset, .unset] [(.int (Int32.ofNat kc)), (.ref b2)])) rfl rfl (hb hby at_159)) ?_
    show own_G p e below s _ _ _ (T6.setTop (mkF m 160 #[.val (.int qa), .val (.int qb), .val (.int qc), .val (.int qd), .val (.int qe), .val (.int qf), .val (.int (Int32.ofNat n)), .val (.int bd), .val (.ref b2), .val (.int (Int32.ofNat ka)), .val (.int (Int32.ofNat kb)), .val (.int (Int32.ofNat kc)), .val (.int (Int32.ofNat kq)), .val (.int (gf ka)), .val (.int (gf kb)), .val (.int (0 : Int32)), .val (.int (0 : Int32)), .unset, .unset] [(.int (gf kc))]))
    refine own_st (fun zt zk => XS.istore X6.here hx rfl (hb hby at_160) rfl (l' := #[.val (.int qa), .val (.int qb), .val (.int qc), .val (.int qd), .val (.int qe), .val (.int qf), .val (.int (Int32.ofNat n)), .val (.int bd), .val (.ref b2), .val (.int (Int32.ofNat ka)), .val (.int (Int32.ofNat kb)), .val (.int (Int32.ofNat kc)), .val (.int (Int32.ofNat kq)), .val (.int (gf ka)), .val (.int (gf kb)), .val (.int (gf kc)), .val (.int (0 : Int32)), .unset, .unset]) rfl zk) ?_
    show own_G p e below s _ _ _ (T6.setTop (mkF m 162 #[.val (.int qa), .val (.int qb), .val (.int qc), .val (.int qd), .val (.int qe), .val (.int qf), .val (.int (Int32.ofNat n)), .val (.int bd), .val (.ref b2), .val (.int (Int32.ofNat ka)), .val (.int (Int32.ofNat kb)), .val (.int (Int32.ofNat kc)), .val (.int (Int32.ofNat kq)), .val (.int (gf ka)), .val (.int (gf kb)), .val (.int (gf kc)), .val (.int (0 : Int32)), .unset, .unset] []))
    refine own_st (fun zt zk => XS.aload X6.here hx rfl (hb hby at_162) rfl rfl zk) ?_
    show own_G p e below s _ _ _ (T6.setTop (mkF m 164 #[.val (.int qa), .val (.int qb), .val (.int qc), .val (.int qd), .val (.int qe), .val (.int qf), .val (.int (Int32.ofNat n)), .val (.int bd), .val (.ref b2), .val (.int (Int32.ofNat ka)), .val (.int (Int32.ofNat kb)), .val (.int (Int32.ofNat kc)), .val (.int (Int32.ofNat kq)), .val (.int (gf ka)), .val (.int (gf kb)), .val (.int (gf kc)), .val (.int (0 : Int32)), .unset, .unset] [(.ref b2)]))
    refine own_st (fun zt zk => XS.iload X6.here hx rfl (hb hby at_164) rfl zk) ?_
    show own_G p e below s _ _ _ (T6.setTop (mkF m 166 #[.val (.int qa), .val (.int qb), .val (.int qc), .val (.int qd), .val (.int qe), .val (.int qf), .val (.int (Int32.ofNat n)), .val (.int bd), .val (.ref b2), .val (.int (Int32.ofNat ka)), .val (.int (Int32.ofNat kb)), .val (.int (Int32.ofNat kc)), .val (.int (Int32.ofNat kq)), .val (.int (gf ka)), .val (.int (gf kb)), .val (.int (gf kc)), .val (.int (0 : Int32)), .unset, .unset] [(.int (Int32.ofNat kq)), (.ref b2)]))
    refine own_st (own_iaload X6 hx hZ e6 VG (own_tO (own_ltF l_kq hn)) l_kq (.int (gf kq)) rfl (g := (mkF m 166 #[.val (.int qa), .val (.int qb), .val (.int qc), .val (.int qd), .val (.int qe), .val (.int qf), .val (.int (Int32.ofNat n)), .val (.int bd), .val (.ref b2), .val (.int (Int32.ofNat ka)), .val (.int (Int32.ofNat kb)), .val (.int (Int32.ofNat kc)), .val (.int (Int32.ofNat kq)), .val (.int (gf ka)), .val (.int (gf kb)), .val (.int (gf kc)), .val (.int (0 : Int32)), .unset, .unset] [(.int (Int32.ofNat kq)), (.ref b2)])) rfl rfl (hb hby at_166)) ?_
    show own_G p e below s _ _ _ (T6.setTop (mkF m 167 #[.val (.int qa), .val (.int qb), .val (.int qc), .val (.int qd), .val (.int qe), .val (.int qf), .val (.int (Int32.ofNat n)), .val (.int bd), .val (.ref b2), .val (.int (Int32.ofNat ka)), .val (.int (Int32.ofNat kb)), .val (.int (Int32.ofNat kc)), .val (.int (Int32.ofNat kq)), .val (.int (gf ka)), .val (.int (gf kb)), .val (.int (gf kc)), .val (.int (0 : Int32)), .unset, .unset] [(.int (gf kq))]))
    refine own_st (fun zt zk => XS.istore X6.here hx rfl (hb hby at_167) rfl (l' := #[.val (.int qa), .val (.int qb), .val (.int qc), .val (.int qd), .val (.int qe), .val (.int qf), .val (.int (Int32.ofNat n)), .val (.int bd), .val (.ref b2), .val (.int (Int32.ofNat ka)), .val (.int (Int32.ofNat kb)), .val (.int (Int32.ofNat kc)), .val (.int (Int32.ofNat kq)), .val (.int (gf ka)), .val (.int (gf kb)), .val (.int (gf kc)), .val (.int (gf kq)), .unset, .unset]) rfl zk) ?_
    show own_G p e below s _ _ _ (T6.setTop (mkF m 169 #[.val (.int qa), .val (.int qb), .val (.int qc), .val (.int qd), .val (.int qe), .val (.int qf), .val (.int (Int32.ofNat n)), .val (.int bd), .val (.ref b2), .val (.int (Int32.ofNat ka)), .val (.int (Int32.ofNat kb)), .val (.int (Int32.ofNat kc)), .val (.int (Int32.ofNat kq)), .val (.int (gf ka)), .val (.int (gf kb)), .val (.int (gf kc)), .val (.int (gf kq)), .unset, .unset] []))
    have E8 : Exa Z h6 b2 "[I" := (((D2.wr W4).wr W5).wr W6)
    obtain ⟨T7, h7, X7, e7, E7, A7, D7, -, st7⟩ := newO X6 hx hZ hown (hw _ (List.mem_of_getElem? (i := 6) rfl)) (hw _ (List.mem_of_getElem? (i := 7) rfl)) (hw _ (List.mem_of_getElem? (i := 8) rfl)) e6 (g := (mkF m 169 #[.val (.int qa), .val (.int qb), .val (.int qc), .val (.int qd), .val (.int qe), .val (.int qf), .val (.int (Int32.ofNat n)), .val (.int bd), .val (.ref b2), .val (.int (Int32.ofNat ka)), .val (.int (Int32.ofNat kb)), .val (.int (Int32.ofNat kc)), .val (.int (Int32.ofNat kq)), .val (.int (gf ka)), .val (.int (gf kb)), .val (.int (gf kc)), .val (.int (gf kq)), .unset, .unset] [])) rfl (hb hby at_169) (by decide) (by decide)
    obtain ⟨b7, g7⟩ : ∃ z, z = h6.size := ⟨_, rfl⟩
    rw [← g7] at A7 D7 st7
    have ne7_b2 : b2 ≠ b7 := by rw [g7]; exact Nat.ne_of_lt E8.lt
    have ge7 : n0 ≤ b7 := Nat.le_trans (Nat.le_trans (Nat.le_trans (Nat.le_trans (Nat.le_trans Z0 E2.1) (Nat.le_of_eq W4.size.symm)) (Nat.le_of_eq W5.size.symm)) (Nat.le_of_eq W6.size.symm)) (Nat.le_of_eq g7.symm)
    have sz7 : h0.size ≤ b7 := Nat.le_trans (Nat.le_trans (Nat.le_trans (Nat.le_trans (Nat.le_trans (Nat.le_refl h0.size) E2.1) (Nat.le_of_eq W4.size.symm)) (Nat.le_of_eq W5.size.symm)) (Nat.le_of_eq W6.size.symm)) (Nat.le_of_eq g7.symm)
    refine own_st st7 ?_
    show own_G p e below s _ _ _ (T7.setTop (mkF m 172 #[.val (.int qa), .val (.int qb), .val (.int qc), .val (.int qd), .val (.int qe), .val (.int qf), .val (.int (Int32.ofNat n)), .val (.int bd), .val (.ref b2), .val (.int (Int32.ofNat ka)), .val (.int (Int32.ofNat kb)), .val (.int (Int32.ofNat kc)), .val (.int (Int32.ofNat kq)), .val (.int (gf ka)), .val (.int (gf kb)), .val (.int (gf kc)), .val (.int (gf kq)), .unset, .unset] [(.ref b7)]))
    refine own_st (fun zt zk => XS.dup X7.here hx rfl (hb hby at_172) rfl rfl zk) ?_
    show own_G p e below s _ _ _ (T7.setTop (mkF m 173 #[.val (.int qa), .val (.int qb), .val (.int qc), .val (.int qd), .val (.int qe), .val (.int qf), .val (.int (Int32.ofNat n)), .val (.int bd), .val (.ref b2), .val (.int (Int32.ofNat ka)), .val (.int (Int32.ofNat kb)), .val (.int (Int32.ofNat kc)), .val (.int (Int32.ofNat kq)), .val (.int (gf ka)), .val (.int (gf kb)), .val (.int (gf kc)), .val (.int (gf kq)), .unset, .unset] [(.ref b7), (.ref b7)]))
    refine own_st (fun zt zk => XS.aload X7.here hx rfl (hb hby at_173) rfl rfl zk) ?_
    show own_G p e below s _ _ _ (T7.setTop (mkF m 175 #[.val (.int qa), .val (.int qb), .val (.int qc), .val (.int qd), .val (.int qe), .val (.int qf), .val (.int (Int32.ofNat n)), .val (.int bd), .val (.ref b2), .val (.int (Int32.ofNat ka)), .val (.int (Int32.ofNat kb)), .val (.int (Int32.ofNat kc)), .val (.int (Int32.ofNat kq)), .val (.int (gf ka)), .val (.int (gf kb)), .val (.int (gf kc)), .val (.int (gf kq)), .unset, .unset] [(.ref b2), (.ref b7), (.ref b7)]))
    refine own_st (fun zt zk => XS.iload X7.here hx rfl (hb hby at_175) rfl zk) ?_
    show own_G p e below s _ _ _ (T7.setTop (mkF m 177 #[.val (.int qa), .val (.int qb), .val (.int qc), .val (.int qd), .val (.int qe), .val (.int qf), .val (.int (Int32.ofNat n)), .val (.int bd), .val (.ref b2), .val (.int (Int32.ofNat ka)), .val (.int (Int32.ofNat kb)), .val (.int (Int32.ofNat kc)), .val (.int (Int32.ofNat kq)), .val (.int (gf ka)), .val (.int (gf kb)), .val (.int (gf kc)), .val (.int (gf kq)), .unset, .unset] [(.int bd), (.ref b2), (.ref b7), (.ref b7)]))
    have V10 : own_A Z h7 b2 .int n (fun q => .int (gf q)) := (VG.ext E7)
    have E11 : Exa Z h7 b2 "[I" := (E8.ext E7)
    obtain ⟨_, T9, L9, X9, hQ9, st9⟩ := own_callI X7 hx hZ (y := (⟨"com/example/orderly_results/orderlyresults/engine/WaveletMatrix", "<init>", "([II)V"⟩ : MethodName)) (a := b7) (argsL := [(.ref b2), (.int bd)]) (rest := [(.ref b7)]) 1 rfl hown (hw _ (List.mem_of_getElem? (i := 9) rfl)) (hw _ (List.mem_of_getElem? (i := 10) rfl)) (hw _ (List.mem_of_getElem? (i := 8) rfl)) (hw _ (List.mem_of_getElem? (i := 11) rfl)) (by decide) (own_wi l Z a0 hw [] b7 b2 bd n gf h7 n0 (Nat.le_trans (Nat.le_trans (Nat.le_trans (Nat.le_trans (Nat.le_trans Z0 E2.1) (Nat.le_of_eq W4.size.symm)) (Nat.le_of_eq W5.size.symm)) (Nat.le_of_eq W6.size.symm)) E7.1) A7 (D7 (Or.inr (hw _ (List.mem_of_getElem? (i := 22) rfl))) (ty := .int) (by decide)) (D7 (Or.inr (hw _ (List.mem_of_getElem? (i := 24) rfl))) (ty := .int) (by decide)) (D7 (Or.inr (hw _ (List.mem_of_getElem? (i := 28) rfl))) (ty := (.array (.array .long))) (by decide)) (D7 (Or.inr (hw _ (List.mem_of_getElem? (i := 32) rfl))) (ty := (.array (.array .int))) (by decide)) (D7 (Or.inr (hw _ (List.mem_of_getElem? (i := 34) rfl))) (ty := (.array .int)) (by decide)) V10 E11 ge7 (Ne.symm ne7_b2) hn hbd) (by decide) (by decide) e7 (g := (mkF m 177 #[.val (.int qa), .val (.int qb), .val (.int qc), .val (.int qd), .val (.int qe), .val (.int qf), .val (.int (Int32.ofNat n)), .val (.int bd), .val (.ref b2), .val (.int (Int32.ofNat ka)), .val (.int (Int32.ofNat kb)), .val (.int (Int32.ofNat kc)), .val (.int (Int32.ofNat kq)), .val (.int (gf ka)), .val (.int (gf kb)), .val (.int (gf kc)), .val (.int (gf kq)), .unset, .unset] [(.int bd), (.ref b2), (.ref b7), (.ref b7)])) rfl (by rw [hml]; rfl) own_pd5 rfl rfl (by show 2 * 0 + _ ≤ _; exact Nat.le_of_eq rfl) (hb hby at_177) (by decide) (by decide)
    obtain ⟨vv9, cc9, d9, GV9, rfl, N9q, K9, svv9, scc9, q9_0, q9_1, q9_2, q9_3, q9_4, q9_5, q9_6, q9_7, q9_8⟩ := hQ9
    have N9 := Fr.app N6 N9q
    refine own_st st9 ?_
    have ne9_vv_b2 : b2 ≠ vv9 := Nat.ne_of_lt (Nat.lt_of_lt_of_le E11.lt svv9)
    have ne9_vv_b7 : b7 ≠ vv9 := Nat.ne_of_lt (Nat.lt_of_lt_of_le A7.lt svv9)
    have ge9_vv : n0 ≤ vv9 := Nat.le_trans (Nat.le_trans (Nat.le_trans (Nat.le_trans (Nat.le_trans (Nat.le_trans Z0 E2.1) (Nat.le_of_eq W4.size.symm)) (Nat.le_of_eq W5.size.symm)) (Nat.le_of_eq W6.size.symm)) E7.1) svv9
    have sz9_vv : h0.size ≤ vv9 := Nat.le_trans (Nat.le_trans (Nat.le_trans (Nat.le_trans (Nat.le_trans (Nat.le_trans (Nat.le_refl h0.size) E2.1) (Nat.le_of_eq W4.size.symm)) (Nat.le_of_eq W5.size.symm)) (Nat.le_of_eq W6.size.symm)) E7.1) svv9
    have ne9_cc_b2 : b2 ≠ cc9 := Nat.ne_of_lt (Nat.lt_of_lt_of_le E11.lt scc9)
    have ne9_cc_b7 : b7 ≠ cc9 := Nat.ne_of_lt (Nat.lt_of_lt_of_le A7.lt scc9)
    have ge9_cc : n0 ≤ cc9 := Nat.le_trans (Nat.le_trans (Nat.le_trans (Nat.le_trans (Nat.le_trans (Nat.le_trans Z0 E2.1) (Nat.le_of_eq W4.size.symm)) (Nat.le_of_eq W5.size.symm)) (Nat.le_of_eq W6.size.symm)) E7.1) scc9
    have sz9_cc : h0.size ≤ cc9 := Nat.le_trans (Nat.le_trans (Nat.le_trans (Nat.le_trans (Nat.le_trans (Nat.le_trans (Nat.le_refl h0.size) E2.1) (Nat.le_of_eq W4.size.symm)) (Nat.le_of_eq W5.size.symm)) (Nat.le_of_eq W6.size.symm)) E7.1) scc9
    show own_G p e below s _ _ _ (T9.setTop (mkF m 180 #[.val (.int qa), .val (.int qb), .val (.int qc), .val (.int qd), .val (.int qe), .val (.int qf), .val (.int (Int32.ofNat n)), .val (.int bd), .val (.ref b2), .val (.int (Int32.ofNat ka)), .val (.int (Int32.ofNat kb)), .val (.int (Int32.ofNat kc)), .val (.int (Int32.ofNat kq)), .val (.int (gf ka)), .val (.int (gf kb)), .val (.int (gf kc)), .val (.int (gf kq)), .unset, .unset] [(.ref b7)]))
    refine own_st (fun zt zk => XS.astore X9.here hx rfl (hb hby at_180) rfl rfl (l' := #[.val (.int qa), .val (.int qb), .val (.int qc), .val (.int qd), .val (.int qe), .val (.int qf), .val (.int (Int32.ofNat n)), .val (.int bd), .val (.ref b2), .val (.int (Int32.ofNat ka)), .val (.int (Int32.ofNat kb)), .val (.int (Int32.ofNat kc)), .val (.int (Int32.ofNat kq)), .val (.int (gf ka)), .val (.int (gf kb)), .val (.int (gf kc)), .val (.int (gf kq)), .val (.ref b7), .unset]) rfl zk) ?_
    show own_G p e below s _ _ _ (T9.setTop (mkF m 182 #[.val (.int qa), .val (.int qb), .val (.int qc), .val (.int qd), .val (.int qe), .val (.int qf), .val (.int (Int32.ofNat n)), .val (.int bd), .val (.ref b2), .val (.int (Int32.ofNat ka)), .val (.int (Int32.ofNat kb)), .val (.int (Int32.ofNat kc)), .val (.int (Int32.ofNat kq)), .val (.int (gf ka)), .val (.int (gf kb)), .val (.int (gf kc)), .val (.int (gf kq)), .val (.ref b7), .unset] []))
    refine own_st (fun zt zk => XS.aload X9.here hx rfl (hb hby at_182) rfl rfl zk) ?_
    show own_G p e below s _ _ _ (T9.setTop (mkF m 184 #[.val (.int qa), .val (.int qb), .val (.int qc), .val (.int qd), .val (.int qe), .val (.int qf), .val (.int (Int32.ofNat n)), .val (.int bd), .val (.ref b2), .val (.int (Int32.ofNat ka)), .val (.int (Int32.ofNat kb)), .val (.int (Int32.ofNat kc)), .val (.int (Int32.ofNat kq)), .val (.int (gf ka)), .val (.int (gf kb)), .val (.int (gf kc)), .val (.int (gf kq)), .val (.ref b7), .unset] [(.ref b7)]))
    have E13 : Exa Z T9.heap b7 "com/example/orderly_results/orderlyresults/engine/WaveletMatrix" := (A7.keep K9)
    obtain ⟨_, T12, L12, X12, hQ12, st12⟩ := own_callV X9 hx hZ (C := "com/example/orderly_results/orderlyresults/engine/WaveletMatrix") (y := (⟨"com/example/orderly_results/orderlyresults/engine/WaveletMatrix", "numbers", "()[I"⟩ : MethodName)) (z := (⟨"com/example/orderly_results/orderlyresults/engine/WaveletMatrix", "numbers", "()[I"⟩ : MethodName)) (a := b7) (argsL := []) (rest := []) 0 hown (hw _ (List.mem_of_getElem? (i := 62) rfl)) (hw _ (List.mem_of_getElem? (i := 63) rfl)) (own_nf hZ (hw _ (List.mem_of_getElem? (i := 65) rfl))) (hw _ (List.mem_of_getElem? (i := 65) rfl)) (hw _ (List.mem_of_getElem? (i := 64) rfl)) (hw _ (List.mem_of_getElem? (i := 8) rfl)) (hw _ (List.mem_of_getElem? (i := 66) rfl)) (by decide) (own_nu l Z a0 hw [] b7 vv9 cc9 n d9 gf GV9 T9.heap n0 (Nat.le_trans (Nat.le_trans (Nat.le_trans (Nat.le_trans (Nat.le_trans (Nat.le_trans Z0 E2.1) (Nat.le_of_eq W4.size.symm)) (Nat.le_of_eq W5.size.symm)) (Nat.le_of_eq W6.size.symm)) E7.1) K9.1) E13 q9_0 q9_1 q9_2 q9_3 q9_4 q9_5 q9_6 hn q9_7) (by decide) (by decide) rfl E13 (g := (mkF m 184 #[.val (.int qa), .val (.int qb), .val (.int qc), .val (.int qd), .val (.int qe), .val (.int qf), .val (.int (Int32.ofNat n)), .val (.int bd), .val (.ref b2), .val (.int (Int32.ofNat ka)), .val (.int (Int32.ofNat kb)), .val (.int (Int32.ofNat kc)), .val (.int (Int32.ofNat kq)), .val (.int (gf ka)), .val (.int (gf kb)), .val (.int (gf kc)), .val (.int (gf kq)), .val (.ref b7), .unset] [(.ref b7)])) rfl (by rw [hml]; rfl) own_pd6 rfl rfl (by show 2 * 0 + _ ≤ _; exact Nat.le_of_eq rfl) (hb hby at_184) (by decide) (by decide)
    obtain ⟨rb12, rfl, N12q, K12, srb12, q12_0⟩ := hQ12
    have N12 := Fr.app N9 N12q
    refine own_st st12 ?_
    have ne12_rb_b2 : b2 ≠ rb12 := Nat.ne_of_lt (Nat.lt_of_lt_of_le (E11.keep K9).lt srb12)
    have ne12_rb_b7 : b7 ≠ rb12 := Nat.ne_of_lt (Nat.lt_of_lt_of_le E13.lt srb12)
    have ne12_rb_vv9 : vv9 ≠ rb12 := Nat.ne_of_lt (Nat.lt_of_lt_of_le q9_4.lt srb12)
    have ne12_rb_cc9 : cc9 ≠ rb12 := Nat.ne_of_lt (Nat.lt_of_lt_of_le q9_5.lt srb12)
    have ge12_rb : n0 ≤ rb12 := Nat.le_trans (Nat.le_trans (Nat.le_trans (Nat.le_trans (Nat.le_trans (Nat.le_trans (Nat.le_trans Z0 E2.1) (Nat.le_of_eq W4.size.symm)) (Nat.le_of_eq W5.size.symm)) (Nat.le_of_eq W6.size.symm)) E7.1) K9.1) srb12
    have sz12_rb : h0.size ≤ rb12 := Nat.le_trans (Nat.le_trans (Nat.le_trans (Nat.le_trans (Nat.le_trans (Nat.le_trans (Nat.le_trans (Nat.le_refl h0.size) E2.1) (Nat.le_of_eq W4.size.symm)) (Nat.le_of_eq W5.size.symm)) (Nat.le_of_eq W6.size.symm)) E7.1) K9.1) srb12
    show own_G p e below s _ _ _ (T12.setTop (mkF m 187 #[.val (.int qa), .val (.int qb), .val (.int qc), .val (.int qd), .val (.int qe), .val (.int qf), .val (.int (Int32.ofNat n)), .val (.int bd), .val (.ref b2), .val (.int (Int32.ofNat ka)), .val (.int (Int32.ofNat kb)), .val (.int (Int32.ofNat kc)), .val (.int (Int32.ofNat kq)), .val (.int (gf ka)), .val (.int (gf kb)), .val (.int (gf kc)), .val (.int (gf kq)), .val (.ref b7), .unset] [(.ref rb12)]))
    refine own_st (fun zt zk => XS.astore X12.here hx rfl (hb hby at_187) rfl rfl (l' := #[.val (.int qa), .val (.int qb), .val (.int qc), .val (.int qd), .val (.int qe), .val (.int qf), .val (.int (Int32.ofNat n)), .val (.int bd), .val (.ref b2), .val (.int (Int32.ofNat ka)), .val (.int (Int32.ofNat kb)), .val (.int (Int32.ofNat kc)), .val (.int (Int32.ofNat kq)), .val (.int (gf ka)), .val (.int (gf kb)), .val (.int (gf kc)), .val (.int (gf kq)), .val (.ref b7), .val (.ref rb12)]) rfl zk) ?_
    show own_G p e below s _ _ _ (T12.setTop (mkF m 189 #[.val (.int qa), .val (.int qb), .val (.int qc), .val (.int qd), .val (.int qe), .val (.int qf), .val (.int (Int32.ofNat n)), .val (.int bd), .val (.ref b2), .val (.int (Int32.ofNat ka)), .val (.int (Int32.ofNat kb)), .val (.int (Int32.ofNat kc)), .val (.int (Int32.ofNat kq)), .val (.int (gf ka)), .val (.int (gf kb)), .val (.int (gf kc)), .val (.int (gf kq)), .val (.ref b7), .val (.ref rb12)] []))
    have hN := own_N_all (n := n) q9_7 (own_to2 hgb q9_8)
    refine own_st (fun zt zk => XS.aload X12.here hx rfl (hb hby at_189) rfl rfl zk) ?_
    show own_G p e below s _ _ _ (T12.setTop (mkF m 191 #[.val (.int qa), .val (.int qb), .val (.int qc), .val (.int qd), .val (.int qe), .val (.int qf), .val (.int (Int32.ofNat n)), .val (.int bd), .val (.ref b2), .val (.int (Int32.ofNat ka)), .val (.int (Int32.ofNat kb)), .val (.int (Int32.ofNat kc)), .val (.int (Int32.ofNat kq)), .val (.int (gf ka)), .val (.int (gf kb)), .val (.int (gf kc)), .val (.int (gf kq)), .val (.ref b7), .val (.ref rb12)] [(.ref rb12)]))
    refine own_st (own_arraylength X12 hx hZ rfl q12_0 (Int32.ofNat n) (own_tO hn) (g := (mkF m 191 #[.val (.int qa), .val (.int qb), .val (.int qc), .val (.int qd), .val (.int qe), .val (.int qf), .val (.int (Int32.ofNat n)), .val (.int bd), .val (.ref b2), .val (.int (Int32.ofNat ka)), .val (.int (Int32.ofNat kb)), .val (.int (Int32.ofNat kc)), .val (.int (Int32.ofNat kq)), .val (.int (gf ka)), .val (.int (gf kb)), .val (.int (gf kc)), .val (.int (gf kq)), .val (.ref b7), .val (.ref rb12)] [(.ref rb12)])) rfl rfl (hb hby at_191)) ?_
    show own_G p e below s _ _ _ (T12.setTop (mkF m 192 #[.val (.int qa), .val (.int qb), .val (.int qc), .val (.int qd), .val (.int qe), .val (.int qf), .val (.int (Int32.ofNat n)), .val (.int bd), .val (.ref b2), .val (.int (Int32.ofNat ka)), .val (.int (Int32.ofNat kb)), .val (.int (Int32.ofNat kc)), .val (.int (Int32.ofNat kq)), .val (.int (gf ka)), .val (.int (gf kb)), .val (.int (gf kc)), .val (.int (gf kq)), .val (.ref b7), .val (.ref rb12)] [(.int (Int32.ofNat n))]))
    refine own_st (fun zt zk => XS.iload X12.here hx rfl (hb hby at_192) rfl zk) ?_
    show own_G p e below s _ _ _ (T12.setTop (mkF m 194 #[.val (.int qa), .val (.int qb), .val (.int qc), .val (.int qd), .val (.int qe), .val (.int qf), .val (.int (Int32.ofNat n)), .val (.int bd), .val (.ref b2), .val (.int (Int32.ofNat ka)), .val (.int (Int32.ofNat kb)), .val (.int (Int32.ofNat kc)), .val (.int (Int32.ofNat kq)), .val (.int (gf ka)), .val (.int (gf kb)), .val (.int (gf kc)), .val (.int (gf kq)), .val (.ref b7), .val (.ref rb12)] [(.int (Int32.ofNat n)), (.int (Int32.ofNat n))]))
    refine own_st (fun zt zk => XS.icmpYes X12.here hx rfl (pc0 := 194) (pc' := 199) rfl (hb hby at_194) rfl (teq (rfl : (Int32.ofNat n) = (Int32.ofNat n))).1 (by decide) (by decide) zk) ?_
    show own_G p e below s _ _ _ (T12.setTop (mkF m 199 #[.val (.int qa), .val (.int qb), .val (.int qc), .val (.int qd), .val (.int qe), .val (.int qf), .val (.int (Int32.ofNat n)), .val (.int bd), .val (.ref b2), .val (.int (Int32.ofNat ka)), .val (.int (Int32.ofNat kb)), .val (.int (Int32.ofNat kc)), .val (.int (Int32.ofNat kq)), .val (.int (gf ka)), .val (.int (gf kb)), .val (.int (gf kc)), .val (.int (gf kq)), .val (.ref b7), .val (.ref rb12)] []))
    refine own_st (fun zt zk => XS.iload X12.here hx rfl (hb hby at_199) rfl zk) ?_
    show own_G p e below s _ _ _ (T12.setTop (mkF m 201 #[.val (.int qa), .val (.int qb), .val (.int qc), .val (.int qd), .val (.int qe), .val (.int qf), .val (.int (Int32.ofNat n)), .val (.int bd), .val (.ref b2), .val (.int (Int32.ofNat ka)), .val (.int (Int32.ofNat kb)), .val (.int (Int32.ofNat kc)), .val (.int (Int32.ofNat kq)), .val (.int (gf ka)), .val (.int (gf kb)), .val (.int (gf kc)), .val (.int (gf kq)), .val (.ref b7), .val (.ref rb12)] [(.int (Int32.ofNat n))]))
    have hc201_14 : ¬ ((Int32.ofNat n) = (0 : Int32)) := mt (own_eq0 hn).mp (Nat.ne_of_gt hpos)
    refine own_st (fun zt zk => XS.ifYes X12.here hx rfl (pc0 := 201) (pc' := 206) rfl (hb hby at_201) rfl ((if0 _ _).trans (feq hc201_14).2) (by decide) (by decide) zk) ?_
    show own_G p e below s _ _ _ (T12.setTop (mkF m 206 #[.val (.int qa), .val (.int qb), .val (.int qc), .val (.int qd), .val (.int qe), .val (.int qf), .val (.int (Int32.ofNat n)), .val (.int bd), .val (.ref b2), .val (.int (Int32.ofNat ka)), .val (.int (Int32.ofNat kb)), .val (.int (Int32.ofNat kc)), .val (.int (Int32.ofNat kq)), .val (.int (gf ka)), .val (.int (gf kb)), .val (.int (gf kc)), .val (.int (gf kq)), .val (.ref b7), .val (.ref rb12)] []))
    refine own_st (fun zt zk => XS.aload X12.here hx rfl (hb hby at_206) rfl rfl zk) ?_
    show own_G p e below s _ _ _ (T12.setTop (mkF m 208 #[.val (.int qa), .val (.int qb), .val (.int qc), .val (.int qd), .val (.int qe), .val (.int qf), .val (.int (Int32.ofNat n)), .val (.int bd), .val (.ref b2), .val (.int (Int32.ofNat ka)), .val (.int (Int32.ofNat kb)), .val (.int (Int32.ofNat kc)), .val (.int (Int32.ofNat kq)), .val (.int (gf ka)), .val (.int (gf kb)), .val (.int (gf kc)), .val (.int (gf kq)), .val (.ref b7), .val (.ref rb12)] [(.ref rb12)]))
    refine own_st (fun zt zk => XS.iload X12.here hx rfl (hb hby at_208) rfl zk) ?_
    show own_G p e below s _ _ _ (T12.setTop (mkF m 210 #[.val (.int qa), .val (.int qb), .val (.int qc), .val (.int qd), .val (.int qe), .val (.int qf), .val (.int (Int32.ofNat n)), .val (.int bd), .val (.ref b2), .val (.int (Int32.ofNat ka)), .val (.int (Int32.ofNat kb)), .val (.int (Int32.ofNat kc)), .val (.int (Int32.ofNat kq)), .val (.int (gf ka)), .val (.int (gf kb)), .val (.int (gf kc)), .val (.int (gf kq)), .val (.ref b7), .val (.ref rb12)] [(.int (Int32.ofNat ka)), (.ref rb12)]))
    refine own_st (own_iaload X12 hx hZ rfl q12_0 (own_tO (own_ltF l_ka hn)) l_ka (.int ((own_nl gf d9 n d9).1 ka)) rfl (g := (mkF m 210 #[.val (.int qa), .val (.int qb), .val (.int qc), .val (.int qd), .val (.int qe), .val (.int qf), .val (.int (Int32.ofNat n)), .val (.int bd), .val (.ref b2), .val (.int (Int32.ofNat ka)), .val (.int (Int32.ofNat kb)), .val (.int (Int32.ofNat kc)), .val (.int (Int32.ofNat kq)), .val (.int (gf ka)), .val (.int (gf kb)), .val (.int (gf kc)), .val (.int (gf kq)), .val (.ref b7), .val (.ref rb12)] [(.int (Int32.ofNat ka)), (.ref rb12)])) rfl rfl (hb hby at_210)) ?_
    show own_G p e below s _ _ _ (T12.setTop (mkF m 211 #[.val (.int qa), .val (.int qb), .val (.int qc), .val (.int qd), .val (.int qe), .val (.int qf), .val (.int (Int32.ofNat n)), .val (.int bd), .val (.ref b2), .val (.int (Int32.ofNat ka)), .val (.int (Int32.ofNat kb)), .val (.int (Int32.ofNat kc)), .val (.int (Int32.ofNat kq)), .val (.int (gf ka)), .val (.int (gf kb)), .val (.int (gf kc)), .val (.int (gf kq)), .val (.ref b7), .val (.ref rb12)] [(.int ((own_nl gf d9 n d9).1 ka))]))
    refine own_st (fun zt zk => XS.iload X12.here hx rfl (hb hby at_211) rfl zk) ?_
    show own_G p e below s _ _ _ (T12.setTop (mkF m 213 #[.val (.int qa), .val (.int qb), .val (.int qc), .val (.int qd), .val (.int qe), .val (.int qf), .val (.int (Int32.ofNat n)), .val (.int bd), .val (.ref b2), .val (.int (Int32.ofNat ka)), .val (.int (Int32.ofNat kb)), .val (.int (Int32.ofNat kc)), .val (.int (Int32.ofNat kq)), .val (.int (gf ka)), .val (.int (gf kb)), .val (.int (gf kc)), .val (.int (gf kq)), .val (.ref b7), .val (.ref rb12)] [(.int (gf ka)), (.int ((own_nl gf d9 n d9).1 ka))]))
    have hc213_15 : ((own_nl gf d9 n d9).1 ka) = (gf ka) := hN ka l_ka
    refine own_st (fun zt zk => XS.icmpNo X12.here hx rfl (hb hby at_213) rfl (teq hc213_15).2 zk) ?_
    show own_G p e below s _ _ _ (T12.setTop (mkF m 216 #[.val (.int qa), .val (.int qb), .val (.int qc), .val (.int qd), .val (.int qe), .val (.int qf), .val (.int (Int32.ofNat n)), .val (.int bd), .val (.ref b2), .val (.int (Int32.ofNat ka)), .val (.int (Int32.ofNat kb)), .val (.int (Int32.ofNat kc)), .val (.int (Int32.ofNat kq)), .val (.int (gf ka)), .val (.int (gf kb)), .val (.int (gf kc)), .val (.int (gf kq)), .val (.ref b7), .val (.ref rb12)] []))
    refine own_st (fun zt zk => XS.aload X12.here hx rfl (hb hby at_216) rfl rfl zk) ?_
    show own_G p e below s _ _ _ (T12.setTop (mkF m 218 #[.val (.int qa), .val (.int qb), .val (.int qc), .val (.int qd), .val (.int qe), .val (.int qf), .val (.int (Int32.ofNat n)), .val (.int bd), .val (.ref b2), .val (.int (Int32.ofNat ka)), .val (.int (Int32.ofNat kb)), .val (.int (Int32.ofNat kc)), .val (.int (Int32.ofNat kq)), .val (.int (gf ka)), .val (.int (gf kb)), .val (.int (gf kc)), .val (.int (gf kq)), .val (.ref b7), .val (.ref rb12)] [(.ref rb12)]))
    refine own_st (fun zt zk => XS.iload X12.here hx rfl (hb hby at_218) rfl zk) ?_
    show own_G p e below s _ _ _ (T12.setTop (mkF m 220 #[.val (.int qa), .val (.int qb), .val (.int qc), .val (.int qd), .val (.int qe), .val (.int qf), .val (.int (Int32.ofNat n)), .val (.int bd), .val (.ref b2), .val (.int (Int32.ofNat ka)), .val (.int (Int32.ofNat kb)), .val (.int (Int32.ofNat kc)), .val (.int (Int32.ofNat kq)), .val (.int (gf ka)), .val (.int (gf kb)), .val (.int (gf kc)), .val (.int (gf kq)), .val (.ref b7), .val (.ref rb12)] [(.int (Int32.ofNat kb)), (.ref rb12)]))
    refine own_st (own_iaload X12 hx hZ rfl q12_0 (own_tO (own_ltF l_kb hn)) l_kb (.int ((own_nl gf d9 n d9).1 kb)) rfl (g := (mkF m 220 #[.val (.int qa), .val (.int qb), .val (.int qc), .val (.int qd), .val (.int qe), .val (.int qf), .val (.int (Int32.ofNat n)), .val (.int bd), .val (.ref b2), .val (.int (Int32.ofNat ka)), .val (.int (Int32.ofNat kb)), .val (.int (Int32.ofNat kc)), .val (.int (Int32.ofNat kq)), .val (.int (gf ka)), .val (.int (gf kb)), .val (.int (gf kc)), .val (.int (gf kq)), .val (.ref b7), .val (.ref rb12)] [(.int (Int32.ofNat kb)), (.ref rb12)])) rfl rfl (hb hby at_220)) ?_
    show own_G p e below s _ _ _ (T12.setTop (mkF m 221 #[.val (.int qa), .val (.int qb), .val (.int qc), .val (.int qd), .val (.int qe), .val (.int qf), .val (.int (Int32.ofNat n)), .val (.int bd), .val (.ref b2), .val (.int (Int32.ofNat ka)), .val (.int (Int32.ofNat kb)), .val (.int (Int32.ofNat kc)), .val (.int (Int32.ofNat kq)), .val (.int (gf ka)), .val (.int (gf kb)), .val (.int (gf kc)), .val (.int (gf kq)), .val (.ref b7), .val (.ref rb12)] [(.int ((own_nl gf d9 n d9).1 kb))]))
    refine own_st (fun zt zk => XS.iload X12.here hx rfl (hb hby at_221) rfl zk) ?_
    show own_G p e below s _ _ _ (T12.setTop (mkF m 223 #[.val (.int qa), .val (.int qb), .val (.int qc), .val (.int qd), .val (.int qe), .val (.int qf), .val (.int (Int32.ofNat n)), .val (.int bd), .val (.ref b2), .val (.int (Int32.ofNat ka)), .val (.int (Int32.ofNat kb)), .val (.int (Int32.ofNat kc)), .val (.int (Int32.ofNat kq)), .val (.int (gf ka)), .val (.int (gf kb)), .val (.int (gf kc)), .val (.int (gf kq)), .val (.ref b7), .val (.ref rb12)] [(.int (gf kb)), (.int ((own_nl gf d9 n d9).1 kb))]))
    have hc223_16 : ((own_nl gf d9 n d9).1 kb) = (gf kb) := hN kb l_kb
    refine own_st (fun zt zk => XS.icmpNo X12.here hx rfl (hb hby at_223) rfl (teq hc223_16).2 zk) ?_
    show own_G p e below s _ _ _ (T12.setTop (mkF m 226 #[.val (.int qa), .val (.int qb), .val (.int qc), .val (.int qd), .val (.int qe), .val (.int qf), .val (.int (Int32.ofNat n)), .val (.int bd), .val (.ref b2), .val (.int (Int32.ofNat ka)), .val (.int (Int32.ofNat kb)), .val (.int (Int32.ofNat kc)), .val (.int (Int32.ofNat kq)), .val (.int (gf ka)), .val (.int (gf kb)), .val (.int (gf kc)), .val (.int (gf kq)), .val (.ref b7), .val (.ref rb12)] []))
    refine own_st (fun zt zk => XS.aload X12.here hx rfl (hb hby at_226) rfl rfl zk) ?_
    show own_G p e below s _ _ _ (T12.setTop (mkF m 228 #[.val (.int qa), .val (.int qb), .val (.int qc), .val (.int qd), .val (.int qe), .val (.int qf), .val (.int (Int32.ofNat n)), .val (.int bd), .val (.ref b2), .val (.int (Int32.ofNat ka)), .val (.int (Int32.ofNat kb)), .val (.int (Int32.ofNat kc)), .val (.int (Int32.ofNat kq)), .val (.int (gf ka)), .val (.int (gf kb)), .val (.int (gf kc)), .val (.int (gf kq)), .val (.ref b7), .val (.ref rb12)] [(.ref rb12)]))
    refine own_st (fun zt zk => XS.iload X12.here hx rfl (hb hby at_228) rfl zk) ?_
    show own_G p e below s _ _ _ (T12.setTop (mkF m 230 #[.val (.int qa), .val (.int qb), .val (.int qc), .val (.int qd), .val (.int qe), .val (.int qf), .val (.int (Int32.ofNat n)), .val (.int bd), .val (.ref b2), .val (.int (Int32.ofNat ka)), .val (.int (Int32.ofNat kb)), .val (.int (Int32.ofNat kc)), .val (.int (Int32.ofNat kq)), .val (.int (gf ka)), .val (.int (gf kb)), .val (.int (gf kc)), .val (.int (gf kq)), .val (.ref b7), .val (.ref rb12)] [(.int (Int32.ofNat kc)), (.ref rb12)]))
    refine own_st (own_iaload X12 hx hZ rfl q12_0 (own_tO (own_ltF l_kc hn)) l_kc (.int ((own_nl gf d9 n d9).1 kc)) rfl (g := (mkF m 230 #[.val (.int qa), .val (.int qb), .val (.int qc), .val (.int qd), .val (.int qe), .val (.int qf), .val (.int (Int32.ofNat n)), .val (.int bd), .val (.ref b2), .val (.int (Int32.ofNat ka)), .val (.int (Int32.ofNat kb)), .val (.int (Int32.ofNat kc)), .val (.int (Int32.ofNat kq)), .val (.int (gf ka)), .val (.int (gf kb)), .val (.int (gf kc)), .val (.int (gf kq)), .val (.ref b7), .val (.ref rb12)] [(.int (Int32.ofNat kc)), (.ref rb12)])) rfl rfl (hb hby at_230)) ?_
    show own_G p e below s _ _ _ (T12.setTop (mkF m 231 #[.val (.int qa), .val (.int qb), .val (.int qc), .val (.int qd), .val (.int qe), .val (.int qf), .val (.int (Int32.ofNat n)), .val (.int bd), .val (.ref b2), .val (.int (Int32.ofNat ka)), .val (.int (Int32.ofNat kb)), .val (.int (Int32.ofNat kc)), .val (.int (Int32.ofNat kq)), .val (.int (gf ka)), .val (.int (gf kb)), .val (.int (gf kc)), .val (.int (gf kq)), .val (.ref b7), .val (.ref rb12)] [(.int ((own_nl gf d9 n d9).1 kc))]))
    refine own_st (fun zt zk => XS.iload X12.here hx rfl (hb hby at_231) rfl zk) ?_
    show own_G p e below s _ _ _ (T12.setTop (mkF m 233 #[.val (.int qa), .val (.int qb), .val (.int qc), .val (.int qd), .val (.int qe), .val (.int qf), .val (.int (Int32.ofNat n)), .val (.int bd), .val (.ref b2), .val (.int (Int32.ofNat ka)), .val (.int (Int32.ofNat kb)), .val (.int (Int32.ofNat kc)), .val (.int (Int32.ofNat kq)), .val (.int (gf ka)), .val (.int (gf kb)), .val (.int (gf kc)), .val (.int (gf kq)), .val (.ref b7), .val (.ref rb12)] [(.int (gf kc)), (.int ((own_nl gf d9 n d9).1 kc))]))
    have hc233_17 : ((own_nl gf d9 n d9).1 kc) = (gf kc) := hN kc l_kc
    refine own_st (fun zt zk => XS.icmpNo X12.here hx rfl (hb hby at_233) rfl (teq hc233_17).2 zk) ?_
    show own_G p e below s _ _ _ (T12.setTop (mkF m 236 #[.val (.int qa), .val (.int qb), .val (.int qc), .val (.int qd), .val (.int qe), .val (.int qf), .val (.int (Int32.ofNat n)), .val (.int bd), .val (.ref b2), .val (.int (Int32.ofNat ka)), .val (.int (Int32.ofNat kb)), .val (.int (Int32.ofNat kc)), .val (.int (Int32.ofNat kq)), .val (.int (gf ka)), .val (.int (gf kb)), .val (.int (gf kc)), .val (.int (gf kq)), .val (.ref b7), .val (.ref rb12)] []))
    refine own_st (fun zt zk => XS.aload X12.here hx rfl (hb hby at_236) rfl rfl zk) ?_
    show own_G p e below s _ _ _ (T12.setTop (mkF m 238 #[.val (.int qa), .val (.int qb), .val (.int qc), .val (.int qd), .val (.int qe), .val (.int qf), .val (.int (Int32.ofNat n)), .val (.int bd), .val (.ref b2), .val (.int (Int32.ofNat ka)), .val (.int (Int32.ofNat kb)), .val (.int (Int32.ofNat kc)), .val (.int (Int32.ofNat kq)), .val (.int (gf ka)), .val (.int (gf kb)), .val (.int (gf kc)), .val (.int (gf kq)), .val (.ref b7), .val (.ref rb12)] [(.ref rb12)]))
    refine own_st (fun zt zk => XS.iload X12.here hx rfl (hb hby at_238) rfl zk) ?_
    show own_G p e below s _ _ _ (T12.setTop (mkF m 240 #[.val (.int qa), .val (.int qb), .val (.int qc), .val (.int qd), .val (.int qe), .val (.int qf), .val (.int (Int32.ofNat n)), .val (.int bd), .val (.ref b2), .val (.int (Int32.ofNat ka)), .val (.int (Int32.ofNat kb)), .val (.int (Int32.ofNat kc)), .val (.int (Int32.ofNat kq)), .val (.int (gf ka)), .val (.int (gf kb)), .val (.int (gf kc)), .val (.int (gf kq)), .val (.ref b7), .val (.ref rb12)] [(.int (Int32.ofNat kq)), (.ref rb12)]))
    refine own_st (own_iaload X12 hx hZ rfl q12_0 (own_tO (own_ltF l_kq hn)) l_kq (.int ((own_nl gf d9 n d9).1 kq)) rfl (g := (mkF m 240 #[.val (.int qa), .val (.int qb), .val (.int qc), .val (.int qd), .val (.int qe), .val (.int qf), .val (.int (Int32.ofNat n)), .val (.int bd), .val (.ref b2), .val (.int (Int32.ofNat ka)), .val (.int (Int32.ofNat kb)), .val (.int (Int32.ofNat kc)), .val (.int (Int32.ofNat kq)), .val (.int (gf ka)), .val (.int (gf kb)), .val (.int (gf kc)), .val (.int (gf kq)), .val (.ref b7), .val (.ref rb12)] [(.int (Int32.ofNat kq)), (.ref rb12)])) rfl rfl (hb hby at_240)) ?_
    show own_G p e below s _ _ _ (T12.setTop (mkF m 241 #[.val (.int qa), .val (.int qb), .val (.int qc), .val (.int qd), .val (.int qe), .val (.int qf), .val (.int (Int32.ofNat n)), .val (.int bd), .val (.ref b2), .val (.int (Int32.ofNat ka)), .val (.int (Int32.ofNat kb)), .val (.int (Int32.ofNat kc)), .val (.int (Int32.ofNat kq)), .val (.int (gf ka)), .val (.int (gf kb)), .val (.int (gf kc)), .val (.int (gf kq)), .val (.ref b7), .val (.ref rb12)] [(.int ((own_nl gf d9 n d9).1 kq))]))
    refine own_st (fun zt zk => XS.iload X12.here hx rfl (hb hby at_241) rfl zk) ?_
    show own_G p e below s _ _ _ (T12.setTop (mkF m 243 #[.val (.int qa), .val (.int qb), .val (.int qc), .val (.int qd), .val (.int qe), .val (.int qf), .val (.int (Int32.ofNat n)), .val (.int bd), .val (.ref b2), .val (.int (Int32.ofNat ka)), .val (.int (Int32.ofNat kb)), .val (.int (Int32.ofNat kc)), .val (.int (Int32.ofNat kq)), .val (.int (gf ka)), .val (.int (gf kb)), .val (.int (gf kc)), .val (.int (gf kq)), .val (.ref b7), .val (.ref rb12)] [(.int (gf kq)), (.int ((own_nl gf d9 n d9).1 kq))]))
    have hc243_18 : ((own_nl gf d9 n d9).1 kq) = (gf kq) := hN kq l_kq
    refine own_st (fun zt zk => XS.icmpNo X12.here hx rfl (hb hby at_243) rfl (teq hc243_18).2 zk) ?_
    show own_G p e below s _ _ _ (T12.setTop (mkF m 246 #[.val (.int qa), .val (.int qb), .val (.int qc), .val (.int qd), .val (.int qe), .val (.int qf), .val (.int (Int32.ofNat n)), .val (.int bd), .val (.ref b2), .val (.int (Int32.ofNat ka)), .val (.int (Int32.ofNat kb)), .val (.int (Int32.ofNat kc)), .val (.int (Int32.ofNat kq)), .val (.int (gf ka)), .val (.int (gf kb)), .val (.int (gf kc)), .val (.int (gf kq)), .val (.ref b7), .val (.ref rb12)] []))
    refine own_st (fun zt zk => XS.iconst X12.here hx rfl (hb hby at_246) zk) ?_
    show own_G p e below s _ _ _ (T12.setTop (mkF m 247 #[.val (.int qa), .val (.int qb), .val (.int qc), .val (.int qd), .val (.int qe), .val (.int qf), .val (.int (Int32.ofNat n)), .val (.int bd), .val (.ref b2), .val (.int (Int32.ofNat ka)), .val (.int (Int32.ofNat kb)), .val (.int (Int32.ofNat kc)), .val (.int (Int32.ofNat kq)), .val (.int (gf ka)), .val (.int (gf kb)), .val (.int (gf kc)), .val (.int (gf kq)), .val (.ref b7), .val (.ref rb12)] [(.int (1 : Int32))]))
    refine own_st (fun zt zk => XS.goto X12.here hx rfl (pc0 := 247) (pc' := 251) rfl (hb hby at_247) (by decide) (by decide) zk) ?_
    show own_G p e below s _ _ _ (T12.setTop (mkF m 251 #[.val (.int qa), .val (.int qb), .val (.int qc), .val (.int qd), .val (.int qe), .val (.int qf), .val (.int (Int32.ofNat n)), .val (.int bd), .val (.ref b2), .val (.int (Int32.ofNat ka)), .val (.int (Int32.ofNat kb)), .val (.int (Int32.ofNat kc)), .val (.int (Int32.ofNat kq)), .val (.int (gf ka)), .val (.int (gf kb)), .val (.int (gf kc)), .val (.int (gf kq)), .val (.ref b7), .val (.ref rb12)] [(.int (1 : Int32))]))
    refine own_retZ X12 hx hlk hret (by decide) (hb hby at_251) (by decide) (by decide) ?_
    show Q_own_law Z qa qb qc qd qe qf h0 n0 (some (.int (1 : Int32))) T12.heap _
    exact ⟨rfl, N12⟩
  · refine own_st (fun zt zk => XS.ifYes X2.here hx rfl (pc0 := 49) (pc' := 169) rfl (hb hby at_49) rfl ((if0 _ _).trans (flt hc49_3).2.2.2) (by decide) (by decide) zk) ?_
    show own_G p e below s _ _ _ (T2.setTop (mkF m 169 #[.val (.int qa), .val (.int qb), .val (.int qc), .val (.int qd), .val (.int qe), .val (.int qf), .val (.int (Int32.ofNat n)), .val (.int bd), .val (.ref b2), .val (.int (0 : Int32)), .val (.int (0 : Int32)), .val (.int (0 : Int32)), .val (.int (0 : Int32)), .val (.int (0 : Int32)), .val (.int (0 : Int32)), .val (.int (0 : Int32)), .val (.int (0 : Int32)), .unset, .unset] []))
    obtain ⟨gf, hgf⟩ : ∃ z, z = (fun _ => (0 : Int32)) := ⟨_, rfl⟩
    have hgb : ∀ i, i < n → 0 ≤ (gf i).toInt ∧ (gf i).toInt < bd.toInt := by rw [hgf]; exact own_ups0 hbd
    have VG : own_A Z h2 b2 .int n (fun q => .int (gf q)) := by rw [hgf]; exact V2a
    obtain ⟨T19, h19, X19, e19, E19, A19, D19, -, st19⟩ := newO X2 hx hZ hown (hw _ (List.mem_of_getElem? (i := 6) rfl)) (hw _ (List.mem_of_getElem? (i := 7) rfl)) (hw _ (List.mem_of_getElem? (i := 8) rfl)) e2 (g := (mkF m 169 #[.val (.int qa), .val (.int qb), .val (.int qc), .val (.int qd), .val (.int qe), .val (.int qf), .val (.int (Int32.ofNat n)), .val (.int bd), .val (.ref b2), .val (.int (0 : Int32)), .val (.int (0 : Int32)), .val (.int (0 : Int32)), .val (.int (0 : Int32)), .val (.int (0 : Int32)), .val (.int (0 : Int32)), .val (.int (0 : Int32)), .val (.int (0 : Int32)), .unset, .unset] [])) rfl (hb hby at_169) (by decide) (by decide)
    obtain ⟨b19, g19⟩ : ∃ z, z = h2.size := ⟨_, rfl⟩
    rw [← g19] at A19 D19 st19
    have ne19_b2 : b2 ≠ b19 := by rw [g19]; exact Nat.ne_of_lt D2.lt
    have ge19 : n0 ≤ b19 := Nat.le_trans (Nat.le_trans Z0 E2.1) (Nat.le_of_eq g19.symm)
    have sz19 : h0.size ≤ b19 := Nat.le_trans (Nat.le_trans (Nat.le_refl h0.size) E2.1) (Nat.le_of_eq g19.symm)
    refine own_st st19 ?_
    show own_G p e below s _ _ _ (T19.setTop (mkF m 172 #[.val (.int qa), .val (.int qb), .val (.int qc), .val (.int qd), .val (.int qe), .val (.int qf), .val (.int (Int32.ofNat n)), .val (.int bd), .val (.ref b2), .val (.int (0 : Int32)), .val (.int (0 : Int32)), .val (.int (0 : Int32)), .val (.int (0 : Int32)), .val (.int (0 : Int32)), .val (.int (0 : Int32)), .val (.int (0 : Int32)), .val (.int (0 : Int32)), .unset, .unset] [(.ref b19)]))
    refine own_st (fun zt zk => XS.dup X19.here hx rfl (hb hby at_172) rfl rfl zk) ?_
    show own_G p e below s _ _ _ (T19.setTop (mkF m 173 #[.val (.int qa), .val (.int qb), .val (.int qc), .val (.int qd), .val (.int qe), .val (.int qf), .val (.int (Int32.ofNat n)), .val (.int bd), .val (.ref b2), .val (.int (0 : Int32)), .val (.int (0 : Int32)), .val (.int (0 : Int32)), .val (.int (0 : Int32)), .val (.int (0 : Int32)), .val (.int (0 : Int32)), .val (.int (0 : Int32)), .val (.int (0 : Int32)), .unset, .unset] [(.ref b19), (.ref b19)]))
    refine own_st (fun zt zk => XS.aload X19.here hx rfl (hb hby at_173) rfl rfl zk) ?_
    show own_G p e below s _ _ _ (T19.setTop (mkF m 175 #[.val (.int qa), .val (.int qb), .val (.int qc), .val (.int qd), .val (.int qe), .val (.int qf), .val (.int (Int32.ofNat n)), .val (.int bd), .val (.ref b2), .val (.int (0 : Int32)), .val (.int (0 : Int32)), .val (.int (0 : Int32)), .val (.int (0 : Int32)), .val (.int (0 : Int32)), .val (.int (0 : Int32)), .val (.int (0 : Int32)), .val (.int (0 : Int32)), .unset, .unset] [(.ref b2), (.ref b19), (.ref b19)]))
    refine own_st (fun zt zk => XS.iload X19.here hx rfl (hb hby at_175) rfl zk) ?_
    show own_G p e below s _ _ _ (T19.setTop (mkF m 177 #[.val (.int qa), .val (.int qb), .val (.int qc), .val (.int qd), .val (.int qe), .val (.int qf), .val (.int (Int32.ofNat n)), .val (.int bd), .val (.ref b2), .val (.int (0 : Int32)), .val (.int (0 : Int32)), .val (.int (0 : Int32)), .val (.int (0 : Int32)), .val (.int (0 : Int32)), .val (.int (0 : Int32)), .val (.int (0 : Int32)), .val (.int (0 : Int32)), .unset, .unset] [(.int bd), (.ref b2), (.ref b19), (.ref b19)]))
    have V21 : own_A Z h19 b2 .int n (fun q => .int (gf q)) := (VG.ext E19)
    have E22 : Exa Z h19 b2 "[I" := (D2.ext E19)
    obtain ⟨_, T20, L20, X20, hQ20, st20⟩ := own_callI X19 hx hZ (y := (⟨"com/example/orderly_results/orderlyresults/engine/WaveletMatrix", "<init>", "([II)V"⟩ : MethodName)) (a := b19) (argsL := [(.ref b2), (.int bd)]) (rest := [(.ref b19)]) 1 rfl hown (hw _ (List.mem_of_getElem? (i := 9) rfl)) (hw _ (List.mem_of_getElem? (i := 10) rfl)) (hw _ (List.mem_of_getElem? (i := 8) rfl)) (hw _ (List.mem_of_getElem? (i := 11) rfl)) (by decide) (own_wi l Z a0 hw [] b19 b2 bd n gf h19 n0 (Nat.le_trans (Nat.le_trans Z0 E2.1) E19.1) A19 (D19 (Or.inr (hw _ (List.mem_of_getElem? (i := 22) rfl))) (ty := .int) (by decide)) (D19 (Or.inr (hw _ (List.mem_of_getElem? (i := 24) rfl))) (ty := .int) (by decide)) (D19 (Or.inr (hw _ (List.mem_of_getElem? (i := 28) rfl))) (ty := (.array (.array .long))) (by decide)) (D19 (Or.inr (hw _ (List.mem_of_getElem? (i := 32) rfl))) (ty := (.array (.array .int))) (by decide)) (D19 (Or.inr (hw _ (List.mem_of_getElem? (i := 34) rfl))) (ty := (.array .int)) (by decide)) V21 E22 ge19 (Ne.symm ne19_b2) hn hbd) (by decide) (by decide) e19 (g := (mkF m 177 #[.val (.int qa), .val (.int qb), .val (.int qc), .val (.int qd), .val (.int qe), .val (.int qf), .val (.int (Int32.ofNat n)), .val (.int bd), .val (.ref b2), .val (.int (0 : Int32)), .val (.int (0 : Int32)), .val (.int (0 : Int32)), .val (.int (0 : Int32)), .val (.int (0 : Int32)), .val (.int (0 : Int32)), .val (.int (0 : Int32)), .val (.int (0 : Int32)), .unset, .unset] [(.int bd), (.ref b2), (.ref b19), (.ref b19)])) rfl (by rw [hml]; rfl) own_pd5 rfl rfl (by show 2 * 0 + _ ≤ _; exact Nat.le_of_eq rfl) (hb hby at_177) (by decide) (by decide)
    obtain ⟨vv20, cc20, d20, GV20, rfl, N20q, K20, svv20, scc20, q20_0, q20_1, q20_2, q20_3, q20_4, q20_5, q20_6, q20_7, q20_8⟩ := hQ20
    have N20 := Fr.app N1 N20q
    refine own_st st20 ?_
    have ne20_vv_b2 : b2 ≠ vv20 := Nat.ne_of_lt (Nat.lt_of_lt_of_le E22.lt svv20)
    have ne20_vv_b19 : b19 ≠ vv20 := Nat.ne_of_lt (Nat.lt_of_lt_of_le A19.lt svv20)
    have ge20_vv : n0 ≤ vv20 := Nat.le_trans (Nat.le_trans (Nat.le_trans Z0 E2.1) E19.1) svv20
    have sz20_vv : h0.size ≤ vv20 := Nat.le_trans (Nat.le_trans (Nat.le_trans (Nat.le_refl h0.size) E2.1) E19.1) svv20
    have ne20_cc_b2 : b2 ≠ cc20 := Nat.ne_of_lt (Nat.lt_of_lt_of_le E22.lt scc20)
    have ne20_cc_b19 : b19 ≠ cc20 := Nat.ne_of_lt (Nat.lt_of_lt_of_le A19.lt scc20)
    have ge20_cc : n0 ≤ cc20 := Nat.le_trans (Nat.le_trans (Nat.le_trans Z0 E2.1) E19.1) scc20
    have sz20_cc : h0.size ≤ cc20 := Nat.le_trans (Nat.le_trans (Nat.le_trans (Nat.le_refl h0.size) E2.1) E19.1) scc20
    show own_G p e below s _ _ _ (T20.setTop (mkF m 180 #[.val (.int qa), .val (.int qb), .val (.int qc), .val (.int qd), .val (.int qe), .val (.int qf), .val (.int (Int32.ofNat n)), .val (.int bd), .val (.ref b2), .val (.int (0 : Int32)), .val (.int (0 : Int32)), .val (.int (0 : Int32)), .val (.int (0 : Int32)), .val (.int (0 : Int32)), .val (.int (0 : Int32)), .val (.int (0 : Int32)), .val (.int (0 : Int32)), .unset, .unset] [(.ref b19)]))
    refine own_st (fun zt zk => XS.astore X20.here hx rfl (hb hby at_180) rfl rfl (l' := #[.val (.int qa), .val (.int qb), .val (.int qc), .val (.int qd), .val (.int qe), .val (.int qf), .val (.int (Int32.ofNat n)), .val (.int bd), .val (.ref b2), .val (.int (0 : Int32)), .val (.int (0 : Int32)), .val (.int (0 : Int32)), .val (.int (0 : Int32)), .val (.int (0 : Int32)), .val (.int (0 : Int32)), .val (.int (0 : Int32)), .val (.int (0 : Int32)), .val (.ref b19), .unset]) rfl zk) ?_
    show own_G p e below s _ _ _ (T20.setTop (mkF m 182 #[.val (.int qa), .val (.int qb), .val (.int qc), .val (.int qd), .val (.int qe), .val (.int qf), .val (.int (Int32.ofNat n)), .val (.int bd), .val (.ref b2), .val (.int (0 : Int32)), .val (.int (0 : Int32)), .val (.int (0 : Int32)), .val (.int (0 : Int32)), .val (.int (0 : Int32)), .val (.int (0 : Int32)), .val (.int (0 : Int32)), .val (.int (0 : Int32)), .val (.ref b19), .unset] []))
    refine own_st (fun zt zk => XS.aload X20.here hx rfl (hb hby at_182) rfl rfl zk) ?_
    show own_G p e below s _ _ _ (T20.setTop (mkF m 184 #[.val (.int qa), .val (.int qb), .val (.int qc), .val (.int qd), .val (.int qe), .val (.int qf), .val (.int (Int32.ofNat n)), .val (.int bd), .val (.ref b2), .val (.int (0 : Int32)), .val (.int (0 : Int32)), .val (.int (0 : Int32)), .val (.int (0 : Int32)), .val (.int (0 : Int32)), .val (.int (0 : Int32)), .val (.int (0 : Int32)), .val (.int (0 : Int32)), .val (.ref b19), .unset] [(.ref b19)]))
    have E24 : Exa Z T20.heap b19 "com/example/orderly_results/orderlyresults/engine/WaveletMatrix" := (A19.keep K20)
    obtain ⟨_, T23, L23, X23, hQ23, st23⟩ := own_callV X20 hx hZ (C := "com/example/orderly_results/orderlyresults/engine/WaveletMatrix") (y := (⟨"com/example/orderly_results/orderlyresults/engine/WaveletMatrix", "numbers", "()[I"⟩ : MethodName)) (z := (⟨"com/example/orderly_results/orderlyresults/engine/WaveletMatrix", "numbers", "()[I"⟩ : MethodName)) (a := b19) (argsL := []) (rest := []) 0 hown (hw _ (List.mem_of_getElem? (i := 62) rfl)) (hw _ (List.mem_of_getElem? (i := 63) rfl)) (own_nf hZ (hw _ (List.mem_of_getElem? (i := 65) rfl))) (hw _ (List.mem_of_getElem? (i := 65) rfl)) (hw _ (List.mem_of_getElem? (i := 64) rfl)) (hw _ (List.mem_of_getElem? (i := 8) rfl)) (hw _ (List.mem_of_getElem? (i := 66) rfl)) (by decide) (own_nu l Z a0 hw [] b19 vv20 cc20 n d20 gf GV20 T20.heap n0 (Nat.le_trans (Nat.le_trans (Nat.le_trans Z0 E2.1) E19.1) K20.1) E24 q20_0 q20_1 q20_2 q20_3 q20_4 q20_5 q20_6 hn q20_7) (by decide) (by decide) rfl E24 (g := (mkF m 184 #[.val (.int qa), .val (.int qb), .val (.int qc), .val (.int qd), .val (.int qe), .val (.int qf), .val (.int (Int32.ofNat n)), .val (.int bd), .val (.ref b2), .val (.int (0 : Int32)), .val (.int (0 : Int32)), .val (.int (0 : Int32)), .val (.int (0 : Int32)), .val (.int (0 : Int32)), .val (.int (0 : Int32)), .val (.int (0 : Int32)), .val (.int (0 : Int32)), .val (.ref b19), .unset] [(.ref b19)])) rfl (by rw [hml]; rfl) own_pd6 rfl rfl (by show 2 * 0 + _ ≤ _; exact Nat.le_of_eq rfl) (hb hby at_184) (by decide) (by decide)
    obtain ⟨rb23, rfl, N23q, K23, srb23, q23_0⟩ := hQ23
    have N23 := Fr.app N20 N23q
    refine own_st st23 ?_
    have ne23_rb_b2 : b2 ≠ rb23 := Nat.ne_of_lt (Nat.lt_of_lt_of_le (E22.keep K20).lt srb23)
    have ne23_rb_b19 : b19 ≠ rb23 := Nat.ne_of_lt (Nat.lt_of_lt_of_le E24.lt srb23)
    have ne23_rb_vv20 : vv20 ≠ rb23 := Nat.ne_of_lt (Nat.lt_of_lt_of_le q20_4.lt srb23)
    have ne23_rb_cc20 : cc20 ≠ rb23 := Nat.ne_of_lt (Nat.lt_of_lt_of_le q20_5.lt srb23)
    have ge23_rb : n0 ≤ rb23 := Nat.le_trans (Nat.le_trans (Nat.le_trans (Nat.le_trans Z0 E2.1) E19.1) K20.1) srb23
    have sz23_rb : h0.size ≤ rb23 := Nat.le_trans (Nat.le_trans (Nat.le_trans (Nat.le_trans (Nat.le_refl h0.size) E2.1) E19.1) K20.1) srb23
    show own_G p e below s _ _ _ (T23.setTop (mkF m 187 #[.val (.int qa), .val (.int qb), .val (.int qc), .val (.int qd), .val (.int qe), .val (.int qf), .val (.int (Int32.ofNat n)), .val (.int bd), .val (.ref b2), .val (.int (0 : Int32)), .val (.int (0 : Int32)), .val (.int (0 : Int32)), .val (.int (0 : Int32)), .val (.int (0 : Int32)), .val (.int (0 : Int32)), .val (.int (0 : Int32)), .val (.int (0 : Int32)), .val (.ref b19), .unset] [(.ref rb23)]))
    refine own_st (fun zt zk => XS.astore X23.here hx rfl (hb hby at_187) rfl rfl (l' := #[.val (.int qa), .val (.int qb), .val (.int qc), .val (.int qd), .val (.int qe), .val (.int qf), .val (.int (Int32.ofNat n)), .val (.int bd), .val (.ref b2), .val (.int (0 : Int32)), .val (.int (0 : Int32)), .val (.int (0 : Int32)), .val (.int (0 : Int32)), .val (.int (0 : Int32)), .val (.int (0 : Int32)), .val (.int (0 : Int32)), .val (.int (0 : Int32)), .val (.ref b19), .val (.ref rb23)]) rfl zk) ?_
    show own_G p e below s _ _ _ (T23.setTop (mkF m 189 #[.val (.int qa), .val (.int qb), .val (.int qc), .val (.int qd), .val (.int qe), .val (.int qf), .val (.int (Int32.ofNat n)), .val (.int bd), .val (.ref b2), .val (.int (0 : Int32)), .val (.int (0 : Int32)), .val (.int (0 : Int32)), .val (.int (0 : Int32)), .val (.int (0 : Int32)), .val (.int (0 : Int32)), .val (.int (0 : Int32)), .val (.int (0 : Int32)), .val (.ref b19), .val (.ref rb23)] []))
    have hN := own_N_all (n := n) q20_7 (own_to2 hgb q20_8)
    refine own_st (fun zt zk => XS.aload X23.here hx rfl (hb hby at_189) rfl rfl zk) ?_
    show own_G p e below s _ _ _ (T23.setTop (mkF m 191 #[.val (.int qa), .val (.int qb), .val (.int qc), .val (.int qd), .val (.int qe), .val (.int qf), .val (.int (Int32.ofNat n)), .val (.int bd), .val (.ref b2), .val (.int (0 : Int32)), .val (.int (0 : Int32)), .val (.int (0 : Int32)), .val (.int (0 : Int32)), .val (.int (0 : Int32)), .val (.int (0 : Int32)), .val (.int (0 : Int32)), .val (.int (0 : Int32)), .val (.ref b19), .val (.ref rb23)] [(.ref rb23)]))
    refine own_st (own_arraylength X23 hx hZ rfl q23_0 (Int32.ofNat n) (own_tO hn) (g := (mkF m 191 #[.val (.int qa), .val (.int qb), .val (.int qc), .val (.int qd), .val (.int qe), .val (.int qf), .val (.int (Int32.ofNat n)), .val (.int bd), .val (.ref b2), .val (.int (0 : Int32)), .val (.int (0 : Int32)), .val (.int (0 : Int32)), .val (.int (0 : Int32)), .val (.int (0 : Int32)), .val (.int (0 : Int32)), .val (.int (0 : Int32)), .val (.int (0 : Int32)), .val (.ref b19), .val (.ref rb23)] [(.ref rb23)])) rfl rfl (hb hby at_191)) ?_
    show own_G p e below s _ _ _ (T23.setTop (mkF m 192 #[.val (.int qa), .val (.int qb), .val (.int qc), .val (.int qd), .val (.int qe), .val (.int qf), .val (.int (Int32.ofNat n)), .val (.int bd), .val (.ref b2), .val (.int (0 : Int32)), .val (.int (0 : Int32)), .val (.int (0 : Int32)), .val (.int (0 : Int32)), .val (.int (0 : Int32)), .val (.int (0 : Int32)), .val (.int (0 : Int32)), .val (.int (0 : Int32)), .val (.ref b19), .val (.ref rb23)] [(.int (Int32.ofNat n))]))
    refine own_st (fun zt zk => XS.iload X23.here hx rfl (hb hby at_192) rfl zk) ?_
    show own_G p e below s _ _ _ (T23.setTop (mkF m 194 #[.val (.int qa), .val (.int qb), .val (.int qc), .val (.int qd), .val (.int qe), .val (.int qf), .val (.int (Int32.ofNat n)), .val (.int bd), .val (.ref b2), .val (.int (0 : Int32)), .val (.int (0 : Int32)), .val (.int (0 : Int32)), .val (.int (0 : Int32)), .val (.int (0 : Int32)), .val (.int (0 : Int32)), .val (.int (0 : Int32)), .val (.int (0 : Int32)), .val (.ref b19), .val (.ref rb23)] [(.int (Int32.ofNat n)), (.int (Int32.ofNat n))]))
    refine own_st (fun zt zk => XS.icmpYes X23.here hx rfl (pc0 := 194) (pc' := 199) rfl (hb hby at_194) rfl (teq (rfl : (Int32.ofNat n) = (Int32.ofNat n))).1 (by decide) (by decide) zk) ?_
    show own_G p e below s _ _ _ (T23.setTop (mkF m 199 #[.val (.int qa), .val (.int qb), .val (.int qc), .val (.int qd), .val (.int qe), .val (.int qf), .val (.int (Int32.ofNat n)), .val (.int bd), .val (.ref b2), .val (.int (0 : Int32)), .val (.int (0 : Int32)), .val (.int (0 : Int32)), .val (.int (0 : Int32)), .val (.int (0 : Int32)), .val (.int (0 : Int32)), .val (.int (0 : Int32)), .val (.int (0 : Int32)), .val (.ref b19), .val (.ref rb23)] []))
    refine own_st (fun zt zk => XS.iload X23.here hx rfl (hb hby at_199) rfl zk) ?_
    show own_G p e below s _ _ _ (T23.setTop (mkF m 201 #[.val (.int qa), .val (.int qb), .val (.int qc), .val (.int qd), .val (.int qe), .val (.int qf), .val (.int (Int32.ofNat n)), .val (.int bd), .val (.ref b2), .val (.int (0 : Int32)), .val (.int (0 : Int32)), .val (.int (0 : Int32)), .val (.int (0 : Int32)), .val (.int (0 : Int32)), .val (.int (0 : Int32)), .val (.int (0 : Int32)), .val (.int (0 : Int32)), .val (.ref b19), .val (.ref rb23)] [(.int (Int32.ofNat n))]))
    have hc201_25 : (Int32.ofNat n) = (0 : Int32) := (own_eq0 hn).mpr (Nat.eq_zero_of_not_pos (mt (own_pos hn).mpr hc49_3))
    refine own_st (fun zt zk => XS.ifNo X23.here hx rfl (hb hby at_201) rfl ((if0 _ _).trans (teq hc201_25).2) zk) ?_
    show own_G p e below s _ _ _ (T23.setTop (mkF m 204 #[.val (.int qa), .val (.int qb), .val (.int qc), .val (.int qd), .val (.int qe), .val (.int qf), .val (.int (Int32.ofNat n)), .val (.int bd), .val (.ref b2), .val (.int (0 : Int32)), .val (.int (0 : Int32)), .val (.int (0 : Int32)), .val (.int (0 : Int32)), .val (.int (0 : Int32)), .val (.int (0 : Int32)), .val (.int (0 : Int32)), .val (.int (0 : Int32)), .val (.ref b19), .val (.ref rb23)] []))
    refine own_st (fun zt zk => XS.iconst X23.here hx rfl (hb hby at_204) zk) ?_
    show own_G p e below s _ _ _ (T23.setTop (mkF m 205 #[.val (.int qa), .val (.int qb), .val (.int qc), .val (.int qd), .val (.int qe), .val (.int qf), .val (.int (Int32.ofNat n)), .val (.int bd), .val (.ref b2), .val (.int (0 : Int32)), .val (.int (0 : Int32)), .val (.int (0 : Int32)), .val (.int (0 : Int32)), .val (.int (0 : Int32)), .val (.int (0 : Int32)), .val (.int (0 : Int32)), .val (.int (0 : Int32)), .val (.ref b19), .val (.ref rb23)] [(.int (1 : Int32))]))
    refine own_retZ X23 hx hlk hret (by decide) (hb hby at_205) (by decide) (by decide) ?_
    show Q_own_law Z qa qb qc qd qe qf h0 n0 (some (.int (1 : Int32))) T23.heap _
    exact ⟨rfl, N23⟩
set_option maxRecDepth 65536 in
set_option maxHeartbeats 40000000 in
theorem comes_1 {Post : Tables → Env → Array Value → State → Outcome → State → Prop} (hpost : ∀ tb e args s v u, (limb_1_1.after args s (.returned v) u = true ∧ limb_1_2.after args s (.returned v) u = true ∧ True) → FrameEnd s (.returned v) u (Jvm.fieldLocs frame_1_writes args s ++ Jvm.arrayLocs frame_1_arrays args s ++ Jvm.staticLocs frame_1_statics s) 160 4160 → Post tb e args s (.returned v) u) :
    ArmFor flags0 classFile x code maxLocals ret World_1 tables_1 room_1 Calls_1 rest_1 Pre_1 Post := by
  intro l hfl _ _ p e ha hc hk s m args below hf hA hF happ hP
  obtain ⟨hcalls, hrest, hpre⟩ := hP
  obtain ⟨-, -, -, hnamed, -, -, -, hat⟩ := (Spec.applies_iff hf).mp happ
  obtain ⟨hg, hn⟩ := and_e (Cond.before_iff.mp (show (Jvm.Cond.and given_1 narrow_1).before args s = true from hpre))
  obtain ⟨k1, k2⟩ := and_e hg
  obtain ⟨j0, i0⟩ := and_e k2
  obtain ⟨j1, i1⟩ := and_e i0
  obtain ⟨j2, i2⟩ := and_e i1
  obtain ⟨j3, i3⟩ := and_e i2
  obtain ⟨j4, i4⟩ := and_e i3
  obtain ⟨w0, w1, w2, w3, w4, w5, rfl⟩ : ∃ w0 w1 w2 w3 w4 w5 : Value, args = #[w0, w1, w2, w3, w4, w5] := by
    have hs : args.size = 6 := by simpa [Cond.value, given_1] using k1
    obtain ⟨L⟩ := args
    match L, hs with
    | [w0, w1, w2, w3, w4, w5], _ => exact ⟨w0, w1, w2, w3, w4, w5, rfl⟩
  have hw := fun d (hd : d ∈ tables_1) => atoms_spec (ws := Jvm.Cond.code x code maxLocals ret :: tables_1) hat d (List.mem_cons_of_mem _ hd)
  have hfit : Fit s := fun {y c} hc i hi => by
    obtain ⟨ha, rfl⟩ := Array.getElem?_eq_some_iff.mp hc
    have q := List.all_eq_true.mp ((Array.all_eq_true_iff_forall_mem.mp hF) _ (Array.getElem_mem ha)) i (List.mem_range.mpr hi)
    simpa [Array.getElem?_eq_getElem hi] using q
  obtain ⟨y0, z0⟩ := is_v j0
  obtain rfl : w0 = (.int y0) := Option.some.inj z0
  obtain ⟨y1, z1⟩ := is_v j1
  obtain rfl : w1 = (.int y1) := Option.some.inj z1
  obtain ⟨y2, z2⟩ := is_v j2
  obtain rfl : w2 = (.int y2) := Option.some.inj z2
  obtain ⟨y3, z3⟩ := is_v j3
  obtain rfl : w3 = (.int y3) := Option.some.inj z3
  obtain ⟨y4, z4⟩ := is_v j4
  obtain rfl : w4 = (.int y4) := Option.some.inj z4
  obtain ⟨y5, z5⟩ := is_v i4
  obtain rfl : w5 = (.int y5) := Option.some.inj z5
  obtain ⟨n, o, h1, h2, h3, _, L, rfl, ⟨rfl, N⟩, hq⟩ := own_law l s _ hw tables_1 y0 y1 y2 y3 y4 y5 s.heap s.heap.size (Nat.le_refl _)  p e ha hc hk s m _ below hf ((Spec.applies_iff_loose hf).mp happ).1 ⟨rfl, State.Warmed39.refl s, rfl⟩ trivial
  refine ⟨n, _, h1, h2, h3, hpost _ _ _ _ _ _ ⟨Cond.after_iff.mpr rfl, Cond.after_iff.mpr (eq_i res_at (Term.int_eval (1)) rfl), trivial⟩ ⟨hq.1, hq.2.1, (hq.2.2.sift fun y hy => Or.inr (N y hy)).mono (by decide) (by decide)⟩⟩
theorem main_1_1 : Claimed_1_1 := comes_1 fun _ _ _ _ _ _ h hF => ⟨h.1, hF⟩
theorem main_1_2 : Claimed_1_2 := comes_1 fun _ _ _ _ _ _ h hF => ⟨h.2.1, hF⟩
end Jvm.Pilot.@@N@@
namespace Jvm.Pilot.@@N@@
open Jvm Jvm.ClassFile Sem Op Lib Jvm.Free Jvm.Stand Jvm.Pilot.@@N@@.Jvm.D
/-! MADE BY PROGRAM (witnessworld.py) out of the Statement's table words and the real class files: 19 classes; the members and pool entries that the words name. The judged class is class 1, her method 1. -/
namespace start1
open Jvm.ClassFile
def u (s : String) : CpInfo := .utf8 (stringToUtf16 s)
/-- a pool by its gaps: so many unusable entries, then the entry; so many at the end -/
def gap : Nat → List CpInfo → List CpInfo
  | 0, r => r
  | n + 1, r => .unusable :: gap n r
def poolList (es : List (Nat × CpInfo)) (last : Nat) : List CpInfo := es.foldr (fun e r => gap e.1 (e.2 :: r)) (gap last [])
def pool (es : List (Nat × CpInfo)) (last : Nat) : Array CpInfo := ⟨poolList es last⟩
def fileOf (pool : Array CpInfo) (this : Nat) (attrs : Array Attribute := #[]) (ms : Array MethodInfo := #[]) (fl : Nat := 33) (sup : Nat := 0) (ifs : Array Nat := #[]) (fds : Array FieldInfo := #[]) : ClassFile where
  minorVersion := 0
  majorVersion := 65
  constantPool := pool
  accessFlags := fl
  thisClass := this
  superClass := sup
  interfaces := ifs
  fields := fds
  methods := ms
  attributes := attrs
def plain (name : String) (sup : Option ClassId) : Class where
  name := name
  kind := .ordinary
  loader := none
  accessFlags := 33
  super := sup
  interfaces := #[]
  cf := none
  fields := #[]
  methods := #[]
  instanceTypes := #[]
  staticTypes := #[]
  resolved := #[]
  callSites := []
  init := .initialized
  statics := none
  mirror := none

def pool0 : Array CpInfo := pool [(5, u "<init>"), (0, u "()V"), (1, .class_ 10), (1, u "java/lang/Object"), (85, u "clone"), (0, u "()Ljava/lang/Object;")] 26

def k0c0 : Code := { maxStack := 0, maxLocals := 1, code := object_method_1_code, exceptionTable := #[], attributes := #[] }
def k0m0 : Method := { name := "<init>", desc := "()V", sig := { parameters := [], returnType := none }, accessFlags := 1, code := some k0c0 }
def k0m1 : Method := { name := "clone", desc := "()Ljava/lang/Object;", sig := { parameters := [], returnType := some (.object "java/lang/Object") }, accessFlags := 260, code := none }
/-- java/lang/Object -/
def k0 : Class := { plain "java/lang/Object" none with
  accessFlags := 33
  interfaces := #[]
  cf := some (fileOf pool0 8 #[] #[{ accessFlags := 1, nameIndex := 5, descriptorIndex := 6, attributes := #[] }, { accessFlags := 260, nameIndex := 96, descriptorIndex := 97, attributes := #[] }] 33 0 #[] #[])
  fields := #[]
  methods := #[k0m0, k0m1]
  instanceTypes := #[]
  staticTypes := #[]
  resolved := Array.replicate 124 none
  statics := none }

def pool1 : Array CpInfo := pool [(2, .class_ 4), (1, u "java/lang/Object"), (0, u "<init>"), (0, u "()V"), (0, .integer 2147483647), (0, .methodref 9 10), (0, .class_ 11), (0, .nameAndType 12 13), (0, u "java/lang/Math"), (0, u "max"), (0, u "(II)I"), (0, .class_ 15), (0, u "com/example/orderly_results/orderlyresults/engine/WaveletMatrix"), (0, .methodref 14 17), (0, .nameAndType 5 18), (0, u "([II)V"), (0, .methodref 14 20), (0, .nameAndType 21 22), (0, u "numbers"), (0, u "()[I"), (0, .class_ 24), (0, u "com/example/orderly_results/orderlyresults/engine/WaveletMatrixNumbersPinLaw"), (2, u "law"), (0, u "(IIIIII)Z")] 5

def k1m0 : Method := { name := "<init>", desc := "()V", sig := { parameters := [], returnType := none }, accessFlags := 1, code := none }
def k1c1 : Code := { maxStack := 4, maxLocals := 19, code := code, exceptionTable := #[], attributes := #[] }
def k1m1 : Method := { name := "law", desc := "(IIIIII)Z", sig := { parameters := [.int, .int, .int, .int, .int, .int], returnType := some .boolean }, accessFlags := 9, code := some k1c1 }
/-- com/example/orderly_results/orderlyresults/engine/WaveletMatrixNumbersPinLaw -/
def k1 : Class := { plain "com/example/orderly_results/orderlyresults/engine/WaveletMatrixNumbersPinLaw" (some 0) with
  accessFlags := 49
  interfaces := #[]
  cf := some (fileOf pool1 23 #[] #[{ accessFlags := 1, nameIndex := 5, descriptorIndex := 6, attributes := #[] }, { accessFlags := 9, nameIndex := 27, descriptorIndex := 28, attributes := #[] }] 49 2 #[] #[])
  fields := #[]
  methods := #[k1m0, k1m1]
  instanceTypes := #[]
  staticTypes := #[]
  resolved := Array.replicate 34 none
  statics := none }

def pool2 : Array CpInfo := pool [(1, .class_ 2), (0, u "java/lang/Math"), (1, .class_ 6), (1, u "java/lang/Object"), (0, u "<init>"), (0, u "()V"), (89, .class_ 100), (1, u "java/lang/Math$RandomNumberGeneratorHolder"), (71, u "negativeZeroFloatBits"), (0, u "J"), (2, u "negativeZeroDoubleBits"), (21, u "max"), (46, u "$assertionsDisabled"), (0, u "Z"), (88, u "(II)I"), (2, u "twoToTheDoubleScaleDown"), (0, u "D"), (4, u "twoToTheDoubleScaleUp"), (9, u "E"), (3, u "PI"), (2, u "TAU"), (2, u "DEGREES_TO_RADIANS"), (0, u "RADIANS_TO_DEGREES")] 94

def k2m0 : Method := { name := "<init>", desc := "()V", sig := { parameters := [], returnType := none }, accessFlags := 2, code := none }
def k2c1 : Code := { maxStack := 2, maxLocals := 2, code := jdk_29_method_65_code, exceptionTable := #[], attributes := #[] }
def k2m1 : Method := { name := "max", desc := "(II)I", sig := { parameters := [.int, .int], returnType := some .int }, accessFlags := 9, code := some k2c1 }
/-- java/lang/Math -/
def k2 : Class := { plain "java/lang/Math" (some 0) with
  accessFlags := 49
  interfaces := #[]
  cf := some (fileOf pool2 1 #[.nestMembers #[98]] #[{ accessFlags := 2, nameIndex := 7, descriptorIndex := 8, attributes := #[] }, { accessFlags := 9, nameIndex := 198, descriptorIndex := 335, attributes := #[] }] 49 4 #[] #[{ accessFlags := 25, nameIndex := 354, descriptorIndex := 339, attributes := #[] }, { accessFlags := 25, nameIndex := 358, descriptorIndex := 339, attributes := #[] }, { accessFlags := 25, nameIndex := 361, descriptorIndex := 339, attributes := #[] }, { accessFlags := 26, nameIndex := 364, descriptorIndex := 339, attributes := #[] }, { accessFlags := 26, nameIndex := 365, descriptorIndex := 339, attributes := #[] }, { accessFlags := 26, nameIndex := 172, descriptorIndex := 173, attributes := #[] }, { accessFlags := 26, nameIndex := 176, descriptorIndex := 173, attributes := #[] }, { accessFlags := 8, nameIndex := 344, descriptorIndex := 339, attributes := #[] }, { accessFlags := 8, nameIndex := 338, descriptorIndex := 339, attributes := #[] }, { accessFlags := 4120, nameIndex := 245, descriptorIndex := 246, attributes := #[] }])
  fields := #[{ name := "E", type := .double, accessFlags := 25, slot := 0, constantValue := 0 }, { name := "PI", type := .double, accessFlags := 25, slot := 1, constantValue := 0 }, { name := "TAU", type := .double, accessFlags := 25, slot := 2, constantValue := 0 }, { name := "DEGREES_TO_RADIANS", type := .double, accessFlags := 26, slot := 3, constantValue := 0 }, { name := "RADIANS_TO_DEGREES", type := .double, accessFlags := 26, slot := 4, constantValue := 0 }, { name := "negativeZeroFloatBits", type := .long, accessFlags := 26, slot := 5, constantValue := 0 }, { name := "negativeZeroDoubleBits", type := .long, accessFlags := 26, slot := 6, constantValue := 0 }, { name := "twoToTheDoubleScaleUp", type := .double, accessFlags := 8, slot := 7, constantValue := 0 }, { name := "twoToTheDoubleScaleDown", type := .double, accessFlags := 8, slot := 8, constantValue := 0 }, { name := "$assertionsDisabled", type := .boolean, accessFlags := 4120, slot := 9, constantValue := 0 }]
  methods := #[k2m0, k2m1]
  instanceTypes := #[]
  staticTypes := #[.double, .double, .double, .double, .double, .long, .long, .double, .double, .boolean]
  resolved := Array.replicate 460 none
  statics := none }

def pool3 : Array CpInfo := pool [(1, .methodref 2 3), (0, .class_ 4), (0, .nameAndType 5 6), (0, u "java/lang/Object"), (0, u "<init>"), (0, u "()V"), (0, .class_ 8), (0, u "java/lang/Integer"), (0, .methodref 10 11), (0, .class_ 12), (0, .nameAndType 13 14), (0, u "java/lang/Math"), (0, u "max"), (0, u "(II)I"), (0, .methodref 7 16), (0, .nameAndType 17 18), (0, u "numberOfLeadingZeros"), (0, u "(I)I"), (0, .fieldref 20 21), (0, .class_ 22), (0, .nameAndType 23 24), (0, u "com/example/orderly_results/orderlyresults/engine/WaveletMatrix"), (0, u "bits"), (0, u "I"), (0, .fieldref 20 26), (0, .nameAndType 27 24), (0, u "size"), (0, .class_ 29), (0, u "[J"), (0, .fieldref 20 31), (0, .nameAndType 32 33), (0, u "vectors"), (0, u "[[J"), (0, .class_ 35), (0, u "[I"), (0, .fieldref 20 37), (0, .nameAndType 38 39), (0, u "counts"), (0, u "[[I"), (0, .fieldref 20 41), (0, .nameAndType 42 35), (0, u "clear"), (0, .methodref 34 44), (0, .nameAndType 45 46), (0, u "clone"), (0, u "()Ljava/lang/Object;"), (0, .class_ 48), (0, u "java/lang/Long"), (0, .methodref 20 50), (0, .nameAndType 51 52), (0, u "placed"), (0, u "([II[J[I[I)I"), (0, .methodref 20 54), (0, .nameAndType 38 55), (0, u "([J)[I"), (0, .methodref 57 58), (0, .class_ 59), (0, .nameAndType 60 61), (0, u "java/lang/System"), (0, u "arraycopy"), (0, u "(Ljava/lang/Object;ILjava/lang/Object;II)V"), (3, .class_ 66), (0, u "com/example/orderly_results/orderlyresults/engine/WaveletMatrix$Walk"), (25, .methodref 47 93), (0, .nameAndType 94 95), (0, u "bitCount"), (0, u "(J)I"), (0, u "WORDS_PER_COUNT"), (2, u "([II)V"), (5, u "numbers"), (0, u "()[I")] 25

def k3c0 : Code := { maxStack := 7, maxLocals := 9, code := prog_25_method_1_code, exceptionTable := #[], attributes := #[] }
def k3m0 : Method := { name := "<init>", desc := "([II)V", sig := { parameters := [(.array .int), .int], returnType := none }, accessFlags := 0, code := some k3c0 }
def k3c1 : Code := { maxStack := 5, maxLocals := 13, code := prog_25_method_2_code, exceptionTable := #[], attributes := #[] }
def k3m1 : Method := { name := "placed", desc := "([II[J[I[I)I", sig := { parameters := [(.array .int), .int, (.array .long), (.array .int), (.array .int)], returnType := some .int }, accessFlags := 10, code := some k3c1 }
def k3c2 : Code := { maxStack := 6, maxLocals := 8, code := prog_25_method_5_code, exceptionTable := #[], attributes := #[] }
def k3m2 : Method := { name := "numbers", desc := "()[I", sig := { parameters := [], returnType := some (.array .int) }, accessFlags := 0, code := some k3c2 }
def k3c3 : Code := { maxStack := 3, maxLocals := 4, code := prog_25_method_8_code, exceptionTable := #[], attributes := #[] }
def k3m3 : Method := { name := "counts", desc := "([J)[I", sig := { parameters := [(.array .long)], returnType := some (.array .int) }, accessFlags := 10, code := some k3c3 }
/-- com/example/orderly_results/orderlyresults/engine/WaveletMatrix -/
def k3 : Class := { plain "com/example/orderly_results/orderlyresults/engine/WaveletMatrix" (some 0) with
  accessFlags := 32
  interfaces := #[]
  cf := some (fileOf pool3 20 #[.nestMembers #[65]] #[{ accessFlags := 0, nameIndex := 5, descriptorIndex := 99, attributes := #[] }, { accessFlags := 10, nameIndex := 51, descriptorIndex := 52, attributes := #[] }, { accessFlags := 0, nameIndex := 105, descriptorIndex := 106, attributes := #[] }, { accessFlags := 10, nameIndex := 38, descriptorIndex := 55, attributes := #[] }] 32 2 #[] #[{ accessFlags := 26, nameIndex := 96, descriptorIndex := 24, attributes := #[] }, { accessFlags := 18, nameIndex := 23, descriptorIndex := 24, attributes := #[] }, { accessFlags := 18, nameIndex := 27, descriptorIndex := 24, attributes := #[] }, { accessFlags := 18, nameIndex := 32, descriptorIndex := 33, attributes := #[] }, { accessFlags := 18, nameIndex := 38, descriptorIndex := 39, attributes := #[] }, { accessFlags := 18, nameIndex := 42, descriptorIndex := 35, attributes := #[] }])
  fields := #[{ name := "WORDS_PER_COUNT", type := .int, accessFlags := 26, slot := 0, constantValue := 0 }, { name := "bits", type := .int, accessFlags := 18, slot := 0, constantValue := 0 }, { name := "size", type := .int, accessFlags := 18, slot := 1, constantValue := 0 }, { name := "vectors", type := (.array (.array .long)), accessFlags := 18, slot := 2, constantValue := 0 }, { name := "counts", type := (.array (.array .int)), accessFlags := 18, slot := 3, constantValue := 0 }, { name := "clear", type := (.array .int), accessFlags := 18, slot := 4, constantValue := 0 }]
  methods := #[k3m0, k3m1, k3m2, k3m3]
  instanceTypes := #[.int, .int, (.array (.array .long)), (.array (.array .int)), (.array .int)]
  staticTypes := #[.int]
  resolved := Array.replicate 132 none
  statics := none }

def pool4 : Array CpInfo := pool [(1, .class_ 2), (0, u "java/io/Serializable"), (0, .class_ 4), (0, u "java/lang/Object")] 2

/-- java/io/Serializable -/
def k4 : Class := { plain "java/io/Serializable" (some 0) with
  accessFlags := 1537
  interfaces := #[]
  cf := some (fileOf pool4 1 #[] #[] 1537 3 #[] #[])
  fields := #[]
  methods := #[]
  instanceTypes := #[]
  staticTypes := #[]
  resolved := Array.replicate 7 none
  statics := none }

def pool5 : Array CpInfo := pool [(2, .class_ 4), (1, u "java/lang/Object"), (0, u "<init>"), (0, u "()V"), (1, .class_ 10), (1, u "java/lang/Number"), (2, .class_ 14), (0, u "java/io/Serializable"), (0, u "serialVersionUID"), (0, u "J")] 20

def k5m0 : Method := { name := "<init>", desc := "()V", sig := { parameters := [], returnType := none }, accessFlags := 1, code := none }
/-- java/lang/Number -/
def k5 : Class := { plain "java/lang/Number" (some 0) with
  accessFlags := 1057
  interfaces := #[4]
  cf := some (fileOf pool5 8 #[] #[{ accessFlags := 1, nameIndex := 5, descriptorIndex := 6, attributes := #[] }] 1057 2 #[13] #[{ accessFlags := 26, nameIndex := 15, descriptorIndex := 16, attributes := #[] }])
  fields := #[{ name := "serialVersionUID", type := .long, accessFlags := 26, slot := 0, constantValue := 0 }]
  methods := #[k5m0]
  instanceTypes := #[]
  staticTypes := #[.long]
  resolved := Array.replicate 37 none
  statics := none }

def pool6 : Array CpInfo := pool [(1, .class_ 2), (0, u "java/lang/Comparable"), (0, .class_ 4), (0, u "java/lang/Object")] 7

/-- java/lang/Comparable -/
def k6 : Class := { plain "java/lang/Comparable" (some 0) with
  accessFlags := 1537
  interfaces := #[]
  cf := some (fileOf pool6 1 #[] #[] 1537 3 #[] #[])
  fields := #[]
  methods := #[]
  instanceTypes := #[]
  staticTypes := #[]
  resolved := Array.replicate 12 none
  statics := none }

def pool7 : Array CpInfo := pool [(1, .class_ 2), (0, u "java/lang/constant/Constable"), (0, .class_ 4), (0, u "java/lang/Object")] 6

/-- java/lang/constant/Constable -/
def k7 : Class := { plain "java/lang/constant/Constable" (some 0) with
  accessFlags := 1537
  interfaces := #[]
  cf := some (fileOf pool7 1 #[] #[] 1537 3 #[] #[])
  fields := #[]
  methods := #[]
  instanceTypes := #[]
  staticTypes := #[]
  resolved := Array.replicate 11 none
  statics := none }

def pool8 : Array CpInfo := pool [(1, .class_ 2), (0, u "java/lang/constant/ConstantDesc"), (0, .class_ 4), (0, u "java/lang/Object")] 32

/-- java/lang/constant/ConstantDesc -/
def k8 : Class := { plain "java/lang/constant/ConstantDesc" (some 0) with
  accessFlags := 1537
  interfaces := #[]
  cf := some (fileOf pool8 1 #[] #[] 1537 3 #[] #[])
  fields := #[]
  methods := #[]
  instanceTypes := #[]
  staticTypes := #[]
  resolved := Array.replicate 37 none
  statics := none }

def pool9 : Array CpInfo := pool [(1, .class_ 2), (0, u "java/lang/Integer"), (16, u "digits"), (0, u "[C"), (32, u "numberOfLeadingZeros"), (0, u "(I)I"), (30, u "DigitOnes"), (0, u "[B"), (2, u "DigitTens"), (99, .class_ 190), (0, u "java/lang/Integer$IntegerCache"), (3, u "I"), (8, .class_ 204), (0, u "java/lang/Number"), (2, u "value"), (56, .integer 65536), (37, u "TYPE"), (0, u "Ljava/lang/Class;"), (0, .class_ 305), (0, u "java/lang/Comparable"), (0, .class_ 307), (0, u "java/lang/constant/Constable"), (0, .class_ 309), (0, u "java/lang/constant/ConstantDesc"), (0, u "MIN_VALUE"), (1, u "MAX_VALUE"), (3, u "SIZE"), (1, u "BYTES"), (1, u "serialVersionUID"), (0, u "J")] 131

def k9c0 : Code := { maxStack := 3, maxLocals := 2, code := jdk_33_method_47_code, exceptionTable := #[], attributes := #[] }
def k9m0 : Method := { name := "numberOfLeadingZeros", desc := "(I)I", sig := { parameters := [.int], returnType := some .int }, accessFlags := 9, code := some k9c0 }
/-- java/lang/Integer -/
def k9 : Class := { plain "java/lang/Integer" (some 5) with
  accessFlags := 49
  interfaces := #[6, 7, 8]
  cf := some (fileOf pool9 1 #[.nestMembers #[189]] #[{ accessFlags := 9, nameIndex := 53, descriptorIndex := 54, attributes := #[] }] 49 203 #[304, 306, 308] #[{ accessFlags := 25, nameIndex := 310, descriptorIndex := 194, attributes := #[] }, { accessFlags := 25, nameIndex := 312, descriptorIndex := 194, attributes := #[] }, { accessFlags := 25, nameIndex := 302, descriptorIndex := 303, attributes := #[] }, { accessFlags := 24, nameIndex := 19, descriptorIndex := 20, attributes := #[] }, { accessFlags := 24, nameIndex := 89, descriptorIndex := 86, attributes := #[] }, { accessFlags := 24, nameIndex := 85, descriptorIndex := 86, attributes := #[] }, { accessFlags := 18, nameIndex := 207, descriptorIndex := 194, attributes := #[] }, { accessFlags := 25, nameIndex := 316, descriptorIndex := 194, attributes := #[] }, { accessFlags := 25, nameIndex := 318, descriptorIndex := 194, attributes := #[] }, { accessFlags := 26, nameIndex := 320, descriptorIndex := 321, attributes := #[] }])
  fields := #[{ name := "MIN_VALUE", type := .int, accessFlags := 25, slot := 0, constantValue := 0 }, { name := "MAX_VALUE", type := .int, accessFlags := 25, slot := 1, constantValue := 0 }, { name := "TYPE", type := (.object "java/lang/Class"), accessFlags := 25, slot := 2, constantValue := 0 }, { name := "digits", type := (.array .char), accessFlags := 24, slot := 3, constantValue := 0 }, { name := "DigitTens", type := (.array .byte), accessFlags := 24, slot := 4, constantValue := 0 }, { name := "DigitOnes", type := (.array .byte), accessFlags := 24, slot := 5, constantValue := 0 }, { name := "value", type := .int, accessFlags := 18, slot := 0, constantValue := 0 }, { name := "SIZE", type := .int, accessFlags := 25, slot := 6, constantValue := 0 }, { name := "BYTES", type := .int, accessFlags := 25, slot := 7, constantValue := 0 }, { name := "serialVersionUID", type := .long, accessFlags := 26, slot := 8, constantValue := 0 }]
  methods := #[k9m0]
  instanceTypes := #[.int]
  staticTypes := #[.int, .int, (.object "java/lang/Class"), (.array .char), (.array .byte), (.array .byte), .int, .int, .long]
  resolved := Array.replicate 453 none
  statics := none }

def pool10 : Array CpInfo := pool [(1, .class_ 2), (0, u "java/lang/Cloneable"), (0, .class_ 4), (0, u "java/lang/Object")] 2

/-- java/lang/Cloneable -/
def k10 : Class := { plain "java/lang/Cloneable" (some 0) with
  accessFlags := 1537
  interfaces := #[]
  cf := some (fileOf pool10 1 #[] #[] 1537 3 #[] #[])
  fields := #[]
  methods := #[]
  instanceTypes := #[]
  staticTypes := #[]
  resolved := Array.replicate 7 none
  statics := none }

def pool11 : Array CpInfo := pool [(2, .class_ 4), (1, u "java/lang/Object"), (0, u "<init>"), (0, u "()V"), (1, .class_ 10), (1, u "java/lang/System"), (0, u "allowSecurityManager"), (0, u "I"), (16, u "cons"), (0, u "Ljava/io/Console;"), (77, .class_ 110), (1, u "java/lang/System$CallersHolder"), (43, u "initialErrStream"), (0, u "Ljava/io/PrintStream;"), (19, u "security"), (0, u "Ljava/lang/SecurityManager;"), (31, .class_ 209), (0, u "java/lang/System$1"), (7, u "props"), (0, u "Ljava/util/Properties;"), (2, u "lineSeparator"), (0, u "Ljava/lang/String;"), (96, .class_ 321), (1, u "java/lang/System$LoggerFinder"), (5, .class_ 328), (0, u "java/lang/System$Logger"), (67, u "err"), (2, u "out"), (91, u "notSupportedJnuEncoding"), (15, u "in"), (17, u "initialIn"), (0, u "Ljava/io/InputStream;"), (35, u "bootLayer"), (0, u "Ljava/lang/ModuleLayer;"), (99, .class_ 664), (0, u "java/lang/System$2"), (9, u "NEVER"), (2, u "MAYBE"), (49, u "arraycopy"), (0, u "(Ljava/lang/Object;ILjava/lang/Object;II)V"), (72, .class_ 802), (0, u "java/lang/System$Logger$Level")] 31

def k11m0 : Method := { name := "<init>", desc := "()V", sig := { parameters := [], returnType := none }, accessFlags := 2, code := none }
def k11m1 : Method := { name := "arraycopy", desc := "(Ljava/lang/Object;ILjava/lang/Object;II)V", sig := { parameters := [(.object "java/lang/Object"), .int, (.object "java/lang/Object"), .int, .int], returnType := none }, accessFlags := 265, code := none }
/-- java/lang/System -/
def k11 : Class := { plain "java/lang/System" (some 0) with
  accessFlags := 49
  interfaces := #[]
  cf := some (fileOf pool11 8 #[.nestMembers #[319, 327, 801, 108, 663, 208]] #[{ accessFlags := 2, nameIndex := 5, descriptorIndex := 6, attributes := #[] }, { accessFlags := 265, nameIndex := 727, descriptorIndex := 728, attributes := #[] }] 49 2 #[] #[{ accessFlags := 25, nameIndex := 507, descriptorIndex := 526, attributes := #[] }, { accessFlags := 25, nameIndex := 399, descriptorIndex := 155, attributes := #[] }, { accessFlags := 25, nameIndex := 396, descriptorIndex := 155, attributes := #[] }, { accessFlags := 10, nameIndex := 525, descriptorIndex := 526, attributes := #[] }, { accessFlags := 26, nameIndex := 674, descriptorIndex := 12, attributes := #[] }, { accessFlags := 26, nameIndex := 677, descriptorIndex := 12, attributes := #[] }, { accessFlags := 10, nameIndex := 11, descriptorIndex := 12, attributes := #[] }, { accessFlags := 74, nameIndex := 175, descriptorIndex := 176, attributes := #[] }, { accessFlags := 10, nameIndex := 491, descriptorIndex := 222, attributes := #[] }, { accessFlags := 74, nameIndex := 29, descriptorIndex := 30, attributes := #[] }, { accessFlags := 74, nameIndex := 154, descriptorIndex := 155, attributes := #[] }, { accessFlags := 10, nameIndex := 217, descriptorIndex := 218, attributes := #[] }, { accessFlags := 10, nameIndex := 221, descriptorIndex := 222, attributes := #[] }, { accessFlags := 8, nameIndex := 562, descriptorIndex := 563, attributes := #[] }])
  fields := #[{ name := "in", type := (.object "java/io/InputStream"), accessFlags := 25, slot := 0, constantValue := 0 }, { name := "out", type := (.object "java/io/PrintStream"), accessFlags := 25, slot := 1, constantValue := 0 }, { name := "err", type := (.object "java/io/PrintStream"), accessFlags := 25, slot := 2, constantValue := 0 }, { name := "initialIn", type := (.object "java/io/InputStream"), accessFlags := 10, slot := 3, constantValue := 0 }, { name := "NEVER", type := .int, accessFlags := 26, slot := 4, constantValue := 0 }, { name := "MAYBE", type := .int, accessFlags := 26, slot := 5, constantValue := 0 }, { name := "allowSecurityManager", type := .int, accessFlags := 10, slot := 6, constantValue := 0 }, { name := "security", type := (.object "java/lang/SecurityManager"), accessFlags := 74, slot := 7, constantValue := 0 }, { name := "notSupportedJnuEncoding", type := (.object "java/lang/String"), accessFlags := 10, slot := 8, constantValue := 0 }, { name := "cons", type := (.object "java/io/Console"), accessFlags := 74, slot := 9, constantValue := 0 }, { name := "initialErrStream", type := (.object "java/io/PrintStream"), accessFlags := 74, slot := 10, constantValue := 0 }, { name := "props", type := (.object "java/util/Properties"), accessFlags := 10, slot := 11, constantValue := 0 }, { name := "lineSeparator", type := (.object "java/lang/String"), accessFlags := 10, slot := 12, constantValue := 0 }, { name := "bootLayer", type := (.object "java/lang/ModuleLayer"), accessFlags := 8, slot := 13, constantValue := 0 }]
  methods := #[k11m0, k11m1]
  instanceTypes := #[]
  staticTypes := #[(.object "java/io/InputStream"), (.object "java/io/PrintStream"), (.object "java/io/PrintStream"), (.object "java/io/InputStream"), .int, .int, .int, (.object "java/lang/SecurityManager"), (.object "java/lang/String"), (.object "java/io/Console"), (.object "java/io/PrintStream"), (.object "java/util/Properties"), (.object "java/lang/String"), (.object "java/lang/ModuleLayer")]
  resolved := Array.replicate 834 none
  statics := none }

def pool12 : Array CpInfo := pool [(1, .class_ 2), (0, u "java/lang/Long"), (98, u "(J)I"), (133, .class_ 237), (1, u "java/lang/Long$LongCache"), (33, .class_ 272), (0, u "java/lang/Number"), (2, u "value"), (0, u "J"), (37, .long 6148914691236517205), (1, .long 3689348814741910323), (1, .long 1085102592571150095), (42, u "TYPE"), (0, u "Ljava/lang/Class;"), (0, .class_ 364), (0, u "java/lang/Comparable"), (0, .class_ 366), (0, u "java/lang/constant/Constable"), (0, .class_ 368), (0, u "java/lang/constant/ConstantDesc"), (0, u "MIN_VALUE"), (1, u "MAX_VALUE"), (4, u "SIZE"), (0, u "I"), (1, u "BYTES"), (1, u "serialVersionUID"), (94, u "bitCount")] 47

def k12c0 : Code := { maxStack := 6, maxLocals := 2, code := jdk_35_method_50_code, exceptionTable := #[], attributes := #[] }
def k12m0 : Method := { name := "bitCount", desc := "(J)I", sig := { parameters := [.long], returnType := some .int }, accessFlags := 9, code := some k12c0 }
/-- java/lang/Long -/
def k12 : Class := { plain "java/lang/Long" (some 5) with
  accessFlags := 49
  interfaces := #[6, 7, 8]
  cf := some (fileOf pool12 1 #[.nestMembers #[235]] #[{ accessFlags := 9, nameIndex := 476, descriptorIndex := 101, attributes := #[] }] 49 271 #[363, 365, 367] #[{ accessFlags := 25, nameIndex := 369, descriptorIndex := 276, attributes := #[] }, { accessFlags := 25, nameIndex := 371, descriptorIndex := 276, attributes := #[] }, { accessFlags := 25, nameIndex := 361, descriptorIndex := 362, attributes := #[] }, { accessFlags := 18, nameIndex := 275, descriptorIndex := 276, attributes := #[] }, { accessFlags := 25, nameIndex := 376, descriptorIndex := 377, attributes := #[] }, { accessFlags := 25, nameIndex := 379, descriptorIndex := 377, attributes := #[] }, { accessFlags := 26, nameIndex := 381, descriptorIndex := 276, attributes := #[] }])
  fields := #[{ name := "MIN_VALUE", type := .long, accessFlags := 25, slot := 0, constantValue := 0 }, { name := "MAX_VALUE", type := .long, accessFlags := 25, slot := 1, constantValue := 0 }, { name := "TYPE", type := (.object "java/lang/Class"), accessFlags := 25, slot := 2, constantValue := 0 }, { name := "value", type := .long, accessFlags := 18, slot := 0, constantValue := 0 }, { name := "SIZE", type := .int, accessFlags := 25, slot := 3, constantValue := 0 }, { name := "BYTES", type := .int, accessFlags := 25, slot := 4, constantValue := 0 }, { name := "serialVersionUID", type := .long, accessFlags := 26, slot := 5, constantValue := 0 }]
  methods := #[k12m0]
  instanceTypes := #[.long]
  staticTypes := #[.long, .long, (.object "java/lang/Class"), .int, .int, .long]
  resolved := Array.replicate 524 none
  statics := none }

/-- the primitive byte -/
def k13 : Class := { plain "byte" none with kind := .primitive 'B', accessFlags := 0x411 }
/-- [B -/
def k14 : Class := { plain "[B" (some 0) with kind := .array 13 .byte, interfaces := #[10, 4], accessFlags := 1041 }

/-- the primitive int -/
def k15 : Class := { plain "int" none with kind := .primitive 'I', accessFlags := 0x411 }
/-- [I -/
def k16 : Class := { plain "[I" (some 0) with kind := .array 15 .int, interfaces := #[10, 4], accessFlags := 1041 }

/-- the primitive long -/
def k17 : Class := { plain "long" none with kind := .primitive 'J', accessFlags := 0x411 }
/-- [J -/
def k18 : Class := { plain "[J" (some 0) with kind := .array 17 .long, interfaces := #[10, 4], accessFlags := 1041 }

def heap : Heap := #[]
def k19 : Class := { plain "[[J" (some 0) with kind := .array 18 (.array .long), interfaces := #[10, 4], accessFlags := 1041 }
def k20 : Class := { plain "[[I" (some 0) with kind := .array 16 (.array .int), interfaces := #[10, 4], accessFlags := 1041 }
def classes : Array Class := #[k0, k1, k2, k3, k4, k5, k6, k7, k8, k9, k10, k11, k12, k13, k14, k15, k16, k17, k18, k19, k20]
def interned : List (Array UInt16 × Addr) := []
def slotsUsed : Nat := 0
def theMethod : MethodId := ⟨1, 1⟩
def args0 : Array Value := #[.int 5, .int 7, .int 9, .int 4, .int 77, .int 3]
def aboutOver (below : List Frame) : State where
  vm := { classes := classes, interned := interned.toArray }
  heap := heap
  slotsUsed := slotsUsed
  threads := #[{ frames := .invoking theMethod args0 :: below }]
def below0 : List Frame := [.native { method := ⟨0, 0⟩, args := #[] }]
def about1 : State := aboutOver below0
def p0 : Program := .bare "" "" ""
def e0 : Env := launch0.env 0 0 0
theorem w_frames : about1.frames = Frame.invoking theMethod args0 :: below0 := rfl
set_option maxRecDepth 65536 in
theorem w_args : argsFit about1.vm theMethod args0 = true := by decide +kernel
set_option maxRecDepth 65536 in
theorem w_heap : heapFits about1 = true := by decide +kernel
set_option maxRecDepth 65536 in
theorem w_runnable : about1.curStatus? = some .runnable := by decide +kernel
set_option maxRecDepth 65536 in
theorem w_alone : about1.alone = true := by decide +kernel
set_option maxRecDepth 65536 in
theorem w_named : about1.methodNamed? x = some theMethod := by decide +kernel
set_option maxRecDepth 65536 in
theorem w_hears : about1.hears theMethod below0 = true := by decide +kernel
set_option maxRecDepth 65536 in
theorem w_ripe : about1.ripe theMethod args0 below0 = true := by decide +kernel
theorem w_running : about1.status = .running := rfl
set_option maxRecDepth 65536 in
theorem w_room : about1.hasRoom e0.platform room_1 = true :=
  launch0.hasRoom_least _ room_1 (by decide +kernel) (by decide +kernel) (by decide +kernel) (by decide +kernel) (by decide +kernel) (by decide +kernel)
theorem allAtoms_all (ts : List Jvm.Cond) (a : Array Jvm.Value) (st : Jvm.State) : (allAtoms ts).before a st = ts.all (fun c => c.before a st) := by
  induction ts with
  | nil => rfl
  | cons c t ih =>
    show (Jvm.Cond.and c (allAtoms t)).before a st = _
    rw [Jvm.Cond.before_and, ih, List.all_cons]
def words1 : List Jvm.Cond := Jvm.Cond.code x code maxLocals ret :: tables_1
/-- a 'code' word, met by the world's own term for the bytes: nothing is compared byte by byte -/
theorem code_word {y : MethodName} {bytes : ByteArray} {mx : Nat} {rt : Option FieldType} {a : Array Value} {s : State} {m : MethodId} {meth : Method} {c : Code} (h1 : s.methodNamed? y = some m) (h2 : s.vm.method? m = some meth) (h3 : meth.code = some c) (h4 : c.code = bytes)
    (h5 : (c.maxLocals == mx && c.exceptionTable.isEmpty && decide (c.maxStack ≤ mostOperands) && decide (meth.sig.returnType = rt) && !meth.locks && decide (parseMethodDescriptor y.desc = some meth.sig)) = true) : (Jvm.Cond.code y bytes mx rt).before a s = true := by
  simp only [Bool.and_eq_true, beq_iff_eq, Bool.not_eq_true', decide_eq_true_eq] at h5
  obtain ⟨⟨⟨⟨⟨g1, g2⟩, g3⟩, g4⟩, g5⟩, g6⟩ := h5
  simp [Cond.before, Cond.holds, Cond.value, h1, h2, h3, h4, g1, g2, g3, g4, g5, g6]
def isCode : Jvm.Cond → Bool
  | .code _ _ _ _ => true
  | _ => false
theorem all_split {L : List Jvm.Cond} {P : Jvm.Cond → Bool} (h1 : L.all (fun c => isCode c || P c) = true) (h2 : ∀ c ∈ L.filter isCode, P c = true) : L.all P = true := by
  refine List.all_eq_true.mpr fun c hc => ?_
  have h := List.all_eq_true.mp h1 c hc
  rcases Bool.eq_false_or_eq_true (isCode c) with hi | hi
  · exact h2 c (List.mem_filter.mpr ⟨hc, hi⟩)
  · simpa [hi] using h
set_option maxRecDepth 65536 in
theorem w_c0 : (Jvm.Cond.code x code maxLocals ret).before args0 about1 = true := code_word (m := ⟨1, 1⟩) (meth := k1m1) (c := k1c1) (by decide +kernel) rfl rfl rfl (by decide +kernel)
set_option maxRecDepth 65536 in
theorem w_c1 : (Jvm.Cond.code ({ cls := "java/lang/Math", name := "max", desc := "(II)I" } : Jvm.MethodName) jdk_29_method_65_code (2 : Nat) (Option.some Jvm.ClassFile.FieldType.int)).before args0 about1 = true := code_word (m := ⟨2, 1⟩) (meth := k2m1) (c := k2c1) (by decide +kernel) rfl rfl rfl (by decide +kernel)
set_option maxRecDepth 65536 in
theorem w_c2 : (Jvm.Cond.code ({ cls := "com/example/orderly_results/orderlyresults/engine/WaveletMatrix", name := "<init>", desc := "([II)V" } : Jvm.MethodName) prog_25_method_1_code (9 : Nat) (Option.none : Option Jvm.ClassFile.FieldType)).before args0 about1 = true := code_word (m := ⟨3, 0⟩) (meth := k3m0) (c := k3c0) (by decide +kernel) rfl rfl rfl (by decide +kernel)
set_option maxRecDepth 65536 in
theorem w_c3 : (Jvm.Cond.code ({ cls := "java/lang/Object", name := "<init>", desc := "()V" } : Jvm.MethodName) object_method_1_code (1 : Nat) (Option.none : Option Jvm.ClassFile.FieldType)).before args0 about1 = true := code_word (m := ⟨0, 0⟩) (meth := k0m0) (c := k0c0) (by decide +kernel) rfl rfl rfl (by decide +kernel)
set_option maxRecDepth 65536 in
theorem w_c4 : (Jvm.Cond.code ({ cls := "java/lang/Integer", name := "numberOfLeadingZeros", desc := "(I)I" } : Jvm.MethodName) jdk_33_method_47_code (2 : Nat) (Option.some Jvm.ClassFile.FieldType.int)).before args0 about1 = true := code_word (m := ⟨9, 0⟩) (meth := k9m0) (c := k9c0) (by decide +kernel) rfl rfl rfl (by decide +kernel)
set_option maxRecDepth 65536 in
theorem w_c5 : (Jvm.Cond.code ({ cls := "com/example/orderly_results/orderlyresults/engine/WaveletMatrix", name := "placed", desc := "([II[J[I[I)I" } : Jvm.MethodName) prog_25_method_2_code (13 : Nat) (Option.some Jvm.ClassFile.FieldType.int)).before args0 about1 = true := code_word (m := ⟨3, 1⟩) (meth := k3m1) (c := k3c1) (by decide +kernel) rfl rfl rfl (by decide +kernel)
set_option maxRecDepth 65536 in
theorem w_c6 : (Jvm.Cond.code ({ cls := "com/example/orderly_results/orderlyresults/engine/WaveletMatrix", name := "counts", desc := "([J)[I" } : Jvm.MethodName) prog_25_method_8_code (4 : Nat) (Option.some (Jvm.ClassFile.FieldType.array Jvm.ClassFile.FieldType.int))).before args0 about1 = true := code_word (m := ⟨3, 3⟩) (meth := k3m3) (c := k3c3) (by decide +kernel) rfl rfl rfl (by decide +kernel)
set_option maxRecDepth 65536 in
theorem w_c7 : (Jvm.Cond.code ({ cls := "java/lang/Long", name := "bitCount", desc := "(J)I" } : Jvm.MethodName) jdk_35_method_50_code (2 : Nat) (Option.some Jvm.ClassFile.FieldType.int)).before args0 about1 = true := code_word (m := ⟨12, 0⟩) (meth := k12m0) (c := k12c0) (by decide +kernel) rfl rfl rfl (by decide +kernel)
set_option maxRecDepth 65536 in
theorem w_c8 : (Jvm.Cond.code ({ cls := "com/example/orderly_results/orderlyresults/engine/WaveletMatrix", name := "numbers", desc := "()[I" } : Jvm.MethodName) prog_25_method_5_code (8 : Nat) (Option.some (Jvm.ClassFile.FieldType.array Jvm.ClassFile.FieldType.int))).before args0 about1 = true := code_word (m := ⟨3, 2⟩) (meth := k3m2) (c := k3c2) (by decide +kernel) rfl rfl rfl (by decide +kernel)
def codes1 : List Jvm.Cond := [Jvm.Cond.code x code maxLocals ret, Jvm.Cond.code ({ cls := "java/lang/Math", name := "max", desc := "(II)I" } : Jvm.MethodName) jdk_29_method_65_code (2 : Nat) (Option.some Jvm.ClassFile.FieldType.int), Jvm.Cond.code ({ cls := "com/example/orderly_results/orderlyresults/engine/WaveletMatrix", name := "<init>", desc := "([II)V" } : Jvm.MethodName) prog_25_method_1_code (9 : Nat) (Option.none : Option Jvm.ClassFile.FieldType), Jvm.Cond.code ({ cls := "java/lang/Object", name := "<init>", desc := "()V" } : Jvm.MethodName) object_method_1_code (1 : Nat) (Option.none : Option Jvm.ClassFile.FieldType), Jvm.Cond.code ({ cls := "java/lang/Integer", name := "numberOfLeadingZeros", desc := "(I)I" } : Jvm.MethodName) jdk_33_method_47_code (2 : Nat) (Option.some Jvm.ClassFile.FieldType.int), Jvm.Cond.code ({ cls := "com/example/orderly_results/orderlyresults/engine/WaveletMatrix", name := "placed", desc := "([II[J[I[I)I" } : Jvm.MethodName) prog_25_method_2_code (13 : Nat) (Option.some Jvm.ClassFile.FieldType.int), Jvm.Cond.code ({ cls := "com/example/orderly_results/orderlyresults/engine/WaveletMatrix", name := "counts", desc := "([J)[I" } : Jvm.MethodName) prog_25_method_8_code (4 : Nat) (Option.some (Jvm.ClassFile.FieldType.array Jvm.ClassFile.FieldType.int)), Jvm.Cond.code ({ cls := "java/lang/Long", name := "bitCount", desc := "(J)I" } : Jvm.MethodName) jdk_35_method_50_code (2 : Nat) (Option.some Jvm.ClassFile.FieldType.int), Jvm.Cond.code ({ cls := "com/example/orderly_results/orderlyresults/engine/WaveletMatrix", name := "numbers", desc := "()[I" } : Jvm.MethodName) prog_25_method_5_code (8 : Nat) (Option.some (Jvm.ClassFile.FieldType.array Jvm.ClassFile.FieldType.int))]
set_option maxRecDepth 65536 in
theorem codes_eq : words1.filter isCode = codes1 := rfl
theorem w_codes : ∀ c ∈ words1.filter isCode, c.before args0 about1 = true := by
  rw [codes_eq]
  intro c hc
  simp only [codes1, List.mem_cons, List.not_mem_nil, or_false] at hc
  rcases hc with rfl | rfl | rfl | rfl | rfl | rfl | rfl | rfl | rfl
  · exact w_c0
  · exact w_c1
  · exact w_c2
  · exact w_c3
  · exact w_c4
  · exact w_c5
  · exact w_c6
  · exact w_c7
  · exact w_c8
set_option maxRecDepth 65536 in
theorem w_t1 : (words1.take 24).all (fun c => isCode c || c.before args0 about1) = true := by decide +kernel
set_option maxRecDepth 65536 in
theorem w_t2 : ((words1.drop 24).take 24).all (fun c => isCode c || c.before args0 about1) = true := by decide +kernel
set_option maxRecDepth 65536 in
theorem w_t3 : ((words1.drop 24).drop 24).all (fun c => isCode c || c.before args0 about1) = true := by decide +kernel
theorem w_tables : (allAtoms (Jvm.Cond.code x code maxLocals ret :: tables_1)).before args0 about1 = true := by
  rw [allAtoms_all]
  show words1.all (fun c => c.before args0 about1) = true
  refine all_split ?_ w_codes
  rw [← List.take_append_drop 24 words1, List.all_append, w_t1, ← List.take_append_drop 24 (words1.drop 24), List.all_append, w_t2, w_t3]
  rfl
set_option maxRecDepth 65536 in
theorem w_case : (Jvm.Cond.and given_1 narrow_1).before args0 about1 = true := by decide +kernel
theorem w_applies : (headSpec (Jvm.Cond.code x code maxLocals ret :: tables_1) room_1).applies x e0.platform about1 = true :=
  (Spec.applies_iff w_frames).mpr ⟨w_running, w_runnable, w_alone, w_named, w_hears, w_ripe, w_room, w_tables⟩
theorem atStart : AtStart classFile x code maxLocals ret World_1 tables_1 room_1 Calls_1 rest_1 Pre_1 launch0 p0 e0 about1 theMethod args0 below0 :=
  ⟨lists_1, trivial, launch0.admits_env _ _ _, launch0.least_env, fairChoices_fair.cas, fairChoices_fair.clock, w_frames, w_args, w_heap, w_applies, trivial, trivial, w_case⟩
end start1
theorem witness_1 : WitnessClaimed_1 := ⟨start1.p0, start1.e0, start1.about1, start1.theMethod, start1.args0, start1.below0, start1.atStart⟩
end Jvm.Pilot.@@N@@
