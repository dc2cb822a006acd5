import JvmDerived
import JvmDerived.Pilot.@@N@@Statement
import JvmDerived.Pilot.@@N@@Code
set_option linter.unusedVariables false
set_option linter.unusedSimpArgs false
namespace Jvm.Pilot.@@N@@
open Jvm Jvm.ClassFile Sem Op Lib Jvm.Free Jvm.Stand Jvm.LawKit Jvm.RoadKit Bundle Jvm.Pilot.@@N@@.Jvm.D
section OwnKit
variable {p : Program} {l : Launch} {e : Env} {R : Room} {s : State} {m : MethodId} {args : Array Value} {below : List Frame} {meth : Method} {c : Code} {T : State} {locs : List Loc} {cells slots : Nat} {Z : State} {a0 : Array Value} {h : Heap}
/-- the walk from A ends well: it returns, what it returns and leaves is as Q says -/
def own_G (p : Program) (e : Env) (below : List Frame) (s : State) (Q : Option Value → Heap → List Loc → Prop) (ce sl : Nat) (A : State) : Prop :=
  ∃ s₂ o, Steps p.tables e below A s₂ ∧ s₂.status = .running ∧ Ended s₂ below o ∧ ∃ v L, o = .returned v ∧ Q v s₂.heap L ∧ FrameEnd s o s₂ L ce sl
theorem own_st {Q : Option Value → Heap → List Loc → Prop} {ce sl : Nat} {A B : State} (k : ∀ t, Steps p.tables e below B t → Steps p.tables e below A t) (g : own_G p e below s Q ce sl B) : own_G p e below s Q ce sl A := by
  obtain ⟨s₂, o, h1, h2⟩ := g
  exact ⟨s₂, o, k _ h1, h2⟩
theorem own_ret {Q : Option Value → Heap → List Loc → Prop} {ce sl : Nat} (X : Stand p l e R s m args below meth c T locs cells slots) (hx : p.tables.exec = Jvm.exec) (hlk : meth.locks = false) {pc : Nat} {Ls : Array Slot} {w : Value} {t : FieldType} {i : Instr} {rest : List Value} (hret : meth.sig.returnType = some t) (hn : narrow t w = w)
    (hi : (i = .ireturn ∧ (t = .int ∨ t = .boolean ∨ t = .byte ∨ t = .char ∨ t = .short) ∧ ∃ z, w = .int z) ∨ (i = .lreturn ∧ t = .long ∧ ∃ z, w = .long z) ∨ (i = .dreturn ∧ t = .double ∧ ∃ z, w = .double z) ∨ (i = .freturn ∧ t = .float ∧ ∃ z, w = .float z) ∨ (i = .areturn ∧ t.isReference = true ∧ w.isRef = true))
    (hd : decode c.code pc = .ok (i, 1)) (hc : cells ≤ ce) (hs : slots ≤ sl) (hQ : Q (some w) T.heap locs) : own_G p e below s Q ce sl (T.setTop (mkF m pc Ls (w :: rest))) := by
  obtain ⟨fs, hr, hrun, hended, hW, hsame⟩ := X.leave (v := some w) (fun q => by rw [hret] at q; cases q) hlk
  exact ⟨_, _, retOut X hx hret hn hi hd hr, hrun, hended, _, _, rfl, hQ, ⟨_, rfl⟩, hW, hsame.mono hc hs⟩
theorem own_retI {Q : Option Value → Heap → List Loc → Prop} {ce sl : Nat} (X : Stand p l e R s m args below meth c T locs cells slots) (hx : p.tables.exec = Jvm.exec) (hlk : meth.locks = false) {pc : Nat} {Ls : Array Slot} {z : Int32} {rest : List Value} (hret : meth.sig.returnType = some .int)
    (hd : decode c.code pc = .ok (.ireturn, 1)) (hc : cells ≤ ce) (hs : slots ≤ sl) (hQ : Q (some (.int z)) T.heap locs) : own_G p e below s Q ce sl (T.setTop (mkF m pc Ls (.int z :: rest))) :=
  own_ret X hx hlk hret rfl (Or.inl ⟨rfl, Or.inl rfl, z, rfl⟩) hd hc hs hQ
theorem own_retZ {Q : Option Value → Heap → List Loc → Prop} {ce sl : Nat} (X : Stand p l e R s m args below meth c T locs cells slots) (hx : p.tables.exec = Jvm.exec) (hlk : meth.locks = false) {pc : Nat} {Ls : Array Slot} {z : Int32} {rest : List Value} (hret : meth.sig.returnType = some .boolean) (hn : z = 0 ∨ z = 1)
    (hd : decode c.code pc = .ok (.ireturn, 1)) (hc : cells ≤ ce) (hs : slots ≤ sl) (hQ : Q (some (.int z)) T.heap locs) : own_G p e below s Q ce sl (T.setTop (mkF m pc Ls (.int z :: rest))) :=
  own_ret X hx hlk hret (by rcases hn with rfl | rfl <;> rfl) (Or.inl ⟨rfl, Or.inr (Or.inl rfl), z, rfl⟩) hd hc hs hQ
theorem own_retJ {Q : Option Value → Heap → List Loc → Prop} {ce sl : Nat} (X : Stand p l e R s m args below meth c T locs cells slots) (hx : p.tables.exec = Jvm.exec) (hlk : meth.locks = false) {pc : Nat} {Ls : Array Slot} {z : Int64} {rest : List Value} (hret : meth.sig.returnType = some .long)
    (hd : decode c.code pc = .ok (.lreturn, 1)) (hc : cells ≤ ce) (hs : slots ≤ sl) (hQ : Q (some (.long z)) T.heap locs) : own_G p e below s Q ce sl (T.setTop (mkF m pc Ls (.long z :: rest))) :=
  own_ret X hx hlk hret rfl (Or.inr (Or.inl ⟨rfl, rfl, z, rfl⟩)) hd hc hs hQ
theorem own_retA {Q : Option Value → Heap → List Loc → Prop} {ce sl : Nat} (X : Stand p l e R s m args below meth c T locs cells slots) (hx : p.tables.exec = Jvm.exec) (hlk : meth.locks = false) {pc : Nat} {Ls : Array Slot} {w : Value} {t : FieldType} {rest : List Value} (hret : meth.sig.returnType = some t) (ht : t.isReference = true) (hw : w.isRef = true)
    (hd : decode c.code pc = .ok (.areturn, 1)) (hc : cells ≤ ce) (hs : slots ≤ sl) (hQ : Q (some w) T.heap locs) : own_G p e below s Q ce sl (T.setTop (mkF m pc Ls (w :: rest))) :=
  own_ret X hx hlk hret (by cases w <;> first | rfl | (cases t <;> first | rfl | cases ht)) (Or.inr (Or.inr (Or.inr (Or.inr ⟨rfl, ht, hw⟩)))) hd hc hs hQ
theorem own_retV {Q : Option Value → Heap → List Loc → Prop} {ce sl : Nat} (X : Stand p l e R s m args below meth c T locs cells slots) (hx : p.tables.exec = Jvm.exec) (hlk : meth.locks = false) {pc : Nat} {Ls : Array Slot} (hret : meth.sig.returnType = none)
    (hd : decode c.code pc = .ok (.return_, 1)) (hc : cells ≤ ce) (hs : slots ≤ sl) (hQ : Q none T.heap locs) : own_G p e below s Q ce sl (T.setTop (mkF m pc Ls [])) := by
  obtain ⟨fs, hr, hrun, hended, hW, hsame⟩ := X.leave (v := none) (fun _ => rfl) hlk
  exact ⟨_, _, X.returnOut hx hret hd hr, hrun, hended, _, _, rfl, hQ, ⟨_, rfl⟩, hW, hsame.mono hc hs⟩
/-- a contract out of the walk of its body -/
theorem own_met {y : MethodName} {bytes : ByteArray} {maxL : Nat} {ret : Option FieldType} {ws : List Jvm.Cond} {rm : Room} {as' : Array Value} {h0 : Heap} {Q : Option Value → Heap → List Loc → Prop} {ce sl : Nat} (hp : plainFor y = true)
    (body : ∀ (p : Program) (e : Env) (s : State) (m : MethodId) (below : List Frame) (meth : Method) (c : Code) (T : State), p.tables.exec = Jvm.exec → c.code = bytes → c.maxLocals = maxL → s.vm.findClass y.cls = some m.cls → meth.name = y.name → meth.sig.returnType = ret → meth.locks = false → Z.Warmed39 s.vm → T.heap = h0 →
      Stand p l e rm s m as' below meth c T [] 0 0 → own_G p e below s Q ce sl (T.setTop (entryFrame m as' maxL))) :
    MetFree l y (head1 (Jvm.Cond.code y bytes maxL ret :: ws) rm) (fun a U => a = as' ∧ Z.Warmed39 U.vm ∧ U.heap = h0) (fun _ _ _ _ _ => True) (fun _ U o U' => ∃ v L, o = .returned v ∧ Q v U'.heap L ∧ FrameEnd U o U' L ce sl) := by
  refine MetFree.of_bodySF hp hisR ?_
  intro p e s m args below meth c s₁ Bd hml0 hP hK
  obtain ⟨rfl, hZ, hh⟩ := hP
  exact body p e s m below meth c s₁ Bd.exec Bd.bytes hml0 (findClass_of_methodNamed Bd.named) (name_of_methodNamed Bd.named Bd.method).1 Bd.returns Bd.notSynchronized hZ (by rw [← hh, Bd.state]; rfl) (Stand.of_body Bd)
theorem own_callS (X : Stand p l e R s m args below meth c T locs cells slots) (hx : p.tables.exec = Jvm.exec) (hZ : Z.Warmed39 s.vm) {own : String} {index : Nat} {y : MethodName} {bytes : ByteArray} {maxL : Nat} {ret : Option FieldType} {rm : Room} {Q : Option Value → Heap → List Loc → Prop} {argsL rest : List Value} (W : Nat)
    (hown : s.vm.findClass own = some m.cls) (wl : (Jvm.Cond.methodLink own index y).before a0 Z = true) (wst : (Jvm.Cond.static y).before a0 Z = true) (wz : (Jvm.Cond.initialized y.cls).before a0 Z = true) (wc : (Jvm.Cond.code y bytes maxL ret).before a0 Z = true) (hy : y.cls ≠ "java/lang/invoke/MethodHandle" ∧ y.cls ≠ "java/lang/invoke/VarHandle")
    (hM : MetFree l y (head1 [Jvm.Cond.code y bytes maxL ret] rm) (fun a U => a = argsL.toArray ∧ Z.Warmed39 U.vm ∧ U.heap = h) (fun _ _ _ _ _ => True) (fun _ U o U' => ∃ v L, o = .returned v ∧ Q v U'.heap L ∧ FrameEnd U o U' L rm.cells rm.slots))
    (hf : rm.frames + 1 ≤ R.frames) (hl : W + (maxL + 11) + rm.locals ≤ R.locals) (eT : T.heap = h) {g : JFrame} (hg : g.method = m) (hsize : g.locals.size = c.maxLocals) {ps : List FieldType} {r : Option FieldType} (hpd : parseMethodDescriptor y.desc = some ⟨ps, r⟩) (hlen : argsL.length = ps.length)
    (hstack : g.stack = argsL.reverse ++ rest) (hW : 2 * g.monitorRoom + (rest.map fun v => v.category).sum ≤ W) (hdg : decode c.code g.pc = .ok (.invokestatic index, 3)) (hc : cells + rm.cells ≤ R.cells) (hs : slots + rm.slots ≤ R.slots) :
    ∃ v T' L, Stand p l e R s m args below meth c T' (locs ++ L) (cells + rm.cells) (slots + rm.slots) ∧ Q v T'.heap L ∧ ∀ t, Steps p.tables e below (T'.setTop { g with pc := g.pc + 3, stack := v.toList ++ rest }) t → Steps p.tables e below (T.setTop g) t := by
  obtain ⟨v, _, ⟨T', L', k', n'⟩, -, X', ⟨L, hQ, l1, y1, z1⟩, st⟩ := Jvm.LawKit.callS X hx (y := y) hown (mvT hZ wl) (mvT hZ wst) (mvT hZ wz) (mvT hZ wc) hy (backOf (W := W) hM hZ wc wz hf hl) hg hsize (lenOf hpd hlen) hstack hW hdg (fun _ _ => ⟨rfl, eT, hc, hs⟩)
  dsimp only [Pt.U, Pt.locs, Pt.cells, Pt.slots] at X' l1 y1 z1 st hQ
  subst l1 y1 z1
  exact ⟨v, T', L, X', hQ, st⟩
theorem own_callI (X : Stand p l e R s m args below meth c T locs cells slots) (hx : p.tables.exec = Jvm.exec) (hZ : Z.Warmed39 s.vm) {own : String} {index : Nat} {y : MethodName} {bytes : ByteArray} {maxL : Nat} {rm : Room} {Q : Option Value → Heap → List Loc → Prop} {a : Addr} {argsL rest : List Value} (W : Nat)
    (hy1 : y.name = "<init>") (hown : s.vm.findClass own = some m.cls) (wl : (Jvm.Cond.methodLink own index y).before a0 Z = true) (wi : (Jvm.Cond.instanceMethod y).before a0 Z = true) (wz : (Jvm.Cond.initialized y.cls).before a0 Z = true) (wc : (Jvm.Cond.code y bytes maxL none).before a0 Z = true) (hy : y.cls ≠ "java/lang/invoke/MethodHandle" ∧ y.cls ≠ "java/lang/invoke/VarHandle")
    (hM : MetFree l y (head1 [Jvm.Cond.code y bytes maxL none] rm) (fun b U => b = (Value.ref a :: argsL).toArray ∧ Z.Warmed39 U.vm ∧ U.heap = h) (fun _ _ _ _ _ => True) (fun _ U o U' => ∃ v L, o = .returned v ∧ Q v U'.heap L ∧ FrameEnd U o U' L rm.cells rm.slots))
    (hf : rm.frames + 1 ≤ R.frames) (hl : W + (maxL + 11) + rm.locals ≤ R.locals) (eT : T.heap = h) {g : JFrame} (hg : g.method = m) (hsize : g.locals.size = c.maxLocals) {ps : List FieldType} {r : Option FieldType} (hpd : parseMethodDescriptor y.desc = some ⟨ps, r⟩) (hlen : argsL.length = ps.length)
    (hstack : g.stack = argsL.reverse ++ .ref a :: rest) (hW : 2 * g.monitorRoom + (rest.map fun v => v.category).sum ≤ W) (hdg : decode c.code g.pc = .ok (.invokespecial index, 3)) (hc : cells + rm.cells ≤ R.cells) (hs : slots + rm.slots ≤ R.slots) :
    ∃ v T' L, Stand p l e R s m args below meth c T' (locs ++ L) (cells + rm.cells) (slots + rm.slots) ∧ Q v T'.heap L ∧ ∀ t, Steps p.tables e below (T'.setTop { g with pc := g.pc + 3, stack := v.toList ++ rest }) t → Steps p.tables e below (T.setTop g) t := by
  obtain ⟨v, _, ⟨T', L', k', n'⟩, -, X', ⟨L, hQ, l1, y1, z1⟩, st⟩ := X.specialBack hx (y := y) hy1 hown (mvT hZ wl) (mvT hZ wi) (mvT hZ wc) hy (backOf (W := W) hM hZ wc wz hf hl) hg hsize (Steps.refl _) (a := a) (lenOf hpd hlen) hstack hW hdg (fun _ _ => ⟨rfl, eT, hc, hs⟩)
  dsimp only [Pt.U, Pt.locs, Pt.cells, Pt.slots] at X' l1 y1 z1 st hQ
  subst l1 y1 z1
  exact ⟨v, T', L, X', hQ, fun t k => st.trans k⟩
theorem own_callV (X : Stand p l e R s m args below meth c T locs cells slots) (hx : p.tables.exec = Jvm.exec) (hZ : Z.Warmed39 s.vm) {own C : String} {index : Nat} {y z : MethodName} {bytes : ByteArray} {maxL : Nat} {ret : Option FieldType} {rm : Room} {Q : Option Value → Heap → List Loc → Prop} {a : Addr} {argsL rest : List Value} (W : Nat)
    (hown : s.vm.findClass own = some m.cls) (wl : (Jvm.Cond.methodLink own index y).before a0 Z = true) (wd : (Jvm.Cond.declares y).before a0 Z = true) (hnf : NotFace s y) (wsel : (Jvm.Cond.selects C y z).before a0 Z = true) (wi : (Jvm.Cond.instanceMethod z).before a0 Z = true) (wz : (Jvm.Cond.initialized z.cls).before a0 Z = true) (wc : (Jvm.Cond.code z bytes maxL ret).before a0 Z = true) (hy : y.cls ≠ "java/lang/invoke/MethodHandle" ∧ y.cls ≠ "java/lang/invoke/VarHandle")
    (hM : MetFree l z (head1 [Jvm.Cond.code z bytes maxL ret] rm) (fun b U => b = (Value.ref a :: argsL).toArray ∧ Z.Warmed39 U.vm ∧ U.heap = h) (fun _ _ _ _ _ => True) (fun _ U o U' => ∃ v L, o = .returned v ∧ Q v U'.heap L ∧ FrameEnd U o U' L rm.cells rm.slots))
    (hf : rm.frames + 1 ≤ R.frames) (hl : W + (maxL + 11) + rm.locals ≤ R.locals) (eT : T.heap = h) (E : Exa Z h a C) {g : JFrame} (hg : g.method = m) (hsize : g.locals.size = c.maxLocals) {ps : List FieldType} {r : Option FieldType} (hpd : parseMethodDescriptor y.desc = some ⟨ps, r⟩) (hlen : argsL.length = ps.length)
    (hstack : g.stack = argsL.reverse ++ .ref a :: rest) (hW : 2 * g.monitorRoom + (rest.map fun v => v.category).sum ≤ W) (hdg : decode c.code g.pc = .ok (.invokevirtual index, 3)) (hc : cells + rm.cells ≤ R.cells) (hs : slots + rm.slots ≤ R.slots) :
    ∃ v T' L, Stand p l e R s m args below meth c T' (locs ++ L) (cells + rm.cells) (slots + rm.slots) ∧ Q v T'.heap L ∧ ∀ t, Steps p.tables e below (T'.setTop { g with pc := g.pc + 3, stack := v.toList ++ rest }) t → Steps p.tables e below (T.setTop g) t := by
  obtain ⟨cq, kq, qa, qb, qc⟩ := isOf hZ eT E
  obtain ⟨v, _, ⟨T', L', k', n'⟩, -, X', ⟨L, hQ, l1, y1, z1⟩, st⟩ := X.virtualBack hx (y := y) (z := z) hown (mvT hZ wl) (mvT hZ wd) hnf (mvT hZ wsel) (mvT hZ wi) hy (backOf (W := W) hM hZ wc wz hf hl) qa qc hg hsize (Steps.refl _) (lenOf hpd hlen) hstack hW hdg (fun _ _ => ⟨rfl, eT, hc, hs⟩)
  dsimp only [Pt.U, Pt.locs, Pt.cells, Pt.slots] at X' l1 y1 z1 st hQ
  subst l1 y1 z1
  exact ⟨v, T', L, X', hQ, fun t k => st.trans k⟩
theorem own_nf {y : MethodName} {C : String} (hZ : Z.Warmed39 s.vm) (w : (Jvm.Cond.selects C y y).before a0 Z = true) : NotFace s y := notFace_of_selects (args := #[]) (mvT hZ w)
theorem own_selP {y y0 : MethodName} {C : String} (hZ : Z.Warmed39 s.vm) (w0 : (Jvm.Cond.selects C y0 y0).before a0 Z = true) (hc : y0.cls = y.cls) (wp : (Jvm.Cond.privateMethod y).before a0 Z = true) (wi : (Jvm.Cond.instanceMethod y).before a0 Z = true) (hy : y.cls ≠ "java/lang/invoke/MethodHandle" ∧ y.cls ≠ "java/lang/invoke/VarHandle") :
    (Jvm.Cond.selects y.cls y y).before args s = true := by
  obtain ⟨c2, r2, m2, q1, q2, q3, q4, kP, hkP, hkPi⟩ := Cond.selects_spec (mvT (args := args) hZ w0)
  exact selects_self_of_private (hc ▸ findClass_of_methodNamed q3) hkP hkPi (Cond.privateMethod_at (mvP hZ wp (args := #[]))) (mvT hZ wi) hy
theorem own_callP (X : Stand p l e R s m args below meth c T locs cells slots) (hx : p.tables.exec = Jvm.exec) (hZ : Z.Warmed39 s.vm) {own C C0 : String} {index : Nat} {y y0 : MethodName} {bytes : ByteArray} {maxL : Nat} {ret : Option FieldType} {rm : Room} {Q : Option Value → Heap → List Loc → Prop} {a : Addr} {argsL rest : List Value} (W : Nat)
    (hown : s.vm.findClass own = some m.cls) (wl : (Jvm.Cond.methodLink own index y).before a0 Z = true) (w0 : (Jvm.Cond.selects C0 y0 y0).before a0 Z = true) (hc0 : y0.cls = y.cls) (wp : (Jvm.Cond.privateMethod y).before a0 Z = true) (wi : (Jvm.Cond.instanceMethod y).before a0 Z = true) (wz : (Jvm.Cond.initialized y.cls).before a0 Z = true) (wc : (Jvm.Cond.code y bytes maxL ret).before a0 Z = true) (hy : y.cls ≠ "java/lang/invoke/MethodHandle" ∧ y.cls ≠ "java/lang/invoke/VarHandle")
    (hM : MetFree l y (head1 [Jvm.Cond.code y bytes maxL ret] rm) (fun b U => b = (Value.ref a :: argsL).toArray ∧ Z.Warmed39 U.vm ∧ U.heap = h) (fun _ _ _ _ _ => True) (fun _ U o U' => ∃ v L, o = .returned v ∧ Q v U'.heap L ∧ FrameEnd U o U' L rm.cells rm.slots))
    (hf : rm.frames + 1 ≤ R.frames) (hl : W + (maxL + 11) + rm.locals ≤ R.locals) (eT : T.heap = h) (E : Exa Z h a C) {g : JFrame} (hg : g.method = m) (hsize : g.locals.size = c.maxLocals) {ps : List FieldType} {r : Option FieldType} (hpd : parseMethodDescriptor y.desc = some ⟨ps, r⟩) (hlen : argsL.length = ps.length)
    (hstack : g.stack = argsL.reverse ++ .ref a :: rest) (hW : 2 * g.monitorRoom + (rest.map fun v => v.category).sum ≤ W) (hdg : decode c.code g.pc = .ok (.invokevirtual index, 3)) (hc : cells + rm.cells ≤ R.cells) (hs : slots + rm.slots ≤ R.slots) :
    ∃ v T' L, Stand p l e R s m args below meth c T' (locs ++ L) (cells + rm.cells) (slots + rm.slots) ∧ Q v T'.heap L ∧ ∀ t, Steps p.tables e below (T'.setTop { g with pc := g.pc + 3, stack := v.toList ++ rest }) t → Steps p.tables e below (T.setTop g) t := by
  obtain ⟨cq, q1, q2⟩ := E.cell
  obtain ⟨v, _, ⟨T', L', k', n'⟩, -, X', ⟨L, hQ, l1, y1, z1⟩, st⟩ := X.privateBack hx (y := y) hown (mvT hZ wl) (mvT hZ wi) (own_selP hZ w0 hc0 wp wi hy) (Cond.privateMethod_at (mvP hZ wp (args := #[]))) (mvT hZ wc) hy (backOf (W := W) hM hZ wc wz hf hl) hg hsize (Steps.refl _) (a := a) (by rw [eT]; exact q1) q2 (lenOf hpd hlen) hstack hW hdg (fun _ _ => ⟨rfl, eT, hc, hs⟩)
  dsimp only [Pt.U, Pt.locs, Pt.cells, Pt.slots] at X' l1 y1 z1 st hQ
  subst l1 y1 z1
  exact ⟨v, T', L, X', hQ, fun t k => st.trans k⟩
theorem own_callF (X : Stand p l e R s m args below meth c T locs cells slots) (hx : p.tables.exec = Jvm.exec) (hZ : Z.Warmed39 s.vm) {own C : String} {index count : Nat} {xi y : MethodName} {bytes : ByteArray} {maxL : Nat} {ret : Option FieldType} {rm : Room} {Q : Option Value → Heap → List Loc → Prop} {a : Addr} {argsL rest : List Value} (W : Nat)
    (hown : s.vm.findClass own = some m.cls) (wl : (Jvm.Cond.methodLink own index xi).before a0 Z = true) (wd : (Jvm.Cond.declares xi).before a0 Z = true) (wf : (Jvm.Cond.interfaceMethod xi.cls xi.cls xi.name xi.desc).before args s = true) (wsel : (Jvm.Cond.selects C xi y).before a0 Z = true) (wi : (Jvm.Cond.instanceMethod y).before a0 Z = true) (wp : (Jvm.Cond.publicMethod y).before a0 Z = true) (wu : (Jvm.Cond.unhidden C xi.name xi.desc).before a0 Z = true) (wk : (Jvm.Cond.castable C xi.cls).before a0 Z = true) (wz : (Jvm.Cond.initialized y.cls).before a0 Z = true) (wc : (Jvm.Cond.code y bytes maxL ret).before a0 Z = true) (hy : xi.cls ≠ "java/lang/invoke/MethodHandle" ∧ xi.cls ≠ "java/lang/invoke/VarHandle")
    (hM : MetFree l y (head1 [Jvm.Cond.code y bytes maxL ret] rm) (fun b U => b = (Value.ref a :: argsL).toArray ∧ Z.Warmed39 U.vm ∧ U.heap = h) (fun _ _ _ _ _ => True) (fun _ U o U' => ∃ v L, o = .returned v ∧ Q v U'.heap L ∧ FrameEnd U o U' L rm.cells rm.slots))
    (hf : rm.frames + 1 ≤ R.frames) (hl : W + (maxL + 11) + rm.locals ≤ R.locals) (eT : T.heap = h) (E : Exa Z h a C) {g : JFrame} (hg : g.method = m) (hsize : g.locals.size = c.maxLocals) {ps : List FieldType} {r : Option FieldType} (hpd : parseMethodDescriptor xi.desc = some ⟨ps, r⟩) (hlen : argsL.length = ps.length)
    (hstack : g.stack = argsL.reverse ++ .ref a :: rest) (hW : 2 * g.monitorRoom + (rest.map fun v => v.category).sum ≤ W) (hdg : decode c.code g.pc = .ok (.invokeinterface index count, 5)) (hc : cells + rm.cells ≤ R.cells) (hs : slots + rm.slots ≤ R.slots) :
    ∃ v T' L, Stand p l e R s m args below meth c T' (locs ++ L) (cells + rm.cells) (slots + rm.slots) ∧ Q v T'.heap L ∧ ∀ t, Steps p.tables e below (T'.setTop { g with pc := g.pc + 5, stack := v.toList ++ rest }) t → Steps p.tables e below (T.setTop g) t := by
  obtain ⟨cq, kq, qa, qb, qc⟩ := isOf hZ eT E
  obtain ⟨v, _, ⟨T', L', k', n'⟩, -, X', ⟨L, hQ, l1, y1, z1⟩, st⟩ := X.interfaceBack hx (xi := xi) (y := y) hown (mvT hZ wl) (mvT hZ wd) wf (mvT hZ wsel) (mvT hZ wi) (mvT hZ wp) (mvT hZ wu) (mvT hZ wk) hy (backOf (W := W) hM hZ wc wz hf hl) qa qb qc hg hsize (Steps.refl _) (lenOf hpd hlen) hstack hW hdg (fun _ _ => ⟨rfl, eT, hc, hs⟩)
  dsimp only [Pt.U, Pt.locs, Pt.cells, Pt.slots] at X' l1 y1 z1 st hQ
  subst l1 y1 z1
  exact ⟨v, T', L, X', hQ, fun t k => st.trans k⟩
/-- a truth as Java's int -/
def own_b (P : Prop) [Decidable P] : Int32 := if P then 1 else 0
theorem own_b1 {P : Prop} [Decidable P] (h : P) : own_b P = 1 := if_pos h
theorem own_b0 {P : Prop} [Decidable P] (h : ¬ P) : own_b P = 0 := if_neg h
theorem own_b01 (P : Prop) [Decidable P] : own_b P = 0 ∨ own_b P = 1 := by
  by_cases h : P
  · exact Or.inr (own_b1 h)
  · exact Or.inl (own_b0 h)
theorem own_bn {P : Prop} [Decidable P] (h : P) : ¬ own_b P = 0 := by rw [own_b1 h]; decide
theorem own_narZ {z : Int32} (h : z = 0 ∨ z = 1) : narrow .boolean (.int z) = .int z := by rcases h with rfl | rfl <;> rfl
theorem own_fitZ {z : Int32} (h : z = 0 ∨ z = 1) : fits .boolean (.int z) = true := by rcases h with rfl | rfl <;> rfl
end OwnKit
section OwnArr
variable {p : Program} {l : Launch} {e : Env} {R : Room} {s : State} {m : MethodId} {args : Array Value} {below : List Frame} {meth : Method} {c : Code} {T : State} {locs : List Loc} {cells slots : Nat} {Z : State} {a0 : Array Value} {h h' : Heap} {a b : Addr} {ty : FieldType} {n : Nat} {f f' : Nat → Value}
/-- an array: its kind, its length, what its places hold -/
def own_A (Z : State) (h : Heap) (a : Addr) (ty : FieldType) (n : Nat) (f : Nat → Value) : Prop := ∃ c : Cell, Arr Z h a c ty ∧ c.slots.size = n ∧ ∀ i, i < n → c.slots[i]? = some (f i) ∧ fits ty (f i) = true
theorem own_A.lt (F : own_A Z h a ty n f) : a < h.size := by obtain ⟨c, A, -⟩ := F; exact A.lt
theorem own_A.ext (F : own_A Z h a ty n f) (E : Ext h h') : own_A Z h' a ty n f := by obtain ⟨c, A, r⟩ := F; exact ⟨c, A.ext E, r⟩
theorem own_A.other {sl : Nat} {v : Value} (F : own_A Z h b ty n f) (W : Wr h h' a sl v) (q : b ≠ a) : own_A Z h' b ty n f := by obtain ⟨c, A, r⟩ := F; exact ⟨c, A.other W q, r⟩
theorem own_A.keep {ws : List Addr} (F : own_A Z h a ty n f) (K : Keep h h' ws) (q : a ∉ ws) : own_A Z h' a ty n f := by obtain ⟨c, A, r⟩ := F; exact ⟨c, ⟨K.2.1 a c A.1 q, A.2⟩, r⟩
theorem own_A.congr (F : own_A Z h a ty n f) (q : ∀ i, i < n → f i = f' i) : own_A Z h a ty n f' := by
  obtain ⟨c, A, r1, r2⟩ := F
  exact ⟨c, A, r1, fun i hi => by rw [← q i hi]; exact r2 i hi⟩
theorem own_A.set {j : Nat} {v : Value} (F : own_A Z h a ty n f) (W : Wr h h' a j v) (hv : fits ty v = true) : own_A Z h' a ty n (fun i => if i = j then v else f i) := by
  obtain ⟨c, A, r1, r2⟩ := F
  have hj : j < c.slots.size := by
    obtain ⟨c2, w1, -, w3, -⟩ := W
    cases A.1.symm.trans w1
    exact w3
  refine ⟨_, A.same W, by rw [sz_set]; exact r1, fun i hi => ?_⟩
  by_cases u : j = i
  · subst u; simp [Cell.setSlot, hj, hv]
  · have := r2 i hi
    simp only [Cell.setSlot]
    rw [Array.getElem?_setIfInBounds_ne u, if_neg (fun q => u q.symm)]; exact this
theorem own_A.new {k : ClassId} {z : Int32} (A : Arr Z h a (newA k ty z) ty) (hz : z.toNatClampNeg = n) : own_A Z h a ty n (fun _ => defaultValue ty) :=
  ⟨_, A, by rw [sz_new, hz], fun i hi => ⟨by simp [newA, hz, hi], by cases ty <;> rfl⟩⟩
theorem own_ix {j : Int32} {i : Nat} (hj : j.toInt = i) (hi : i < n) : ¬ (j < 0 ∨ n ≤ j.toNatClampNeg) ∧ j.toNatClampNeg = i := by
  have h0 : (0 : Int32).toInt = 0 := by decide
  have : j.toNatClampNeg = i := by simp only [Int32.toNatClampNeg, hj]; omega
  rw [this, Int32.lt_iff_toInt_lt, hj, h0]
  exact ⟨by omega, rfl⟩
theorem own_lenZ {z : Int32} (h : z.toInt = n) : n.toInt32 = z := by
  have h0 : (0 : Int32).toInt = 0 := by decide
  have hz : ¬ z < 0 := by rw [Int32.lt_iff_toInt_lt, h, h0]; omega
  have : z.toNatClampNeg = n := by simp only [Int32.toNatClampNeg, h]; omega
  rw [← this]; exact (back32 hz).1
theorem own_cap {z : Int32} (h : z.toInt = n) : ¬ z < 0 ∧ z.toNatClampNeg = n := by
  have h0 : (0 : Int32).toInt = 0 := by decide
  exact ⟨by rw [Int32.lt_iff_toInt_lt, h, h0]; omega, by simp only [Int32.toNatClampNeg, h]; omega⟩
theorem own_arraylength (X : Stand p l e R s m args below meth c T locs cells slots) (hx : p.tables.exec = Jvm.exec) (hZ : Z.Warmed39 s.vm) (eT : T.heap = h) (F : own_A Z h a ty n f) (z : Int32) (hz : z.toInt = n)
    {g : JFrame} (hg : g.method = m) {rest : List Value} (hs : g.stack = .ref a :: rest) (hd : decode c.code g.pc = .ok (.arraylength, 1)) (t : State) (k : Steps p.tables e below (T.setTop { g with pc := g.pc + 1, stack := .int z :: rest }) t) : Steps p.tables e below (T.setTop g) t := by
  obtain ⟨cl, A, r1, r2⟩ := F
  refine X.arraylength hx (by rw [eT]; exact A.1) (State.isArrayOf_alike hZ.alike A.2.1) hg hs hd t ?_
  rw [r1, own_lenZ hz]; exact k
theorem own_baload (X : Stand p l e R s m args below meth c T locs cells slots) (hx : p.tables.exec = Jvm.exec) (hZ : Z.Warmed39 s.vm) (eT : T.heap = h) (F : own_A Z h a .byte n f) {j : Int32} {i : Nat} (hj : j.toInt = i) (hi : i < n) (v : Value) (hv : f i = v)
    {g : JFrame} (hg : g.method = m) {rest : List Value} (hs : g.stack = .int j :: .ref a :: rest) (hd : decode c.code g.pc = .ok (.baload, 1)) (t : State) (k : Steps p.tables e below (T.setTop { g with pc := g.pc + 1, stack := v :: rest }) t) : Steps p.tables e below (T.setTop g) t := by
  obtain ⟨cl, A, r1, r2⟩ := F
  subst r1
  have q := own_ix hj hi
  exact X.baloadBytes hx (by rw [eT]; exact A.1) (State.isArrayOf_alike hZ.alike A.2.1) A.2.2 q.1 (by rw [q.2, (r2 i hi).1, hv]) hg hs hd t k
theorem own_iaload (X : Stand p l e R s m args below meth c T locs cells slots) (hx : p.tables.exec = Jvm.exec) (hZ : Z.Warmed39 s.vm) (eT : T.heap = h) (F : own_A Z h a .int n f) {j : Int32} {i : Nat} (hj : j.toInt = i) (hi : i < n) (v : Value) (hv : f i = v)
    {g : JFrame} (hg : g.method = m) {rest : List Value} (hs : g.stack = .int j :: .ref a :: rest) (hd : decode c.code g.pc = .ok (.iaload, 1)) (t : State) (k : Steps p.tables e below (T.setTop { g with pc := g.pc + 1, stack := v :: rest }) t) : Steps p.tables e below (T.setTop g) t := by
  obtain ⟨cl, A, r1, r2⟩ := F
  subst r1
  have q := own_ix hj hi
  exact X.iaload hx (by rw [eT]; exact A.1) (State.isArrayOf_alike hZ.alike A.2.1) A.2.2 q.1 (by rw [q.2, (r2 i hi).1, hv]) hg hs hd t k
theorem own_laload (X : Stand p l e R s m args below meth c T locs cells slots) (hx : p.tables.exec = Jvm.exec) (hZ : Z.Warmed39 s.vm) (eT : T.heap = h) (F : own_A Z h a .long n f) {j : Int32} {i : Nat} (hj : j.toInt = i) (hi : i < n) (v : Value) (hv : f i = v)
    {g : JFrame} (hg : g.method = m) {rest : List Value} (hs : g.stack = .int j :: .ref a :: rest) (hd : decode c.code g.pc = .ok (.laload, 1)) (t : State) (k : Steps p.tables e below (T.setTop { g with pc := g.pc + 1, stack := v :: rest }) t) : Steps p.tables e below (T.setTop g) t := by
  obtain ⟨cl, A, r1, r2⟩ := F
  subst r1
  have q := own_ix hj hi
  exact X.laload hx (by rw [eT]; exact A.1) (State.isArrayOf_alike hZ.alike A.2.1) A.2.2 q.1 (by rw [q.2, (r2 i hi).1, hv]) hg hs hd t k
theorem own_aaload (X : Stand p l e R s m args below meth c T locs cells slots) (hx : p.tables.exec = Jvm.exec) (hZ : Z.Warmed39 s.vm) (eT : T.heap = h) (F : own_A Z h a ty n f) (hty : ty.isReference = true) {j : Int32} {i : Nat} (hj : j.toInt = i) (hi : i < n) (v : Value) (hv : f i = v)
    {g : JFrame} (hg : g.method = m) {rest : List Value} (hs : g.stack = .int j :: .ref a :: rest) (hd : decode c.code g.pc = .ok (.aaload, 1)) (t : State) (k : Steps p.tables e below (T.setTop { g with pc := g.pc + 1, stack := v :: rest }) t) : Steps p.tables e below (T.setTop g) t := by
  obtain ⟨cl, A, r1, r2⟩ := F
  subst r1
  have q := own_ix hj hi
  exact X.aaload hx (by rw [eT]; exact A.1) (State.isArrayOf_alike hZ.alike A.2.1) hty A.2.2 q.1 (by rw [q.2, (r2 i hi).1, hv]) hg hs hd t k
theorem own_bastore (X : Stand p l e R s m args below meth c T locs cells slots) (hx : p.tables.exec = Jvm.exec) (hZ : Z.Warmed39 s.vm) (eT : T.heap = h) (F : own_A Z h a .byte n f) {j x : Int32} {i : Nat} (hj : j.toInt = i) (hi : i < n) (v : Int32) (hv : x.toInt8.toInt32 = v)
    {g : JFrame} (hg : g.method = m) {rest : List Value} (hs : g.stack = .int x :: .int j :: .ref a :: rest) (hd : decode c.code g.pc = .ok (.bastore, 1)) :
    ∃ T' h', Stand p l e R s m args below meth c T' (locs ++ [⟨a, i⟩]) cells slots ∧ T'.heap = h' ∧ Wr h h' a i (.int v) ∧ own_A Z h' a .byte n (fun q => if q = i then .int v else f q) ∧ ∀ t, Steps p.tables e below (T'.setTop { g with pc := g.pc + 1, stack := rest }) t → Steps p.tables e below (T.setTop g) t := by
  have F0 := F
  obtain ⟨cl, A, r1, r2⟩ := F
  subst r1
  have q := own_ix hj hi
  obtain ⟨T', h', X', e', W, st⟩ := stB X hx hZ eT A q.1 hg hs hd
  have ev : nar .byte x = v := hv
  rw [q.2] at X' W
  rw [ev] at W
  exact ⟨T', h', X', e', W, F0.set W (by rw [← hv]; exact fits_nar_byte x), st⟩
theorem own_iastore (X : Stand p l e R s m args below meth c T locs cells slots) (hx : p.tables.exec = Jvm.exec) (hZ : Z.Warmed39 s.vm) (eT : T.heap = h) (F : own_A Z h a .int n f) {j x : Int32} {i : Nat} (hj : j.toInt = i) (hi : i < n)
    {g : JFrame} (hg : g.method = m) {rest : List Value} (hs : g.stack = .int x :: .int j :: .ref a :: rest) (hd : decode c.code g.pc = .ok (.iastore, 1)) :
    ∃ T' h', Stand p l e R s m args below meth c T' (locs ++ [⟨a, i⟩]) cells slots ∧ T'.heap = h' ∧ Wr h h' a i (.int x) ∧ own_A Z h' a .int n (fun q => if q = i then .int x else f q) ∧ ∀ t, Steps p.tables e below (T'.setTop { g with pc := g.pc + 1, stack := rest }) t → Steps p.tables e below (T.setTop g) t := by
  have F0 := F
  obtain ⟨cl, A, r1, r2⟩ := F
  subst r1
  have q := own_ix hj hi
  obtain ⟨T', h', X', e', W, st⟩ := stI X hx hZ eT A q.1 hg hs hd
  rw [q.2] at X' W
  exact ⟨T', h', X', e', W, F0.set W rfl, st⟩
theorem own_lastore (X : Stand p l e R s m args below meth c T locs cells slots) (hx : p.tables.exec = Jvm.exec) (hZ : Z.Warmed39 s.vm) (eT : T.heap = h) (F : own_A Z h a .long n f) {j : Int32} {x : Int64} {i : Nat} (hj : j.toInt = i) (hi : i < n)
    {g : JFrame} (hg : g.method = m) {rest : List Value} (hs : g.stack = .long x :: .int j :: .ref a :: rest) (hd : decode c.code g.pc = .ok (.lastore, 1)) :
    ∃ T' h', Stand p l e R s m args below meth c T' (locs ++ [⟨a, i⟩]) cells slots ∧ T'.heap = h' ∧ Wr h h' a i (.long x) ∧ own_A Z h' a .long n (fun q => if q = i then .long x else f q) ∧ ∀ t, Steps p.tables e below (T'.setTop { g with pc := g.pc + 1, stack := rest }) t → Steps p.tables e below (T.setTop g) t := by
  have F0 := F
  obtain ⟨cl, A, r1, r2⟩ := F
  subst r1
  have q := own_ix hj hi
  obtain ⟨T', h', X', e', W, st⟩ := stJ X hx hZ eT A q.1 hg hs hd
  rw [q.2] at X' W
  exact ⟨T', h', X', e', W, F0.set W rfl, st⟩
theorem own_newP (X : Stand p l e R s m args below meth c T locs cells slots) (hx : p.tables.exec = Jvm.exec) (hZ : Z.Warmed39 s.vm) {aty : ArrayType} (w : (Jvm.Cond.arrayClass (newarray.typeOf aty)).before a0 Z = true) (eT : T.heap = h) {g : JFrame} (hg : g.method = m) (hd : decode c.code g.pc = .ok (.newarray aty, 2)) {z : Int32} {rest : List Value} (hs : g.stack = .int z :: rest)
    {n : Nat} (hz : z.toInt = n) {cap : Nat} (hcap : n ≤ cap) (hb : cap * 8 ≤ 536870912) (hc : cells + 1 ≤ R.cells) (hl : slots + cap ≤ R.slots) :
    ∃ T' h', Stand p l e R s m args below meth c T' locs (cells + 1) (slots + cap) ∧ T'.heap = h' ∧ Ext h h' ∧ own_A Z h' h.size (newarray.typeOf aty) n (fun _ => defaultValue (newarray.typeOf aty)) ∧
      ∀ t, Steps p.tables e below (T'.setTop { g with pc := g.pc + 2, stack := .ref h.size :: rest }) t → Steps p.tables e below (T.setTop g) t := by
  have q := own_cap hz
  obtain ⟨T', h', k, X', e', E, A, st⟩ := newP X hx hZ w eT hg hd hs q.1 (cap := cap) (by rw [q.2]; exact hcap) hb hc hl
  exact ⟨T', h', X', e', E, own_A.new A q.2, st⟩
theorem own_getD {d : Value} {i : Nat} (hi : i < n) : ((List.range n).map f).getD i d = f i := by
  simp [List.getD_eq_getElem?_getD, hi]
theorem own_A.arv (F : own_A Z h a ty n f) {z : Int32} (hz : z.toInt = n) (d : Value) : ∃ k, Arv Z h a k ty z ((List.range n).map f) d := by
  obtain ⟨c, A, r1, r2⟩ := F
  have q := own_cap hz
  exact ⟨c.cls, c, A, rfl, by rw [q.2]; exact r1, q.1, fun i hi => by rw [own_getD (by omega)]; exact (r2 i (by omega)).1, fun i hi => by rw [own_getD (by omega)]; exact (r2 i (by omega)).2⟩
theorem own_cpA (X : Stand p l e R s m args below meth c T locs cells slots) (hx : p.tables.exec = Jvm.exec) (hZ : Z.Warmed39 s.vm) {own : String} {index : Nat} (hown : s.vm.findClass own = some m.cls)
    (w1 : (Jvm.Cond.methodLink own index Jvm.Stand.acN).before a0 Z = true) (w2 : (Jvm.Cond.native Jvm.Stand.acN).before a0 Z = true) (w3 : (Jvm.Cond.static Jvm.Stand.acN).before a0 Z = true) (w4 : (Jvm.Cond.initialized "java/lang/System").before a0 Z = true) (eT : T.heap = h)
    {n' : Nat} (A : own_A Z h a ty n f) (B : own_A Z h b ty n' f') (hr : refKind ty = false) {zn zn' : Int32} (hzn : zn.toInt = n) (hzn' : zn'.toInt = n') {sp dp nn : Int32} {i j k : Nat} (hsp : sp.toInt = i) (hdp : dp.toInt = j) (hnn : nn.toInt = k) (h4 : i + k ≤ n) (h5 : j + k ≤ n')
    {n0 : Nat} (N : Fr n0 locs) (ge : n0 ≤ b) {g : JFrame} (hg : g.method = m) (hsize : g.locals.size = c.maxLocals) {rest : List Value} (hs : g.stack = .int nn :: .int dp :: .ref b :: .int sp :: .ref a :: rest) (hd : decode c.code g.pc = .ok (.invokestatic index, 3))
    (hf : 1 ≤ R.frames) {W : Nat} (hW : 2 * g.monitorRoom + (rest.map fun v => v.category).sum ≤ W) (hlo : W + (nativeFrameWords "java/lang/System" "arraycopy" 5 + 11) ≤ R.locals) :
    ∃ T' h' L, Stand p l e R s m args below meth c T' L cells slots ∧ T'.heap = h' ∧ Fr n0 L ∧ Keep h h' [b] ∧ own_A Z h' b ty n' (fun q => if j ≤ q ∧ q < j + k then f (i + (q - j)) else f' q) ∧
      ∀ t, Steps p.tables e below (T'.setTop { g with pc := g.pc + 3, stack := rest }) t → Steps p.tables e below (T.setTop g) t := by
  obtain ⟨ka, VA⟩ := A.arv hzn .null
  obtain ⟨kb, VB⟩ := B.arv hzn' .null
  have q1 := own_cap hsp
  have q2 := own_cap hdp
  have q3 := own_cap hnn
  have q4 := own_cap hzn
  have q5 := own_cap hzn'
  obtain ⟨T', h', L, X', e', N', K, V', st⟩ := cpA X hx hZ hown w1 w2 w3 w4 eT VA VB (Or.inl ⟨rfl, hr⟩) q1.1 q2.1 q3.1 (by rw [q1.2, q3.2, q4.2]; exact h4) (by rw [q2.2, q3.2, q5.2]; exact h5) rfl (by rw [q2.2, q3.2]; simpa using h5) N ge hg hsize hs hd hf hW hlo
  refine ⟨T', h', L, X', e', N', K, ?_, st⟩
  obtain ⟨c', A', -, r1, -, r2, r3⟩ := V'
  rw [q5.2] at r1
  have key : ∀ x, x < n' → (((List.range n').map f').take dp.toNatClampNeg ++ (List.range nn.toNatClampNeg).map (fun y => ((List.range n).map f).getD (sp.toNatClampNeg + y) .null) ++ ((List.range n').map f').drop (dp.toNatClampNeg + nn.toNatClampNeg)).getD x .null = if j ≤ x ∧ x < j + k then f (i + (x - j)) else f' x := by
    intro x hx'
    rw [q1.2, q2.2, q3.2, List.getD_eq_getElem?_getD]
    by_cases c1 : x < j
    · rw [if_neg (by omega), List.append_assoc, List.getElem?_append_left (by simp; omega), List.getElem?_take_of_lt c1]
      simp [hx']
    · by_cases c2 : x < j + k
      · rw [if_pos ⟨by omega, c2⟩, List.getElem?_append_left (by simp; omega), List.getElem?_append_right (by simp; omega)]
        have e1 : (((List.range n').map f').take j).length = j := by simp; omega
        rw [e1, List.getElem?_map, List.getElem?_range (by omega)]
        show ((List.range n).map f).getD (i + (x - j)) .null = _
        exact own_getD (by omega)
      · have e1 : (((List.range n').map f').take j ++ (List.range k).map (fun y => ((List.range n).map f).getD (i + y) .null)).length = j + k := by simp; omega
        rw [if_neg (by omega), List.getElem?_append_right (by rw [e1]; omega), e1, List.getElem?_drop, show j + k + (x - (j + k)) = x by omega]
        simp [hx']
  exact ⟨c', A', r1, fun x hx' => ⟨by rw [r2 x (by omega), key x hx'], by have := r3 x (by omega); rw [key x hx'] at this; exact this⟩⟩
def own_up {α : Type} (G : Nat → α) (i : Nat) (x : α) : Nat → α := fun q => if q = i then x else G q
theorem own_i8 (x : Int32) : x.toInt8.toInt32.toInt8.toInt32 = x.toInt8.toInt32 := by simp
def own_cp {α : Type} (G : Nat → α) (i : Nat) (G2 : Nat → α) (j k : Nat) : Nat → α := fun q => if j ≤ q ∧ q < j + k then G (i + (q - j)) else G2 q
theorem own_inc {x : Int32} {k : Nat} (h : x.toInt = k) (hk : k < 2147483647) : (x + (1 : Int32)).toInt = (k + 1 : Nat) := by
  have h1 := c_iadd x 1
  have i1 : (1 : Int32).toInt = 1 := by decide
  have r := rng32 (x + 1)
  omega
theorem own_ofN {x : Int32} {k : Nat} (h : x.toInt = k) : x = Int32.ofNat k := by
  have r := rng32 x
  apply Int32.toInt_inj.mp
  rw [h, Int32.toInt_ofNat_of_lt (by show k < 2147483648; omega)]
theorem own_toI {k : Nat} (h : k < 2147483648) : (Int32.ofNat k).toInt = k := Int32.toInt_ofNat_of_lt h
end OwnArr
def own_ushr (z : Int64) (q : Int32) : Int64 := ((z.toUInt64 >>> (q &&& 0x3f).toInt64.toUInt64).toInt64)
def own_it : Nat → Int64 → Int64
  | 0, v => v
  | i + 1, v => own_ushr (own_it i v) (7 : Int32)
def own_bL (r : Int64) : Int32 := ((r &&& (127 : Int64)) ||| (128 : Int64)).toInt32.toInt8.toInt32
def own_bE (r : Int64) : Int32 := r.toInt32.toInt8.toInt32
/-- the lower s bits -/
def own_low (s : Nat) (v : Int64) : Int64 := ⟨⟨(v.toBitVec.setWidth s).setWidth 64⟩⟩
theorem own_ushr_bv (z : Int64) (q : Int32) (k : Nat) (hk : q.toBitVec.toNat % 64 = k) : (own_ushr z q).toBitVec = z.toBitVec >>> k := by
  have h5 := (sm64 q k hk).2
  apply BitVec.eq_of_toNat_eq
  show (z.toBitVec >>> ((q &&& 0x3f).toInt64.toBitVec % 64)).toNat = _
  rw [BitVec.ushiftRight_eq', BitVec.toNat_ushiftRight, BitVec.toNat_ushiftRight, BitVec.toNat_umod, (sm64 q k hk).1, BitVec.toNat_ofNat]
  congr 1
  show k % 2 ^ 64 % 64 = k
  omega
theorem own_shl_bv (z : Int64) (q : Int32) (k : Nat) (hk : q.toBitVec.toNat % 64 = k) : (z <<< (q &&& 0x3f).toInt64).toBitVec = z.toBitVec <<< k := by
  show z.toBitVec <<< ((q &&& 0x3f).toInt64.toBitVec.smod 64) = _
  rw [BitVec.shiftLeft_eq', (sm64 q k hk).1, smod64 k (sm64 q k hk).2]
theorem own_it_bv (i : Nat) (v : Int64) : (own_it i v).toBitVec = v.toBitVec >>> (7 * i) := by
  induction i with
  | zero => simp [own_it]
  | succ i ih =>
    show (own_ushr (own_it i v) (7 : Int32)).toBitVec = _
    rw [own_ushr_bv _ _ 7 (by decide), ih, ← BitVec.shiftRight_add, show 7 * (i + 1) = 7 * i + 7 by omega]
theorem own_and127 (r : Int64) : ∃ k : Fin 128, r &&& (127 : Int64) = Int64.ofNat k.1 := by
  have h := c_maskL r 127 7 (by decide) (by decide)
  have h1 : 0 ≤ (r &&& (127 : Int64)).toInt := by omega
  refine ⟨⟨(r &&& (127 : Int64)).toInt.toNat, by omega⟩, Int64.toInt_inj.mp ?_⟩
  rw [Int64.toInt_ofNat_of_lt (by show _ < 9223372036854775808; omega)]
  show _ = (((r &&& (127 : Int64)).toInt.toNat : Nat) : Int)
  omega
theorem own_stop (r : Int64) (h : r &&& (-128 : Int64) = (0 : Int64)) : r = r &&& (127 : Int64) := by
  have h' := congrArg Int64.toBitVec h
  apply Int64.toBitVec_inj.mp
  apply BitVec.eq_of_getLsbD_eq
  intro i hi
  have hb := congrArg (fun z => BitVec.getLsbD z i) h'
  have e1 : (r &&& (-128 : Int64)).toBitVec = r.toBitVec &&& (-128 : Int64).toBitVec := rfl
  have e2 : (r &&& (127 : Int64)).toBitVec = r.toBitVec &&& (127 : Int64).toBitVec := rfl
  rw [e1] at hb
  rw [e2, BitVec.getLsbD_and]
  rw [BitVec.getLsbD_and] at hb
  have hm : ∀ i : Fin 64, ((-128 : Int64).toBitVec.getLsbD i.1 || (127 : Int64).toBitVec.getLsbD i.1) = true := by decide
  have hm' := hm ⟨i, hi⟩
  have hz : (0 : Int64).toBitVec.getLsbD i = false := by simp
  rw [hz] at hb
  cases h1 : r.toBitVec.getLsbD i <;> cases h2 : (-128 : Int64).toBitVec.getLsbD i <;> cases h3 : (127 : Int64).toBitVec.getLsbD i <;> simp_all
theorem own_bL_more (r : Int64) : ¬ ((own_bL r &&& (128 : Int32)) = (0 : Int32)) := by
  obtain ⟨k, hk⟩ := own_and127 r
  unfold own_bL
  rw [hk]
  have : ∀ k : Fin 128, ¬ (((Int64.ofNat k.1 ||| (128 : Int64)).toInt32.toInt8.toInt32 &&& (128 : Int32)) = (0 : Int32)) := by decide +kernel
  exact this k
theorem own_bL_low (r : Int64) : (own_bL r &&& (127 : Int32)).toInt64 = r &&& (127 : Int64) := by
  obtain ⟨k, hk⟩ := own_and127 r
  unfold own_bL
  rw [hk]
  have : ∀ k : Fin 128, ((Int64.ofNat k.1 ||| (128 : Int64)).toInt32.toInt8.toInt32 &&& (127 : Int32)).toInt64 = Int64.ofNat k.1 := by decide +kernel
  exact this k
theorem own_bE_stop (r : Int64) (h : r &&& (-128 : Int64) = (0 : Int64)) : (own_bE r &&& (128 : Int32)) = (0 : Int32) := by
  obtain ⟨k, hk⟩ := own_and127 r
  unfold own_bE
  rw [own_stop r h, hk]
  have : ∀ k : Fin 128, ((Int64.ofNat k.1).toInt32.toInt8.toInt32 &&& (128 : Int32)) = (0 : Int32) := by decide +kernel
  exact this k
theorem own_bE_low (r : Int64) (h : r &&& (-128 : Int64) = (0 : Int64)) : (own_bE r &&& (127 : Int32)).toInt64 = r &&& (127 : Int64) := by
  obtain ⟨k, hk⟩ := own_and127 r
  unfold own_bE
  rw [own_stop r h, show (r &&& (127 : Int64)) &&& (127 : Int64) = r &&& (127 : Int64) by rw [Int64.and_assoc]; rfl, hk]
  have : ∀ k : Fin 128, ((Int64.ofNat k.1).toInt32.toInt8.toInt32 &&& (127 : Int32)).toInt64 = Int64.ofNat k.1 := by decide +kernel
  exact this k
theorem own_low_bit (s i : Nat) (v : Int64) (hi : i < 64) : (own_low s v).toBitVec.getLsbD i = (decide (i < s) && v.toBitVec.getLsbD i) := by
  show ((v.toBitVec.setWidth s).setWidth 64).getLsbD i = _
  simp [BitVec.getLsbD_setWidth, hi]
theorem own_low_step (s : Nat) (v : Int64) (q : Int32) (hq : q.toBitVec.toNat % 64 = s) (i : Nat) (hs : s = 7 * i) : own_low s v ||| ((own_it i v &&& (127 : Int64)) <<< (q &&& 0x3f).toInt64) = own_low (s + 7) v := by
  apply Int64.toBitVec_inj.mp
  have e1 : (own_low s v ||| ((own_it i v &&& (127 : Int64)) <<< (q &&& 0x3f).toInt64)).toBitVec = (own_low s v).toBitVec ||| ((own_it i v).toBitVec &&& (127 : Int64).toBitVec) <<< s := by
    rw [show (own_low s v ||| ((own_it i v &&& (127 : Int64)) <<< (q &&& 0x3f).toInt64)).toBitVec = (own_low s v).toBitVec ||| ((own_it i v &&& (127 : Int64)) <<< (q &&& 0x3f).toInt64).toBitVec from rfl, own_shl_bv _ q s hq]; rfl
  rw [e1, own_it_bv]
  apply BitVec.eq_of_getLsbD_eq
  intro j hj
  have hm : ∀ j : Fin 64, (127 : Int64).toBitVec.getLsbD j.1 = decide (j.1 < 7) := by decide
  rw [BitVec.getLsbD_or, own_low_bit s j v hj, own_low_bit (s + 7) j v hj, BitVec.getLsbD_shiftLeft, BitVec.getLsbD_and, BitVec.getLsbD_ushiftRight]
  by_cases c : j < s
  · simp [c, hj, show j < s + 7 by omega]
  · rw [hm ⟨j - s, by omega⟩, show 7 * i + (j - s) = j by omega]
    simp only [c, hj, decide_false, Bool.false_and, Bool.false_or, decide_true, Bool.not_false, Bool.true_and]
    by_cases c2 : j < s + 7
    · simp [c2, show j - s < 7 by omega]
    · simp [c2, show ¬ j - s < 7 by omega]
theorem own_low_first (v : Int64) : v &&& (127 : Int64) = own_low 7 v := by
  apply Int64.toBitVec_inj.mp
  apply BitVec.eq_of_getLsbD_eq
  intro j hj
  have hm : ∀ j : Fin 64, (127 : Int64).toBitVec.getLsbD j.1 = decide (j.1 < 7) := by decide
  rw [own_low_bit 7 j v hj, show (v &&& (127 : Int64)).toBitVec = v.toBitVec &&& (127 : Int64).toBitVec from rfl, BitVec.getLsbD_and, hm ⟨j, hj⟩, Bool.and_comm]
theorem own_low_all (v : Int64) (t : Nat) (h : own_it t v &&& (-128 : Int64) = (0 : Int64)) : own_low (7 * t + 7) v = v := by
  have h1 := own_stop _ h
  apply Int64.toBitVec_inj.mp
  apply BitVec.eq_of_getLsbD_eq
  intro j hj
  rw [own_low_bit _ j v hj]
  by_cases c : j < 7 * t + 7
  · simp [c]
  · have h2 := congrArg (fun z => z.toBitVec.getLsbD (j - 7 * t)) h1
    have hm : ∀ j : Fin 64, (127 : Int64).toBitVec.getLsbD j.1 = decide (j.1 < 7) := by decide
    simp only [show (own_it t v &&& (127 : Int64)).toBitVec = (own_it t v).toBitVec &&& (127 : Int64).toBitVec from rfl, BitVec.getLsbD_and, own_it_bv, BitVec.getLsbD_ushiftRight, hm ⟨j - 7 * t, by omega⟩] at h2
    rw [show 7 * t + (j - 7 * t) = j by omega] at h2
    simp only [show ¬ j - 7 * t < 7 by omega, decide_false, Bool.and_false] at h2
    simp [c, h2]
theorem own_first (P : Nat → Prop) : ∀ n, P n → ∃ k, k ≤ n ∧ P k ∧ ∀ j, j < k → ¬ P j := by
  intro n
  induction n using Nat.strongRecOn with
  | _ n ih =>
    intro hn
    by_cases h : ∃ j, j < n ∧ P j
    · obtain ⟨j, hj, pj⟩ := h
      obtain ⟨k, h1, h2⟩ := ih j hj pj
      exact ⟨k, by omega, h2⟩
    · exact ⟨n, Nat.le_refl _, hn, fun j hj pj => h ⟨j, hj, pj⟩⟩
theorem own_ends (v : Int64) : ∃ t, t ≤ 9 ∧ own_it t v &&& (-128 : Int64) = (0 : Int64) ∧ ∀ i, i < t → ¬ (own_it i v &&& (-128 : Int64) = (0 : Int64)) := by
  refine own_first (fun t => own_it t v &&& (-128 : Int64) = (0 : Int64)) 9 ?_
  apply Int64.toBitVec_inj.mp
  apply BitVec.eq_of_getLsbD_eq
  intro j hj
  have hm : ∀ j : Fin 64, (-128 : Int64).toBitVec.getLsbD j.1 = decide (7 ≤ j.1) := by decide
  rw [show (own_it 9 v &&& (-128 : Int64)).toBitVec = (own_it 9 v).toBitVec &&& (-128 : Int64).toBitVec from rfl, BitVec.getLsbD_and, own_it_bv, BitVec.getLsbD_ushiftRight, hm ⟨j, hj⟩, show (0 : Int64).toBitVec.getLsbD j = false by simp]
  by_cases c : 7 ≤ j
  · rw [BitVec.getLsbD_of_ge _ _ (by omega)]; rfl
  · simp [c]
def own_mini (x y : Int32) : Int32 := if y < x then y else x
def own_pre (G : Nat → Int32) (n : Nat) (v : Int64) (i : Nat) : Nat → Int32 := fun q => if n ≤ q ∧ q < n + i then own_bL (own_it (q - n) v) else G q
def own_put (G : Nat → Int32) (n : Nat) (v : Int64) (t : Nat) : Nat → Int32 := own_up (own_pre G n v t) (n + t) (own_bE (own_it t v))
def own_byte (v : Int64) (t i : Nat) : Int32 := if i < t then own_bL (own_it i v) else own_bE (own_it i v)
theorem own_pre_step (G : Nat → Int32) (n : Nat) (v : Int64) (i q : Nat) : own_up (own_pre G n v i) (n + i) (own_bL (own_it i v)) q = own_pre G n v (i + 1) q := by
  unfold own_up own_pre
  by_cases c1 : q = n + i
  · subst c1
    rw [if_pos rfl, if_pos ⟨by omega, by omega⟩, show n + i - n = i by omega]
  · rw [if_neg c1]
    by_cases c2 : n ≤ q ∧ q < n + i
    · rw [if_pos c2, if_pos ⟨c2.1, by omega⟩]
    · rw [if_neg c2, if_neg (by omega)]
theorem own_put_get (G : Nat → Int32) (n : Nat) (v : Int64) (t i : Nat) (h : i ≤ t) : own_put G n v t (n + i) = own_byte v t i := by
  unfold own_put own_up own_byte
  by_cases c1 : i = t
  · subst c1
    rw [if_pos rfl, if_neg (by omega)]
  · rw [if_neg (by omega), if_pos (by omega)]
    unfold own_pre
    rw [if_pos ⟨by omega, by omega⟩, show n + i - n = i by omega]
theorem own_put_old (G : Nat → Int32) (n : Nat) (v : Int64) (t q : Nat) (h : q < n) : own_put G n v t q = G q := by
  unfold own_put own_up own_pre
  rw [if_neg (by omega), if_neg (by omega)]
theorem own_byte_low (v : Int64) (t i : Nat) (h : i ≤ t) (hs : own_it t v &&& (-128 : Int64) = (0 : Int64)) : (own_byte v t i &&& (127 : Int32)).toInt64 = own_it i v &&& (127 : Int64) := by
  unfold own_byte
  by_cases c : i < t
  · rw [if_pos c]; exact own_bL_low _
  · rw [if_neg c, show i = t by omega]; exact own_bE_low _ hs
theorem own_byte_more (v : Int64) (t i : Nat) (h : i < t) : ¬ ((own_byte v t i &&& (128 : Int32)) = (0 : Int32)) := by
  unfold own_byte; rw [if_pos h]; exact own_bL_more _
theorem own_byte_stop (v : Int64) (t i : Nat) (h : i = t) (hs : own_it t v &&& (-128 : Int64) = (0 : Int64)) : (own_byte v t i &&& (128 : Int32)) = (0 : Int32) := by
  unfold own_byte; rw [h, if_neg (by omega)]; exact own_bE_stop _ hs
theorem own_shq {x : Int32} {k : Nat} (h : x.toInt = k) (hk : k < 64) : x.toBitVec.toNat % 64 = k := by
  have h1 : x.toBitVec.toInt = k := h
  have h2 := x.toBitVec.isLt
  rw [BitVec.toInt_eq_toNat_cond] at h1
  split at h1 <;> omega
theorem own_inc7 {x : Int32} {k : Nat} (h : x.toInt = k) (hk : k < 1000) : (x + (7 : Int32)).toInt = (k + 7 : Nat) := by
  have h1 := c_iadd x 7
  have i1 : (7 : Int32).toInt = 7 := by decide
  have r := rng32 (x + 7)
  omega
theorem own_sum {x y : Int32} {j k : Nat} (h : x.toInt = j) (h' : y.toInt = k) (hk : j + k < 2147483648) : (x + y).toInt = (j + k : Nat) := by
  have h1 := c_iadd x y
  have r := rng32 (x + y)
  omega
theorem own_fit {x y : Int32} {n k : Nat} (h : x.toInt = n) (hy : y.toInt = k) (hk : n + k ≤ 32) : ¬ ((32 : Int32) < (x + y)) := by
  have h1 := own_sum h hy (by omega)
  rw [Int32.lt_iff_toInt_lt, h1, show (32 : Int32).toInt = 32 from by decide]
  omega
theorem own_min_eq {x y : Int32} {n k : Nat} (h : x.toInt = n) (hy : y.toInt = k) (hk : k < n) : own_mini x y = y := by
  unfold own_mini
  rw [if_pos (by rw [Int32.lt_iff_toInt_lt, h, hy]; omega)]
/-- a small size as the header's number -/
theorem own_hd {x : Int32} {n : Nat} (h : x.toInt = n) (hn : n < 128) : (x.toInt64 &&& (4294967295 : Int64)) &&& (-128 : Int64) = (0 : Int64) := by
  have : ∀ k : Fin 128, ((Int32.ofNat k.1).toInt64 &&& (4294967295 : Int64)) &&& (-128 : Int64) = (0 : Int64) := by decide +kernel
  rw [own_ofN h]; exact this ⟨n, hn⟩
theorem own_pn0 : plainFor (⟨"com/example/orderly_results/orderlyresults/engine/Packed$Writer", "<init>", "()V"⟩ : MethodName) = true := plainFor_of_name (by first | (simp [plainName, overriddenIn]; done) | decide +kernel)
theorem dd_prog_14m1_0 : decode prog_14_method_1_code 0 = .ok (.aload_n 0, 1) := by decide +kernel
theorem dd_prog_14m1_1 : decode prog_14_method_1_code 1 = .ok (.invokespecial 3, 3) := by decide +kernel
theorem dd_prog_14m1_4 : decode prog_14_method_1_code 4 = .ok (.aload_n 0, 1) := by decide +kernel
theorem dd_prog_14m1_5 : decode prog_14_method_1_code 5 = .ok (.bipush 32, 2) := by decide +kernel
theorem dd_prog_14m1_7 : decode prog_14_method_1_code 7 = .ok (.newarray .byte, 2) := by decide +kernel
theorem dd_prog_14m1_9 : decode prog_14_method_1_code 9 = .ok (.putfield 11, 3) := by decide +kernel
theorem dd_prog_14m1_12 : decode prog_14_method_1_code 12 = .ok (.return_, 1) := by decide +kernel
theorem ef_own_wini (m : MethodId) (z0 : Addr) : entryFrame m #[(.ref z0)] 1 = mkF m 0 #[.val (.ref z0)] [] := by first | (simp [entryFrame, mkF, argsToLocals, Value.category]; done) | rfl
def Q_own_wini (Z : State) (a : Addr) (h0 : Heap) (n0 : Nat) (zv : Option Value) (zh : Heap) (zL : List Loc) : Prop := ∃ ar : Addr, zv = none ∧ Fr n0 zL ∧ Keep h0 zh [a] ∧ h0.size ≤ ar ∧ Fld Z zh a "com/example/orderly_results/orderlyresults/engine/Packed$Writer" "bytes" "[B" (.ref ar) ∧ Fld Z zh a "com/example/orderly_results/orderlyresults/engine/Packed$Writer" "size" "I" (.int (0 : Int32)) ∧ own_A Z zh ar .byte 32 (fun q => .int ((fun _ => (0 : Int32)) q))
set_option maxRecDepth 65536 in
set_option maxHeartbeats 40000000 in
theorem own_wini (l : Launch) (Z : State) (a0 : Array Value) (hw : ∀ d ∈ tables_1, d.before a0 Z = true) (ws : List Jvm.Cond) (a : Addr) (h0 : Heap) (n0 : Nat) (Z0 : n0 ≤ h0.size) (p0_ : Exa Z h0 a "com/example/orderly_results/orderlyresults/engine/Packed$Writer") (p1_ : Fld Z h0 a "com/example/orderly_results/orderlyresults/engine/Packed$Writer" "bytes" "[B" .null) (p2_ : Fld Z h0 a "com/example/orderly_results/orderlyresults/engine/Packed$Writer" "size" "I" (.int (0 : Int32))) (p3_ : n0 ≤ a) :
    MetFree l (⟨"com/example/orderly_results/orderlyresults/engine/Packed$Writer", "<init>", "()V"⟩ : MethodName) (head1 (Jvm.Cond.code (⟨"com/example/orderly_results/orderlyresults/engine/Packed$Writer", "<init>", "()V"⟩ : MethodName) prog_14_method_1_code 1 none :: ws) ({ frames := 1, cells := 1, slots := 32, locals := 12 } : Room)) (fun za zU => za = #[(.ref a)] ∧ Z.Warmed39 zU.vm ∧ zU.heap = h0) (fun _ _ _ _ _ => True) (fun _ zU zo zU' => ∃ zv zL, zo = .returned zv ∧ Q_own_wini Z a h0 n0 zv zU'.heap zL ∧ FrameEnd zU zo zU' zL ({ frames := 1, cells := 1, slots := 32, locals := 12 } : Room).cells ({ frames := 1, cells := 1, slots := 32, locals := 12 } : Room).slots) := by
  refine own_met (y := (⟨"com/example/orderly_results/orderlyresults/engine/Packed$Writer", "<init>", "()V"⟩ : MethodName)) own_pn0 ?_
  intro p e s m below meth c T0 hx hby hml hown hnm hret hlk hZ e0 X0
  have N0 := Fr.nil n0
  refine own_st (fun zt zk => castTop (ef_own_wini m a) zk) ?_
  show own_G p e below s _ _ _ (T0.setTop (mkF m 0 #[.val (.ref a)] []))
  refine own_st (fun zt zk => XS.aloadN X0.here hx rfl (hb hby dd_prog_14m1_0) rfl rfl zk) ?_
  show own_G p e below s _ _ _ (T0.setTop (mkF m 1 #[.val (.ref a)] [(.ref a)]))
  obtain ⟨T1, X1, e1, st1⟩ := initO X0 hx hZ hown (hw _ (List.mem_of_getElem? (i := 6) rfl)) (hw _ (List.mem_of_getElem? (i := 7) rfl)) (hw _ (List.mem_of_getElem? (i := 8) rfl)) e0 (g := (mkF m 1 #[.val (.ref a)] [(.ref a)])) rfl (by rw [hml]; rfl) rfl (hb hby dd_prog_14m1_1) (by decide) (W := 0) (by show 2 * 0 + _ ≤ _; exact Nat.le_of_eq rfl) (by decide)
  refine own_st st1 ?_
  show own_G p e below s _ _ _ (T1.setTop (mkF m 4 #[.val (.ref a)] []))
  refine own_st (fun zt zk => XS.aloadN X1.here hx rfl (hb hby dd_prog_14m1_4) rfl rfl zk) ?_
  show own_G p e below s _ _ _ (T1.setTop (mkF m 5 #[.val (.ref a)] [(.ref a)]))
  refine own_st (fun zt zk => XS.bipush X1.here hx rfl (hb hby dd_prog_14m1_5) zk) ?_
  show own_G p e below s _ _ _ (T1.setTop (mkF m 7 #[.val (.ref a)] [(.int (32 : Int32)), (.ref a)]))
  obtain ⟨T2, h2, X2, e2, E2, V2, st2⟩ := own_newP X1 hx hZ (aty := .byte) (hw _ (List.mem_of_getElem? (i := 9) rfl)) e1 (g := (mkF m 7 #[.val (.ref a)] [(.int (32 : Int32)), (.ref a)])) rfl (hb hby dd_prog_14m1_7) rfl (n := 32) (by decide) (cap := 32) (Nat.le_refl _) (by decide) (by decide) (by decide)
  obtain ⟨b2, g2⟩ : ∃ z, z = h0.size := ⟨_, rfl⟩
  rw [← g2] at V2 st2
  have ne2_a : a ≠ b2 := by rw [g2]; exact Nat.ne_of_lt p0_.lt
  have ge2 : n0 ≤ b2 := Nat.le_trans Z0 (Nat.le_of_eq g2.symm)
  have sz2 : h0.size ≤ b2 := Nat.le_trans (Nat.le_refl h0.size) (Nat.le_of_eq g2.symm)
  have V2a : own_A Z h2 b2 .byte 32 (fun q => .int ((fun _ => (0 : Int32)) q)) := V2
  refine own_st st2 ?_
  show own_G p e below s _ _ _ (T2.setTop (mkF m 9 #[.val (.ref a)] [(.ref b2), (.ref a)]))
  have F3 : Fld Z h2 a "com/example/orderly_results/orderlyresults/engine/Packed$Writer" "bytes" "[B" .null := (p1_.ext E2)
  have E4 : Exa Z h2 a "com/example/orderly_results/orderlyresults/engine/Packed$Writer" := (p0_.ext E2)
  obtain ⟨T5, h5, X5, e5, W5, st5⟩ := putF X2 hx hZ hown (host := "") (Or.inl (hw _ (List.mem_of_getElem? (i := 10) rfl))) Via.refl e2 F3 E4 (Or.inl (hw _ (List.mem_of_getElem? (i := 11) rfl))) (hw _ (List.mem_of_getElem? (i := 1) rfl)) (ty := (.array .byte)) (by decide) rfl rfl (g := (mkF m 9 #[.val (.ref a)] [(.ref b2), (.ref a)])) rfl rfl (hb hby dd_prog_14m1_9)
  refine own_st st5 ?_
  have N5 := Fr.snoc X5 N0 p3_
  show own_G p e below s _ _ _ (T5.setTop (mkF m 12 #[.val (.ref a)] []))
  have F6 : Fld Z h5 a "com/example/orderly_results/orderlyresults/engine/Packed$Writer" "bytes" "[B" (.ref b2) := (Fld.same W5 F3)
  have F7 : Fld Z h5 a "com/example/orderly_results/orderlyresults/engine/Packed$Writer" "size" "I" (.int (0 : Int32)) := (Fld.other W5 (p2_.ext E2) (Or.inr (slot_ne (Or.inl (hw _ (List.mem_of_getElem? (i := 27) rfl))) (Or.inl (hw _ (List.mem_of_getElem? (i := 11) rfl))) (by decide) (t := .int) (t' := (.array .byte)) (by decide) (by decide))))
  have V8 : own_A Z h5 b2 .byte 32 (fun q => .int ((fun _ => (0 : Int32)) q)) := (V2a.other W5 (Ne.symm ne2_a))
  refine own_retV X5 hx hlk hret (hb hby dd_prog_14m1_12) (by decide) (by decide) ?_
  show Q_own_wini Z a h0 n0 none T5.heap _
  rw [e5]
  exact ⟨b2, rfl, N5, (((Keep.refl _ _).ext E2).wr W5 (Or.inl (List.mem_of_getElem? (i := 0) rfl))), sz2, F6, F7, V8⟩
theorem own_pn1 : plainFor (⟨"com/example/orderly_results/orderlyresults/engine/Packed$Writer", "ensure", "(I)V"⟩ : MethodName) = true := plainFor_of_name (by first | (simp [plainName, overriddenIn]; done) | decide +kernel)
theorem dd_prog_14m15_0 : decode prog_14_method_15_code 0 = .ok (.aload_n 0, 1) := by decide +kernel
theorem dd_prog_14m15_1 : decode prog_14_method_15_code 1 = .ok (.getfield 40, 3) := by decide +kernel
theorem dd_prog_14m15_4 : decode prog_14_method_15_code 4 = .ok (.iload_n 1, 1) := by decide +kernel
theorem dd_prog_14m15_5 : decode prog_14_method_15_code 5 = .ok (.iadd, 1) := by decide +kernel
theorem dd_prog_14m15_6 : decode prog_14_method_15_code 6 = .ok (.aload_n 0, 1) := by decide +kernel
theorem dd_prog_14m15_7 : decode prog_14_method_15_code 7 = .ok (.getfield 11, 3) := by decide +kernel
theorem dd_prog_14m15_10 : decode prog_14_method_15_code 10 = .ok (.arraylength, 1) := by decide +kernel
theorem dd_prog_14m15_11 : decode prog_14_method_15_code 11 = .ok (.if_icmp .le 30, 3) := by decide +kernel
theorem dd_prog_14m15_41 : decode prog_14_method_15_code 41 = .ok (.return_, 1) := by decide +kernel
theorem ef_own_ens (m : MethodId) (z0 : Addr) (z1 : Int32) : entryFrame m #[(.ref z0), (.int z1)] 2 = mkF m 0 #[.val (.ref z0), .val (.int z1)] [] := by first | (simp [entryFrame, mkF, argsToLocals, Value.category]; done) | rfl
def Q_own_ens (Z : State) (a : Addr) (k : Int32) (ar : Addr) (sz : Int32) (G : Nat → Int32) (h0 : Heap) (n0 : Nat) (zv : Option Value) (zh : Heap) (zL : List Loc) : Prop := zv = none ∧ Fr n0 zL ∧ zh = h0
set_option maxRecDepth 65536 in
set_option maxHeartbeats 40000000 in
theorem own_ens (l : Launch) (Z : State) (a0 : Array Value) (hw : ∀ d ∈ tables_1, d.before a0 Z = true) (ws : List Jvm.Cond) (a : Addr) (k : Int32) (ar : Addr) (sz : Int32) (G : Nat → Int32) (h0 : Heap) (n0 : Nat) (Z0 : n0 ≤ h0.size) (p0_ : Fld Z h0 a "com/example/orderly_results/orderlyresults/engine/Packed$Writer" "bytes" "[B" (.ref ar)) (p1_ : Fld Z h0 a "com/example/orderly_results/orderlyresults/engine/Packed$Writer" "size" "I" (.int sz)) (p2_ : own_A Z h0 ar .byte 32 (fun q => .int (G q))) (p3_ : ¬ ((32 : Int32) < (sz + k))) :
    MetFree l (⟨"com/example/orderly_results/orderlyresults/engine/Packed$Writer", "ensure", "(I)V"⟩ : MethodName) (head1 (Jvm.Cond.code (⟨"com/example/orderly_results/orderlyresults/engine/Packed$Writer", "ensure", "(I)V"⟩ : MethodName) prog_14_method_15_code 2 none :: ws) ({ frames := 0, cells := 0, slots := 0, locals := 0 } : Room)) (fun za zU => za = #[(.ref a), (.int k)] ∧ Z.Warmed39 zU.vm ∧ zU.heap = h0) (fun _ _ _ _ _ => True) (fun _ zU zo zU' => ∃ zv zL, zo = .returned zv ∧ Q_own_ens Z a k ar sz G h0 n0 zv zU'.heap zL ∧ FrameEnd zU zo zU' zL ({ frames := 0, cells := 0, slots := 0, locals := 0 } : Room).cells ({ frames := 0, cells := 0, slots := 0, locals := 0 } : Room).slots) := by
  refine own_met (y := (⟨"com/example/orderly_results/orderlyresults/engine/Packed$Writer", "ensure", "(I)V"⟩ : MethodName)) own_pn1 ?_
  intro p e s m below meth c T0 hx hby hml hown hnm hret hlk hZ e0 X0
  have N0 := Fr.nil n0
  refine own_st (fun zt zk => castTop (ef_own_ens m a k) zk) ?_
  show own_G p e below s _ _ _ (T0.setTop (mkF m 0 #[.val (.ref a), .val (.int k)] []))
  refine own_st (fun zt zk => XS.aloadN X0.here hx rfl (hb hby dd_prog_14m15_0) rfl rfl zk) ?_
  show own_G p e below s _ _ _ (T0.setTop (mkF m 1 #[.val (.ref a), .val (.int k)] [(.ref a)]))
  obtain ⟨T1, X1, e1, st1⟩ := getF X0 hx hZ hown (host := "") (Or.inl (hw _ (List.mem_of_getElem? (i := 26) rfl))) Via.refl e0 p1_ (g := (mkF m 1 #[.val (.ref a), .val (.int k)] [(.ref a)])) rfl rfl (hb hby dd_prog_14m15_1)
  refine own_st st1 ?_
  show own_G p e below s _ _ _ (T1.setTop (mkF m 4 #[.val (.ref a), .val (.int k)] [(.int sz)]))
  refine own_st (fun zt zk => XS.iloadN X1.here hx rfl (hb hby dd_prog_14m15_4) rfl zk) ?_
  show own_G p e below s _ _ _ (T1.setTop (mkF m 5 #[.val (.ref a), .val (.int k)] [(.int k), (.int sz)]))
  refine own_st (fun zt zk => XS.iadd X1.here hx rfl (hb hby dd_prog_14m15_5) rfl zk) ?_
  show own_G p e below s _ _ _ (T1.setTop (mkF m 6 #[.val (.ref a), .val (.int k)] [(.int (sz + k))]))
  refine own_st (fun zt zk => XS.aloadN X1.here hx rfl (hb hby dd_prog_14m15_6) rfl rfl zk) ?_
  show own_G p e below s _ _ _ (T1.setTop (mkF m 7 #[.val (.ref a), .val (.int k)] [(.ref a), (.int (sz + k))]))
  obtain ⟨T2, X2, e2, st2⟩ := getF X1 hx hZ hown (host := "") (Or.inl (hw _ (List.mem_of_getElem? (i := 10) rfl))) Via.refl e1 p0_ (g := (mkF m 7 #[.val (.ref a), .val (.int k)] [(.ref a), (.int (sz + k))])) rfl rfl (hb hby dd_prog_14m15_7)
  refine own_st st2 ?_
  show own_G p e below s _ _ _ (T2.setTop (mkF m 10 #[.val (.ref a), .val (.int k)] [(.ref ar), (.int (sz + k))]))
  refine own_st (own_arraylength X2 hx hZ e2 p2_ (32 : Int32) (by decide) (g := (mkF m 10 #[.val (.ref a), .val (.int k)] [(.ref ar), (.int (sz + k))])) rfl rfl (hb hby dd_prog_14m15_10)) ?_
  show own_G p e below s _ _ _ (T2.setTop (mkF m 11 #[.val (.ref a), .val (.int k)] [(.int (32 : Int32)), (.int (sz + k))]))
  refine own_st (fun zt zk => XS.icmpYes X2.here hx rfl (pc0 := 11) (pc' := 41) rfl (hb hby dd_prog_14m15_11) rfl (flt p3_).2.2.2 (by decide) (by decide) zk) ?_
  show own_G p e below s _ _ _ (T2.setTop (mkF m 41 #[.val (.ref a), .val (.int k)] []))
  refine own_retV X2 hx hlk hret (hb hby dd_prog_14m15_41) (by decide) (by decide) ?_
  show Q_own_ens Z a k ar sz G h0 n0 none T2.heap _
  rw [e2]
  exact ⟨rfl, N0, rfl⟩
theorem own_pn2 : plainFor (⟨"com/example/orderly_results/orderlyresults/engine/Packed$Writer", "write", "(B)V"⟩ : MethodName) = true := plainFor_of_name (by first | (simp [plainName, overriddenIn]; done) | decide +kernel)
theorem dd_prog_14m14_0 : decode prog_14_method_14_code 0 = .ok (.aload_n 0, 1) := by decide +kernel
theorem dd_prog_14m14_1 : decode prog_14_method_14_code 1 = .ok (.iconst 1, 1) := by decide +kernel
theorem dd_prog_14m14_2 : decode prog_14_method_14_code 2 = .ok (.invokevirtual 36, 3) := by decide +kernel
theorem own_pd0 : parseMethodDescriptor "(I)V" = some ⟨[.int], none⟩ := by decide +kernel
theorem dd_prog_14m14_5 : decode prog_14_method_14_code 5 = .ok (.aload_n 0, 1) := by decide +kernel
theorem dd_prog_14m14_6 : decode prog_14_method_14_code 6 = .ok (.getfield 11, 3) := by decide +kernel
theorem dd_prog_14m14_9 : decode prog_14_method_14_code 9 = .ok (.aload_n 0, 1) := by decide +kernel
theorem dd_prog_14m14_10 : decode prog_14_method_14_code 10 = .ok (.dup, 1) := by decide +kernel
theorem dd_prog_14m14_11 : decode prog_14_method_14_code 11 = .ok (.getfield 40, 3) := by decide +kernel
theorem dd_prog_14m14_14 : decode prog_14_method_14_code 14 = .ok (.dup_x1, 1) := by decide +kernel
theorem dd_prog_14m14_15 : decode prog_14_method_14_code 15 = .ok (.iconst 1, 1) := by decide +kernel
theorem dd_prog_14m14_16 : decode prog_14_method_14_code 16 = .ok (.iadd, 1) := by decide +kernel
theorem dd_prog_14m14_17 : decode prog_14_method_14_code 17 = .ok (.putfield 40, 3) := by decide +kernel
theorem dd_prog_14m14_20 : decode prog_14_method_14_code 20 = .ok (.iload_n 1, 1) := by decide +kernel
theorem dd_prog_14m14_21 : decode prog_14_method_14_code 21 = .ok (.bastore, 1) := by decide +kernel
theorem dd_prog_14m14_22 : decode prog_14_method_14_code 22 = .ok (.return_, 1) := by decide +kernel
theorem ef_own_wrt (m : MethodId) (z0 : Addr) (z1 : Int32) : entryFrame m #[(.ref z0), (.int z1)] 2 = mkF m 0 #[.val (.ref z0), .val (.int z1)] [] := by first | (simp [entryFrame, mkF, argsToLocals, Value.category]; done) | rfl
def Q_own_wrt (Z : State) (a : Addr) (b : Int32) (ar : Addr) (sz : Int32) (n : Nat) (G : Nat → Int32) (h0 : Heap) (n0 : Nat) (zv : Option Value) (zh : Heap) (zL : List Loc) : Prop := zv = none ∧ Fr n0 zL ∧ Keep h0 zh [a, ar] ∧ Fld Z zh a "com/example/orderly_results/orderlyresults/engine/Packed$Writer" "bytes" "[B" (.ref ar) ∧ Fld Z zh a "com/example/orderly_results/orderlyresults/engine/Packed$Writer" "size" "I" (.int (sz + (1 : Int32))) ∧ own_A Z zh ar .byte 32 (fun q => .int ((own_up G n b) q))
set_option maxRecDepth 65536 in
set_option maxHeartbeats 40000000 in
theorem own_wrt (l : Launch) (Z : State) (a0 : Array Value) (hw : ∀ d ∈ tables_1, d.before a0 Z = true) (ws : List Jvm.Cond) (a : Addr) (b : Int32) (ar : Addr) (sz : Int32) (n : Nat) (G : Nat → Int32) (h0 : Heap) (n0 : Nat) (Z0 : n0 ≤ h0.size) (p0_ : Exa Z h0 a "com/example/orderly_results/orderlyresults/engine/Packed$Writer") (p1_ : Fld Z h0 a "com/example/orderly_results/orderlyresults/engine/Packed$Writer" "bytes" "[B" (.ref ar)) (p2_ : Fld Z h0 a "com/example/orderly_results/orderlyresults/engine/Packed$Writer" "size" "I" (.int sz)) (p3_ : own_A Z h0 ar .byte 32 (fun q => .int (G q))) (p4_ : n0 ≤ a) (p5_ : n0 ≤ ar) (p6_ : a ≠ ar) (p7_ : sz.toInt = n) (p8_ : n < 32) (p9_ : b.toInt8.toInt32 = b) :
    MetFree l (⟨"com/example/orderly_results/orderlyresults/engine/Packed$Writer", "write", "(B)V"⟩ : MethodName) (head1 (Jvm.Cond.code (⟨"com/example/orderly_results/orderlyresults/engine/Packed$Writer", "write", "(B)V"⟩ : MethodName) prog_14_method_14_code 2 none :: ws) ({ frames := 1, cells := 0, slots := 0, locals := 13 } : Room)) (fun za zU => za = #[(.ref a), (.int b)] ∧ Z.Warmed39 zU.vm ∧ zU.heap = h0) (fun _ _ _ _ _ => True) (fun _ zU zo zU' => ∃ zv zL, zo = .returned zv ∧ Q_own_wrt Z a b ar sz n G h0 n0 zv zU'.heap zL ∧ FrameEnd zU zo zU' zL ({ frames := 1, cells := 0, slots := 0, locals := 13 } : Room).cells ({ frames := 1, cells := 0, slots := 0, locals := 13 } : Room).slots) := by
  refine own_met (y := (⟨"com/example/orderly_results/orderlyresults/engine/Packed$Writer", "write", "(B)V"⟩ : MethodName)) own_pn2 ?_
  intro p e s m below meth c T0 hx hby hml hown hnm hret hlk hZ e0 X0
  have N0 := Fr.nil n0
  refine own_st (fun zt zk => castTop (ef_own_wrt m a b) zk) ?_
  show own_G p e below s _ _ _ (T0.setTop (mkF m 0 #[.val (.ref a), .val (.int b)] []))
  refine own_st (fun zt zk => XS.aloadN X0.here hx rfl (hb hby dd_prog_14m14_0) rfl rfl zk) ?_
  show own_G p e below s _ _ _ (T0.setTop (mkF m 1 #[.val (.ref a), .val (.int b)] [(.ref a)]))
  refine own_st (fun zt zk => XS.iconst X0.here hx rfl (hb hby dd_prog_14m14_1) zk) ?_
  show own_G p e below s _ _ _ (T0.setTop (mkF m 2 #[.val (.ref a), .val (.int b)] [(.int (1 : Int32)), (.ref a)]))
  obtain ⟨_, T1, L1, X1, hQ1, st1⟩ := own_callP X0 hx hZ (y := (⟨"com/example/orderly_results/orderlyresults/engine/Packed$Writer", "ensure", "(I)V"⟩ : MethodName)) (y0 := (⟨"com/example/orderly_results/orderlyresults/engine/Packed$Writer", "varlong", "(J)V"⟩ : MethodName)) (a := a) (argsL := [(.int (1 : Int32))]) (rest := []) 0 hown (hw _ (List.mem_of_getElem? (i := 22) rfl)) (hw _ (List.mem_of_getElem? (i := 15) rfl)) rfl (hw _ (List.mem_of_getElem? (i := 24) rfl)) (hw _ (List.mem_of_getElem? (i := 23) rfl)) (hw _ (List.mem_of_getElem? (i := 2) rfl)) (hw _ (List.mem_of_getElem? (i := 25) rfl)) (by decide) (own_ens l Z a0 hw [] a (1 : Int32) ar sz G h0 n0 Z0 p1_ p2_ p3_ (own_fit p7_ (show (1 : Int32).toInt = (1 : Nat) from by decide) (by omega))) (by decide) (by decide) e0 p0_ (g := (mkF m 2 #[.val (.ref a), .val (.int b)] [(.int (1 : Int32)), (.ref a)])) rfl (by rw [hml]; rfl) own_pd0 rfl rfl (by show 2 * 0 + _ ≤ _; exact Nat.le_of_eq rfl) (hb hby dd_prog_14m14_2) (by decide) (by decide)
  obtain ⟨rfl, N1q, e1⟩ := hQ1
  have N1 := Fr.app N0 N1q
  refine own_st st1 ?_
  show own_G p e below s _ _ _ (T1.setTop (mkF m 5 #[.val (.ref a), .val (.int b)] []))
  refine own_st (fun zt zk => XS.aloadN X1.here hx rfl (hb hby dd_prog_14m14_5) rfl rfl zk) ?_
  show own_G p e below s _ _ _ (T1.setTop (mkF m 6 #[.val (.ref a), .val (.int b)] [(.ref a)]))
  obtain ⟨T2, X2, e2, st2⟩ := getF X1 hx hZ hown (host := "") (Or.inl (hw _ (List.mem_of_getElem? (i := 10) rfl))) Via.refl e1 p1_ (g := (mkF m 6 #[.val (.ref a), .val (.int b)] [(.ref a)])) rfl rfl (hb hby dd_prog_14m14_6)
  refine own_st st2 ?_
  show own_G p e below s _ _ _ (T2.setTop (mkF m 9 #[.val (.ref a), .val (.int b)] [(.ref ar)]))
  refine own_st (fun zt zk => XS.aloadN X2.here hx rfl (hb hby dd_prog_14m14_9) rfl rfl zk) ?_
  show own_G p e below s _ _ _ (T2.setTop (mkF m 10 #[.val (.ref a), .val (.int b)] [(.ref a), (.ref ar)]))
  refine own_st (fun zt zk => XS.dup X2.here hx rfl (hb hby dd_prog_14m14_10) rfl rfl zk) ?_
  show own_G p e below s _ _ _ (T2.setTop (mkF m 11 #[.val (.ref a), .val (.int b)] [(.ref a), (.ref a), (.ref ar)]))
  obtain ⟨T3, X3, e3, st3⟩ := getF X2 hx hZ hown (host := "") (Or.inl (hw _ (List.mem_of_getElem? (i := 26) rfl))) Via.refl e2 p2_ (g := (mkF m 11 #[.val (.ref a), .val (.int b)] [(.ref a), (.ref a), (.ref ar)])) rfl rfl (hb hby dd_prog_14m14_11)
  refine own_st st3 ?_
  show own_G p e below s _ _ _ (T3.setTop (mkF m 14 #[.val (.ref a), .val (.int b)] [(.int sz), (.ref a), (.ref ar)]))
  refine own_st (fun zt zk => XS.dupX1 X3.here hx rfl (hb hby dd_prog_14m14_14) rfl rfl rfl zk) ?_
  show own_G p e below s _ _ _ (T3.setTop (mkF m 15 #[.val (.ref a), .val (.int b)] [(.int sz), (.ref a), (.int sz), (.ref ar)]))
  refine own_st (fun zt zk => XS.iconst X3.here hx rfl (hb hby dd_prog_14m14_15) zk) ?_
  show own_G p e below s _ _ _ (T3.setTop (mkF m 16 #[.val (.ref a), .val (.int b)] [(.int (1 : Int32)), (.int sz), (.ref a), (.int sz), (.ref ar)]))
  refine own_st (fun zt zk => XS.iadd X3.here hx rfl (hb hby dd_prog_14m14_16) rfl zk) ?_
  show own_G p e below s _ _ _ (T3.setTop (mkF m 17 #[.val (.ref a), .val (.int b)] [(.int (sz + (1 : Int32))), (.ref a), (.int sz), (.ref ar)]))
  obtain ⟨T4, h4, X4, e4, W4, st4⟩ := putF X3 hx hZ hown (host := "") (Or.inl (hw _ (List.mem_of_getElem? (i := 26) rfl))) Via.refl e3 p2_ p0_ (Or.inl (hw _ (List.mem_of_getElem? (i := 27) rfl))) (hw _ (List.mem_of_getElem? (i := 1) rfl)) (ty := .int) (by decide) rfl rfl (g := (mkF m 17 #[.val (.ref a), .val (.int b)] [(.int (sz + (1 : Int32))), (.ref a), (.int sz), (.ref ar)])) rfl rfl (hb hby dd_prog_14m14_17)
  refine own_st st4 ?_
  have N4 := Fr.snoc X4 N1 p4_
  show own_G p e below s _ _ _ (T4.setTop (mkF m 20 #[.val (.ref a), .val (.int b)] [(.int sz), (.ref ar)]))
  refine own_st (fun zt zk => XS.iloadN X4.here hx rfl (hb hby dd_prog_14m14_20) rfl zk) ?_
  show own_G p e below s _ _ _ (T4.setTop (mkF m 21 #[.val (.ref a), .val (.int b)] [(.int b), (.int sz), (.ref ar)]))
  have V5 : own_A Z h4 ar .byte 32 (fun q => .int (G q)) := (p3_.other W4 (Ne.symm p6_))
  obtain ⟨T6, h6, X6, e6, W6, V6, st6⟩ := own_bastore X4 hx hZ e4 V5 (i := n) p7_ p8_ b p9_ (g := (mkF m 21 #[.val (.ref a), .val (.int b)] [(.int b), (.int sz), (.ref ar)])) rfl rfl (hb hby dd_prog_14m14_21)
  refine own_st st6 ?_
  have N6 := Fr.snoc X6 N4 p5_
  have V6a : own_A Z h6 ar .byte 32 (fun q => .int ((own_up G n b) q)) := V6.congr (fun q _ => by simp only [own_up]; split <;> rfl)
  show own_G p e below s _ _ _ (T6.setTop (mkF m 22 #[.val (.ref a), .val (.int b)] []))
  have F7 : Fld Z h6 a "com/example/orderly_results/orderlyresults/engine/Packed$Writer" "bytes" "[B" (.ref ar) := (Fld.other W6 (Fld.other W4 p1_ (Or.inr (slot_ne (Or.inl (hw _ (List.mem_of_getElem? (i := 11) rfl))) (Or.inl (hw _ (List.mem_of_getElem? (i := 27) rfl))) (by decide) (t := (.array .byte)) (t' := .int) (by decide) (by decide)))) (Or.inl p6_))
  have F8 : Fld Z h6 a "com/example/orderly_results/orderlyresults/engine/Packed$Writer" "size" "I" (.int (sz + (1 : Int32))) := (Fld.other W6 (Fld.same W4 p2_) (Or.inl p6_))
  refine own_retV X6 hx hlk hret (hb hby dd_prog_14m14_22) (by decide) (by decide) ?_
  show Q_own_wrt Z a b ar sz n G h0 n0 none T6.heap _
  rw [e6]
  exact ⟨rfl, N6, (((Keep.refl _ _).wr W4 (Or.inl (List.mem_of_getElem? (i := 0) rfl))).wr W6 (Or.inl (List.mem_of_getElem? (i := 1) rfl))), F7, F8, V6a⟩
theorem own_pn3 : plainFor (⟨"com/example/orderly_results/orderlyresults/engine/Packed$Writer", "varlong", "(J)V"⟩ : MethodName) = true := plainFor_of_name (by first | (simp [plainName, overriddenIn]; done) | decide +kernel)
theorem dd_prog_14m3_0 : decode prog_14_method_3_code 0 = .ok (.lload_n 1, 1) := by decide +kernel
theorem dd_prog_14m3_1 : decode prog_14_method_3_code 1 = .ok (.lstore_n 3, 1) := by decide +kernel
theorem dd_prog_14m3_2 : decode prog_14_method_3_code 2 = .ok (.lload_n 3, 1) := by decide +kernel
theorem dd_prog_14m3_3 : decode prog_14_method_3_code 3 = .ok (.ldc2_w 21, 3) := by decide +kernel
theorem dd_prog_14m3_6 : decode prog_14_method_3_code 6 = .ok (.land, 1) := by decide +kernel
theorem dd_prog_14m3_7 : decode prog_14_method_3_code 7 = .ok (.lconst 0, 1) := by decide +kernel
theorem dd_prog_14m3_8 : decode prog_14_method_3_code 8 = .ok (.lcmp, 1) := by decide +kernel
theorem dd_prog_14m3_9 : decode prog_14_method_3_code 9 = .ok (.ifCond .eq 26, 3) := by decide +kernel
theorem dd_prog_14m3_35 : decode prog_14_method_3_code 35 = .ok (.aload_n 0, 1) := by decide +kernel
theorem dd_prog_14m3_36 : decode prog_14_method_3_code 36 = .ok (.lload_n 3, 1) := by decide +kernel
theorem dd_prog_14m3_37 : decode prog_14_method_3_code 37 = .ok (.l2i, 1) := by decide +kernel
theorem dd_prog_14m3_38 : decode prog_14_method_3_code 38 = .ok (.i2b, 1) := by decide +kernel
theorem dd_prog_14m3_39 : decode prog_14_method_3_code 39 = .ok (.invokevirtual 27, 3) := by decide +kernel
theorem own_pd1 : parseMethodDescriptor "(B)V" = some ⟨[.byte], none⟩ := by decide +kernel
theorem dd_prog_14m3_42 : decode prog_14_method_3_code 42 = .ok (.return_, 1) := by decide +kernel
theorem dd_prog_14m3_12 : decode prog_14_method_3_code 12 = .ok (.aload_n 0, 1) := by decide +kernel
theorem dd_prog_14m3_13 : decode prog_14_method_3_code 13 = .ok (.lload_n 3, 1) := by decide +kernel
theorem dd_prog_14m3_14 : decode prog_14_method_3_code 14 = .ok (.ldc2_w 23, 3) := by decide +kernel
theorem dd_prog_14m3_17 : decode prog_14_method_3_code 17 = .ok (.land, 1) := by decide +kernel
theorem dd_prog_14m3_18 : decode prog_14_method_3_code 18 = .ok (.ldc2_w 25, 3) := by decide +kernel
theorem dd_prog_14m3_21 : decode prog_14_method_3_code 21 = .ok (.lor, 1) := by decide +kernel
theorem dd_prog_14m3_22 : decode prog_14_method_3_code 22 = .ok (.l2i, 1) := by decide +kernel
theorem dd_prog_14m3_23 : decode prog_14_method_3_code 23 = .ok (.i2b, 1) := by decide +kernel
theorem dd_prog_14m3_24 : decode prog_14_method_3_code 24 = .ok (.invokevirtual 27, 3) := by decide +kernel
theorem dd_prog_14m3_27 : decode prog_14_method_3_code 27 = .ok (.lload_n 3, 1) := by decide +kernel
theorem dd_prog_14m3_28 : decode prog_14_method_3_code 28 = .ok (.bipush 7, 2) := by decide +kernel
theorem dd_prog_14m3_30 : decode prog_14_method_3_code 30 = .ok (.lushr, 1) := by decide +kernel
theorem dd_prog_14m3_31 : decode prog_14_method_3_code 31 = .ok (.lstore_n 3, 1) := by decide +kernel
theorem dd_prog_14m3_32 : decode prog_14_method_3_code 32 = .ok (.goto (-30), 3) := by decide +kernel
theorem ef_own_wvl (m : MethodId) (z0 : Addr) (z1 : Int64) : entryFrame m #[(.ref z0), (.long z1)] 5 = mkF m 0 #[.val (.ref z0), .val (.long z1), .second, .unset, .unset] [] := by first | (simp [entryFrame, mkF, argsToLocals, Value.category]; done) | rfl
def Q_own_wvl (Z : State) (a : Addr) (v : Int64) (ar : Addr) (sz : Int32) (n : Nat) (t : Nat) (G : Nat → Int32) (h0 : Heap) (n0 : Nat) (zv : Option Value) (zh : Heap) (zL : List Loc) : Prop := zv = none ∧ Fr n0 zL ∧ Keep h0 zh [a, ar] ∧ Fld Z zh a "com/example/orderly_results/orderlyresults/engine/Packed$Writer" "bytes" "[B" (.ref ar) ∧ Fld Z zh a "com/example/orderly_results/orderlyresults/engine/Packed$Writer" "size" "I" (.int (Int32.ofNat (n + t + 1))) ∧ own_A Z zh ar .byte 32 (fun q => .int ((own_put G n v t) q))
set_option maxRecDepth 65536 in
set_option maxHeartbeats 40000000 in
theorem own_wvl (l : Launch) (Z : State) (a0 : Array Value) (hw : ∀ d ∈ tables_1, d.before a0 Z = true) (ws : List Jvm.Cond) (a : Addr) (v : Int64) (ar : Addr) (sz : Int32) (n : Nat) (t : Nat) (G : Nat → Int32) (h0 : Heap) (n0 : Nat) (Z0 : n0 ≤ h0.size) (p0_ : Exa Z h0 a "com/example/orderly_results/orderlyresults/engine/Packed$Writer") (p1_ : Fld Z h0 a "com/example/orderly_results/orderlyresults/engine/Packed$Writer" "bytes" "[B" (.ref ar)) (p2_ : Fld Z h0 a "com/example/orderly_results/orderlyresults/engine/Packed$Writer" "size" "I" (.int sz)) (p3_ : own_A Z h0 ar .byte 32 (fun q => .int (G q))) (p4_ : n0 ≤ a) (p5_ : n0 ≤ ar) (p6_ : a ≠ ar) (p7_ : sz.toInt = n) (p8_ : n + t + 1 ≤ 32) (p9_ : own_it t v &&& (-128 : Int64) = (0 : Int64)) (p10_ : ∀ i, i < t → ¬ (own_it i v &&& (-128 : Int64) = (0 : Int64))) :
    MetFree l (⟨"com/example/orderly_results/orderlyresults/engine/Packed$Writer", "varlong", "(J)V"⟩ : MethodName) (head1 (Jvm.Cond.code (⟨"com/example/orderly_results/orderlyresults/engine/Packed$Writer", "varlong", "(J)V"⟩ : MethodName) prog_14_method_3_code 5 none :: ws) ({ frames := 2, cells := 0, slots := 0, locals := 26 } : Room)) (fun za zU => za = #[(.ref a), (.long v)] ∧ Z.Warmed39 zU.vm ∧ zU.heap = h0) (fun _ _ _ _ _ => True) (fun _ zU zo zU' => ∃ zv zL, zo = .returned zv ∧ Q_own_wvl Z a v ar sz n t G h0 n0 zv zU'.heap zL ∧ FrameEnd zU zo zU' zL ({ frames := 2, cells := 0, slots := 0, locals := 26 } : Room).cells ({ frames := 2, cells := 0, slots := 0, locals := 26 } : Room).slots) := by
  refine own_met (y := (⟨"com/example/orderly_results/orderlyresults/engine/Packed$Writer", "varlong", "(J)V"⟩ : MethodName)) own_pn3 ?_
  intro p e s m below meth c T0 hx hby hml hown hnm hret hlk hZ e0 X0
  have N0 := Fr.nil n0
  refine own_st (fun zt zk => castTop (ef_own_wvl m a v) zk) ?_
  show own_G p e below s _ _ _ (T0.setTop (mkF m 0 #[.val (.ref a), .val (.long v), .second, .unset, .unset] []))
  refine own_st (fun zt zk => XS.lloadN X0.here hx rfl (hb hby dd_prog_14m3_0) rfl zk) ?_
  show own_G p e below s _ _ _ (T0.setTop (mkF m 1 #[.val (.ref a), .val (.long v), .second, .unset, .unset] [(.long v)]))
  refine own_st (fun zt zk => XS.lstoreN X0.here hx rfl (hb hby dd_prog_14m3_1) rfl (l' := #[.val (.ref a), .val (.long v), .second, .val (.long v), .second]) rfl zk) ?_
  show own_G p e below s _ _ _ (T0.setTop (mkF m 2 #[.val (.ref a), .val (.long v), .second, .val (.long v), .second] []))
  have hL : ∀ (fu : Nat) (i : Nat) (si : Int32) (T1 : State) (hp1 : Heap) (locs1 : List Loc) (X1 : Stand p l e ({ frames := 2, cells := 0, slots := 0, locals := 26 } : Room) s m #[(.ref a), (.long v)] below meth c T1 locs1 0 0) (e1 : T1.heap = hp1) (N1 : Fr n0 locs1) (K1 : Keep h0 hp1 [a, ar]) (B0 : Exa Z hp1 a "com/example/orderly_results/orderlyresults/engine/Packed$Writer") (B1 : Fld Z hp1 a "com/example/orderly_results/orderlyresults/engine/Packed$Writer" "bytes" "[B" (.ref ar)) (B2 : Fld Z hp1 a "com/example/orderly_results/orderlyresults/engine/Packed$Writer" "size" "I" (.int si)) (B3 : own_A Z hp1 ar .byte 32 (fun q => .int ((own_pre G n v i) q))) (hs : si.toInt = (n + i : Nat)) (hm : i + fu = t), own_G p e below s (Q_own_wvl Z a v ar sz n t G h0 n0) ({ frames := 2, cells := 0, slots := 0, locals := 26 } : Room).cells ({ frames := 2, cells := 0, slots := 0, locals := 26 } : Room).slots (T1.setTop (mkF m 2 #[.val (.ref a), .val (.long v), .second, .val (.long (own_it i v)), .second] [])) := by
    intro fu
    induction fu with
    | zero =>
      intro i si T1 hp1 locs1 X1 e1 N1 K1 B0 B1 B2 B3 hs hm
      have hit : i = t := by omega
      show own_G p e below s _ _ _ (T1.setTop (mkF m 2 #[.val (.ref a), .val (.long v), .second, .val (.long (own_it i v)), .second] []))
      refine own_st (fun zt zk => XS.lloadN X1.here hx rfl (hb hby dd_prog_14m3_2) rfl zk) ?_
      show own_G p e below s _ _ _ (T1.setTop (mkF m 3 #[.val (.ref a), .val (.long v), .second, .val (.long (own_it i v)), .second] [(.long (own_it i v))]))
      refine own_st (X1.ldc2Long hx hown (mvT hZ (hw _ (List.mem_of_getElem? (i := 17) rfl))) (g := (mkF m 3 #[.val (.ref a), .val (.long v), .second, .val (.long (own_it i v)), .second] [(.long (own_it i v))])) rfl (hb hby dd_prog_14m3_3)) ?_
      show own_G p e below s _ _ _ (T1.setTop (mkF m 6 #[.val (.ref a), .val (.long v), .second, .val (.long (own_it i v)), .second] [(.long (-128 : Int64)), (.long (own_it i v))]))
      refine own_st (fun zt zk => XS.land X1.here hx rfl (hb hby dd_prog_14m3_6) rfl zk) ?_
      show own_G p e below s _ _ _ (T1.setTop (mkF m 7 #[.val (.ref a), .val (.long v), .second, .val (.long (own_it i v)), .second] [(.long ((own_it i v) &&& (-128 : Int64)))]))
      refine own_st (fun zt zk => XS.lconst X1.here hx rfl (hb hby dd_prog_14m3_7) zk) ?_
      show own_G p e below s _ _ _ (T1.setTop (mkF m 8 #[.val (.ref a), .val (.long v), .second, .val (.long (own_it i v)), .second] [(.long (0 : Int64)), (.long ((own_it i v) &&& (-128 : Int64)))]))
      refine own_st (fun zt zk => XS.lcmp X1.here hx rfl (hb hby dd_prog_14m3_8) rfl zk) ?_
      show own_G p e below s _ _ _ (T1.setTop (mkF m 9 #[.val (.ref a), .val (.long v), .second, .val (.long (own_it i v)), .second] [(.int (lcmpW ((own_it i v) &&& (-128 : Int64)) (0 : Int64)))]))
      have hc9_1 : ((own_it i v) &&& (-128 : Int64)) = (0 : Int64) := by rw [hit]; exact p9_
      refine own_st (fun zt zk => XS.ifYes X1.here hx rfl (pc0 := 9) (pc' := 35) rfl (hb hby dd_prog_14m3_9) rfl ((if0 _ _).trans (teq ((lw_eq ((own_it i v) &&& (-128 : Int64)) (0 : Int64)).mpr hc9_1)).1) (by decide) (by decide) zk) ?_
      show own_G p e below s _ _ _ (T1.setTop (mkF m 35 #[.val (.ref a), .val (.long v), .second, .val (.long (own_it i v)), .second] []))
      refine own_st (fun zt zk => XS.aloadN X1.here hx rfl (hb hby dd_prog_14m3_35) rfl rfl zk) ?_
      show own_G p e below s _ _ _ (T1.setTop (mkF m 36 #[.val (.ref a), .val (.long v), .second, .val (.long (own_it i v)), .second] [(.ref a)]))
      refine own_st (fun zt zk => XS.lloadN X1.here hx rfl (hb hby dd_prog_14m3_36) rfl zk) ?_
      show own_G p e below s _ _ _ (T1.setTop (mkF m 37 #[.val (.ref a), .val (.long v), .second, .val (.long (own_it i v)), .second] [(.long (own_it i v)), (.ref a)]))
      refine own_st (fun zt zk => XS.l2i X1.here hx rfl (hb hby dd_prog_14m3_37) rfl zk) ?_
      show own_G p e below s _ _ _ (T1.setTop (mkF m 38 #[.val (.ref a), .val (.long v), .second, .val (.long (own_it i v)), .second] [(.int (own_it i v).toInt32), (.ref a)]))
      refine own_st (fun zt zk => XS.i2b X1.here hx rfl (hb hby dd_prog_14m3_38) rfl zk) ?_
      show own_G p e below s _ _ _ (T1.setTop (mkF m 39 #[.val (.ref a), .val (.long v), .second, .val (.long (own_it i v)), .second] [(.int ((own_it i v).toInt32).toInt8.toInt32), (.ref a)]))
      obtain ⟨_, T2, L2, X2, hQ2, st2⟩ := own_callP X1 hx hZ (y := (⟨"com/example/orderly_results/orderlyresults/engine/Packed$Writer", "write", "(B)V"⟩ : MethodName)) (y0 := (⟨"com/example/orderly_results/orderlyresults/engine/Packed$Writer", "varlong", "(J)V"⟩ : MethodName)) (a := a) (argsL := [(.int ((own_it i v).toInt32).toInt8.toInt32)]) (rest := []) 0 hown (hw _ (List.mem_of_getElem? (i := 18) rfl)) (hw _ (List.mem_of_getElem? (i := 15) rfl)) rfl (hw _ (List.mem_of_getElem? (i := 20) rfl)) (hw _ (List.mem_of_getElem? (i := 19) rfl)) (hw _ (List.mem_of_getElem? (i := 2) rfl)) (hw _ (List.mem_of_getElem? (i := 21) rfl)) (by decide) (own_wrt l Z a0 hw [] a (((own_it i v).toInt32).toInt8.toInt32) ar si (n + i) (own_pre G n v i) hp1 n0 (Nat.le_trans Z0 K1.1) B0 B1 B2 B3 p4_ p5_ p6_ hs (by omega) (own_i8 _)) (by decide) (by decide) e1 B0 (g := (mkF m 39 #[.val (.ref a), .val (.long v), .second, .val (.long (own_it i v)), .second] [(.int ((own_it i v).toInt32).toInt8.toInt32), (.ref a)])) rfl (by rw [hml]; rfl) own_pd1 rfl rfl (by show 2 * 0 + _ ≤ _; exact Nat.le_of_eq rfl) (hb hby dd_prog_14m3_39) (by decide) (by decide)
      obtain ⟨rfl, N2q, K2, q2_0, q2_1, q2_2⟩ := hQ2
      have N2 := Fr.app N1 N2q
      refine own_st st2 ?_
      show own_G p e below s _ _ _ (T2.setTop (mkF m 42 #[.val (.ref a), .val (.long v), .second, .val (.long (own_it i v)), .second] []))
      refine own_retV X2 hx hlk hret (hb hby dd_prog_14m3_42) (by decide) (by decide) ?_
      show Q_own_wvl Z a v ar sz n t G h0 n0 none T2.heap _
      exact ⟨rfl, N2, (K1.trans K2 (allS (Or.inl (List.mem_of_getElem? (i := 0) rfl)) (allS (Or.inl (List.mem_of_getElem? (i := 1) rfl)) all0))), q2_0, (by rw [← own_ofN (show (si + (1 : Int32)).toInt = (n + t + 1 : Nat) by rw [own_inc hs (by omega), hit])]; exact q2_1), (q2_2.congr (fun q _ => by rw [hit]; rfl))⟩
    | succ fu ih =>
      intro i si T1 hp1 locs1 X1 e1 N1 K1 B0 B1 B2 B3 hs hm
      show own_G p e below s _ _ _ (T1.setTop (mkF m 2 #[.val (.ref a), .val (.long v), .second, .val (.long (own_it i v)), .second] []))
      refine own_st (fun zt zk => XS.lloadN X1.here hx rfl (hb hby dd_prog_14m3_2) rfl zk) ?_
      show own_G p e below s _ _ _ (T1.setTop (mkF m 3 #[.val (.ref a), .val (.long v), .second, .val (.long (own_it i v)), .second] [(.long (own_it i v))]))
      refine own_st (X1.ldc2Long hx hown (mvT hZ (hw _ (List.mem_of_getElem? (i := 17) rfl))) (g := (mkF m 3 #[.val (.ref a), .val (.long v), .second, .val (.long (own_it i v)), .second] [(.long (own_it i v))])) rfl (hb hby dd_prog_14m3_3)) ?_
      show own_G p e below s _ _ _ (T1.setTop (mkF m 6 #[.val (.ref a), .val (.long v), .second, .val (.long (own_it i v)), .second] [(.long (-128 : Int64)), (.long (own_it i v))]))
      refine own_st (fun zt zk => XS.land X1.here hx rfl (hb hby dd_prog_14m3_6) rfl zk) ?_
      show own_G p e below s _ _ _ (T1.setTop (mkF m 7 #[.val (.ref a), .val (.long v), .second, .val (.long (own_it i v)), .second] [(.long ((own_it i v) &&& (-128 : Int64)))]))
      refine own_st (fun zt zk => XS.lconst X1.here hx rfl (hb hby dd_prog_14m3_7) zk) ?_
      show own_G p e below s _ _ _ (T1.setTop (mkF m 8 #[.val (.ref a), .val (.long v), .second, .val (.long (own_it i v)), .second] [(.long (0 : Int64)), (.long ((own_it i v) &&& (-128 : Int64)))]))
      refine own_st (fun zt zk => XS.lcmp X1.here hx rfl (hb hby dd_prog_14m3_8) rfl zk) ?_
      show own_G p e below s _ _ _ (T1.setTop (mkF m 9 #[.val (.ref a), .val (.long v), .second, .val (.long (own_it i v)), .second] [(.int (lcmpW ((own_it i v) &&& (-128 : Int64)) (0 : Int64)))]))
      have hc9_3 : ¬ (((own_it i v) &&& (-128 : Int64)) = (0 : Int64)) := p10_ i (by omega)
      refine own_st (fun zt zk => XS.ifNo X1.here hx rfl (hb hby dd_prog_14m3_9) rfl ((if0 _ _).trans (feq (mt (lw_eq ((own_it i v) &&& (-128 : Int64)) (0 : Int64)).mp hc9_3)).1) zk) ?_
      show own_G p e below s _ _ _ (T1.setTop (mkF m 12 #[.val (.ref a), .val (.long v), .second, .val (.long (own_it i v)), .second] []))
      refine own_st (fun zt zk => XS.aloadN X1.here hx rfl (hb hby dd_prog_14m3_12) rfl rfl zk) ?_
      show own_G p e below s _ _ _ (T1.setTop (mkF m 13 #[.val (.ref a), .val (.long v), .second, .val (.long (own_it i v)), .second] [(.ref a)]))
      refine own_st (fun zt zk => XS.lloadN X1.here hx rfl (hb hby dd_prog_14m3_13) rfl zk) ?_
      show own_G p e below s _ _ _ (T1.setTop (mkF m 14 #[.val (.ref a), .val (.long v), .second, .val (.long (own_it i v)), .second] [(.long (own_it i v)), (.ref a)]))
      refine own_st (X1.ldc2Long hx hown (mvT hZ (hw _ (List.mem_of_getElem? (i := 28) rfl))) (g := (mkF m 14 #[.val (.ref a), .val (.long v), .second, .val (.long (own_it i v)), .second] [(.long (own_it i v)), (.ref a)])) rfl (hb hby dd_prog_14m3_14)) ?_
      show own_G p e below s _ _ _ (T1.setTop (mkF m 17 #[.val (.ref a), .val (.long v), .second, .val (.long (own_it i v)), .second] [(.long (127 : Int64)), (.long (own_it i v)), (.ref a)]))
      refine own_st (fun zt zk => XS.land X1.here hx rfl (hb hby dd_prog_14m3_17) rfl zk) ?_
      show own_G p e below s _ _ _ (T1.setTop (mkF m 18 #[.val (.ref a), .val (.long v), .second, .val (.long (own_it i v)), .second] [(.long ((own_it i v) &&& (127 : Int64))), (.ref a)]))
      refine own_st (X1.ldc2Long hx hown (mvT hZ (hw _ (List.mem_of_getElem? (i := 29) rfl))) (g := (mkF m 18 #[.val (.ref a), .val (.long v), .second, .val (.long (own_it i v)), .second] [(.long ((own_it i v) &&& (127 : Int64))), (.ref a)])) rfl (hb hby dd_prog_14m3_18)) ?_
      show own_G p e below s _ _ _ (T1.setTop (mkF m 21 #[.val (.ref a), .val (.long v), .second, .val (.long (own_it i v)), .second] [(.long (128 : Int64)), (.long ((own_it i v) &&& (127 : Int64))), (.ref a)]))
      refine own_st (fun zt zk => XS.lor X1.here hx rfl (hb hby dd_prog_14m3_21) rfl zk) ?_
      show own_G p e below s _ _ _ (T1.setTop (mkF m 22 #[.val (.ref a), .val (.long v), .second, .val (.long (own_it i v)), .second] [(.long (((own_it i v) &&& (127 : Int64)) ||| (128 : Int64))), (.ref a)]))
      refine own_st (fun zt zk => XS.l2i X1.here hx rfl (hb hby dd_prog_14m3_22) rfl zk) ?_
      show own_G p e below s _ _ _ (T1.setTop (mkF m 23 #[.val (.ref a), .val (.long v), .second, .val (.long (own_it i v)), .second] [(.int (((own_it i v) &&& (127 : Int64)) ||| (128 : Int64)).toInt32), (.ref a)]))
      refine own_st (fun zt zk => XS.i2b X1.here hx rfl (hb hby dd_prog_14m3_23) rfl zk) ?_
      show own_G p e below s _ _ _ (T1.setTop (mkF m 24 #[.val (.ref a), .val (.long v), .second, .val (.long (own_it i v)), .second] [(.int ((((own_it i v) &&& (127 : Int64)) ||| (128 : Int64)).toInt32).toInt8.toInt32), (.ref a)]))
      obtain ⟨_, T4, L4, X4, hQ4, st4⟩ := own_callP X1 hx hZ (y := (⟨"com/example/orderly_results/orderlyresults/engine/Packed$Writer", "write", "(B)V"⟩ : MethodName)) (y0 := (⟨"com/example/orderly_results/orderlyresults/engine/Packed$Writer", "varlong", "(J)V"⟩ : MethodName)) (a := a) (argsL := [(.int ((((own_it i v) &&& (127 : Int64)) ||| (128 : Int64)).toInt32).toInt8.toInt32)]) (rest := []) 0 hown (hw _ (List.mem_of_getElem? (i := 18) rfl)) (hw _ (List.mem_of_getElem? (i := 15) rfl)) rfl (hw _ (List.mem_of_getElem? (i := 20) rfl)) (hw _ (List.mem_of_getElem? (i := 19) rfl)) (hw _ (List.mem_of_getElem? (i := 2) rfl)) (hw _ (List.mem_of_getElem? (i := 21) rfl)) (by decide) (own_wrt l Z a0 hw [] a (((((own_it i v) &&& (127 : Int64)) ||| (128 : Int64)).toInt32).toInt8.toInt32) ar si (n + i) (own_pre G n v i) hp1 n0 (Nat.le_trans Z0 K1.1) B0 B1 B2 B3 p4_ p5_ p6_ hs (by omega) (own_i8 _)) (by decide) (by decide) e1 B0 (g := (mkF m 24 #[.val (.ref a), .val (.long v), .second, .val (.long (own_it i v)), .second] [(.int ((((own_it i v) &&& (127 : Int64)) ||| (128 : Int64)).toInt32).toInt8.toInt32), (.ref a)])) rfl (by rw [hml]; rfl) own_pd1 rfl rfl (by show 2 * 0 + _ ≤ _; exact Nat.le_of_eq rfl) (hb hby dd_prog_14m3_24) (by decide) (by decide)
      obtain ⟨rfl, N4q, K4, q4_0, q4_1, q4_2⟩ := hQ4
      have N4 := Fr.app N1 N4q
      refine own_st st4 ?_
      show own_G p e below s _ _ _ (T4.setTop (mkF m 27 #[.val (.ref a), .val (.long v), .second, .val (.long (own_it i v)), .second] []))
      refine own_st (fun zt zk => XS.lloadN X4.here hx rfl (hb hby dd_prog_14m3_27) rfl zk) ?_
      show own_G p e below s _ _ _ (T4.setTop (mkF m 28 #[.val (.ref a), .val (.long v), .second, .val (.long (own_it i v)), .second] [(.long (own_it i v))]))
      refine own_st (fun zt zk => XS.bipush X4.here hx rfl (hb hby dd_prog_14m3_28) zk) ?_
      show own_G p e below s _ _ _ (T4.setTop (mkF m 30 #[.val (.ref a), .val (.long v), .second, .val (.long (own_it i v)), .second] [(.int (7 : Int32)), (.long (own_it i v))]))
      refine own_st (fun zt zk => XS.lushr X4.here hx rfl (hb hby dd_prog_14m3_30) rfl zk) ?_
      show own_G p e below s _ _ _ (T4.setTop (mkF m 31 #[.val (.ref a), .val (.long v), .second, .val (.long (own_it i v)), .second] [(.long (((own_it i v).toUInt64 >>> ((7 : Int32) &&& 0x3f).toInt64.toUInt64).toInt64))]))
      refine own_st (fun zt zk => XS.lstoreN X4.here hx rfl (hb hby dd_prog_14m3_31) rfl (l' := #[.val (.ref a), .val (.long v), .second, .val (.long (((own_it i v).toUInt64 >>> ((7 : Int32) &&& 0x3f).toInt64.toUInt64).toInt64)), .second]) rfl zk) ?_
      show own_G p e below s _ _ _ (T4.setTop (mkF m 32 #[.val (.ref a), .val (.long v), .second, .val (.long (((own_it i v).toUInt64 >>> ((7 : Int32) &&& 0x3f).toInt64.toUInt64).toInt64)), .second] []))
      refine own_st (fun zt zk => XS.goto X4.here hx rfl (pc0 := 32) (pc' := 2) rfl (hb hby dd_prog_14m3_32) (by decide) (by decide) zk) ?_
      show own_G p e below s _ _ _ (T4.setTop (mkF m 2 #[.val (.ref a), .val (.long v), .second, .val (.long (((own_it i v).toUInt64 >>> ((7 : Int32) &&& 0x3f).toInt64.toUInt64).toInt64)), .second] []))
      have E5 : Exa Z T4.heap a "com/example/orderly_results/orderlyresults/engine/Packed$Writer" := (B0.keep K4)
      exact ih (i + 1) (si + (1 : Int32)) T4 T4.heap _ X4 rfl N4 (K1.trans K4 (allS (Or.inl (List.mem_of_getElem? (i := 0) rfl)) (allS (Or.inl (List.mem_of_getElem? (i := 1) rfl)) all0))) E5 q4_0 q4_1 (q4_2.congr (fun q _ => congrArg Value.int (own_pre_step G n v i q))) (own_inc (k := n + i) hs (by omega)) (by omega)
  exact hL t 0 sz T0 h0 _ X0 e0 N0 (Keep.refl _ _) p0_ p1_ p2_ (p3_.congr (fun q _ => by unfold own_pre; rw [if_neg (by omega)])) (by rw [p7_]; rfl) (by omega)
theorem own_pn4 : plainFor (⟨"com/example/orderly_results/orderlyresults/engine/Packed$Writer", "varint", "(I)V"⟩ : MethodName) = true := plainFor_of_name (by first | (simp [plainName, overriddenIn]; done) | decide +kernel)
theorem dd_prog_14m2_0 : decode prog_14_method_2_code 0 = .ok (.aload_n 0, 1) := by decide +kernel
theorem dd_prog_14m2_1 : decode prog_14_method_2_code 1 = .ok (.iload_n 1, 1) := by decide +kernel
theorem dd_prog_14m2_2 : decode prog_14_method_2_code 2 = .ok (.i2l, 1) := by decide +kernel
theorem dd_prog_14m2_3 : decode prog_14_method_2_code 3 = .ok (.ldc2_w 15, 3) := by decide +kernel
theorem dd_prog_14m2_6 : decode prog_14_method_2_code 6 = .ok (.land, 1) := by decide +kernel
theorem dd_prog_14m2_7 : decode prog_14_method_2_code 7 = .ok (.invokevirtual 17, 3) := by decide +kernel
theorem own_pd2 : parseMethodDescriptor "(J)V" = some ⟨[.long], none⟩ := by decide +kernel
theorem dd_prog_14m2_10 : decode prog_14_method_2_code 10 = .ok (.return_, 1) := by decide +kernel
theorem ef_own_wvi (m : MethodId) (z0 : Addr) (z1 : Int32) : entryFrame m #[(.ref z0), (.int z1)] 2 = mkF m 0 #[.val (.ref z0), .val (.int z1)] [] := by first | (simp [entryFrame, mkF, argsToLocals, Value.category]; done) | rfl
def Q_own_wvi (Z : State) (a : Addr) (x : Int32) (ar : Addr) (sz : Int32) (n : Nat) (t : Nat) (G : Nat → Int32) (h0 : Heap) (n0 : Nat) (zv : Option Value) (zh : Heap) (zL : List Loc) : Prop := zv = none ∧ Fr n0 zL ∧ Keep h0 zh [a, ar] ∧ Fld Z zh a "com/example/orderly_results/orderlyresults/engine/Packed$Writer" "bytes" "[B" (.ref ar) ∧ Fld Z zh a "com/example/orderly_results/orderlyresults/engine/Packed$Writer" "size" "I" (.int (Int32.ofNat (n + t + 1))) ∧ own_A Z zh ar .byte 32 (fun q => .int ((own_put G n (x.toInt64 &&& (4294967295 : Int64)) t) q))
set_option maxRecDepth 65536 in
set_option maxHeartbeats 40000000 in
theorem own_wvi (l : Launch) (Z : State) (a0 : Array Value) (hw : ∀ d ∈ tables_1, d.before a0 Z = true) (ws : List Jvm.Cond) (a : Addr) (x : Int32) (ar : Addr) (sz : Int32) (n : Nat) (t : Nat) (G : Nat → Int32) (h0 : Heap) (n0 : Nat) (Z0 : n0 ≤ h0.size) (p0_ : Exa Z h0 a "com/example/orderly_results/orderlyresults/engine/Packed$Writer") (p1_ : Fld Z h0 a "com/example/orderly_results/orderlyresults/engine/Packed$Writer" "bytes" "[B" (.ref ar)) (p2_ : Fld Z h0 a "com/example/orderly_results/orderlyresults/engine/Packed$Writer" "size" "I" (.int sz)) (p3_ : own_A Z h0 ar .byte 32 (fun q => .int (G q))) (p4_ : n0 ≤ a) (p5_ : n0 ≤ ar) (p6_ : a ≠ ar) (p7_ : sz.toInt = n) (p8_ : n + t + 1 ≤ 32) (p9_ : own_it t (x.toInt64 &&& (4294967295 : Int64)) &&& (-128 : Int64) = (0 : Int64)) (p10_ : ∀ i, i < t → ¬ (own_it i (x.toInt64 &&& (4294967295 : Int64)) &&& (-128 : Int64) = (0 : Int64))) :
    MetFree l (⟨"com/example/orderly_results/orderlyresults/engine/Packed$Writer", "varint", "(I)V"⟩ : MethodName) (head1 (Jvm.Cond.code (⟨"com/example/orderly_results/orderlyresults/engine/Packed$Writer", "varint", "(I)V"⟩ : MethodName) prog_14_method_2_code 2 none :: ws) ({ frames := 3, cells := 0, slots := 0, locals := 42 } : Room)) (fun za zU => za = #[(.ref a), (.int x)] ∧ Z.Warmed39 zU.vm ∧ zU.heap = h0) (fun _ _ _ _ _ => True) (fun _ zU zo zU' => ∃ zv zL, zo = .returned zv ∧ Q_own_wvi Z a x ar sz n t G h0 n0 zv zU'.heap zL ∧ FrameEnd zU zo zU' zL ({ frames := 3, cells := 0, slots := 0, locals := 42 } : Room).cells ({ frames := 3, cells := 0, slots := 0, locals := 42 } : Room).slots) := by
  refine own_met (y := (⟨"com/example/orderly_results/orderlyresults/engine/Packed$Writer", "varint", "(I)V"⟩ : MethodName)) own_pn4 ?_
  intro p e s m below meth c T0 hx hby hml hown hnm hret hlk hZ e0 X0
  have N0 := Fr.nil n0
  refine own_st (fun zt zk => castTop (ef_own_wvi m a x) zk) ?_
  show own_G p e below s _ _ _ (T0.setTop (mkF m 0 #[.val (.ref a), .val (.int x)] []))
  refine own_st (fun zt zk => XS.aloadN X0.here hx rfl (hb hby dd_prog_14m2_0) rfl rfl zk) ?_
  show own_G p e below s _ _ _ (T0.setTop (mkF m 1 #[.val (.ref a), .val (.int x)] [(.ref a)]))
  refine own_st (fun zt zk => XS.iloadN X0.here hx rfl (hb hby dd_prog_14m2_1) rfl zk) ?_
  show own_G p e below s _ _ _ (T0.setTop (mkF m 2 #[.val (.ref a), .val (.int x)] [(.int x), (.ref a)]))
  refine own_st (fun zt zk => XS.i2l X0.here hx rfl (hb hby dd_prog_14m2_2) rfl zk) ?_
  show own_G p e below s _ _ _ (T0.setTop (mkF m 3 #[.val (.ref a), .val (.int x)] [(.long x.toInt64), (.ref a)]))
  refine own_st (X0.ldc2Long hx hown (mvT hZ (hw _ (List.mem_of_getElem? (i := 42) rfl))) (g := (mkF m 3 #[.val (.ref a), .val (.int x)] [(.long x.toInt64), (.ref a)])) rfl (hb hby dd_prog_14m2_3)) ?_
  show own_G p e below s _ _ _ (T0.setTop (mkF m 6 #[.val (.ref a), .val (.int x)] [(.long (4294967295 : Int64)), (.long x.toInt64), (.ref a)]))
  refine own_st (fun zt zk => XS.land X0.here hx rfl (hb hby dd_prog_14m2_6) rfl zk) ?_
  show own_G p e below s _ _ _ (T0.setTop (mkF m 7 #[.val (.ref a), .val (.int x)] [(.long (x.toInt64 &&& (4294967295 : Int64))), (.ref a)]))
  obtain ⟨_, T1, L1, X1, hQ1, st1⟩ := own_callV X0 hx hZ (C := "com/example/orderly_results/orderlyresults/engine/Packed$Writer") (y := (⟨"com/example/orderly_results/orderlyresults/engine/Packed$Writer", "varlong", "(J)V"⟩ : MethodName)) (z := (⟨"com/example/orderly_results/orderlyresults/engine/Packed$Writer", "varlong", "(J)V"⟩ : MethodName)) (a := a) (argsL := [(.long (x.toInt64 &&& (4294967295 : Int64)))]) (rest := []) 0 hown (hw _ (List.mem_of_getElem? (i := 43) rfl)) (hw _ (List.mem_of_getElem? (i := 13) rfl)) (own_nf hZ (hw _ (List.mem_of_getElem? (i := 15) rfl))) (hw _ (List.mem_of_getElem? (i := 15) rfl)) (hw _ (List.mem_of_getElem? (i := 14) rfl)) (hw _ (List.mem_of_getElem? (i := 2) rfl)) (hw _ (List.mem_of_getElem? (i := 16) rfl)) (by decide) (own_wvl l Z a0 hw [] a (x.toInt64 &&& (4294967295 : Int64)) ar sz n t G h0 n0 Z0 p0_ p1_ p2_ p3_ p4_ p5_ p6_ p7_ p8_ p9_ p10_) (by decide) (by decide) e0 p0_ (g := (mkF m 7 #[.val (.ref a), .val (.int x)] [(.long (x.toInt64 &&& (4294967295 : Int64))), (.ref a)])) rfl (by rw [hml]; rfl) own_pd2 rfl rfl (by show 2 * 0 + _ ≤ _; exact Nat.le_of_eq rfl) (hb hby dd_prog_14m2_7) (by decide) (by decide)
  obtain ⟨rfl, N1q, K1, q1_0, q1_1, q1_2⟩ := hQ1
  have N1 := Fr.app N0 N1q
  refine own_st st1 ?_
  show own_G p e below s _ _ _ (T1.setTop (mkF m 10 #[.val (.ref a), .val (.int x)] []))
  refine own_retV X1 hx hlk hret (hb hby dd_prog_14m2_10) (by decide) (by decide) ?_
  show Q_own_wvi Z a x ar sz n t G h0 n0 none T1.heap _
  exact ⟨rfl, N1, ((Keep.refl _ _).trans K1 (allS (Or.inl (List.mem_of_getElem? (i := 0) rfl)) (allS (Or.inl (List.mem_of_getElem? (i := 1) rfl)) all0))), q1_0, q1_1, q1_2⟩
theorem own_pn5 : plainFor (⟨"java/lang/Math", "min", "(II)I"⟩ : MethodName) = true := Jvm.Free.JP.mathPlain rfl (by decide +kernel)
theorem dd_jdk_29m69_0 : decode jdk_29_method_69_code 0 = .ok (.iload_n 0, 1) := by decide +kernel
theorem dd_jdk_29m69_1 : decode jdk_29_method_69_code 1 = .ok (.iload_n 1, 1) := by decide +kernel
theorem dd_jdk_29m69_2 : decode jdk_29_method_69_code 2 = .ok (.if_icmp .gt 7, 3) := by decide +kernel
theorem dd_jdk_29m69_9 : decode jdk_29_method_69_code 9 = .ok (.iload_n 1, 1) := by decide +kernel
theorem dd_jdk_29m69_10 : decode jdk_29_method_69_code 10 = .ok (.ireturn, 1) := by decide +kernel
theorem dd_jdk_29m69_5 : decode jdk_29_method_69_code 5 = .ok (.iload_n 0, 1) := by decide +kernel
theorem dd_jdk_29m69_6 : decode jdk_29_method_69_code 6 = .ok (.goto 4, 3) := by decide +kernel
theorem ef_own_cmin (m : MethodId) (z0 : Int32) (z1 : Int32) : entryFrame m #[(.int z0), (.int z1)] 2 = mkF m 0 #[.val (.int z0), .val (.int z1)] [] := by first | (simp [entryFrame, mkF, argsToLocals, Value.category]; done) | rfl
def Q_own_cmin (Z : State) (x : Int32) (y : Int32) (h0 : Heap) (n0 : Nat) (zv : Option Value) (zh : Heap) (zL : List Loc) : Prop := zv = some (.int (own_mini x y)) ∧ Fr n0 zL ∧ zh = h0
set_option maxRecDepth 65536 in
set_option maxHeartbeats 40000000 in
theorem own_cmin (l : Launch) (Z : State) (a0 : Array Value) (hw : ∀ d ∈ tables_1, d.before a0 Z = true) (ws : List Jvm.Cond) (x : Int32) (y : Int32) (h0 : Heap) (n0 : Nat) (Z0 : n0 ≤ h0.size)  :
    MetFree l (⟨"java/lang/Math", "min", "(II)I"⟩ : MethodName) (head1 (Jvm.Cond.code (⟨"java/lang/Math", "min", "(II)I"⟩ : MethodName) jdk_29_method_69_code 2 (some .int) :: ws) ({ frames := 0, cells := 0, slots := 0, locals := 0 } : Room)) (fun za zU => za = #[(.int x), (.int y)] ∧ Z.Warmed39 zU.vm ∧ zU.heap = h0) (fun _ _ _ _ _ => True) (fun _ zU zo zU' => ∃ zv zL, zo = .returned zv ∧ Q_own_cmin Z x y h0 n0 zv zU'.heap zL ∧ FrameEnd zU zo zU' zL ({ frames := 0, cells := 0, slots := 0, locals := 0 } : Room).cells ({ frames := 0, cells := 0, slots := 0, locals := 0 } : Room).slots) := by
  refine own_met (y := (⟨"java/lang/Math", "min", "(II)I"⟩ : MethodName)) own_pn5 ?_
  intro p e s m below meth c T0 hx hby hml hown hnm hret hlk hZ e0 X0
  have N0 := Fr.nil n0
  refine own_st (fun zt zk => castTop (ef_own_cmin m x y) zk) ?_
  show own_G p e below s _ _ _ (T0.setTop (mkF m 0 #[.val (.int x), .val (.int y)] []))
  refine own_st (fun zt zk => XS.iloadN X0.here hx rfl (hb hby dd_jdk_29m69_0) rfl zk) ?_
  show own_G p e below s _ _ _ (T0.setTop (mkF m 1 #[.val (.int x), .val (.int y)] [(.int x)]))
  refine own_st (fun zt zk => XS.iloadN X0.here hx rfl (hb hby dd_jdk_29m69_1) rfl zk) ?_
  show own_G p e below s _ _ _ (T0.setTop (mkF m 2 #[.val (.int x), .val (.int y)] [(.int y), (.int x)]))
  by_cases hc2_1 : y < x
  · refine own_st (fun zt zk => XS.icmpYes X0.here hx rfl (pc0 := 2) (pc' := 9) rfl (hb hby dd_jdk_29m69_2) rfl (tlt hc2_1).2.2.1 (by decide) (by decide) zk) ?_
    show own_G p e below s _ _ _ (T0.setTop (mkF m 9 #[.val (.int x), .val (.int y)] []))
    refine own_st (fun zt zk => XS.iloadN X0.here hx rfl (hb hby dd_jdk_29m69_9) rfl zk) ?_
    show own_G p e below s _ _ _ (T0.setTop (mkF m 10 #[.val (.int x), .val (.int y)] [(.int y)]))
    refine own_retI X0 hx hlk hret (hb hby dd_jdk_29m69_10) (by decide) (by decide) ?_
    show Q_own_cmin Z x y h0 n0 (some (.int y)) T0.heap _
    rw [e0]
    exact ⟨(by simp [own_mini, hc2_1]), N0, rfl⟩
  · refine own_st (fun zt zk => XS.icmpNo X0.here hx rfl (hb hby dd_jdk_29m69_2) rfl (flt hc2_1).2.2.1 zk) ?_
    show own_G p e below s _ _ _ (T0.setTop (mkF m 5 #[.val (.int x), .val (.int y)] []))
    refine own_st (fun zt zk => XS.iloadN X0.here hx rfl (hb hby dd_jdk_29m69_5) rfl zk) ?_
    show own_G p e below s _ _ _ (T0.setTop (mkF m 6 #[.val (.int x), .val (.int y)] [(.int x)]))
    refine own_st (fun zt zk => XS.goto X0.here hx rfl (pc0 := 6) (pc' := 10) rfl (hb hby dd_jdk_29m69_6) (by decide) (by decide) zk) ?_
    show own_G p e below s _ _ _ (T0.setTop (mkF m 10 #[.val (.int x), .val (.int y)] [(.int x)]))
    refine own_retI X0 hx hlk hret (hb hby dd_jdk_29m69_10) (by decide) (by decide) ?_
    show Q_own_cmin Z x y h0 n0 (some (.int x)) T0.heap _
    rw [e0]
    exact ⟨(by simp [own_mini, hc2_1]), N0, rfl⟩
theorem own_pn6 : plainFor (⟨"java/util/Arrays", "copyOf", "([BI)[B"⟩ : MethodName) = true := plainFor_of_name (by first | (simp [plainName, overriddenIn]; done) | decide +kernel)
theorem dd_jdk_65m121_0 : decode jdk_65_method_121_code 0 = .ok (.iload_n 1, 1) := by decide +kernel
theorem dd_jdk_65m121_1 : decode jdk_65_method_121_code 1 = .ok (.aload_n 0, 1) := by decide +kernel
theorem dd_jdk_65m121_2 : decode jdk_65_method_121_code 2 = .ok (.arraylength, 1) := by decide +kernel
theorem dd_jdk_65m121_3 : decode jdk_65_method_121_code 3 = .ok (.if_icmp .ne 11, 3) := by decide +kernel
theorem dd_jdk_65m121_14 : decode jdk_65_method_121_code 14 = .ok (.iload_n 1, 1) := by decide +kernel
theorem dd_jdk_65m121_15 : decode jdk_65_method_121_code 15 = .ok (.newarray .byte, 2) := by decide +kernel
theorem dd_jdk_65m121_17 : decode jdk_65_method_121_code 17 = .ok (.astore_n 2, 1) := by decide +kernel
theorem dd_jdk_65m121_18 : decode jdk_65_method_121_code 18 = .ok (.aload_n 0, 1) := by decide +kernel
theorem dd_jdk_65m121_19 : decode jdk_65_method_121_code 19 = .ok (.iconst 0, 1) := by decide +kernel
theorem dd_jdk_65m121_20 : decode jdk_65_method_121_code 20 = .ok (.aload_n 2, 1) := by decide +kernel
theorem dd_jdk_65m121_21 : decode jdk_65_method_121_code 21 = .ok (.iconst 0, 1) := by decide +kernel
theorem dd_jdk_65m121_22 : decode jdk_65_method_121_code 22 = .ok (.aload_n 0, 1) := by decide +kernel
theorem dd_jdk_65m121_23 : decode jdk_65_method_121_code 23 = .ok (.arraylength, 1) := by decide +kernel
theorem dd_jdk_65m121_24 : decode jdk_65_method_121_code 24 = .ok (.iload_n 1, 1) := by decide +kernel
theorem dd_jdk_65m121_25 : decode jdk_65_method_121_code 25 = .ok (.invokestatic 304, 3) := by decide +kernel
theorem own_pd3 : parseMethodDescriptor "(II)I" = some ⟨[.int, .int], some .int⟩ := by decide +kernel
theorem dd_jdk_65m121_28 : decode jdk_65_method_121_code 28 = .ok (.invokestatic 150, 3) := by decide +kernel
theorem dd_jdk_65m121_31 : decode jdk_65_method_121_code 31 = .ok (.aload_n 2, 1) := by decide +kernel
theorem dd_jdk_65m121_32 : decode jdk_65_method_121_code 32 = .ok (.areturn, 1) := by decide +kernel
theorem ef_own_cof (m : MethodId) (z0 : Addr) (z1 : Int32) : entryFrame m #[(.ref z0), (.int z1)] 3 = mkF m 0 #[.val (.ref z0), .val (.int z1), .unset] [] := by first | (simp [entryFrame, mkF, argsToLocals, Value.category]; done) | rfl
def Q_own_cof (Z : State) (a : Addr) (z : Int32) (zl : Int32) (n : Nat) (n' : Nat) (G : Nat → Int32) (h0 : Heap) (n0 : Nat) (zv : Option Value) (zh : Heap) (zL : List Loc) : Prop := ∃ nb : Addr, zv = some (.ref nb) ∧ Fr n0 zL ∧ Keep h0 zh [] ∧ h0.size ≤ nb ∧ own_A Z zh nb .byte n' (fun q => .int (G q))
set_option maxRecDepth 65536 in
set_option maxHeartbeats 40000000 in
theorem own_cof (l : Launch) (Z : State) (a0 : Array Value) (hw : ∀ d ∈ tables_1, d.before a0 Z = true) (ws : List Jvm.Cond) (a : Addr) (z : Int32) (zl : Int32) (n : Nat) (n' : Nat) (G : Nat → Int32) (h0 : Heap) (n0 : Nat) (Z0 : n0 ≤ h0.size) (p0_ : own_A Z h0 a .byte n (fun q => .int (G q))) (p1_ : zl.toInt = n) (p2_ : z.toInt = n') (p3_ : n' < n) (p4_ : n ≤ 32) :
    MetFree l (⟨"java/util/Arrays", "copyOf", "([BI)[B"⟩ : MethodName) (head1 (Jvm.Cond.code (⟨"java/util/Arrays", "copyOf", "([BI)[B"⟩ : MethodName) jdk_65_method_121_code 3 (some (.array .byte)) :: ws) ({ frames := 1, cells := 1, slots := 32, locals := 51 } : Room)) (fun za zU => za = #[(.ref a), (.int z)] ∧ Z.Warmed39 zU.vm ∧ zU.heap = h0) (fun _ _ _ _ _ => True) (fun _ zU zo zU' => ∃ zv zL, zo = .returned zv ∧ Q_own_cof Z a z zl n n' G h0 n0 zv zU'.heap zL ∧ FrameEnd zU zo zU' zL ({ frames := 1, cells := 1, slots := 32, locals := 51 } : Room).cells ({ frames := 1, cells := 1, slots := 32, locals := 51 } : Room).slots) := by
  refine own_met (y := (⟨"java/util/Arrays", "copyOf", "([BI)[B"⟩ : MethodName)) own_pn6 ?_
  intro p e s m below meth c T0 hx hby hml hown hnm hret hlk hZ e0 X0
  have N0 := Fr.nil n0
  refine own_st (fun zt zk => castTop (ef_own_cof m a z) zk) ?_
  show own_G p e below s _ _ _ (T0.setTop (mkF m 0 #[.val (.ref a), .val (.int z), .unset] []))
  refine own_st (fun zt zk => XS.iloadN X0.here hx rfl (hb hby dd_jdk_65m121_0) rfl zk) ?_
  show own_G p e below s _ _ _ (T0.setTop (mkF m 1 #[.val (.ref a), .val (.int z), .unset] [(.int z)]))
  refine own_st (fun zt zk => XS.aloadN X0.here hx rfl (hb hby dd_jdk_65m121_1) rfl rfl zk) ?_
  show own_G p e below s _ _ _ (T0.setTop (mkF m 2 #[.val (.ref a), .val (.int z), .unset] [(.ref a), (.int z)]))
  refine own_st (own_arraylength X0 hx hZ e0 p0_ zl p1_ (g := (mkF m 2 #[.val (.ref a), .val (.int z), .unset] [(.ref a), (.int z)])) rfl rfl (hb hby dd_jdk_65m121_2)) ?_
  show own_G p e below s _ _ _ (T0.setTop (mkF m 3 #[.val (.ref a), .val (.int z), .unset] [(.int zl), (.int z)]))
  have hc3_1 : ¬ (z = zl) := (fun q => by have := congrArg Int32.toInt q; omega)
  refine own_st (fun zt zk => XS.icmpYes X0.here hx rfl (pc0 := 3) (pc' := 14) rfl (hb hby dd_jdk_65m121_3) rfl (feq hc3_1).2 (by decide) (by decide) zk) ?_
  show own_G p e below s _ _ _ (T0.setTop (mkF m 14 #[.val (.ref a), .val (.int z), .unset] []))
  refine own_st (fun zt zk => XS.iloadN X0.here hx rfl (hb hby dd_jdk_65m121_14) rfl zk) ?_
  show own_G p e below s _ _ _ (T0.setTop (mkF m 15 #[.val (.ref a), .val (.int z), .unset] [(.int z)]))
  obtain ⟨T2, h2, X2, e2, E2, V2, st2⟩ := own_newP X0 hx hZ (aty := .byte) (hw _ (List.mem_of_getElem? (i := 9) rfl)) e0 (g := (mkF m 15 #[.val (.ref a), .val (.int z), .unset] [(.int z)])) rfl (hb hby dd_jdk_65m121_15) rfl (n := n') p2_ (cap := 32) (by omega) (by decide) (by decide) (by decide)
  obtain ⟨b2, g2⟩ : ∃ z, z = h0.size := ⟨_, rfl⟩
  rw [← g2] at V2 st2
  have ne2_a : a ≠ b2 := by rw [g2]; exact Nat.ne_of_lt p0_.lt
  have ge2 : n0 ≤ b2 := Nat.le_trans Z0 (Nat.le_of_eq g2.symm)
  have sz2 : h0.size ≤ b2 := Nat.le_trans (Nat.le_refl h0.size) (Nat.le_of_eq g2.symm)
  have V2a : own_A Z h2 b2 .byte n' (fun q => .int ((fun _ => (0 : Int32)) q)) := V2
  refine own_st st2 ?_
  show own_G p e below s _ _ _ (T2.setTop (mkF m 17 #[.val (.ref a), .val (.int z), .unset] [(.ref b2)]))
  refine own_st (fun zt zk => XS.astoreN X2.here hx rfl (hb hby dd_jdk_65m121_17) rfl rfl (l' := #[.val (.ref a), .val (.int z), .val (.ref b2)]) rfl zk) ?_
  show own_G p e below s _ _ _ (T2.setTop (mkF m 18 #[.val (.ref a), .val (.int z), .val (.ref b2)] []))
  refine own_st (fun zt zk => XS.aloadN X2.here hx rfl (hb hby dd_jdk_65m121_18) rfl rfl zk) ?_
  show own_G p e below s _ _ _ (T2.setTop (mkF m 19 #[.val (.ref a), .val (.int z), .val (.ref b2)] [(.ref a)]))
  refine own_st (fun zt zk => XS.iconst X2.here hx rfl (hb hby dd_jdk_65m121_19) zk) ?_
  show own_G p e below s _ _ _ (T2.setTop (mkF m 20 #[.val (.ref a), .val (.int z), .val (.ref b2)] [(.int (0 : Int32)), (.ref a)]))
  refine own_st (fun zt zk => XS.aloadN X2.here hx rfl (hb hby dd_jdk_65m121_20) rfl rfl zk) ?_
  show own_G p e below s _ _ _ (T2.setTop (mkF m 21 #[.val (.ref a), .val (.int z), .val (.ref b2)] [(.ref b2), (.int (0 : Int32)), (.ref a)]))
  refine own_st (fun zt zk => XS.iconst X2.here hx rfl (hb hby dd_jdk_65m121_21) zk) ?_
  show own_G p e below s _ _ _ (T2.setTop (mkF m 22 #[.val (.ref a), .val (.int z), .val (.ref b2)] [(.int (0 : Int32)), (.ref b2), (.int (0 : Int32)), (.ref a)]))
  refine own_st (fun zt zk => XS.aloadN X2.here hx rfl (hb hby dd_jdk_65m121_22) rfl rfl zk) ?_
  show own_G p e below s _ _ _ (T2.setTop (mkF m 23 #[.val (.ref a), .val (.int z), .val (.ref b2)] [(.ref a), (.int (0 : Int32)), (.ref b2), (.int (0 : Int32)), (.ref a)]))
  have V3 : own_A Z h2 a .byte n (fun q => .int (G q)) := (p0_.ext E2)
  refine own_st (own_arraylength X2 hx hZ e2 V3 zl p1_ (g := (mkF m 23 #[.val (.ref a), .val (.int z), .val (.ref b2)] [(.ref a), (.int (0 : Int32)), (.ref b2), (.int (0 : Int32)), (.ref a)])) rfl rfl (hb hby dd_jdk_65m121_23)) ?_
  show own_G p e below s _ _ _ (T2.setTop (mkF m 24 #[.val (.ref a), .val (.int z), .val (.ref b2)] [(.int zl), (.int (0 : Int32)), (.ref b2), (.int (0 : Int32)), (.ref a)]))
  refine own_st (fun zt zk => XS.iloadN X2.here hx rfl (hb hby dd_jdk_65m121_24) rfl zk) ?_
  show own_G p e below s _ _ _ (T2.setTop (mkF m 25 #[.val (.ref a), .val (.int z), .val (.ref b2)] [(.int z), (.int zl), (.int (0 : Int32)), (.ref b2), (.int (0 : Int32)), (.ref a)]))
  obtain ⟨_, T4, L4, X4, hQ4, st4⟩ := own_callS X2 hx hZ (y := (⟨"java/lang/Math", "min", "(II)I"⟩ : MethodName)) (argsL := [(.int zl), (.int z)]) (rest := [(.int (0 : Int32)), (.ref b2), (.int (0 : Int32)), (.ref a)]) 4 hown (hw _ (List.mem_of_getElem? (i := 48) rfl)) (hw _ (List.mem_of_getElem? (i := 49) rfl)) (hw _ (List.mem_of_getElem? (i := 50) rfl)) (hw _ (List.mem_of_getElem? (i := 51) rfl)) (by decide) (own_cmin l Z a0 hw [] zl z h2 n0 (Nat.le_trans Z0 E2.1) ) (by decide) (by decide) e2 (g := (mkF m 25 #[.val (.ref a), .val (.int z), .val (.ref b2)] [(.int z), (.int zl), (.int (0 : Int32)), (.ref b2), (.int (0 : Int32)), (.ref a)])) rfl (by rw [hml]; rfl) own_pd3 rfl rfl (by show 2 * 0 + _ ≤ _; exact Nat.le_of_eq rfl) (hb hby dd_jdk_65m121_25) (by decide) (by decide)
  obtain ⟨rfl, N4q, e4⟩ := hQ4
  have N4 := Fr.app N0 N4q
  refine own_st st4 ?_
  show own_G p e below s _ _ _ (T4.setTop (mkF m 28 #[.val (.ref a), .val (.int z), .val (.ref b2)] [(.int (own_mini zl z)), (.int (0 : Int32)), (.ref b2), (.int (0 : Int32)), (.ref a)]))
  obtain ⟨T5, h5, L5, X5, e5, N5, K5, V5, st5⟩ := own_cpA X4 hx hZ hown (hw _ (List.mem_of_getElem? (i := 52) rfl)) (hw _ (List.mem_of_getElem? (i := 55) rfl)) (hw _ (List.mem_of_getElem? (i := 53) rfl)) (hw _ (List.mem_of_getElem? (i := 54) rfl)) e4 V3 V2a rfl (zn := zl) (zn' := z) p1_ p2_ (i := 0) (j := 0) (k := n') (show (0 : Int32).toInt = (0 : Nat) from by decide) (show (0 : Int32).toInt = (0 : Nat) from by decide) (by rw [own_min_eq p1_ p2_ p3_]; exact p2_) (by omega) (by omega) N4 ge2 (g := (mkF m 28 #[.val (.ref a), .val (.int z), .val (.ref b2)] [(.int (own_mini zl z)), (.int (0 : Int32)), (.ref b2), (.int (0 : Int32)), (.ref a)])) rfl (by rw [hml]; rfl) rfl (hb hby dd_jdk_65m121_28) (by decide) (W := 0) (by show 2 * 0 + _ ≤ _; exact Nat.le_of_eq rfl) (by decide)
  refine own_st st5 ?_
  have V5a : own_A Z h5 b2 .byte n' (fun q => .int (G q)) := V5.congr (fun q hq => by rw [if_pos ⟨by omega, by omega⟩, show 0 + (q - 0) = q by omega])
  show own_G p e below s _ _ _ (T5.setTop (mkF m 31 #[.val (.ref a), .val (.int z), .val (.ref b2)] []))
  refine own_st (fun zt zk => XS.aloadN X5.here hx rfl (hb hby dd_jdk_65m121_31) rfl rfl zk) ?_
  show own_G p e below s _ _ _ (T5.setTop (mkF m 32 #[.val (.ref a), .val (.int z), .val (.ref b2)] [(.ref b2)]))
  refine own_retA X5 hx hlk hret rfl rfl (hb hby dd_jdk_65m121_32) (by decide) (by decide) ?_
  show Q_own_cof Z a z zl n n' G h0 n0 (some (.ref b2)) T5.heap _
  rw [e5]
  exact ⟨b2, rfl, N5, (((Keep.refl _ _).ext E2).trans K5 (allS (Or.inr sz2) all0)), sz2, V5a⟩
theorem own_pn7 : plainFor (⟨"com/example/orderly_results/orderlyresults/engine/Packed$Writer", "toBytes", "([B)[B"⟩ : MethodName) = true := plainFor_of_name (by first | (simp [plainName, overriddenIn]; done) | decide +kernel)
theorem dd_prog_14m11_0 : decode prog_14_method_11_code 0 = .ok (.new 9, 3) := by decide +kernel
theorem dd_prog_14m11_3 : decode prog_14_method_11_code 3 = .ok (.dup, 1) := by decide +kernel
theorem dd_prog_14m11_4 : decode prog_14_method_11_code 4 = .ok (.invokespecial 83, 3) := by decide +kernel
theorem own_pd4 : parseMethodDescriptor "()V" = some ⟨[], none⟩ := by decide +kernel
theorem dd_prog_14m11_7 : decode prog_14_method_11_code 7 = .ok (.astore_n 2, 1) := by decide +kernel
theorem dd_prog_14m11_8 : decode prog_14_method_11_code 8 = .ok (.aload_n 2, 1) := by decide +kernel
theorem dd_prog_14m11_9 : decode prog_14_method_11_code 9 = .ok (.aload_n 0, 1) := by decide +kernel
theorem dd_prog_14m11_10 : decode prog_14_method_11_code 10 = .ok (.getfield 40, 3) := by decide +kernel
theorem dd_prog_14m11_13 : decode prog_14_method_11_code 13 = .ok (.invokevirtual 50, 3) := by decide +kernel
theorem dd_prog_14m11_16 : decode prog_14_method_11_code 16 = .ok (.aload_n 2, 1) := by decide +kernel
theorem dd_prog_14m11_17 : decode prog_14_method_11_code 17 = .ok (.getfield 11, 3) := by decide +kernel
theorem dd_prog_14m11_20 : decode prog_14_method_11_code 20 = .ok (.aload_n 2, 1) := by decide +kernel
theorem dd_prog_14m11_21 : decode prog_14_method_11_code 21 = .ok (.getfield 40, 3) := by decide +kernel
theorem dd_prog_14m11_24 : decode prog_14_method_11_code 24 = .ok (.aload_n 0, 1) := by decide +kernel
theorem dd_prog_14m11_25 : decode prog_14_method_11_code 25 = .ok (.getfield 40, 3) := by decide +kernel
theorem dd_prog_14m11_28 : decode prog_14_method_11_code 28 = .ok (.iadd, 1) := by decide +kernel
theorem dd_prog_14m11_29 : decode prog_14_method_11_code 29 = .ok (.aload_n 1, 1) := by decide +kernel
theorem dd_prog_14m11_30 : decode prog_14_method_11_code 30 = .ok (.arraylength, 1) := by decide +kernel
theorem dd_prog_14m11_31 : decode prog_14_method_11_code 31 = .ok (.iadd, 1) := by decide +kernel
theorem dd_prog_14m11_32 : decode prog_14_method_11_code 32 = .ok (.invokestatic 84, 3) := by decide +kernel
theorem own_pd5 : parseMethodDescriptor "([BI)[B" = some ⟨[(.array .byte), .int], some (.array .byte)⟩ := by decide +kernel
theorem dd_prog_14m11_35 : decode prog_14_method_11_code 35 = .ok (.astore_n 3, 1) := by decide +kernel
theorem dd_prog_14m11_36 : decode prog_14_method_11_code 36 = .ok (.aload_n 0, 1) := by decide +kernel
theorem dd_prog_14m11_37 : decode prog_14_method_11_code 37 = .ok (.getfield 11, 3) := by decide +kernel
theorem dd_prog_14m11_40 : decode prog_14_method_11_code 40 = .ok (.iconst 0, 1) := by decide +kernel
theorem dd_prog_14m11_41 : decode prog_14_method_11_code 41 = .ok (.aload_n 3, 1) := by decide +kernel
theorem dd_prog_14m11_42 : decode prog_14_method_11_code 42 = .ok (.aload_n 2, 1) := by decide +kernel
theorem dd_prog_14m11_43 : decode prog_14_method_11_code 43 = .ok (.getfield 40, 3) := by decide +kernel
theorem dd_prog_14m11_46 : decode prog_14_method_11_code 46 = .ok (.aload_n 0, 1) := by decide +kernel
theorem dd_prog_14m11_47 : decode prog_14_method_11_code 47 = .ok (.getfield 40, 3) := by decide +kernel
theorem dd_prog_14m11_50 : decode prog_14_method_11_code 50 = .ok (.invokestatic 44, 3) := by decide +kernel
theorem dd_prog_14m11_53 : decode prog_14_method_11_code 53 = .ok (.aload_n 1, 1) := by decide +kernel
theorem dd_prog_14m11_54 : decode prog_14_method_11_code 54 = .ok (.iconst 0, 1) := by decide +kernel
theorem dd_prog_14m11_55 : decode prog_14_method_11_code 55 = .ok (.aload_n 3, 1) := by decide +kernel
theorem dd_prog_14m11_56 : decode prog_14_method_11_code 56 = .ok (.aload_n 2, 1) := by decide +kernel
theorem dd_prog_14m11_57 : decode prog_14_method_11_code 57 = .ok (.getfield 40, 3) := by decide +kernel
theorem dd_prog_14m11_60 : decode prog_14_method_11_code 60 = .ok (.aload_n 0, 1) := by decide +kernel
theorem dd_prog_14m11_61 : decode prog_14_method_11_code 61 = .ok (.getfield 40, 3) := by decide +kernel
theorem dd_prog_14m11_64 : decode prog_14_method_11_code 64 = .ok (.iadd, 1) := by decide +kernel
theorem dd_prog_14m11_65 : decode prog_14_method_11_code 65 = .ok (.aload_n 1, 1) := by decide +kernel
theorem dd_prog_14m11_66 : decode prog_14_method_11_code 66 = .ok (.arraylength, 1) := by decide +kernel
theorem dd_prog_14m11_67 : decode prog_14_method_11_code 67 = .ok (.invokestatic 44, 3) := by decide +kernel
theorem dd_prog_14m11_70 : decode prog_14_method_11_code 70 = .ok (.aload_n 3, 1) := by decide +kernel
theorem dd_prog_14m11_71 : decode prog_14_method_11_code 71 = .ok (.areturn, 1) := by decide +kernel
theorem ef_own_tob (m : MethodId) (z0 : Addr) (z1 : Addr) : entryFrame m #[(.ref z0), (.ref z1)] 4 = mkF m 0 #[.val (.ref z0), .val (.ref z1), .unset, .unset] [] := by first | (simp [entryFrame, mkF, argsToLocals, Value.category]; done) | rfl
def Q_own_tob (Z : State) (a : Addr) (ln : Addr) (ar : Addr) (sz : Int32) (n : Nat) (G : Nat → Int32) (GL : Nat → Int32) (h0 : Heap) (n0 : Nat) (zv : Option Value) (zh : Heap) (zL : List Loc) : Prop := ∃ nb : Addr, zv = some (.ref nb) ∧ Fr n0 zL ∧ Keep h0 zh [] ∧ h0.size ≤ nb ∧ own_A Z zh nb .byte (n + 3) (fun q => .int ((own_cp GL 0 (own_cp G 0 (own_put (fun _ => (0 : Int32)) 0 (sz.toInt64 &&& (4294967295 : Int64)) 0) 1 n) (1 + n) 2) q))
set_option maxRecDepth 65536 in
set_option maxHeartbeats 40000000 in
theorem own_tob (l : Launch) (Z : State) (a0 : Array Value) (hw : ∀ d ∈ tables_1, d.before a0 Z = true) (ws : List Jvm.Cond) (a : Addr) (ln : Addr) (ar : Addr) (sz : Int32) (n : Nat) (G : Nat → Int32) (GL : Nat → Int32) (h0 : Heap) (n0 : Nat) (Z0 : n0 ≤ h0.size) (p0_ : Exa Z h0 a "com/example/orderly_results/orderlyresults/engine/Packed$Writer") (p1_ : Fld Z h0 a "com/example/orderly_results/orderlyresults/engine/Packed$Writer" "bytes" "[B" (.ref ar)) (p2_ : Fld Z h0 a "com/example/orderly_results/orderlyresults/engine/Packed$Writer" "size" "I" (.int sz)) (p3_ : own_A Z h0 ar .byte 32 (fun q => .int (G q))) (p4_ : own_A Z h0 ln .byte 2 (fun q => .int (GL q))) (p5_ : sz.toInt = n) (p6_ : n ≤ 20) :
    MetFree l (⟨"com/example/orderly_results/orderlyresults/engine/Packed$Writer", "toBytes", "([B)[B"⟩ : MethodName) (head1 (Jvm.Cond.code (⟨"com/example/orderly_results/orderlyresults/engine/Packed$Writer", "toBytes", "([B)[B"⟩ : MethodName) prog_14_method_11_code 4 (some (.array .byte)) :: ws) ({ frames := 4, cells := 3, slots := 66, locals := 65 } : Room)) (fun za zU => za = #[(.ref a), (.ref ln)] ∧ Z.Warmed39 zU.vm ∧ zU.heap = h0) (fun _ _ _ _ _ => True) (fun _ zU zo zU' => ∃ zv zL, zo = .returned zv ∧ Q_own_tob Z a ln ar sz n G GL h0 n0 zv zU'.heap zL ∧ FrameEnd zU zo zU' zL ({ frames := 4, cells := 3, slots := 66, locals := 65 } : Room).cells ({ frames := 4, cells := 3, slots := 66, locals := 65 } : Room).slots) := by
  refine own_met (y := (⟨"com/example/orderly_results/orderlyresults/engine/Packed$Writer", "toBytes", "([B)[B"⟩ : MethodName)) own_pn7 ?_
  intro p e s m below meth c T0 hx hby hml hown hnm hret hlk hZ e0 X0
  have N0 := Fr.nil n0
  refine own_st (fun zt zk => castTop (ef_own_tob m a ln) zk) ?_
  show own_G p e below s _ _ _ (T0.setTop (mkF m 0 #[.val (.ref a), .val (.ref ln), .unset, .unset] []))
  obtain ⟨T1, h1, X1, e1, E1, A1, D1, -, st1⟩ := newO X0 hx hZ hown (hw _ (List.mem_of_getElem? (i := 35) rfl)) (hw _ (List.mem_of_getElem? (i := 1) rfl)) (hw _ (List.mem_of_getElem? (i := 2) rfl)) e0 (g := (mkF m 0 #[.val (.ref a), .val (.ref ln), .unset, .unset] [])) rfl (hb hby dd_prog_14m11_0) (by decide) (by decide)
  obtain ⟨b1, g1⟩ : ∃ z, z = h0.size := ⟨_, rfl⟩
  rw [← g1] at A1 D1 st1
  have ne1_a : a ≠ b1 := by rw [g1]; exact Nat.ne_of_lt p0_.lt
  have ne1_ar : ar ≠ b1 := by rw [g1]; exact Nat.ne_of_lt p3_.lt
  have ne1_ln : ln ≠ b1 := by rw [g1]; exact Nat.ne_of_lt p4_.lt
  have ge1 : n0 ≤ b1 := Nat.le_trans Z0 (Nat.le_of_eq g1.symm)
  have sz1 : h0.size ≤ b1 := Nat.le_trans (Nat.le_refl h0.size) (Nat.le_of_eq g1.symm)
  refine own_st st1 ?_
  show own_G p e below s _ _ _ (T1.setTop (mkF m 3 #[.val (.ref a), .val (.ref ln), .unset, .unset] [(.ref b1)]))
  refine own_st (fun zt zk => XS.dup X1.here hx rfl (hb hby dd_prog_14m11_3) rfl rfl zk) ?_
  show own_G p e below s _ _ _ (T1.setTop (mkF m 4 #[.val (.ref a), .val (.ref ln), .unset, .unset] [(.ref b1), (.ref b1)]))
  obtain ⟨_, T2, L2, X2, hQ2, st2⟩ := own_callI X1 hx hZ (y := (⟨"com/example/orderly_results/orderlyresults/engine/Packed$Writer", "<init>", "()V"⟩ : MethodName)) (a := b1) (argsL := []) (rest := [(.ref b1)]) 1 rfl hown (hw _ (List.mem_of_getElem? (i := 36) rfl)) (hw _ (List.mem_of_getElem? (i := 4) rfl)) (hw _ (List.mem_of_getElem? (i := 2) rfl)) (hw _ (List.mem_of_getElem? (i := 5) rfl)) (by decide) (own_wini l Z a0 hw [] b1 h1 n0 (Nat.le_trans Z0 E1.1) A1 (D1 (Or.inl (hw _ (List.mem_of_getElem? (i := 11) rfl))) (ty := (.array .byte)) (by decide)) (D1 (Or.inl (hw _ (List.mem_of_getElem? (i := 27) rfl))) (ty := .int) (by decide)) ge1) (by decide) (by decide) e1 (g := (mkF m 4 #[.val (.ref a), .val (.ref ln), .unset, .unset] [(.ref b1), (.ref b1)])) rfl (by rw [hml]; rfl) own_pd4 rfl rfl (by show 2 * 0 + _ ≤ _; exact Nat.le_of_eq rfl) (hb hby dd_prog_14m11_4) (by decide) (by decide)
  obtain ⟨ar2, rfl, N2q, K2, sar2, q2_0, q2_1, q2_2⟩ := hQ2
  have N2 := Fr.app N0 N2q
  refine own_st st2 ?_
  have V3 : own_A Z h1 ar .byte 32 (fun q => .int (G q)) := (p3_.ext E1)
  have V4 : own_A Z h1 ln .byte 2 (fun q => .int (GL q)) := (p4_.ext E1)
  have ne2_ar_a : a ≠ ar2 := Nat.ne_of_lt (Nat.lt_of_lt_of_le (p0_.ext E1).lt sar2)
  have ne2_ar_b1 : b1 ≠ ar2 := Nat.ne_of_lt (Nat.lt_of_lt_of_le A1.lt sar2)
  have ne2_ar_ar : ar ≠ ar2 := Nat.ne_of_lt (Nat.lt_of_lt_of_le V3.lt sar2)
  have ne2_ar_ln : ln ≠ ar2 := Nat.ne_of_lt (Nat.lt_of_lt_of_le V4.lt sar2)
  have ge2_ar : n0 ≤ ar2 := Nat.le_trans (Nat.le_trans Z0 E1.1) sar2
  have sz2_ar : h0.size ≤ ar2 := Nat.le_trans (Nat.le_trans (Nat.le_refl h0.size) E1.1) sar2
  show own_G p e below s _ _ _ (T2.setTop (mkF m 7 #[.val (.ref a), .val (.ref ln), .unset, .unset] [(.ref b1)]))
  refine own_st (fun zt zk => XS.astoreN X2.here hx rfl (hb hby dd_prog_14m11_7) rfl rfl (l' := #[.val (.ref a), .val (.ref ln), .val (.ref b1), .unset]) rfl zk) ?_
  show own_G p e below s _ _ _ (T2.setTop (mkF m 8 #[.val (.ref a), .val (.ref ln), .val (.ref b1), .unset] []))
  refine own_st (fun zt zk => XS.aloadN X2.here hx rfl (hb hby dd_prog_14m11_8) rfl rfl zk) ?_
  show own_G p e below s _ _ _ (T2.setTop (mkF m 9 #[.val (.ref a), .val (.ref ln), .val (.ref b1), .unset] [(.ref b1)]))
  refine own_st (fun zt zk => XS.aloadN X2.here hx rfl (hb hby dd_prog_14m11_9) rfl rfl zk) ?_
  show own_G p e below s _ _ _ (T2.setTop (mkF m 10 #[.val (.ref a), .val (.ref ln), .val (.ref b1), .unset] [(.ref a), (.ref b1)]))
  have F5 : Fld Z T2.heap a "com/example/orderly_results/orderlyresults/engine/Packed$Writer" "size" "I" (.int sz) := ((p2_.ext E1).keep K2 (ninS ne1_a nin0))
  obtain ⟨T6, X6, e6, st6⟩ := getF X2 hx hZ hown (host := "") (Or.inl (hw _ (List.mem_of_getElem? (i := 26) rfl))) Via.refl rfl F5 (g := (mkF m 10 #[.val (.ref a), .val (.ref ln), .val (.ref b1), .unset] [(.ref a), (.ref b1)])) rfl rfl (hb hby dd_prog_14m11_10)
  refine own_st st6 ?_
  show own_G p e below s _ _ _ (T6.setTop (mkF m 13 #[.val (.ref a), .val (.ref ln), .val (.ref b1), .unset] [(.int sz), (.ref b1)]))
  have E8 : Exa Z T2.heap b1 "com/example/orderly_results/orderlyresults/engine/Packed$Writer" := (A1.keep K2)
  obtain ⟨_, T7, L7, X7, hQ7, st7⟩ := own_callV X6 hx hZ (C := "com/example/orderly_results/orderlyresults/engine/Packed$Writer") (y := (⟨"com/example/orderly_results/orderlyresults/engine/Packed$Writer", "varint", "(I)V"⟩ : MethodName)) (z := (⟨"com/example/orderly_results/orderlyresults/engine/Packed$Writer", "varint", "(I)V"⟩ : MethodName)) (a := b1) (argsL := [(.int sz)]) (rest := []) 0 hown (hw _ (List.mem_of_getElem? (i := 37) rfl)) (hw _ (List.mem_of_getElem? (i := 38) rfl)) (own_nf hZ (hw _ (List.mem_of_getElem? (i := 40) rfl))) (hw _ (List.mem_of_getElem? (i := 40) rfl)) (hw _ (List.mem_of_getElem? (i := 39) rfl)) (hw _ (List.mem_of_getElem? (i := 2) rfl)) (hw _ (List.mem_of_getElem? (i := 41) rfl)) (by decide) (own_wvi l Z a0 hw [] b1 sz ar2 (0 : Int32) 0 0 (fun _ => (0 : Int32)) T2.heap n0 (Nat.le_trans (Nat.le_trans Z0 E1.1) K2.1) E8 q2_0 q2_1 q2_2 ge1 ge2_ar ne2_ar_b1 (show (0 : Int32).toInt = (0 : Nat) from by decide) (by decide) (own_hd p5_ (by omega)) (fun i hi => absurd hi (by omega))) (by decide) (by decide) e6 E8 (g := (mkF m 13 #[.val (.ref a), .val (.ref ln), .val (.ref b1), .unset] [(.int sz), (.ref b1)])) rfl (by rw [hml]; rfl) own_pd0 rfl rfl (by show 2 * 0 + _ ≤ _; exact Nat.le_of_eq rfl) (hb hby dd_prog_14m11_13) (by decide) (by decide)
  obtain ⟨rfl, N7q, K7, q7_0, q7_1, q7_2⟩ := hQ7
  have N7 := Fr.app N2 N7q
  refine own_st st7 ?_
  show own_G p e below s _ _ _ (T7.setTop (mkF m 16 #[.val (.ref a), .val (.ref ln), .val (.ref b1), .unset] []))
  refine own_st (fun zt zk => XS.aloadN X7.here hx rfl (hb hby dd_prog_14m11_16) rfl rfl zk) ?_
  show own_G p e below s _ _ _ (T7.setTop (mkF m 17 #[.val (.ref a), .val (.ref ln), .val (.ref b1), .unset] [(.ref b1)]))
  obtain ⟨T9, X9, e9, st9⟩ := getF X7 hx hZ hown (host := "") (Or.inl (hw _ (List.mem_of_getElem? (i := 10) rfl))) Via.refl rfl q7_0 (g := (mkF m 17 #[.val (.ref a), .val (.ref ln), .val (.ref b1), .unset] [(.ref b1)])) rfl rfl (hb hby dd_prog_14m11_17)
  refine own_st st9 ?_
  show own_G p e below s _ _ _ (T9.setTop (mkF m 20 #[.val (.ref a), .val (.ref ln), .val (.ref b1), .unset] [(.ref ar2)]))
  refine own_st (fun zt zk => XS.aloadN X9.here hx rfl (hb hby dd_prog_14m11_20) rfl rfl zk) ?_
  show own_G p e below s _ _ _ (T9.setTop (mkF m 21 #[.val (.ref a), .val (.ref ln), .val (.ref b1), .unset] [(.ref b1), (.ref ar2)]))
  obtain ⟨T10, X10, e10, st10⟩ := getF X9 hx hZ hown (host := "") (Or.inl (hw _ (List.mem_of_getElem? (i := 26) rfl))) Via.refl e9 q7_1 (g := (mkF m 21 #[.val (.ref a), .val (.ref ln), .val (.ref b1), .unset] [(.ref b1), (.ref ar2)])) rfl rfl (hb hby dd_prog_14m11_21)
  refine own_st st10 ?_
  show own_G p e below s _ _ _ (T10.setTop (mkF m 24 #[.val (.ref a), .val (.ref ln), .val (.ref b1), .unset] [(.int (Int32.ofNat (0 + 0 + 1))), (.ref ar2)]))
  refine own_st (fun zt zk => XS.aloadN X10.here hx rfl (hb hby dd_prog_14m11_24) rfl rfl zk) ?_
  show own_G p e below s _ _ _ (T10.setTop (mkF m 25 #[.val (.ref a), .val (.ref ln), .val (.ref b1), .unset] [(.ref a), (.int (Int32.ofNat (0 + 0 + 1))), (.ref ar2)]))
  have F11 : Fld Z T7.heap a "com/example/orderly_results/orderlyresults/engine/Packed$Writer" "size" "I" (.int sz) := (F5.keep K7 (ninS ne1_a (ninS ne2_ar_a nin0)))
  obtain ⟨T12, X12, e12, st12⟩ := getF X10 hx hZ hown (host := "") (Or.inl (hw _ (List.mem_of_getElem? (i := 26) rfl))) Via.refl e10 F11 (g := (mkF m 25 #[.val (.ref a), .val (.ref ln), .val (.ref b1), .unset] [(.ref a), (.int (Int32.ofNat (0 + 0 + 1))), (.ref ar2)])) rfl rfl (hb hby dd_prog_14m11_25)
  refine own_st st12 ?_
  show own_G p e below s _ _ _ (T12.setTop (mkF m 28 #[.val (.ref a), .val (.ref ln), .val (.ref b1), .unset] [(.int sz), (.int (Int32.ofNat (0 + 0 + 1))), (.ref ar2)]))
  refine own_st (fun zt zk => XS.iadd X12.here hx rfl (hb hby dd_prog_14m11_28) rfl zk) ?_
  show own_G p e below s _ _ _ (T12.setTop (mkF m 29 #[.val (.ref a), .val (.ref ln), .val (.ref b1), .unset] [(.int ((Int32.ofNat (0 + 0 + 1)) + sz)), (.ref ar2)]))
  refine own_st (fun zt zk => XS.aloadN X12.here hx rfl (hb hby dd_prog_14m11_29) rfl rfl zk) ?_
  show own_G p e below s _ _ _ (T12.setTop (mkF m 30 #[.val (.ref a), .val (.ref ln), .val (.ref b1), .unset] [(.ref ln), (.int ((Int32.ofNat (0 + 0 + 1)) + sz)), (.ref ar2)]))
  have V13 : own_A Z T7.heap ln .byte 2 (fun q => .int (GL q)) := ((V4.keep K2 (ninS ne1_ln nin0)).keep K7 (ninS ne1_ln (ninS ne2_ar_ln nin0)))
  refine own_st (own_arraylength X12 hx hZ e12 V13 (2 : Int32) (by decide) (g := (mkF m 30 #[.val (.ref a), .val (.ref ln), .val (.ref b1), .unset] [(.ref ln), (.int ((Int32.ofNat (0 + 0 + 1)) + sz)), (.ref ar2)])) rfl rfl (hb hby dd_prog_14m11_30)) ?_
  show own_G p e below s _ _ _ (T12.setTop (mkF m 31 #[.val (.ref a), .val (.ref ln), .val (.ref b1), .unset] [(.int (2 : Int32)), (.int ((Int32.ofNat (0 + 0 + 1)) + sz)), (.ref ar2)]))
  refine own_st (fun zt zk => XS.iadd X12.here hx rfl (hb hby dd_prog_14m11_31) rfl zk) ?_
  show own_G p e below s _ _ _ (T12.setTop (mkF m 32 #[.val (.ref a), .val (.ref ln), .val (.ref b1), .unset] [(.int (((Int32.ofNat (0 + 0 + 1)) + sz) + (2 : Int32))), (.ref ar2)]))
  obtain ⟨_, T14, L14, X14, hQ14, st14⟩ := own_callS X12 hx hZ (y := (⟨"java/util/Arrays", "copyOf", "([BI)[B"⟩ : MethodName)) (argsL := [(.ref ar2), (.int (((Int32.ofNat (0 + 0 + 1)) + sz) + (2 : Int32)))]) (rest := []) 0 hown (hw _ (List.mem_of_getElem? (i := 44) rfl)) (hw _ (List.mem_of_getElem? (i := 45) rfl)) (hw _ (List.mem_of_getElem? (i := 46) rfl)) (hw _ (List.mem_of_getElem? (i := 47) rfl)) (by decide) (own_cof l Z a0 hw [] ar2 (((Int32.ofNat (0 + 0 + 1)) + sz) + (2 : Int32)) (32 : Int32) 32 (n + 3) (own_put (fun _ => (0 : Int32)) 0 (sz.toInt64 &&& (4294967295 : Int64)) 0) T7.heap n0 (Nat.le_trans (Nat.le_trans (Nat.le_trans Z0 E1.1) K2.1) K7.1) q7_2 (by decide) (own_sum (own_sum (show (Int32.ofNat (0 + 0 + 1)).toInt = (1 : Nat) from by decide) p5_ (by omega)) (show (2 : Int32).toInt = (2 : Nat) from by decide) (by omega) |>.trans (by omega)) (by omega) (by decide)) (by decide) (by decide) e12 (g := (mkF m 32 #[.val (.ref a), .val (.ref ln), .val (.ref b1), .unset] [(.int (((Int32.ofNat (0 + 0 + 1)) + sz) + (2 : Int32))), (.ref ar2)])) rfl (by rw [hml]; rfl) own_pd5 rfl rfl (by show 2 * 0 + _ ≤ _; exact Nat.le_of_eq rfl) (hb hby dd_prog_14m11_32) (by decide) (by decide)
  obtain ⟨nb14, rfl, N14q, K14, snb14, q14_0⟩ := hQ14
  have N14 := Fr.app N7 N14q
  refine own_st st14 ?_
  have V15 : own_A Z T7.heap ar .byte 32 (fun q => .int (G q)) := ((V3.keep K2 (ninS ne1_ar nin0)).keep K7 (ninS ne1_ar (ninS ne2_ar_ar nin0)))
  have ne14_nb_a : a ≠ nb14 := Nat.ne_of_lt (Nat.lt_of_lt_of_le (((p0_.ext E1).keep K2).keep K7).lt snb14)
  have ne14_nb_b1 : b1 ≠ nb14 := Nat.ne_of_lt (Nat.lt_of_lt_of_le (E8.keep K7).lt snb14)
  have ne14_nb_ar : ar ≠ nb14 := Nat.ne_of_lt (Nat.lt_of_lt_of_le V15.lt snb14)
  have ne14_nb_ln : ln ≠ nb14 := Nat.ne_of_lt (Nat.lt_of_lt_of_le V13.lt snb14)
  have ne14_nb_ar2 : ar2 ≠ nb14 := Nat.ne_of_lt (Nat.lt_of_lt_of_le q7_2.lt snb14)
  have ge14_nb : n0 ≤ nb14 := Nat.le_trans (Nat.le_trans (Nat.le_trans (Nat.le_trans Z0 E1.1) K2.1) K7.1) snb14
  have sz14_nb : h0.size ≤ nb14 := Nat.le_trans (Nat.le_trans (Nat.le_trans (Nat.le_trans (Nat.le_refl h0.size) E1.1) K2.1) K7.1) snb14
  show own_G p e below s _ _ _ (T14.setTop (mkF m 35 #[.val (.ref a), .val (.ref ln), .val (.ref b1), .unset] [(.ref nb14)]))
  refine own_st (fun zt zk => XS.astoreN X14.here hx rfl (hb hby dd_prog_14m11_35) rfl rfl (l' := #[.val (.ref a), .val (.ref ln), .val (.ref b1), .val (.ref nb14)]) rfl zk) ?_
  show own_G p e below s _ _ _ (T14.setTop (mkF m 36 #[.val (.ref a), .val (.ref ln), .val (.ref b1), .val (.ref nb14)] []))
  refine own_st (fun zt zk => XS.aloadN X14.here hx rfl (hb hby dd_prog_14m11_36) rfl rfl zk) ?_
  show own_G p e below s _ _ _ (T14.setTop (mkF m 37 #[.val (.ref a), .val (.ref ln), .val (.ref b1), .val (.ref nb14)] [(.ref a)]))
  have F16 : Fld Z T14.heap a "com/example/orderly_results/orderlyresults/engine/Packed$Writer" "bytes" "[B" (.ref ar) := ((((p1_.ext E1).keep K2 (ninS ne1_a nin0)).keep K7 (ninS ne1_a (ninS ne2_ar_a nin0))).keep K14 nin0)
  obtain ⟨T17, X17, e17, st17⟩ := getF X14 hx hZ hown (host := "") (Or.inl (hw _ (List.mem_of_getElem? (i := 10) rfl))) Via.refl rfl F16 (g := (mkF m 37 #[.val (.ref a), .val (.ref ln), .val (.ref b1), .val (.ref nb14)] [(.ref a)])) rfl rfl (hb hby dd_prog_14m11_37)
  refine own_st st17 ?_
  show own_G p e below s _ _ _ (T17.setTop (mkF m 40 #[.val (.ref a), .val (.ref ln), .val (.ref b1), .val (.ref nb14)] [(.ref ar)]))
  refine own_st (fun zt zk => XS.iconst X17.here hx rfl (hb hby dd_prog_14m11_40) zk) ?_
  show own_G p e below s _ _ _ (T17.setTop (mkF m 41 #[.val (.ref a), .val (.ref ln), .val (.ref b1), .val (.ref nb14)] [(.int (0 : Int32)), (.ref ar)]))
  refine own_st (fun zt zk => XS.aloadN X17.here hx rfl (hb hby dd_prog_14m11_41) rfl rfl zk) ?_
  show own_G p e below s _ _ _ (T17.setTop (mkF m 42 #[.val (.ref a), .val (.ref ln), .val (.ref b1), .val (.ref nb14)] [(.ref nb14), (.int (0 : Int32)), (.ref ar)]))
  refine own_st (fun zt zk => XS.aloadN X17.here hx rfl (hb hby dd_prog_14m11_42) rfl rfl zk) ?_
  show own_G p e below s _ _ _ (T17.setTop (mkF m 43 #[.val (.ref a), .val (.ref ln), .val (.ref b1), .val (.ref nb14)] [(.ref b1), (.ref nb14), (.int (0 : Int32)), (.ref ar)]))
  have F18 : Fld Z T14.heap b1 "com/example/orderly_results/orderlyresults/engine/Packed$Writer" "size" "I" (.int (Int32.ofNat (0 + 0 + 1))) := (q7_1.keep K14 nin0)
  obtain ⟨T19, X19, e19, st19⟩ := getF X17 hx hZ hown (host := "") (Or.inl (hw _ (List.mem_of_getElem? (i := 26) rfl))) Via.refl e17 F18 (g := (mkF m 43 #[.val (.ref a), .val (.ref ln), .val (.ref b1), .val (.ref nb14)] [(.ref b1), (.ref nb14), (.int (0 : Int32)), (.ref ar)])) rfl rfl (hb hby dd_prog_14m11_43)
  refine own_st st19 ?_
  show own_G p e below s _ _ _ (T19.setTop (mkF m 46 #[.val (.ref a), .val (.ref ln), .val (.ref b1), .val (.ref nb14)] [(.int (Int32.ofNat (0 + 0 + 1))), (.ref nb14), (.int (0 : Int32)), (.ref ar)]))
  refine own_st (fun zt zk => XS.aloadN X19.here hx rfl (hb hby dd_prog_14m11_46) rfl rfl zk) ?_
  show own_G p e below s _ _ _ (T19.setTop (mkF m 47 #[.val (.ref a), .val (.ref ln), .val (.ref b1), .val (.ref nb14)] [(.ref a), (.int (Int32.ofNat (0 + 0 + 1))), (.ref nb14), (.int (0 : Int32)), (.ref ar)]))
  have F20 : Fld Z T14.heap a "com/example/orderly_results/orderlyresults/engine/Packed$Writer" "size" "I" (.int sz) := (F11.keep K14 nin0)
  obtain ⟨T21, X21, e21, st21⟩ := getF X19 hx hZ hown (host := "") (Or.inl (hw _ (List.mem_of_getElem? (i := 26) rfl))) Via.refl e19 F20 (g := (mkF m 47 #[.val (.ref a), .val (.ref ln), .val (.ref b1), .val (.ref nb14)] [(.ref a), (.int (Int32.ofNat (0 + 0 + 1))), (.ref nb14), (.int (0 : Int32)), (.ref ar)])) rfl rfl (hb hby dd_prog_14m11_47)
  refine own_st st21 ?_
  show own_G p e below s _ _ _ (T21.setTop (mkF m 50 #[.val (.ref a), .val (.ref ln), .val (.ref b1), .val (.ref nb14)] [(.int sz), (.int (Int32.ofNat (0 + 0 + 1))), (.ref nb14), (.int (0 : Int32)), (.ref ar)]))
  have V23 : own_A Z T14.heap ar .byte 32 (fun q => .int (G q)) := (V15.keep K14 nin0)
  obtain ⟨T22, h22, L22, X22, e22, N22, K22, V22, st22⟩ := own_cpA X21 hx hZ hown (hw _ (List.mem_of_getElem? (i := 56) rfl)) (hw _ (List.mem_of_getElem? (i := 55) rfl)) (hw _ (List.mem_of_getElem? (i := 53) rfl)) (hw _ (List.mem_of_getElem? (i := 54) rfl)) e21 V23 q14_0 rfl (zn := (32 : Int32)) (zn' := ((Int32.ofNat (0 + 0 + 1)) + sz + (2 : Int32))) (by decide) (own_sum (own_sum (show (Int32.ofNat (0 + 0 + 1)).toInt = (1 : Nat) from by decide) p5_ (by omega)) (show (2 : Int32).toInt = (2 : Nat) from by decide) (by omega) |>.trans (by omega)) (i := 0) (j := 1) (k := n) (show (0 : Int32).toInt = (0 : Nat) from by decide) (show (Int32.ofNat (0 + 0 + 1)).toInt = (1 : Nat) from by decide) p5_ (by omega) (by omega) N14 ge14_nb (g := (mkF m 50 #[.val (.ref a), .val (.ref ln), .val (.ref b1), .val (.ref nb14)] [(.int sz), (.int (Int32.ofNat (0 + 0 + 1))), (.ref nb14), (.int (0 : Int32)), (.ref ar)])) rfl (by rw [hml]; rfl) rfl (hb hby dd_prog_14m11_50) (by decide) (W := 0) (by show 2 * 0 + _ ≤ _; exact Nat.le_of_eq rfl) (by decide)
  refine own_st st22 ?_
  have V22a : own_A Z h22 nb14 .byte (n + 3) (fun q => .int ((own_cp G 0 (own_put (fun _ => (0 : Int32)) 0 (sz.toInt64 &&& (4294967295 : Int64)) 0) 1 n) q)) := V22.congr (fun q _ => by simp only [own_cp]; split <;> rfl)
  show own_G p e below s _ _ _ (T22.setTop (mkF m 53 #[.val (.ref a), .val (.ref ln), .val (.ref b1), .val (.ref nb14)] []))
  refine own_st (fun zt zk => XS.aloadN X22.here hx rfl (hb hby dd_prog_14m11_53) rfl rfl zk) ?_
  show own_G p e below s _ _ _ (T22.setTop (mkF m 54 #[.val (.ref a), .val (.ref ln), .val (.ref b1), .val (.ref nb14)] [(.ref ln)]))
  refine own_st (fun zt zk => XS.iconst X22.here hx rfl (hb hby dd_prog_14m11_54) zk) ?_
  show own_G p e below s _ _ _ (T22.setTop (mkF m 55 #[.val (.ref a), .val (.ref ln), .val (.ref b1), .val (.ref nb14)] [(.int (0 : Int32)), (.ref ln)]))
  refine own_st (fun zt zk => XS.aloadN X22.here hx rfl (hb hby dd_prog_14m11_55) rfl rfl zk) ?_
  show own_G p e below s _ _ _ (T22.setTop (mkF m 56 #[.val (.ref a), .val (.ref ln), .val (.ref b1), .val (.ref nb14)] [(.ref nb14), (.int (0 : Int32)), (.ref ln)]))
  refine own_st (fun zt zk => XS.aloadN X22.here hx rfl (hb hby dd_prog_14m11_56) rfl rfl zk) ?_
  show own_G p e below s _ _ _ (T22.setTop (mkF m 57 #[.val (.ref a), .val (.ref ln), .val (.ref b1), .val (.ref nb14)] [(.ref b1), (.ref nb14), (.int (0 : Int32)), (.ref ln)]))
  have F24 : Fld Z h22 b1 "com/example/orderly_results/orderlyresults/engine/Packed$Writer" "size" "I" (.int (Int32.ofNat (0 + 0 + 1))) := (F18.keep K22 (ninS ne14_nb_b1 nin0))
  obtain ⟨T25, X25, e25, st25⟩ := getF X22 hx hZ hown (host := "") (Or.inl (hw _ (List.mem_of_getElem? (i := 26) rfl))) Via.refl e22 F24 (g := (mkF m 57 #[.val (.ref a), .val (.ref ln), .val (.ref b1), .val (.ref nb14)] [(.ref b1), (.ref nb14), (.int (0 : Int32)), (.ref ln)])) rfl rfl (hb hby dd_prog_14m11_57)
  refine own_st st25 ?_
  show own_G p e below s _ _ _ (T25.setTop (mkF m 60 #[.val (.ref a), .val (.ref ln), .val (.ref b1), .val (.ref nb14)] [(.int (Int32.ofNat (0 + 0 + 1))), (.ref nb14), (.int (0 : Int32)), (.ref ln)]))
  refine own_st (fun zt zk => XS.aloadN X25.here hx rfl (hb hby dd_prog_14m11_60) rfl rfl zk) ?_
  show own_G p e below s _ _ _ (T25.setTop (mkF m 61 #[.val (.ref a), .val (.ref ln), .val (.ref b1), .val (.ref nb14)] [(.ref a), (.int (Int32.ofNat (0 + 0 + 1))), (.ref nb14), (.int (0 : Int32)), (.ref ln)]))
  have F26 : Fld Z h22 a "com/example/orderly_results/orderlyresults/engine/Packed$Writer" "size" "I" (.int sz) := (F20.keep K22 (ninS ne14_nb_a nin0))
  obtain ⟨T27, X27, e27, st27⟩ := getF X25 hx hZ hown (host := "") (Or.inl (hw _ (List.mem_of_getElem? (i := 26) rfl))) Via.refl e25 F26 (g := (mkF m 61 #[.val (.ref a), .val (.ref ln), .val (.ref b1), .val (.ref nb14)] [(.ref a), (.int (Int32.ofNat (0 + 0 + 1))), (.ref nb14), (.int (0 : Int32)), (.ref ln)])) rfl rfl (hb hby dd_prog_14m11_61)
  refine own_st st27 ?_
  show own_G p e below s _ _ _ (T27.setTop (mkF m 64 #[.val (.ref a), .val (.ref ln), .val (.ref b1), .val (.ref nb14)] [(.int sz), (.int (Int32.ofNat (0 + 0 + 1))), (.ref nb14), (.int (0 : Int32)), (.ref ln)]))
  refine own_st (fun zt zk => XS.iadd X27.here hx rfl (hb hby dd_prog_14m11_64) rfl zk) ?_
  show own_G p e below s _ _ _ (T27.setTop (mkF m 65 #[.val (.ref a), .val (.ref ln), .val (.ref b1), .val (.ref nb14)] [(.int ((Int32.ofNat (0 + 0 + 1)) + sz)), (.ref nb14), (.int (0 : Int32)), (.ref ln)]))
  refine own_st (fun zt zk => XS.aloadN X27.here hx rfl (hb hby dd_prog_14m11_65) rfl rfl zk) ?_
  show own_G p e below s _ _ _ (T27.setTop (mkF m 66 #[.val (.ref a), .val (.ref ln), .val (.ref b1), .val (.ref nb14)] [(.ref ln), (.int ((Int32.ofNat (0 + 0 + 1)) + sz)), (.ref nb14), (.int (0 : Int32)), (.ref ln)]))
  have V28 : own_A Z h22 ln .byte 2 (fun q => .int (GL q)) := ((V13.keep K14 nin0).keep K22 (ninS ne14_nb_ln nin0))
  refine own_st (own_arraylength X27 hx hZ e27 V28 (2 : Int32) (by decide) (g := (mkF m 66 #[.val (.ref a), .val (.ref ln), .val (.ref b1), .val (.ref nb14)] [(.ref ln), (.int ((Int32.ofNat (0 + 0 + 1)) + sz)), (.ref nb14), (.int (0 : Int32)), (.ref ln)])) rfl rfl (hb hby dd_prog_14m11_66)) ?_
  show own_G p e below s _ _ _ (T27.setTop (mkF m 67 #[.val (.ref a), .val (.ref ln), .val (.ref b1), .val (.ref nb14)] [(.int (2 : Int32)), (.int ((Int32.ofNat (0 + 0 + 1)) + sz)), (.ref nb14), (.int (0 : Int32)), (.ref ln)]))
  obtain ⟨T29, h29, L29, X29, e29, N29, K29, V29, st29⟩ := own_cpA X27 hx hZ hown (hw _ (List.mem_of_getElem? (i := 56) rfl)) (hw _ (List.mem_of_getElem? (i := 55) rfl)) (hw _ (List.mem_of_getElem? (i := 53) rfl)) (hw _ (List.mem_of_getElem? (i := 54) rfl)) e27 V28 V22a rfl (zn := (2 : Int32)) (zn' := ((Int32.ofNat (0 + 0 + 1)) + sz + (2 : Int32))) (by decide) (own_sum (own_sum (show (Int32.ofNat (0 + 0 + 1)).toInt = (1 : Nat) from by decide) p5_ (by omega)) (show (2 : Int32).toInt = (2 : Nat) from by decide) (by omega) |>.trans (by omega)) (i := 0) (j := (1 + n)) (k := 2) (show (0 : Int32).toInt = (0 : Nat) from by decide) (own_sum (show (Int32.ofNat (0 + 0 + 1)).toInt = (1 : Nat) from by decide) p5_ (by omega)) (show (2 : Int32).toInt = (2 : Nat) from by decide) (by omega) (by omega) N22 ge14_nb (g := (mkF m 67 #[.val (.ref a), .val (.ref ln), .val (.ref b1), .val (.ref nb14)] [(.int (2 : Int32)), (.int ((Int32.ofNat (0 + 0 + 1)) + sz)), (.ref nb14), (.int (0 : Int32)), (.ref ln)])) rfl (by rw [hml]; rfl) rfl (hb hby dd_prog_14m11_67) (by decide) (W := 0) (by show 2 * 0 + _ ≤ _; exact Nat.le_of_eq rfl) (by decide)
  refine own_st st29 ?_
  have V29a : own_A Z h29 nb14 .byte (n + 3) (fun q => .int ((own_cp GL 0 (own_cp G 0 (own_put (fun _ => (0 : Int32)) 0 (sz.toInt64 &&& (4294967295 : Int64)) 0) 1 n) (1 + n) 2) q)) := V29.congr (fun q _ => by simp only [own_cp]; split <;> rfl)
  show own_G p e below s _ _ _ (T29.setTop (mkF m 70 #[.val (.ref a), .val (.ref ln), .val (.ref b1), .val (.ref nb14)] []))
  refine own_st (fun zt zk => XS.aloadN X29.here hx rfl (hb hby dd_prog_14m11_70) rfl rfl zk) ?_
  show own_G p e below s _ _ _ (T29.setTop (mkF m 71 #[.val (.ref a), .val (.ref ln), .val (.ref b1), .val (.ref nb14)] [(.ref nb14)]))
  refine own_retA X29 hx hlk hret rfl rfl (hb hby dd_prog_14m11_71) (by decide) (by decide) ?_
  show Q_own_tob Z a ln ar sz n G GL h0 n0 (some (.ref nb14)) T29.heap _
  rw [e29]
  exact ⟨nb14, rfl, N29, (((((((Keep.refl _ _).ext E1).trans K2 (allS (Or.inr sz1) all0)).trans K7 (allS (Or.inr sz1) (allS (Or.inr sz2_ar) all0))).trans K14 all0).trans K22 (allS (Or.inr sz14_nb) all0)).trans K29 (allS (Or.inr sz14_nb) all0)), sz14_nb, V29a⟩
theorem own_pn8 : plainFor (⟨"com/example/orderly_results/orderlyresults/engine/Packed$Reader", "varlong", "()J"⟩ : MethodName) = true := plainFor_of_name (by first | (simp [plainName, overriddenIn]; done) | decide +kernel)
theorem dd_prog_10m6_0 : decode prog_10_method_6_code 0 = .ok (.aload_n 0, 1) := by decide +kernel
theorem dd_prog_10m6_1 : decode prog_10_method_6_code 1 = .ok (.getfield 9, 3) := by decide +kernel
theorem dd_prog_10m6_4 : decode prog_10_method_6_code 4 = .ok (.aload_n 0, 1) := by decide +kernel
theorem dd_prog_10m6_5 : decode prog_10_method_6_code 5 = .ok (.dup, 1) := by decide +kernel
theorem dd_prog_10m6_6 : decode prog_10_method_6_code 6 = .ok (.getfield 19, 3) := by decide +kernel
theorem dd_prog_10m6_9 : decode prog_10_method_6_code 9 = .ok (.dup_x1, 1) := by decide +kernel
theorem dd_prog_10m6_10 : decode prog_10_method_6_code 10 = .ok (.iconst 1, 1) := by decide +kernel
theorem dd_prog_10m6_11 : decode prog_10_method_6_code 11 = .ok (.iadd, 1) := by decide +kernel
theorem dd_prog_10m6_12 : decode prog_10_method_6_code 12 = .ok (.putfield 19, 3) := by decide +kernel
theorem dd_prog_10m6_15 : decode prog_10_method_6_code 15 = .ok (.baload, 1) := by decide +kernel
theorem dd_prog_10m6_16 : decode prog_10_method_6_code 16 = .ok (.istore_n 1, 1) := by decide +kernel
theorem dd_prog_10m6_17 : decode prog_10_method_6_code 17 = .ok (.iload_n 1, 1) := by decide +kernel
theorem dd_prog_10m6_18 : decode prog_10_method_6_code 18 = .ok (.bipush 127, 2) := by decide +kernel
theorem dd_prog_10m6_20 : decode prog_10_method_6_code 20 = .ok (.iand, 1) := by decide +kernel
theorem dd_prog_10m6_21 : decode prog_10_method_6_code 21 = .ok (.i2l, 1) := by decide +kernel
theorem dd_prog_10m6_22 : decode prog_10_method_6_code 22 = .ok (.lstore_n 2, 1) := by decide +kernel
theorem dd_prog_10m6_23 : decode prog_10_method_6_code 23 = .ok (.bipush 7, 2) := by decide +kernel
theorem dd_prog_10m6_25 : decode prog_10_method_6_code 25 = .ok (.istore 4, 2) := by decide +kernel
theorem dd_prog_10m6_27 : decode prog_10_method_6_code 27 = .ok (.iload_n 1, 1) := by decide +kernel
theorem dd_prog_10m6_28 : decode prog_10_method_6_code 28 = .ok (.sipush 128, 3) := by decide +kernel
theorem dd_prog_10m6_31 : decode prog_10_method_6_code 31 = .ok (.iand, 1) := by decide +kernel
theorem dd_prog_10m6_32 : decode prog_10_method_6_code 32 = .ok (.ifCond .eq 37, 3) := by decide +kernel
theorem dd_prog_10m6_69 : decode prog_10_method_6_code 69 = .ok (.lload_n 2, 1) := by decide +kernel
theorem dd_prog_10m6_70 : decode prog_10_method_6_code 70 = .ok (.lreturn, 1) := by decide +kernel
theorem dd_prog_10m6_35 : decode prog_10_method_6_code 35 = .ok (.aload_n 0, 1) := by decide +kernel
theorem dd_prog_10m6_36 : decode prog_10_method_6_code 36 = .ok (.getfield 9, 3) := by decide +kernel
theorem dd_prog_10m6_39 : decode prog_10_method_6_code 39 = .ok (.aload_n 0, 1) := by decide +kernel
theorem dd_prog_10m6_40 : decode prog_10_method_6_code 40 = .ok (.dup, 1) := by decide +kernel
theorem dd_prog_10m6_41 : decode prog_10_method_6_code 41 = .ok (.getfield 19, 3) := by decide +kernel
theorem dd_prog_10m6_44 : decode prog_10_method_6_code 44 = .ok (.dup_x1, 1) := by decide +kernel
theorem dd_prog_10m6_45 : decode prog_10_method_6_code 45 = .ok (.iconst 1, 1) := by decide +kernel
theorem dd_prog_10m6_46 : decode prog_10_method_6_code 46 = .ok (.iadd, 1) := by decide +kernel
theorem dd_prog_10m6_47 : decode prog_10_method_6_code 47 = .ok (.putfield 19, 3) := by decide +kernel
theorem dd_prog_10m6_50 : decode prog_10_method_6_code 50 = .ok (.baload, 1) := by decide +kernel
theorem dd_prog_10m6_51 : decode prog_10_method_6_code 51 = .ok (.istore_n 1, 1) := by decide +kernel
theorem dd_prog_10m6_52 : decode prog_10_method_6_code 52 = .ok (.lload_n 2, 1) := by decide +kernel
theorem dd_prog_10m6_53 : decode prog_10_method_6_code 53 = .ok (.iload_n 1, 1) := by decide +kernel
theorem dd_prog_10m6_54 : decode prog_10_method_6_code 54 = .ok (.bipush 127, 2) := by decide +kernel
theorem dd_prog_10m6_56 : decode prog_10_method_6_code 56 = .ok (.iand, 1) := by decide +kernel
theorem dd_prog_10m6_57 : decode prog_10_method_6_code 57 = .ok (.i2l, 1) := by decide +kernel
theorem dd_prog_10m6_58 : decode prog_10_method_6_code 58 = .ok (.iload 4, 2) := by decide +kernel
theorem dd_prog_10m6_60 : decode prog_10_method_6_code 60 = .ok (.lshl, 1) := by decide +kernel
theorem dd_prog_10m6_61 : decode prog_10_method_6_code 61 = .ok (.lor, 1) := by decide +kernel
theorem dd_prog_10m6_62 : decode prog_10_method_6_code 62 = .ok (.lstore_n 2, 1) := by decide +kernel
theorem dd_prog_10m6_63 : decode prog_10_method_6_code 63 = .ok (.iinc 4 7, 3) := by decide +kernel
theorem dd_prog_10m6_66 : decode prog_10_method_6_code 66 = .ok (.goto (-39), 3) := by decide +kernel
theorem ef_own_rvl (m : MethodId) (z0 : Addr) : entryFrame m #[(.ref z0)] 5 = mkF m 0 #[.val (.ref z0), .unset, .unset, .unset, .unset] [] := by first | (simp [entryFrame, mkF, argsToLocals, Value.category]; done) | rfl
def Q_own_rvl (Z : State) (a : Addr) (ar : Addr) (ps : Int32) (vs : Int32) (ve : Int32) (n : Nat) (t : Nat) (N : Nat) (v : Int64) (G : Nat → Int32) (h0 : Heap) (n0 : Nat) (zv : Option Value) (zh : Heap) (zL : List Loc) : Prop := zv = some (.long v) ∧ Fr n0 zL ∧ Keep h0 zh [a] ∧ Fld Z zh a "com/example/orderly_results/orderlyresults/engine/Packed$Reader" "bytes" "[B" (.ref ar) ∧ Fld Z zh a "com/example/orderly_results/orderlyresults/engine/Packed$Reader" "position" "I" (.int (Int32.ofNat (n + t + 1))) ∧ Fld Z zh a "com/example/orderly_results/orderlyresults/engine/Packed$Reader" "valuesStart" "I" (.int vs) ∧ Fld Z zh a "com/example/orderly_results/orderlyresults/engine/Packed$Reader" "valuesEnd" "I" (.int ve)
set_option maxRecDepth 65536 in
set_option maxHeartbeats 40000000 in
theorem own_rvl (l : Launch) (Z : State) (a0 : Array Value) (hw : ∀ d ∈ tables_1, d.before a0 Z = true) (ws : List Jvm.Cond) (a : Addr) (ar : Addr) (ps : Int32) (vs : Int32) (ve : Int32) (n : Nat) (t : Nat) (N : Nat) (v : Int64) (G : Nat → Int32) (h0 : Heap) (n0 : Nat) (Z0 : n0 ≤ h0.size) (p0_ : Exa Z h0 a "com/example/orderly_results/orderlyresults/engine/Packed$Reader") (p1_ : Fld Z h0 a "com/example/orderly_results/orderlyresults/engine/Packed$Reader" "bytes" "[B" (.ref ar)) (p2_ : Fld Z h0 a "com/example/orderly_results/orderlyresults/engine/Packed$Reader" "position" "I" (.int ps)) (p3_ : Fld Z h0 a "com/example/orderly_results/orderlyresults/engine/Packed$Reader" "valuesStart" "I" (.int vs)) (p4_ : Fld Z h0 a "com/example/orderly_results/orderlyresults/engine/Packed$Reader" "valuesEnd" "I" (.int ve)) (p5_ : own_A Z h0 ar .byte N (fun q => .int (G q))) (p6_ : n0 ≤ a) (p7_ : a ≠ ar) (p8_ : ps.toInt = n) (p9_ : n + t + 1 ≤ N) (p10_ : N ≤ 100) (p11_ : own_it t v &&& (-128 : Int64) = (0 : Int64)) (p12_ : t ≤ 9) (p13_ : ∀ i, i ≤ t → G (n + i) = own_byte v t i) :
    MetFree l (⟨"com/example/orderly_results/orderlyresults/engine/Packed$Reader", "varlong", "()J"⟩ : MethodName) (head1 (Jvm.Cond.code (⟨"com/example/orderly_results/orderlyresults/engine/Packed$Reader", "varlong", "()J"⟩ : MethodName) prog_10_method_6_code 5 (some .long) :: ws) ({ frames := 0, cells := 0, slots := 0, locals := 0 } : Room)) (fun za zU => za = #[(.ref a)] ∧ Z.Warmed39 zU.vm ∧ zU.heap = h0) (fun _ _ _ _ _ => True) (fun _ zU zo zU' => ∃ zv zL, zo = .returned zv ∧ Q_own_rvl Z a ar ps vs ve n t N v G h0 n0 zv zU'.heap zL ∧ FrameEnd zU zo zU' zL ({ frames := 0, cells := 0, slots := 0, locals := 0 } : Room).cells ({ frames := 0, cells := 0, slots := 0, locals := 0 } : Room).slots) := by
  refine own_met (y := (⟨"com/example/orderly_results/orderlyresults/engine/Packed$Reader", "varlong", "()J"⟩ : MethodName)) own_pn8 ?_
  intro p e s m below meth c T0 hx hby hml hown hnm hret hlk hZ e0 X0
  have N0 := Fr.nil n0
  refine own_st (fun zt zk => castTop (ef_own_rvl m a) zk) ?_
  show own_G p e below s _ _ _ (T0.setTop (mkF m 0 #[.val (.ref a), .unset, .unset, .unset, .unset] []))
  refine own_st (fun zt zk => XS.aloadN X0.here hx rfl (hb hby dd_prog_10m6_0) rfl rfl zk) ?_
  show own_G p e below s _ _ _ (T0.setTop (mkF m 1 #[.val (.ref a), .unset, .unset, .unset, .unset] [(.ref a)]))
  obtain ⟨T1, X1, e1, st1⟩ := getF X0 hx hZ hown (host := "") (Or.inl (hw _ (List.mem_of_getElem? (i := 64) rfl))) Via.refl e0 p1_ (g := (mkF m 1 #[.val (.ref a), .unset, .unset, .unset, .unset] [(.ref a)])) rfl rfl (hb hby dd_prog_10m6_1)
  refine own_st st1 ?_
  show own_G p e below s _ _ _ (T1.setTop (mkF m 4 #[.val (.ref a), .unset, .unset, .unset, .unset] [(.ref ar)]))
  refine own_st (fun zt zk => XS.aloadN X1.here hx rfl (hb hby dd_prog_10m6_4) rfl rfl zk) ?_
  show own_G p e below s _ _ _ (T1.setTop (mkF m 5 #[.val (.ref a), .unset, .unset, .unset, .unset] [(.ref a), (.ref ar)]))
  refine own_st (fun zt zk => XS.dup X1.here hx rfl (hb hby dd_prog_10m6_5) rfl rfl zk) ?_
  show own_G p e below s _ _ _ (T1.setTop (mkF m 6 #[.val (.ref a), .unset, .unset, .unset, .unset] [(.ref a), (.ref a), (.ref ar)]))
  obtain ⟨T2, X2, e2, st2⟩ := getF X1 hx hZ hown (host := "") (Or.inl (hw _ (List.mem_of_getElem? (i := 76) rfl))) Via.refl e1 p2_ (g := (mkF m 6 #[.val (.ref a), .unset, .unset, .unset, .unset] [(.ref a), (.ref a), (.ref ar)])) rfl rfl (hb hby dd_prog_10m6_6)
  refine own_st st2 ?_
  show own_G p e below s _ _ _ (T2.setTop (mkF m 9 #[.val (.ref a), .unset, .unset, .unset, .unset] [(.int ps), (.ref a), (.ref ar)]))
  refine own_st (fun zt zk => XS.dupX1 X2.here hx rfl (hb hby dd_prog_10m6_9) rfl rfl rfl zk) ?_
  show own_G p e below s _ _ _ (T2.setTop (mkF m 10 #[.val (.ref a), .unset, .unset, .unset, .unset] [(.int ps), (.ref a), (.int ps), (.ref ar)]))
  refine own_st (fun zt zk => XS.iconst X2.here hx rfl (hb hby dd_prog_10m6_10) zk) ?_
  show own_G p e below s _ _ _ (T2.setTop (mkF m 11 #[.val (.ref a), .unset, .unset, .unset, .unset] [(.int (1 : Int32)), (.int ps), (.ref a), (.int ps), (.ref ar)]))
  refine own_st (fun zt zk => XS.iadd X2.here hx rfl (hb hby dd_prog_10m6_11) rfl zk) ?_
  show own_G p e below s _ _ _ (T2.setTop (mkF m 12 #[.val (.ref a), .unset, .unset, .unset, .unset] [(.int (ps + (1 : Int32))), (.ref a), (.int ps), (.ref ar)]))
  obtain ⟨T3, h3, X3, e3, W3, st3⟩ := putF X2 hx hZ hown (host := "") (Or.inl (hw _ (List.mem_of_getElem? (i := 76) rfl))) Via.refl e2 p2_ p0_ (Or.inl (hw _ (List.mem_of_getElem? (i := 77) rfl))) (hw _ (List.mem_of_getElem? (i := 58) rfl)) (ty := .int) (by decide) rfl rfl (g := (mkF m 12 #[.val (.ref a), .unset, .unset, .unset, .unset] [(.int (ps + (1 : Int32))), (.ref a), (.int ps), (.ref ar)])) rfl rfl (hb hby dd_prog_10m6_12)
  refine own_st st3 ?_
  have N3 := Fr.snoc X3 N0 p6_
  show own_G p e below s _ _ _ (T3.setTop (mkF m 15 #[.val (.ref a), .unset, .unset, .unset, .unset] [(.int ps), (.ref ar)]))
  have V4 : own_A Z h3 ar .byte N (fun q => .int (G q)) := (p5_.other W3 (Ne.symm p7_))
  refine own_st (own_baload X3 hx hZ e3 V4 p8_ (by omega) (.int (own_byte v t 0)) (congrArg Value.int (p13_ 0 (by omega))) (g := (mkF m 15 #[.val (.ref a), .unset, .unset, .unset, .unset] [(.int ps), (.ref ar)])) rfl rfl (hb hby dd_prog_10m6_15)) ?_
  show own_G p e below s _ _ _ (T3.setTop (mkF m 16 #[.val (.ref a), .unset, .unset, .unset, .unset] [(.int (own_byte v t 0))]))
  refine own_st (fun zt zk => XS.istoreN X3.here hx rfl (hb hby dd_prog_10m6_16) rfl (l' := #[.val (.ref a), .val (.int (own_byte v t 0)), .unset, .unset, .unset]) rfl zk) ?_
  show own_G p e below s _ _ _ (T3.setTop (mkF m 17 #[.val (.ref a), .val (.int (own_byte v t 0)), .unset, .unset, .unset] []))
  refine own_st (fun zt zk => XS.iloadN X3.here hx rfl (hb hby dd_prog_10m6_17) rfl zk) ?_
  show own_G p e below s _ _ _ (T3.setTop (mkF m 18 #[.val (.ref a), .val (.int (own_byte v t 0)), .unset, .unset, .unset] [(.int (own_byte v t 0))]))
  refine own_st (fun zt zk => XS.bipush X3.here hx rfl (hb hby dd_prog_10m6_18) zk) ?_
  show own_G p e below s _ _ _ (T3.setTop (mkF m 20 #[.val (.ref a), .val (.int (own_byte v t 0)), .unset, .unset, .unset] [(.int (127 : Int32)), (.int (own_byte v t 0))]))
  refine own_st (fun zt zk => XS.iand X3.here hx rfl (hb hby dd_prog_10m6_20) rfl zk) ?_
  show own_G p e below s _ _ _ (T3.setTop (mkF m 21 #[.val (.ref a), .val (.int (own_byte v t 0)), .unset, .unset, .unset] [(.int ((own_byte v t 0) &&& (127 : Int32)))]))
  refine own_st (fun zt zk => XS.i2l X3.here hx rfl (hb hby dd_prog_10m6_21) rfl zk) ?_
  show own_G p e below s _ _ _ (T3.setTop (mkF m 22 #[.val (.ref a), .val (.int (own_byte v t 0)), .unset, .unset, .unset] [(.long ((own_byte v t 0) &&& (127 : Int32)).toInt64)]))
  refine own_st (fun zt zk => XS.lstoreN X3.here hx rfl (hb hby dd_prog_10m6_22) rfl (l' := #[.val (.ref a), .val (.int (own_byte v t 0)), .val (.long ((own_byte v t 0) &&& (127 : Int32)).toInt64), .second, .unset]) rfl zk) ?_
  show own_G p e below s _ _ _ (T3.setTop (mkF m 23 #[.val (.ref a), .val (.int (own_byte v t 0)), .val (.long ((own_byte v t 0) &&& (127 : Int32)).toInt64), .second, .unset] []))
  rw [own_byte_low v t 0 (by omega) p11_, show own_it 0 v &&& (127 : Int64) = own_low 7 v from own_low_first v]
  show own_G p e below s _ _ _ (T3.setTop (mkF m 23 #[.val (.ref a), .val (.int (own_byte v t 0)), .val (.long (own_low 7 v)), .second, .unset] []))
  refine own_st (fun zt zk => XS.bipush X3.here hx rfl (hb hby dd_prog_10m6_23) zk) ?_
  show own_G p e below s _ _ _ (T3.setTop (mkF m 25 #[.val (.ref a), .val (.int (own_byte v t 0)), .val (.long (own_low 7 v)), .second, .unset] [(.int (7 : Int32))]))
  refine own_st (fun zt zk => XS.istore X3.here hx rfl (hb hby dd_prog_10m6_25) rfl (l' := #[.val (.ref a), .val (.int (own_byte v t 0)), .val (.long (own_low 7 v)), .second, .val (.int (7 : Int32))]) rfl zk) ?_
  show own_G p e below s _ _ _ (T3.setTop (mkF m 27 #[.val (.ref a), .val (.int (own_byte v t 0)), .val (.long (own_low 7 v)), .second, .val (.int (7 : Int32))] []))
  have hL : ∀ (fu : Nat) (i : Nat) (pi : Int32) (sh : Int32) (T1 : State) (hp1 : Heap) (locs1 : List Loc) (X1 : Stand p l e ({ frames := 0, cells := 0, slots := 0, locals := 0 } : Room) s m #[(.ref a)] below meth c T1 locs1 0 0) (e1 : T1.heap = hp1) (N1 : Fr n0 locs1) (K1 : Keep h0 hp1 [a]) (B0 : Exa Z hp1 a "com/example/orderly_results/orderlyresults/engine/Packed$Reader") (B1 : Fld Z hp1 a "com/example/orderly_results/orderlyresults/engine/Packed$Reader" "bytes" "[B" (.ref ar)) (B2 : Fld Z hp1 a "com/example/orderly_results/orderlyresults/engine/Packed$Reader" "position" "I" (.int pi)) (B3 : Fld Z hp1 a "com/example/orderly_results/orderlyresults/engine/Packed$Reader" "valuesStart" "I" (.int vs)) (B4 : Fld Z hp1 a "com/example/orderly_results/orderlyresults/engine/Packed$Reader" "valuesEnd" "I" (.int ve)) (B5 : own_A Z hp1 ar .byte N (fun q => .int (G q))) (hp : pi.toInt = (n + i + 1 : Nat)) (hsh : sh.toInt = (7 * i + 7 : Nat)) (hm : i + fu = t), own_G p e below s (Q_own_rvl Z a ar ps vs ve n t N v G h0 n0) ({ frames := 0, cells := 0, slots := 0, locals := 0 } : Room).cells ({ frames := 0, cells := 0, slots := 0, locals := 0 } : Room).slots (T1.setTop (mkF m 27 #[.val (.ref a), .val (.int (own_byte v t i)), .val (.long (own_low (7 * i + 7) v)), .second, .val (.int sh)] [])) := by
    intro fu
    induction fu with
    | zero =>
      intro i pi sh T1 hp1 locs1 X1 e1 N1 K1 B0 B1 B2 B3 B4 B5 hp hsh hm
      have hit : i = t := by omega
      show own_G p e below s _ _ _ (T1.setTop (mkF m 27 #[.val (.ref a), .val (.int (own_byte v t i)), .val (.long (own_low (7 * i + 7) v)), .second, .val (.int sh)] []))
      refine own_st (fun zt zk => XS.iloadN X1.here hx rfl (hb hby dd_prog_10m6_27) rfl zk) ?_
      show own_G p e below s _ _ _ (T1.setTop (mkF m 28 #[.val (.ref a), .val (.int (own_byte v t i)), .val (.long (own_low (7 * i + 7) v)), .second, .val (.int sh)] [(.int (own_byte v t i))]))
      refine own_st (fun zt zk => XS.sipush X1.here hx rfl (hb hby dd_prog_10m6_28) zk) ?_
      show own_G p e below s _ _ _ (T1.setTop (mkF m 31 #[.val (.ref a), .val (.int (own_byte v t i)), .val (.long (own_low (7 * i + 7) v)), .second, .val (.int sh)] [(.int (128 : Int32)), (.int (own_byte v t i))]))
      refine own_st (fun zt zk => XS.iand X1.here hx rfl (hb hby dd_prog_10m6_31) rfl zk) ?_
      show own_G p e below s _ _ _ (T1.setTop (mkF m 32 #[.val (.ref a), .val (.int (own_byte v t i)), .val (.long (own_low (7 * i + 7) v)), .second, .val (.int sh)] [(.int ((own_byte v t i) &&& (128 : Int32)))]))
      have hc32_5 : ((own_byte v t i) &&& (128 : Int32)) = (0 : Int32) := own_byte_stop v t i hit p11_
      refine own_st (fun zt zk => XS.ifYes X1.here hx rfl (pc0 := 32) (pc' := 69) rfl (hb hby dd_prog_10m6_32) rfl ((if0 _ _).trans (teq hc32_5).1) (by decide) (by decide) zk) ?_
      show own_G p e below s _ _ _ (T1.setTop (mkF m 69 #[.val (.ref a), .val (.int (own_byte v t i)), .val (.long (own_low (7 * i + 7) v)), .second, .val (.int sh)] []))
      refine own_st (fun zt zk => XS.lloadN X1.here hx rfl (hb hby dd_prog_10m6_69) rfl zk) ?_
      show own_G p e below s _ _ _ (T1.setTop (mkF m 70 #[.val (.ref a), .val (.int (own_byte v t i)), .val (.long (own_low (7 * i + 7) v)), .second, .val (.int sh)] [(.long (own_low (7 * i + 7) v))]))
      refine own_retJ X1 hx hlk hret (hb hby dd_prog_10m6_70) (by decide) (by decide) ?_
      show Q_own_rvl Z a ar ps vs ve n t N v G h0 n0 (some (.long (own_low (7 * i + 7) v))) T1.heap _
      rw [e1]
      exact ⟨(by rw [hit, own_low_all v t p11_]), N1, K1, B1, (by rw [← own_ofN (show pi.toInt = (n + t + 1 : Nat) by rw [hp, hit])]; exact B2), B3, B4⟩
    | succ fu ih =>
      intro i pi sh T1 hp1 locs1 X1 e1 N1 K1 B0 B1 B2 B3 B4 B5 hp hsh hm
      show own_G p e below s _ _ _ (T1.setTop (mkF m 27 #[.val (.ref a), .val (.int (own_byte v t i)), .val (.long (own_low (7 * i + 7) v)), .second, .val (.int sh)] []))
      refine own_st (fun zt zk => XS.iloadN X1.here hx rfl (hb hby dd_prog_10m6_27) rfl zk) ?_
      show own_G p e below s _ _ _ (T1.setTop (mkF m 28 #[.val (.ref a), .val (.int (own_byte v t i)), .val (.long (own_low (7 * i + 7) v)), .second, .val (.int sh)] [(.int (own_byte v t i))]))
      refine own_st (fun zt zk => XS.sipush X1.here hx rfl (hb hby dd_prog_10m6_28) zk) ?_
      show own_G p e below s _ _ _ (T1.setTop (mkF m 31 #[.val (.ref a), .val (.int (own_byte v t i)), .val (.long (own_low (7 * i + 7) v)), .second, .val (.int sh)] [(.int (128 : Int32)), (.int (own_byte v t i))]))
      refine own_st (fun zt zk => XS.iand X1.here hx rfl (hb hby dd_prog_10m6_31) rfl zk) ?_
      show own_G p e below s _ _ _ (T1.setTop (mkF m 32 #[.val (.ref a), .val (.int (own_byte v t i)), .val (.long (own_low (7 * i + 7) v)), .second, .val (.int sh)] [(.int ((own_byte v t i) &&& (128 : Int32)))]))
      have hc32_6 : ¬ (((own_byte v t i) &&& (128 : Int32)) = (0 : Int32)) := own_byte_more v t i (by omega)
      refine own_st (fun zt zk => XS.ifNo X1.here hx rfl (hb hby dd_prog_10m6_32) rfl ((if0 _ _).trans (feq hc32_6).1) zk) ?_
      show own_G p e below s _ _ _ (T1.setTop (mkF m 35 #[.val (.ref a), .val (.int (own_byte v t i)), .val (.long (own_low (7 * i + 7) v)), .second, .val (.int sh)] []))
      refine own_st (fun zt zk => XS.aloadN X1.here hx rfl (hb hby dd_prog_10m6_35) rfl rfl zk) ?_
      show own_G p e below s _ _ _ (T1.setTop (mkF m 36 #[.val (.ref a), .val (.int (own_byte v t i)), .val (.long (own_low (7 * i + 7) v)), .second, .val (.int sh)] [(.ref a)]))
      obtain ⟨T7, X7, e7, st7⟩ := getF X1 hx hZ hown (host := "") (Or.inl (hw _ (List.mem_of_getElem? (i := 64) rfl))) Via.refl e1 B1 (g := (mkF m 36 #[.val (.ref a), .val (.int (own_byte v t i)), .val (.long (own_low (7 * i + 7) v)), .second, .val (.int sh)] [(.ref a)])) rfl rfl (hb hby dd_prog_10m6_36)
      refine own_st st7 ?_
      show own_G p e below s _ _ _ (T7.setTop (mkF m 39 #[.val (.ref a), .val (.int (own_byte v t i)), .val (.long (own_low (7 * i + 7) v)), .second, .val (.int sh)] [(.ref ar)]))
      refine own_st (fun zt zk => XS.aloadN X7.here hx rfl (hb hby dd_prog_10m6_39) rfl rfl zk) ?_
      show own_G p e below s _ _ _ (T7.setTop (mkF m 40 #[.val (.ref a), .val (.int (own_byte v t i)), .val (.long (own_low (7 * i + 7) v)), .second, .val (.int sh)] [(.ref a), (.ref ar)]))
      refine own_st (fun zt zk => XS.dup X7.here hx rfl (hb hby dd_prog_10m6_40) rfl rfl zk) ?_
      show own_G p e below s _ _ _ (T7.setTop (mkF m 41 #[.val (.ref a), .val (.int (own_byte v t i)), .val (.long (own_low (7 * i + 7) v)), .second, .val (.int sh)] [(.ref a), (.ref a), (.ref ar)]))
      obtain ⟨T8, X8, e8, st8⟩ := getF X7 hx hZ hown (host := "") (Or.inl (hw _ (List.mem_of_getElem? (i := 76) rfl))) Via.refl e7 B2 (g := (mkF m 41 #[.val (.ref a), .val (.int (own_byte v t i)), .val (.long (own_low (7 * i + 7) v)), .second, .val (.int sh)] [(.ref a), (.ref a), (.ref ar)])) rfl rfl (hb hby dd_prog_10m6_41)
      refine own_st st8 ?_
      show own_G p e below s _ _ _ (T8.setTop (mkF m 44 #[.val (.ref a), .val (.int (own_byte v t i)), .val (.long (own_low (7 * i + 7) v)), .second, .val (.int sh)] [(.int pi), (.ref a), (.ref ar)]))
      refine own_st (fun zt zk => XS.dupX1 X8.here hx rfl (hb hby dd_prog_10m6_44) rfl rfl rfl zk) ?_
      show own_G p e below s _ _ _ (T8.setTop (mkF m 45 #[.val (.ref a), .val (.int (own_byte v t i)), .val (.long (own_low (7 * i + 7) v)), .second, .val (.int sh)] [(.int pi), (.ref a), (.int pi), (.ref ar)]))
      refine own_st (fun zt zk => XS.iconst X8.here hx rfl (hb hby dd_prog_10m6_45) zk) ?_
      show own_G p e below s _ _ _ (T8.setTop (mkF m 46 #[.val (.ref a), .val (.int (own_byte v t i)), .val (.long (own_low (7 * i + 7) v)), .second, .val (.int sh)] [(.int (1 : Int32)), (.int pi), (.ref a), (.int pi), (.ref ar)]))
      refine own_st (fun zt zk => XS.iadd X8.here hx rfl (hb hby dd_prog_10m6_46) rfl zk) ?_
      show own_G p e below s _ _ _ (T8.setTop (mkF m 47 #[.val (.ref a), .val (.int (own_byte v t i)), .val (.long (own_low (7 * i + 7) v)), .second, .val (.int sh)] [(.int (pi + (1 : Int32))), (.ref a), (.int pi), (.ref ar)]))
      obtain ⟨T9, h9, X9, e9, W9, st9⟩ := putF X8 hx hZ hown (host := "") (Or.inl (hw _ (List.mem_of_getElem? (i := 76) rfl))) Via.refl e8 B2 B0 (Or.inl (hw _ (List.mem_of_getElem? (i := 77) rfl))) (hw _ (List.mem_of_getElem? (i := 58) rfl)) (ty := .int) (by decide) rfl rfl (g := (mkF m 47 #[.val (.ref a), .val (.int (own_byte v t i)), .val (.long (own_low (7 * i + 7) v)), .second, .val (.int sh)] [(.int (pi + (1 : Int32))), (.ref a), (.int pi), (.ref ar)])) rfl rfl (hb hby dd_prog_10m6_47)
      refine own_st st9 ?_
      have N9 := Fr.snoc X9 N1 p6_
      show own_G p e below s _ _ _ (T9.setTop (mkF m 50 #[.val (.ref a), .val (.int (own_byte v t i)), .val (.long (own_low (7 * i + 7) v)), .second, .val (.int sh)] [(.int pi), (.ref ar)]))
      have V10 : own_A Z h9 ar .byte N (fun q => .int (G q)) := (B5.other W9 (Ne.symm p7_))
      refine own_st (own_baload X9 hx hZ e9 V10 hp (by omega) (.int (own_byte v t (i + 1))) (congrArg Value.int (p13_ (i + 1) (by omega))) (g := (mkF m 50 #[.val (.ref a), .val (.int (own_byte v t i)), .val (.long (own_low (7 * i + 7) v)), .second, .val (.int sh)] [(.int pi), (.ref ar)])) rfl rfl (hb hby dd_prog_10m6_50)) ?_
      show own_G p e below s _ _ _ (T9.setTop (mkF m 51 #[.val (.ref a), .val (.int (own_byte v t i)), .val (.long (own_low (7 * i + 7) v)), .second, .val (.int sh)] [(.int (own_byte v t (i + 1)))]))
      refine own_st (fun zt zk => XS.istoreN X9.here hx rfl (hb hby dd_prog_10m6_51) rfl (l' := #[.val (.ref a), .val (.int (own_byte v t (i + 1))), .val (.long (own_low (7 * i + 7) v)), .second, .val (.int sh)]) rfl zk) ?_
      show own_G p e below s _ _ _ (T9.setTop (mkF m 52 #[.val (.ref a), .val (.int (own_byte v t (i + 1))), .val (.long (own_low (7 * i + 7) v)), .second, .val (.int sh)] []))
      refine own_st (fun zt zk => XS.lloadN X9.here hx rfl (hb hby dd_prog_10m6_52) rfl zk) ?_
      show own_G p e below s _ _ _ (T9.setTop (mkF m 53 #[.val (.ref a), .val (.int (own_byte v t (i + 1))), .val (.long (own_low (7 * i + 7) v)), .second, .val (.int sh)] [(.long (own_low (7 * i + 7) v))]))
      refine own_st (fun zt zk => XS.iloadN X9.here hx rfl (hb hby dd_prog_10m6_53) rfl zk) ?_
      show own_G p e below s _ _ _ (T9.setTop (mkF m 54 #[.val (.ref a), .val (.int (own_byte v t (i + 1))), .val (.long (own_low (7 * i + 7) v)), .second, .val (.int sh)] [(.int (own_byte v t (i + 1))), (.long (own_low (7 * i + 7) v))]))
      refine own_st (fun zt zk => XS.bipush X9.here hx rfl (hb hby dd_prog_10m6_54) zk) ?_
      show own_G p e below s _ _ _ (T9.setTop (mkF m 56 #[.val (.ref a), .val (.int (own_byte v t (i + 1))), .val (.long (own_low (7 * i + 7) v)), .second, .val (.int sh)] [(.int (127 : Int32)), (.int (own_byte v t (i + 1))), (.long (own_low (7 * i + 7) v))]))
      refine own_st (fun zt zk => XS.iand X9.here hx rfl (hb hby dd_prog_10m6_56) rfl zk) ?_
      show own_G p e below s _ _ _ (T9.setTop (mkF m 57 #[.val (.ref a), .val (.int (own_byte v t (i + 1))), .val (.long (own_low (7 * i + 7) v)), .second, .val (.int sh)] [(.int ((own_byte v t (i + 1)) &&& (127 : Int32))), (.long (own_low (7 * i + 7) v))]))
      refine own_st (fun zt zk => XS.i2l X9.here hx rfl (hb hby dd_prog_10m6_57) rfl zk) ?_
      show own_G p e below s _ _ _ (T9.setTop (mkF m 58 #[.val (.ref a), .val (.int (own_byte v t (i + 1))), .val (.long (own_low (7 * i + 7) v)), .second, .val (.int sh)] [(.long ((own_byte v t (i + 1)) &&& (127 : Int32)).toInt64), (.long (own_low (7 * i + 7) v))]))
      refine own_st (fun zt zk => XS.iload X9.here hx rfl (hb hby dd_prog_10m6_58) rfl zk) ?_
      show own_G p e below s _ _ _ (T9.setTop (mkF m 60 #[.val (.ref a), .val (.int (own_byte v t (i + 1))), .val (.long (own_low (7 * i + 7) v)), .second, .val (.int sh)] [(.int sh), (.long ((own_byte v t (i + 1)) &&& (127 : Int32)).toInt64), (.long (own_low (7 * i + 7) v))]))
      refine own_st (fun zt zk => XS.lshl X9.here hx rfl (hb hby dd_prog_10m6_60) rfl zk) ?_
      show own_G p e below s _ _ _ (T9.setTop (mkF m 61 #[.val (.ref a), .val (.int (own_byte v t (i + 1))), .val (.long (own_low (7 * i + 7) v)), .second, .val (.int sh)] [(.long (((own_byte v t (i + 1)) &&& (127 : Int32)).toInt64 <<< (sh &&& 0x3f).toInt64)), (.long (own_low (7 * i + 7) v))]))
      refine own_st (fun zt zk => XS.lor X9.here hx rfl (hb hby dd_prog_10m6_61) rfl zk) ?_
      show own_G p e below s _ _ _ (T9.setTop (mkF m 62 #[.val (.ref a), .val (.int (own_byte v t (i + 1))), .val (.long (own_low (7 * i + 7) v)), .second, .val (.int sh)] [(.long ((own_low (7 * i + 7) v) ||| (((own_byte v t (i + 1)) &&& (127 : Int32)).toInt64 <<< (sh &&& 0x3f).toInt64)))]))
      refine own_st (fun zt zk => XS.lstoreN X9.here hx rfl (hb hby dd_prog_10m6_62) rfl (l' := #[.val (.ref a), .val (.int (own_byte v t (i + 1))), .val (.long ((own_low (7 * i + 7) v) ||| (((own_byte v t (i + 1)) &&& (127 : Int32)).toInt64 <<< (sh &&& 0x3f).toInt64))), .second, .val (.int sh)]) rfl zk) ?_
      show own_G p e below s _ _ _ (T9.setTop (mkF m 63 #[.val (.ref a), .val (.int (own_byte v t (i + 1))), .val (.long ((own_low (7 * i + 7) v) ||| (((own_byte v t (i + 1)) &&& (127 : Int32)).toInt64 <<< (sh &&& 0x3f).toInt64))), .second, .val (.int sh)] []))
      rw [own_byte_low v t (i + 1) (by omega) p11_, own_low_step (7 * i + 7) v sh (own_shq hsh (by omega)) (i + 1) (by omega), show 7 * i + 7 + 7 = 7 * (i + 1) + 7 by omega]
      show own_G p e below s _ _ _ (T9.setTop (mkF m 63 #[.val (.ref a), .val (.int (own_byte v t (i + 1))), .val (.long (own_low (7 * (i + 1) + 7) v)), .second, .val (.int sh)] []))
      refine own_st (fun zt zk => XS.iinc X9.here hx rfl (hb hby dd_prog_10m6_63) rfl (l' := #[.val (.ref a), .val (.int (own_byte v t (i + 1))), .val (.long (own_low (7 * (i + 1) + 7) v)), .second, .val (.int (sh + (7 : Int32)))]) rfl zk) ?_
      show own_G p e below s _ _ _ (T9.setTop (mkF m 66 #[.val (.ref a), .val (.int (own_byte v t (i + 1))), .val (.long (own_low (7 * (i + 1) + 7) v)), .second, .val (.int (sh + (7 : Int32)))] []))
      refine own_st (fun zt zk => XS.goto X9.here hx rfl (pc0 := 66) (pc' := 27) rfl (hb hby dd_prog_10m6_66) (by decide) (by decide) zk) ?_
      show own_G p e below s _ _ _ (T9.setTop (mkF m 27 #[.val (.ref a), .val (.int (own_byte v t (i + 1))), .val (.long (own_low (7 * (i + 1) + 7) v)), .second, .val (.int (sh + (7 : Int32)))] []))
      have E11 : Exa Z h9 a "com/example/orderly_results/orderlyresults/engine/Packed$Reader" := (B0.wr W9)
      have F12 : Fld Z h9 a "com/example/orderly_results/orderlyresults/engine/Packed$Reader" "bytes" "[B" (.ref ar) := (Fld.other W9 B1 (Or.inr (slot_ne (Or.inr (hw _ (List.mem_of_getElem? (i := 65) rfl))) (Or.inl (hw _ (List.mem_of_getElem? (i := 77) rfl))) (by decide) (t := (.array .byte)) (t' := .int) (by decide) (by decide))))
      have F13 : Fld Z h9 a "com/example/orderly_results/orderlyresults/engine/Packed$Reader" "position" "I" (.int (pi + (1 : Int32))) := (Fld.same W9 B2)
      have F14 : Fld Z h9 a "com/example/orderly_results/orderlyresults/engine/Packed$Reader" "valuesStart" "I" (.int vs) := (Fld.other W9 B3 (Or.inr (slot_ne (Or.inr (hw _ (List.mem_of_getElem? (i := 79) rfl))) (Or.inl (hw _ (List.mem_of_getElem? (i := 77) rfl))) (by decide) (t := .int) (t' := .int) (by decide) (by decide))))
      have F15 : Fld Z h9 a "com/example/orderly_results/orderlyresults/engine/Packed$Reader" "valuesEnd" "I" (.int ve) := (Fld.other W9 B4 (Or.inr (slot_ne (Or.inr (hw _ (List.mem_of_getElem? (i := 81) rfl))) (Or.inl (hw _ (List.mem_of_getElem? (i := 77) rfl))) (by decide) (t := .int) (t' := .int) (by decide) (by decide))))
      exact ih (i + 1) (pi + (1 : Int32)) (sh + (7 : Int32)) T9 h9 _ X9 e9 N9 (K1.wr W9 (Or.inl (List.mem_of_getElem? (i := 0) rfl))) E11 F12 F13 F14 F15 V10 (own_inc hp (by omega)) (by rw [own_inc7 hsh (by omega)] <;> rfl) (by omega)
  have E16 : Exa Z h3 a "com/example/orderly_results/orderlyresults/engine/Packed$Reader" := (p0_.wr W3)
  have F17 : Fld Z h3 a "com/example/orderly_results/orderlyresults/engine/Packed$Reader" "bytes" "[B" (.ref ar) := (Fld.other W3 p1_ (Or.inr (slot_ne (Or.inr (hw _ (List.mem_of_getElem? (i := 65) rfl))) (Or.inl (hw _ (List.mem_of_getElem? (i := 77) rfl))) (by decide) (t := (.array .byte)) (t' := .int) (by decide) (by decide))))
  have F18 : Fld Z h3 a "com/example/orderly_results/orderlyresults/engine/Packed$Reader" "position" "I" (.int (ps + (1 : Int32))) := (Fld.same W3 p2_)
  have F19 : Fld Z h3 a "com/example/orderly_results/orderlyresults/engine/Packed$Reader" "valuesStart" "I" (.int vs) := (Fld.other W3 p3_ (Or.inr (slot_ne (Or.inr (hw _ (List.mem_of_getElem? (i := 79) rfl))) (Or.inl (hw _ (List.mem_of_getElem? (i := 77) rfl))) (by decide) (t := .int) (t' := .int) (by decide) (by decide))))
  have F20 : Fld Z h3 a "com/example/orderly_results/orderlyresults/engine/Packed$Reader" "valuesEnd" "I" (.int ve) := (Fld.other W3 p4_ (Or.inr (slot_ne (Or.inr (hw _ (List.mem_of_getElem? (i := 81) rfl))) (Or.inl (hw _ (List.mem_of_getElem? (i := 77) rfl))) (by decide) (t := .int) (t' := .int) (by decide) (by decide))))
  exact hL t 0 (ps + (1 : Int32)) (7 : Int32) T3 h3 _ X3 e3 N3 ((Keep.refl _ _).wr W3 (Or.inl (List.mem_of_getElem? (i := 0) rfl))) E16 F17 F18 F19 F20 V4 (by rw [own_inc p8_ (by omega)] <;> rfl) (by decide) (by omega)
theorem own_pn9 : plainFor (⟨"com/example/orderly_results/orderlyresults/engine/Packed$Reader", "varint", "()I"⟩ : MethodName) = true := plainFor_of_name (by first | (simp [plainName, overriddenIn]; done) | decide +kernel)
theorem dd_prog_10m3_0 : decode prog_10_method_3_code 0 = .ok (.aload_n 0, 1) := by decide +kernel
theorem dd_prog_10m3_1 : decode prog_10_method_3_code 1 = .ok (.invokevirtual 35, 3) := by decide +kernel
theorem own_pd6 : parseMethodDescriptor "()J" = some ⟨[], some .long⟩ := by decide +kernel
theorem dd_prog_10m3_4 : decode prog_10_method_3_code 4 = .ok (.l2i, 1) := by decide +kernel
theorem dd_prog_10m3_5 : decode prog_10_method_3_code 5 = .ok (.ireturn, 1) := by decide +kernel
theorem ef_own_rvi (m : MethodId) (z0 : Addr) : entryFrame m #[(.ref z0)] 1 = mkF m 0 #[.val (.ref z0)] [] := by first | (simp [entryFrame, mkF, argsToLocals, Value.category]; done) | rfl
def Q_own_rvi (Z : State) (a : Addr) (ar : Addr) (ps : Int32) (vs : Int32) (ve : Int32) (n : Nat) (t : Nat) (N : Nat) (v : Int64) (G : Nat → Int32) (h0 : Heap) (n0 : Nat) (zv : Option Value) (zh : Heap) (zL : List Loc) : Prop := zv = some (.int v.toInt32) ∧ Fr n0 zL ∧ Keep h0 zh [a] ∧ Fld Z zh a "com/example/orderly_results/orderlyresults/engine/Packed$Reader" "bytes" "[B" (.ref ar) ∧ Fld Z zh a "com/example/orderly_results/orderlyresults/engine/Packed$Reader" "position" "I" (.int (Int32.ofNat (n + t + 1))) ∧ Fld Z zh a "com/example/orderly_results/orderlyresults/engine/Packed$Reader" "valuesStart" "I" (.int vs) ∧ Fld Z zh a "com/example/orderly_results/orderlyresults/engine/Packed$Reader" "valuesEnd" "I" (.int ve)
set_option maxRecDepth 65536 in
set_option maxHeartbeats 40000000 in
theorem own_rvi (l : Launch) (Z : State) (a0 : Array Value) (hw : ∀ d ∈ tables_1, d.before a0 Z = true) (ws : List Jvm.Cond) (a : Addr) (ar : Addr) (ps : Int32) (vs : Int32) (ve : Int32) (n : Nat) (t : Nat) (N : Nat) (v : Int64) (G : Nat → Int32) (h0 : Heap) (n0 : Nat) (Z0 : n0 ≤ h0.size) (p0_ : Exa Z h0 a "com/example/orderly_results/orderlyresults/engine/Packed$Reader") (p1_ : Fld Z h0 a "com/example/orderly_results/orderlyresults/engine/Packed$Reader" "bytes" "[B" (.ref ar)) (p2_ : Fld Z h0 a "com/example/orderly_results/orderlyresults/engine/Packed$Reader" "position" "I" (.int ps)) (p3_ : Fld Z h0 a "com/example/orderly_results/orderlyresults/engine/Packed$Reader" "valuesStart" "I" (.int vs)) (p4_ : Fld Z h0 a "com/example/orderly_results/orderlyresults/engine/Packed$Reader" "valuesEnd" "I" (.int ve)) (p5_ : own_A Z h0 ar .byte N (fun q => .int (G q))) (p6_ : n0 ≤ a) (p7_ : a ≠ ar) (p8_ : ps.toInt = n) (p9_ : n + t + 1 ≤ N) (p10_ : N ≤ 100) (p11_ : own_it t v &&& (-128 : Int64) = (0 : Int64)) (p12_ : t ≤ 9) (p13_ : ∀ i, i ≤ t → G (n + i) = own_byte v t i) :
    MetFree l (⟨"com/example/orderly_results/orderlyresults/engine/Packed$Reader", "varint", "()I"⟩ : MethodName) (head1 (Jvm.Cond.code (⟨"com/example/orderly_results/orderlyresults/engine/Packed$Reader", "varint", "()I"⟩ : MethodName) prog_10_method_3_code 1 (some .int) :: ws) ({ frames := 1, cells := 0, slots := 0, locals := 16 } : Room)) (fun za zU => za = #[(.ref a)] ∧ Z.Warmed39 zU.vm ∧ zU.heap = h0) (fun _ _ _ _ _ => True) (fun _ zU zo zU' => ∃ zv zL, zo = .returned zv ∧ Q_own_rvi Z a ar ps vs ve n t N v G h0 n0 zv zU'.heap zL ∧ FrameEnd zU zo zU' zL ({ frames := 1, cells := 0, slots := 0, locals := 16 } : Room).cells ({ frames := 1, cells := 0, slots := 0, locals := 16 } : Room).slots) := by
  refine own_met (y := (⟨"com/example/orderly_results/orderlyresults/engine/Packed$Reader", "varint", "()I"⟩ : MethodName)) own_pn9 ?_
  intro p e s m below meth c T0 hx hby hml hown hnm hret hlk hZ e0 X0
  have N0 := Fr.nil n0
  refine own_st (fun zt zk => castTop (ef_own_rvi m a) zk) ?_
  show own_G p e below s _ _ _ (T0.setTop (mkF m 0 #[.val (.ref a)] []))
  refine own_st (fun zt zk => XS.aloadN X0.here hx rfl (hb hby dd_prog_10m3_0) rfl rfl zk) ?_
  show own_G p e below s _ _ _ (T0.setTop (mkF m 1 #[.val (.ref a)] [(.ref a)]))
  obtain ⟨_, T1, L1, X1, hQ1, st1⟩ := own_callV X0 hx hZ (C := "com/example/orderly_results/orderlyresults/engine/Packed$Reader") (y := (⟨"com/example/orderly_results/orderlyresults/engine/Packed$Reader", "varlong", "()J"⟩ : MethodName)) (z := (⟨"com/example/orderly_results/orderlyresults/engine/Packed$Reader", "varlong", "()J"⟩ : MethodName)) (a := a) (argsL := []) (rest := []) 0 hown (hw _ (List.mem_of_getElem? (i := 71) rfl)) (hw _ (List.mem_of_getElem? (i := 72) rfl)) (own_nf hZ (hw _ (List.mem_of_getElem? (i := 74) rfl))) (hw _ (List.mem_of_getElem? (i := 74) rfl)) (hw _ (List.mem_of_getElem? (i := 73) rfl)) (hw _ (List.mem_of_getElem? (i := 59) rfl)) (hw _ (List.mem_of_getElem? (i := 75) rfl)) (by decide) (own_rvl l Z a0 hw [] a ar ps vs ve n t N v G h0 n0 Z0 p0_ p1_ p2_ p3_ p4_ p5_ p6_ p7_ p8_ p9_ p10_ p11_ p12_ p13_) (by decide) (by decide) e0 p0_ (g := (mkF m 1 #[.val (.ref a)] [(.ref a)])) rfl (by rw [hml]; rfl) own_pd6 rfl rfl (by show 2 * 0 + _ ≤ _; exact Nat.le_of_eq rfl) (hb hby dd_prog_10m3_1) (by decide) (by decide)
  obtain ⟨rfl, N1q, K1, q1_0, q1_1, q1_2, q1_3⟩ := hQ1
  have N1 := Fr.app N0 N1q
  refine own_st st1 ?_
  show own_G p e below s _ _ _ (T1.setTop (mkF m 4 #[.val (.ref a)] [(.long v)]))
  refine own_st (fun zt zk => XS.l2i X1.here hx rfl (hb hby dd_prog_10m3_4) rfl zk) ?_
  show own_G p e below s _ _ _ (T1.setTop (mkF m 5 #[.val (.ref a)] [(.int v.toInt32)]))
  refine own_retI X1 hx hlk hret (hb hby dd_prog_10m3_5) (by decide) (by decide) ?_
  show Q_own_rvi Z a ar ps vs ve n t N v G h0 n0 (some (.int v.toInt32)) T1.heap _
  exact ⟨rfl, N1, ((Keep.refl _ _).trans K1 (allS (Or.inl (List.mem_of_getElem? (i := 0) rfl)) all0)), q1_0, q1_1, q1_2, q1_3⟩
theorem own_pn10 : plainFor (⟨"com/example/orderly_results/orderlyresults/engine/Packed$Reader", "<init>", "([B)V"⟩ : MethodName) = true := plainFor_of_name (by first | (simp [plainName, overriddenIn]; done) | decide +kernel)
theorem dd_prog_10m1_0 : decode prog_10_method_1_code 0 = .ok (.aload_n 0, 1) := by decide +kernel
theorem dd_prog_10m1_1 : decode prog_10_method_1_code 1 = .ok (.invokespecial 3, 3) := by decide +kernel
theorem dd_prog_10m1_4 : decode prog_10_method_1_code 4 = .ok (.aload_n 0, 1) := by decide +kernel
theorem dd_prog_10m1_5 : decode prog_10_method_1_code 5 = .ok (.aload_n 1, 1) := by decide +kernel
theorem dd_prog_10m1_6 : decode prog_10_method_1_code 6 = .ok (.putfield 9, 3) := by decide +kernel
theorem dd_prog_10m1_9 : decode prog_10_method_1_code 9 = .ok (.aload_n 0, 1) := by decide +kernel
theorem dd_prog_10m1_10 : decode prog_10_method_1_code 10 = .ok (.invokevirtual 15, 3) := by decide +kernel
theorem own_pd7 : parseMethodDescriptor "()I" = some ⟨[], some .int⟩ := by decide +kernel
theorem dd_prog_10m1_13 : decode prog_10_method_1_code 13 = .ok (.istore_n 2, 1) := by decide +kernel
theorem dd_prog_10m1_14 : decode prog_10_method_1_code 14 = .ok (.aload_n 0, 1) := by decide +kernel
theorem dd_prog_10m1_15 : decode prog_10_method_1_code 15 = .ok (.aload_n 0, 1) := by decide +kernel
theorem dd_prog_10m1_16 : decode prog_10_method_1_code 16 = .ok (.getfield 19, 3) := by decide +kernel
theorem dd_prog_10m1_19 : decode prog_10_method_1_code 19 = .ok (.putfield 23, 3) := by decide +kernel
theorem dd_prog_10m1_22 : decode prog_10_method_1_code 22 = .ok (.aload_n 0, 1) := by decide +kernel
theorem dd_prog_10m1_23 : decode prog_10_method_1_code 23 = .ok (.aload_n 0, 1) := by decide +kernel
theorem dd_prog_10m1_24 : decode prog_10_method_1_code 24 = .ok (.getfield 19, 3) := by decide +kernel
theorem dd_prog_10m1_27 : decode prog_10_method_1_code 27 = .ok (.iload_n 2, 1) := by decide +kernel
theorem dd_prog_10m1_28 : decode prog_10_method_1_code 28 = .ok (.iadd, 1) := by decide +kernel
theorem dd_prog_10m1_29 : decode prog_10_method_1_code 29 = .ok (.putfield 26, 3) := by decide +kernel
theorem dd_prog_10m1_32 : decode prog_10_method_1_code 32 = .ok (.return_, 1) := by decide +kernel
theorem ef_own_rini (m : MethodId) (z0 : Addr) (z1 : Addr) : entryFrame m #[(.ref z0), (.ref z1)] 3 = mkF m 0 #[.val (.ref z0), .val (.ref z1), .unset] [] := by first | (simp [entryFrame, mkF, argsToLocals, Value.category]; done) | rfl
def Q_own_rini (Z : State) (a : Addr) (ar : Addr) (t : Nat) (N : Nat) (v : Int64) (G : Nat → Int32) (h0 : Heap) (n0 : Nat) (zv : Option Value) (zh : Heap) (zL : List Loc) : Prop := zv = none ∧ Fr n0 zL ∧ Keep h0 zh [a] ∧ Fld Z zh a "com/example/orderly_results/orderlyresults/engine/Packed$Reader" "bytes" "[B" (.ref ar) ∧ Fld Z zh a "com/example/orderly_results/orderlyresults/engine/Packed$Reader" "position" "I" (.int (Int32.ofNat (0 + t + 1))) ∧ Fld Z zh a "com/example/orderly_results/orderlyresults/engine/Packed$Reader" "valuesStart" "I" (.int (Int32.ofNat (0 + t + 1))) ∧ Fld Z zh a "com/example/orderly_results/orderlyresults/engine/Packed$Reader" "valuesEnd" "I" (.int ((Int32.ofNat (0 + t + 1)) + v.toInt32))
set_option maxRecDepth 65536 in
set_option maxHeartbeats 40000000 in
theorem own_rini (l : Launch) (Z : State) (a0 : Array Value) (hw : ∀ d ∈ tables_1, d.before a0 Z = true) (ws : List Jvm.Cond) (a : Addr) (ar : Addr) (t : Nat) (N : Nat) (v : Int64) (G : Nat → Int32) (h0 : Heap) (n0 : Nat) (Z0 : n0 ≤ h0.size) (p0_ : Exa Z h0 a "com/example/orderly_results/orderlyresults/engine/Packed$Reader") (p1_ : Fld Z h0 a "com/example/orderly_results/orderlyresults/engine/Packed$Reader" "bytes" "[B" .null) (p2_ : Fld Z h0 a "com/example/orderly_results/orderlyresults/engine/Packed$Reader" "position" "I" (.int (0 : Int32))) (p3_ : Fld Z h0 a "com/example/orderly_results/orderlyresults/engine/Packed$Reader" "valuesStart" "I" (.int (0 : Int32))) (p4_ : Fld Z h0 a "com/example/orderly_results/orderlyresults/engine/Packed$Reader" "valuesEnd" "I" (.int (0 : Int32))) (p5_ : own_A Z h0 ar .byte N (fun q => .int (G q))) (p6_ : n0 ≤ a) (p7_ : a ≠ ar) (p8_ : 0 + t + 1 ≤ N) (p9_ : N ≤ 100) (p10_ : own_it t v &&& (-128 : Int64) = (0 : Int64)) (p11_ : t ≤ 9) (p12_ : ∀ i, i ≤ t → G (0 + i) = own_byte v t i) :
    MetFree l (⟨"com/example/orderly_results/orderlyresults/engine/Packed$Reader", "<init>", "([B)V"⟩ : MethodName) (head1 (Jvm.Cond.code (⟨"com/example/orderly_results/orderlyresults/engine/Packed$Reader", "<init>", "([B)V"⟩ : MethodName) prog_10_method_1_code 3 none :: ws) ({ frames := 2, cells := 0, slots := 0, locals := 28 } : Room)) (fun za zU => za = #[(.ref a), (.ref ar)] ∧ Z.Warmed39 zU.vm ∧ zU.heap = h0) (fun _ _ _ _ _ => True) (fun _ zU zo zU' => ∃ zv zL, zo = .returned zv ∧ Q_own_rini Z a ar t N v G h0 n0 zv zU'.heap zL ∧ FrameEnd zU zo zU' zL ({ frames := 2, cells := 0, slots := 0, locals := 28 } : Room).cells ({ frames := 2, cells := 0, slots := 0, locals := 28 } : Room).slots) := by
  refine own_met (y := (⟨"com/example/orderly_results/orderlyresults/engine/Packed$Reader", "<init>", "([B)V"⟩ : MethodName)) own_pn10 ?_
  intro p e s m below meth c T0 hx hby hml hown hnm hret hlk hZ e0 X0
  have N0 := Fr.nil n0
  refine own_st (fun zt zk => castTop (ef_own_rini m a ar) zk) ?_
  show own_G p e below s _ _ _ (T0.setTop (mkF m 0 #[.val (.ref a), .val (.ref ar), .unset] []))
  refine own_st (fun zt zk => XS.aloadN X0.here hx rfl (hb hby dd_prog_10m1_0) rfl rfl zk) ?_
  show own_G p e below s _ _ _ (T0.setTop (mkF m 1 #[.val (.ref a), .val (.ref ar), .unset] [(.ref a)]))
  obtain ⟨T1, X1, e1, st1⟩ := initO X0 hx hZ hown (hw _ (List.mem_of_getElem? (i := 63) rfl)) (hw _ (List.mem_of_getElem? (i := 7) rfl)) (hw _ (List.mem_of_getElem? (i := 8) rfl)) e0 (g := (mkF m 1 #[.val (.ref a), .val (.ref ar), .unset] [(.ref a)])) rfl (by rw [hml]; rfl) rfl (hb hby dd_prog_10m1_1) (by decide) (W := 0) (by show 2 * 0 + _ ≤ _; exact Nat.le_of_eq rfl) (by decide)
  refine own_st st1 ?_
  show own_G p e below s _ _ _ (T1.setTop (mkF m 4 #[.val (.ref a), .val (.ref ar), .unset] []))
  refine own_st (fun zt zk => XS.aloadN X1.here hx rfl (hb hby dd_prog_10m1_4) rfl rfl zk) ?_
  show own_G p e below s _ _ _ (T1.setTop (mkF m 5 #[.val (.ref a), .val (.ref ar), .unset] [(.ref a)]))
  refine own_st (fun zt zk => XS.aloadN X1.here hx rfl (hb hby dd_prog_10m1_5) rfl rfl zk) ?_
  show own_G p e below s _ _ _ (T1.setTop (mkF m 6 #[.val (.ref a), .val (.ref ar), .unset] [(.ref ar), (.ref a)]))
  obtain ⟨T2, h2, X2, e2, W2, st2⟩ := putF X1 hx hZ hown (host := "") (Or.inl (hw _ (List.mem_of_getElem? (i := 64) rfl))) Via.refl e1 p1_ p0_ (Or.inr ⟨(hw _ (List.mem_of_getElem? (i := 65) rfl)), rfl, hnm⟩) (hw _ (List.mem_of_getElem? (i := 58) rfl)) (ty := (.array .byte)) (by decide) rfl rfl (g := (mkF m 6 #[.val (.ref a), .val (.ref ar), .unset] [(.ref ar), (.ref a)])) rfl rfl (hb hby dd_prog_10m1_6)
  refine own_st st2 ?_
  have N2 := Fr.snoc X2 N0 p6_
  show own_G p e below s _ _ _ (T2.setTop (mkF m 9 #[.val (.ref a), .val (.ref ar), .unset] []))
  refine own_st (fun zt zk => XS.aloadN X2.here hx rfl (hb hby dd_prog_10m1_9) rfl rfl zk) ?_
  show own_G p e below s _ _ _ (T2.setTop (mkF m 10 #[.val (.ref a), .val (.ref ar), .unset] [(.ref a)]))
  have F4 : Fld Z h2 a "com/example/orderly_results/orderlyresults/engine/Packed$Reader" "bytes" "[B" (.ref ar) := (Fld.same W2 p1_)
  have F5 : Fld Z h2 a "com/example/orderly_results/orderlyresults/engine/Packed$Reader" "position" "I" (.int (0 : Int32)) := (Fld.other W2 p2_ (Or.inr (slot_ne (Or.inl (hw _ (List.mem_of_getElem? (i := 77) rfl))) (Or.inr (hw _ (List.mem_of_getElem? (i := 65) rfl))) (by decide) (t := .int) (t' := (.array .byte)) (by decide) (by decide))))
  have F6 : Fld Z h2 a "com/example/orderly_results/orderlyresults/engine/Packed$Reader" "valuesStart" "I" (.int (0 : Int32)) := (Fld.other W2 p3_ (Or.inr (slot_ne (Or.inr (hw _ (List.mem_of_getElem? (i := 79) rfl))) (Or.inr (hw _ (List.mem_of_getElem? (i := 65) rfl))) (by decide) (t := .int) (t' := (.array .byte)) (by decide) (by decide))))
  have F7 : Fld Z h2 a "com/example/orderly_results/orderlyresults/engine/Packed$Reader" "valuesEnd" "I" (.int (0 : Int32)) := (Fld.other W2 p4_ (Or.inr (slot_ne (Or.inr (hw _ (List.mem_of_getElem? (i := 81) rfl))) (Or.inr (hw _ (List.mem_of_getElem? (i := 65) rfl))) (by decide) (t := .int) (t' := (.array .byte)) (by decide) (by decide))))
  have E8 : Exa Z h2 a "com/example/orderly_results/orderlyresults/engine/Packed$Reader" := (p0_.wr W2)
  have V9 : own_A Z h2 ar .byte N (fun q => .int (G q)) := (p5_.other W2 (Ne.symm p7_))
  obtain ⟨_, T3, L3, X3, hQ3, st3⟩ := own_callV X2 hx hZ (C := "com/example/orderly_results/orderlyresults/engine/Packed$Reader") (y := (⟨"com/example/orderly_results/orderlyresults/engine/Packed$Reader", "varint", "()I"⟩ : MethodName)) (z := (⟨"com/example/orderly_results/orderlyresults/engine/Packed$Reader", "varint", "()I"⟩ : MethodName)) (a := a) (argsL := []) (rest := []) 0 hown (hw _ (List.mem_of_getElem? (i := 66) rfl)) (hw _ (List.mem_of_getElem? (i := 67) rfl)) (own_nf hZ (hw _ (List.mem_of_getElem? (i := 69) rfl))) (hw _ (List.mem_of_getElem? (i := 69) rfl)) (hw _ (List.mem_of_getElem? (i := 68) rfl)) (hw _ (List.mem_of_getElem? (i := 59) rfl)) (hw _ (List.mem_of_getElem? (i := 70) rfl)) (by decide) (own_rvi l Z a0 hw [] a ar (0 : Int32) (0 : Int32) (0 : Int32) 0 t N v G h2 n0 (Nat.le_trans Z0 (Nat.le_of_eq W2.size.symm)) E8 F4 F5 F6 F7 V9 p6_ p7_ (show (0 : Int32).toInt = (0 : Nat) from by decide) p8_ p9_ p10_ p11_ p12_) (by decide) (by decide) e2 E8 (g := (mkF m 10 #[.val (.ref a), .val (.ref ar), .unset] [(.ref a)])) rfl (by rw [hml]; rfl) own_pd7 rfl rfl (by show 2 * 0 + _ ≤ _; exact Nat.le_of_eq rfl) (hb hby dd_prog_10m1_10) (by decide) (by decide)
  obtain ⟨rfl, N3q, K3, q3_0, q3_1, q3_2, q3_3⟩ := hQ3
  have N3 := Fr.app N2 N3q
  refine own_st st3 ?_
  show own_G p e below s _ _ _ (T3.setTop (mkF m 13 #[.val (.ref a), .val (.ref ar), .unset] [(.int v.toInt32)]))
  refine own_st (fun zt zk => XS.istoreN X3.here hx rfl (hb hby dd_prog_10m1_13) rfl (l' := #[.val (.ref a), .val (.ref ar), .val (.int v.toInt32)]) rfl zk) ?_
  show own_G p e below s _ _ _ (T3.setTop (mkF m 14 #[.val (.ref a), .val (.ref ar), .val (.int v.toInt32)] []))
  refine own_st (fun zt zk => XS.aloadN X3.here hx rfl (hb hby dd_prog_10m1_14) rfl rfl zk) ?_
  show own_G p e below s _ _ _ (T3.setTop (mkF m 15 #[.val (.ref a), .val (.ref ar), .val (.int v.toInt32)] [(.ref a)]))
  refine own_st (fun zt zk => XS.aloadN X3.here hx rfl (hb hby dd_prog_10m1_15) rfl rfl zk) ?_
  show own_G p e below s _ _ _ (T3.setTop (mkF m 16 #[.val (.ref a), .val (.ref ar), .val (.int v.toInt32)] [(.ref a), (.ref a)]))
  obtain ⟨T10, X10, e10, st10⟩ := getF X3 hx hZ hown (host := "") (Or.inl (hw _ (List.mem_of_getElem? (i := 76) rfl))) Via.refl rfl q3_1 (g := (mkF m 16 #[.val (.ref a), .val (.ref ar), .val (.int v.toInt32)] [(.ref a), (.ref a)])) rfl rfl (hb hby dd_prog_10m1_16)
  refine own_st st10 ?_
  show own_G p e below s _ _ _ (T10.setTop (mkF m 19 #[.val (.ref a), .val (.ref ar), .val (.int v.toInt32)] [(.int (Int32.ofNat (0 + t + 1))), (.ref a)]))
  have E11 : Exa Z T3.heap a "com/example/orderly_results/orderlyresults/engine/Packed$Reader" := (E8.keep K3)
  obtain ⟨T12, h12, X12, e12, W12, st12⟩ := putF X10 hx hZ hown (host := "") (Or.inl (hw _ (List.mem_of_getElem? (i := 78) rfl))) Via.refl e10 q3_2 E11 (Or.inr ⟨(hw _ (List.mem_of_getElem? (i := 79) rfl)), rfl, hnm⟩) (hw _ (List.mem_of_getElem? (i := 58) rfl)) (ty := .int) (by decide) rfl rfl (g := (mkF m 19 #[.val (.ref a), .val (.ref ar), .val (.int v.toInt32)] [(.int (Int32.ofNat (0 + t + 1))), (.ref a)])) rfl rfl (hb hby dd_prog_10m1_19)
  refine own_st st12 ?_
  have N12 := Fr.snoc X12 N3 p6_
  show own_G p e below s _ _ _ (T12.setTop (mkF m 22 #[.val (.ref a), .val (.ref ar), .val (.int v.toInt32)] []))
  refine own_st (fun zt zk => XS.aloadN X12.here hx rfl (hb hby dd_prog_10m1_22) rfl rfl zk) ?_
  show own_G p e below s _ _ _ (T12.setTop (mkF m 23 #[.val (.ref a), .val (.ref ar), .val (.int v.toInt32)] [(.ref a)]))
  refine own_st (fun zt zk => XS.aloadN X12.here hx rfl (hb hby dd_prog_10m1_23) rfl rfl zk) ?_
  show own_G p e below s _ _ _ (T12.setTop (mkF m 24 #[.val (.ref a), .val (.ref ar), .val (.int v.toInt32)] [(.ref a), (.ref a)]))
  have F13 : Fld Z h12 a "com/example/orderly_results/orderlyresults/engine/Packed$Reader" "position" "I" (.int (Int32.ofNat (0 + t + 1))) := (Fld.other W12 q3_1 (Or.inr (slot_ne (Or.inl (hw _ (List.mem_of_getElem? (i := 77) rfl))) (Or.inr (hw _ (List.mem_of_getElem? (i := 79) rfl))) (by decide) (t := .int) (t' := .int) (by decide) (by decide))))
  obtain ⟨T14, X14, e14, st14⟩ := getF X12 hx hZ hown (host := "") (Or.inl (hw _ (List.mem_of_getElem? (i := 76) rfl))) Via.refl e12 F13 (g := (mkF m 24 #[.val (.ref a), .val (.ref ar), .val (.int v.toInt32)] [(.ref a), (.ref a)])) rfl rfl (hb hby dd_prog_10m1_24)
  refine own_st st14 ?_
  show own_G p e below s _ _ _ (T14.setTop (mkF m 27 #[.val (.ref a), .val (.ref ar), .val (.int v.toInt32)] [(.int (Int32.ofNat (0 + t + 1))), (.ref a)]))
  refine own_st (fun zt zk => XS.iloadN X14.here hx rfl (hb hby dd_prog_10m1_27) rfl zk) ?_
  show own_G p e below s _ _ _ (T14.setTop (mkF m 28 #[.val (.ref a), .val (.ref ar), .val (.int v.toInt32)] [(.int v.toInt32), (.int (Int32.ofNat (0 + t + 1))), (.ref a)]))
  refine own_st (fun zt zk => XS.iadd X14.here hx rfl (hb hby dd_prog_10m1_28) rfl zk) ?_
  show own_G p e below s _ _ _ (T14.setTop (mkF m 29 #[.val (.ref a), .val (.ref ar), .val (.int v.toInt32)] [(.int ((Int32.ofNat (0 + t + 1)) + v.toInt32)), (.ref a)]))
  have F15 : Fld Z h12 a "com/example/orderly_results/orderlyresults/engine/Packed$Reader" "valuesEnd" "I" (.int (0 : Int32)) := (Fld.other W12 q3_3 (Or.inr (slot_ne (Or.inr (hw _ (List.mem_of_getElem? (i := 81) rfl))) (Or.inr (hw _ (List.mem_of_getElem? (i := 79) rfl))) (by decide) (t := .int) (t' := .int) (by decide) (by decide))))
  have E16 : Exa Z h12 a "com/example/orderly_results/orderlyresults/engine/Packed$Reader" := (E11.wr W12)
  obtain ⟨T17, h17, X17, e17, W17, st17⟩ := putF X14 hx hZ hown (host := "") (Or.inl (hw _ (List.mem_of_getElem? (i := 80) rfl))) Via.refl e14 F15 E16 (Or.inr ⟨(hw _ (List.mem_of_getElem? (i := 81) rfl)), rfl, hnm⟩) (hw _ (List.mem_of_getElem? (i := 58) rfl)) (ty := .int) (by decide) rfl rfl (g := (mkF m 29 #[.val (.ref a), .val (.ref ar), .val (.int v.toInt32)] [(.int ((Int32.ofNat (0 + t + 1)) + v.toInt32)), (.ref a)])) rfl rfl (hb hby dd_prog_10m1_29)
  refine own_st st17 ?_
  have N17 := Fr.snoc X17 N12 p6_
  show own_G p e below s _ _ _ (T17.setTop (mkF m 32 #[.val (.ref a), .val (.ref ar), .val (.int v.toInt32)] []))
  have F18 : Fld Z h17 a "com/example/orderly_results/orderlyresults/engine/Packed$Reader" "bytes" "[B" (.ref ar) := (Fld.other W17 (Fld.other W12 q3_0 (Or.inr (slot_ne (Or.inr (hw _ (List.mem_of_getElem? (i := 65) rfl))) (Or.inr (hw _ (List.mem_of_getElem? (i := 79) rfl))) (by decide) (t := (.array .byte)) (t' := .int) (by decide) (by decide)))) (Or.inr (slot_ne (Or.inr (hw _ (List.mem_of_getElem? (i := 65) rfl))) (Or.inr (hw _ (List.mem_of_getElem? (i := 81) rfl))) (by decide) (t := (.array .byte)) (t' := .int) (by decide) (by decide))))
  have F19 : Fld Z h17 a "com/example/orderly_results/orderlyresults/engine/Packed$Reader" "position" "I" (.int (Int32.ofNat (0 + t + 1))) := (Fld.other W17 F13 (Or.inr (slot_ne (Or.inl (hw _ (List.mem_of_getElem? (i := 77) rfl))) (Or.inr (hw _ (List.mem_of_getElem? (i := 81) rfl))) (by decide) (t := .int) (t' := .int) (by decide) (by decide))))
  have F20 : Fld Z h17 a "com/example/orderly_results/orderlyresults/engine/Packed$Reader" "valuesStart" "I" (.int (Int32.ofNat (0 + t + 1))) := (Fld.other W17 (Fld.same W12 q3_2) (Or.inr (slot_ne (Or.inr (hw _ (List.mem_of_getElem? (i := 79) rfl))) (Or.inr (hw _ (List.mem_of_getElem? (i := 81) rfl))) (by decide) (t := .int) (t' := .int) (by decide) (by decide))))
  have F21 : Fld Z h17 a "com/example/orderly_results/orderlyresults/engine/Packed$Reader" "valuesEnd" "I" (.int ((Int32.ofNat (0 + t + 1)) + v.toInt32)) := (Fld.same W17 F15)
  refine own_retV X17 hx hlk hret (hb hby dd_prog_10m1_32) (by decide) (by decide) ?_
  show Q_own_rini Z a ar t N v G h0 n0 none T17.heap _
  rw [e17]
  exact ⟨rfl, N17, (((((Keep.refl _ _).wr W2 (Or.inl (List.mem_of_getElem? (i := 0) rfl))).trans K3 (allS (Or.inl (List.mem_of_getElem? (i := 0) rfl)) all0)).wr W12 (Or.inl (List.mem_of_getElem? (i := 0) rfl))).wr W17 (Or.inl (List.mem_of_getElem? (i := 0) rfl))), F18, F19, F20, F21⟩
theorem own_pn11 : plainFor (⟨"com/example/orderly_results/orderlyresults/engine/ReaderVarlongPinLaw", "law", "(JIJI)Z"⟩ : MethodName) = true := plainFor_of_name (by first | (simp [plainName, overriddenIn]; done) | decide +kernel)
theorem own_pd8 : parseMethodDescriptor "([B)[B" = some ⟨[(.array .byte)], some (.array .byte)⟩ := by decide +kernel
theorem own_pd9 : parseMethodDescriptor "([B)V" = some ⟨[(.array .byte)], none⟩ := by decide +kernel
theorem ef_own_law (m : MethodId) (z0 : Int64) (z1 : Int32) (z2 : Int64) (z3 : Int32) : entryFrame m #[(.long z0), (.int z1), (.long z2), (.int z3)] maxLocals = mkF m 0 #[.val (.long z0), .second, .val (.int z1), .val (.long z2), .second, .val (.int z3), .unset, .unset, .unset, .unset, .unset, .unset, .unset, .unset, .unset, .unset, .unset, .unset] [] := by first | (simp [entryFrame, mkF, argsToLocals, Value.category, maxLocals]; done) | rfl
def Q_own_law (Z : State) (xa : Int64) (xs : Int32) (xb : Int64) (xt : Int32) (h0 : Heap) (n0 : Nat) (zv : Option Value) (zh : Heap) (zL : List Loc) : Prop := zv = some (.int (1 : Int32)) ∧ Fr n0 zL
set_option maxRecDepth 65536 in
set_option maxHeartbeats 40000000 in
theorem own_law (l : Launch) (Z : State) (a0 : Array Value) (hw : ∀ d ∈ tables_1, d.before a0 Z = true) (ws : List Jvm.Cond) (xa : Int64) (xs : Int32) (xb : Int64) (xt : Int32) (h0 : Heap) (n0 : Nat) (Z0 : n0 ≤ h0.size)  :
    MetFree l x (head1 (Jvm.Cond.code x code maxLocals ret :: ws) room_1) (fun za zU => za = #[(.long xa), (.int xs), (.long xb), (.int xt)] ∧ Z.Warmed39 zU.vm ∧ zU.heap = h0) (fun _ _ _ _ _ => True) (fun _ zU zo zU' => ∃ zv zL, zo = .returned zv ∧ Q_own_law Z xa xs xb xt h0 n0 zv zU'.heap zL ∧ FrameEnd zU zo zU' zL 7 107) := by
  refine own_met (y := x) own_pn11 ?_
  intro p e s m below meth c T0 hx hby hml hown hnm hret hlk hZ e0 X0
  have N0 := Fr.nil n0
  refine own_st (fun zt zk => castTop (ef_own_law m xa xs xb xt) zk) ?_
  show own_G p e below s _ _ _ (T0.setTop (mkF m 0 #[.val (.long xa), .second, .val (.int xs), .val (.long xb), .second, .val (.int xt), .unset, .unset, .unset, .unset, .unset, .unset, .unset, .unset, .unset, .unset, .unset, .unset] []))
  refine own_st (fun zt zk => XS.lloadN X0.here hx rfl (hb hby at_0) rfl zk) ?_
  show own_G p e below s _ _ _ (T0.setTop (mkF m 1 #[.val (.long xa), .second, .val (.int xs), .val (.long xb), .second, .val (.int xt), .unset, .unset, .unset, .unset, .unset, .unset, .unset, .unset, .unset, .unset, .unset, .unset] [(.long xa)]))
  refine own_st (fun zt zk => XS.iloadN X0.here hx rfl (hb hby at_1) rfl zk) ?_
  show own_G p e below s _ _ _ (T0.setTop (mkF m 2 #[.val (.long xa), .second, .val (.int xs), .val (.long xb), .second, .val (.int xt), .unset, .unset, .unset, .unset, .unset, .unset, .unset, .unset, .unset, .unset, .unset, .unset] [(.int xs), (.long xa)]))
  refine own_st (fun zt zk => XS.bipush X0.here hx rfl (hb hby at_2) zk) ?_
  show own_G p e below s _ _ _ (T0.setTop (mkF m 4 #[.val (.long xa), .second, .val (.int xs), .val (.long xb), .second, .val (.int xt), .unset, .unset, .unset, .unset, .unset, .unset, .unset, .unset, .unset, .unset, .unset, .unset] [(.int (63 : Int32)), (.int xs), (.long xa)]))
  refine own_st (fun zt zk => XS.iand X0.here hx rfl (hb hby at_4) rfl zk) ?_
  show own_G p e below s _ _ _ (T0.setTop (mkF m 5 #[.val (.long xa), .second, .val (.int xs), .val (.long xb), .second, .val (.int xt), .unset, .unset, .unset, .unset, .unset, .unset, .unset, .unset, .unset, .unset, .unset, .unset] [(.int (xs &&& (63 : Int32))), (.long xa)]))
  refine own_st (fun zt zk => XS.lushr X0.here hx rfl (hb hby at_5) rfl zk) ?_
  show own_G p e below s _ _ _ (T0.setTop (mkF m 6 #[.val (.long xa), .second, .val (.int xs), .val (.long xb), .second, .val (.int xt), .unset, .unset, .unset, .unset, .unset, .unset, .unset, .unset, .unset, .unset, .unset, .unset] [(.long ((xa.toUInt64 >>> ((xs &&& (63 : Int32)) &&& 0x3f).toInt64.toUInt64).toInt64))]))
  refine own_st (fun zt zk => XS.lstore X0.here hx rfl (hb hby at_6) rfl (l' := #[.val (.long xa), .second, .val (.int xs), .val (.long xb), .second, .val (.int xt), .val (.long ((xa.toUInt64 >>> ((xs &&& (63 : Int32)) &&& 0x3f).toInt64.toUInt64).toInt64)), .second, .unset, .unset, .unset, .unset, .unset, .unset, .unset, .unset, .unset, .unset]) rfl zk) ?_
  show own_G p e below s _ _ _ (T0.setTop (mkF m 8 #[.val (.long xa), .second, .val (.int xs), .val (.long xb), .second, .val (.int xt), .val (.long ((xa.toUInt64 >>> ((xs &&& (63 : Int32)) &&& 0x3f).toInt64.toUInt64).toInt64)), .second, .unset, .unset, .unset, .unset, .unset, .unset, .unset, .unset, .unset, .unset] []))
  refine own_st (fun zt zk => XS.lloadN X0.here hx rfl (hb hby at_8) rfl zk) ?_
  show own_G p e below s _ _ _ (T0.setTop (mkF m 9 #[.val (.long xa), .second, .val (.int xs), .val (.long xb), .second, .val (.int xt), .val (.long ((xa.toUInt64 >>> ((xs &&& (63 : Int32)) &&& 0x3f).toInt64.toUInt64).toInt64)), .second, .unset, .unset, .unset, .unset, .unset, .unset, .unset, .unset, .unset, .unset] [(.long xb)]))
  refine own_st (fun zt zk => XS.iload X0.here hx rfl (hb hby at_9) rfl zk) ?_
  show own_G p e below s _ _ _ (T0.setTop (mkF m 11 #[.val (.long xa), .second, .val (.int xs), .val (.long xb), .second, .val (.int xt), .val (.long ((xa.toUInt64 >>> ((xs &&& (63 : Int32)) &&& 0x3f).toInt64.toUInt64).toInt64)), .second, .unset, .unset, .unset, .unset, .unset, .unset, .unset, .unset, .unset, .unset] [(.int xt), (.long xb)]))
  refine own_st (fun zt zk => XS.bipush X0.here hx rfl (hb hby at_11) zk) ?_
  show own_G p e below s _ _ _ (T0.setTop (mkF m 13 #[.val (.long xa), .second, .val (.int xs), .val (.long xb), .second, .val (.int xt), .val (.long ((xa.toUInt64 >>> ((xs &&& (63 : Int32)) &&& 0x3f).toInt64.toUInt64).toInt64)), .second, .unset, .unset, .unset, .unset, .unset, .unset, .unset, .unset, .unset, .unset] [(.int (63 : Int32)), (.int xt), (.long xb)]))
  refine own_st (fun zt zk => XS.iand X0.here hx rfl (hb hby at_13) rfl zk) ?_
  show own_G p e below s _ _ _ (T0.setTop (mkF m 14 #[.val (.long xa), .second, .val (.int xs), .val (.long xb), .second, .val (.int xt), .val (.long ((xa.toUInt64 >>> ((xs &&& (63 : Int32)) &&& 0x3f).toInt64.toUInt64).toInt64)), .second, .unset, .unset, .unset, .unset, .unset, .unset, .unset, .unset, .unset, .unset] [(.int (xt &&& (63 : Int32))), (.long xb)]))
  refine own_st (fun zt zk => XS.lushr X0.here hx rfl (hb hby at_14) rfl zk) ?_
  show own_G p e below s _ _ _ (T0.setTop (mkF m 15 #[.val (.long xa), .second, .val (.int xs), .val (.long xb), .second, .val (.int xt), .val (.long ((xa.toUInt64 >>> ((xs &&& (63 : Int32)) &&& 0x3f).toInt64.toUInt64).toInt64)), .second, .unset, .unset, .unset, .unset, .unset, .unset, .unset, .unset, .unset, .unset] [(.long ((xb.toUInt64 >>> ((xt &&& (63 : Int32)) &&& 0x3f).toInt64.toUInt64).toInt64))]))
  refine own_st (fun zt zk => XS.lstore X0.here hx rfl (hb hby at_15) rfl (l' := #[.val (.long xa), .second, .val (.int xs), .val (.long xb), .second, .val (.int xt), .val (.long ((xa.toUInt64 >>> ((xs &&& (63 : Int32)) &&& 0x3f).toInt64.toUInt64).toInt64)), .second, .val (.long ((xb.toUInt64 >>> ((xt &&& (63 : Int32)) &&& 0x3f).toInt64.toUInt64).toInt64)), .second, .unset, .unset, .unset, .unset, .unset, .unset, .unset, .unset]) rfl zk) ?_
  show own_G p e below s _ _ _ (T0.setTop (mkF m 17 #[.val (.long xa), .second, .val (.int xs), .val (.long xb), .second, .val (.int xt), .val (.long ((xa.toUInt64 >>> ((xs &&& (63 : Int32)) &&& 0x3f).toInt64.toUInt64).toInt64)), .second, .val (.long ((xb.toUInt64 >>> ((xt &&& (63 : Int32)) &&& 0x3f).toInt64.toUInt64).toInt64)), .second, .unset, .unset, .unset, .unset, .unset, .unset, .unset, .unset] []))
  obtain ⟨x, q_x⟩ : ∃ z, z = ((xa.toUInt64 >>> ((xs &&& (63 : Int32)) &&& 0x3f).toInt64.toUInt64).toInt64) := ⟨_, rfl⟩
  rw [← q_x]
  show own_G p e below s _ _ _ (T0.setTop (mkF m 17 #[.val (.long xa), .second, .val (.int xs), .val (.long xb), .second, .val (.int xt), .val (.long x), .second, .val (.long ((xb.toUInt64 >>> ((xt &&& (63 : Int32)) &&& 0x3f).toInt64.toUInt64).toInt64)), .second, .unset, .unset, .unset, .unset, .unset, .unset, .unset, .unset] []))
  obtain ⟨y, q_y⟩ : ∃ z, z = ((xb.toUInt64 >>> ((xt &&& (63 : Int32)) &&& 0x3f).toInt64.toUInt64).toInt64) := ⟨_, rfl⟩
  rw [← q_y]
  show own_G p e below s _ _ _ (T0.setTop (mkF m 17 #[.val (.long xa), .second, .val (.int xs), .val (.long xb), .second, .val (.int xt), .val (.long x), .second, .val (.long y), .second, .unset, .unset, .unset, .unset, .unset, .unset, .unset, .unset] []))
  obtain ⟨tx, hx9, hxs, hxc⟩ := own_ends x
  obtain ⟨ty, hy9, hys, hyc⟩ := own_ends y
  obtain ⟨T1, h1, X1, e1, E1, A1, D1, -, st1⟩ := newO X0 hx hZ hown (hw _ (List.mem_of_getElem? (i := 0) rfl)) (hw _ (List.mem_of_getElem? (i := 1) rfl)) (hw _ (List.mem_of_getElem? (i := 2) rfl)) e0 (g := (mkF m 17 #[.val (.long xa), .second, .val (.int xs), .val (.long xb), .second, .val (.int xt), .val (.long x), .second, .val (.long y), .second, .unset, .unset, .unset, .unset, .unset, .unset, .unset, .unset] [])) rfl (hb hby at_17) (by decide) (by decide)
  obtain ⟨b1, g1⟩ : ∃ z, z = h0.size := ⟨_, rfl⟩
  rw [← g1] at A1 D1 st1
  have ge1 : n0 ≤ b1 := Nat.le_trans Z0 (Nat.le_of_eq g1.symm)
  have sz1 : h0.size ≤ b1 := Nat.le_trans (Nat.le_refl h0.size) (Nat.le_of_eq g1.symm)
  refine own_st st1 ?_
  show own_G p e below s _ _ _ (T1.setTop (mkF m 20 #[.val (.long xa), .second, .val (.int xs), .val (.long xb), .second, .val (.int xt), .val (.long x), .second, .val (.long y), .second, .unset, .unset, .unset, .unset, .unset, .unset, .unset, .unset] [(.ref b1)]))
  refine own_st (fun zt zk => XS.dup X1.here hx rfl (hb hby at_20) rfl rfl zk) ?_
  show own_G p e below s _ _ _ (T1.setTop (mkF m 21 #[.val (.long xa), .second, .val (.int xs), .val (.long xb), .second, .val (.int xt), .val (.long x), .second, .val (.long y), .second, .unset, .unset, .unset, .unset, .unset, .unset, .unset, .unset] [(.ref b1), (.ref b1)]))
  obtain ⟨_, T2, L2, X2, hQ2, st2⟩ := own_callI X1 hx hZ (y := (⟨"com/example/orderly_results/orderlyresults/engine/Packed$Writer", "<init>", "()V"⟩ : MethodName)) (a := b1) (argsL := []) (rest := [(.ref b1)]) 1 rfl hown (hw _ (List.mem_of_getElem? (i := 3) rfl)) (hw _ (List.mem_of_getElem? (i := 4) rfl)) (hw _ (List.mem_of_getElem? (i := 2) rfl)) (hw _ (List.mem_of_getElem? (i := 5) rfl)) (by decide) (own_wini l Z a0 hw [] b1 h1 n0 (Nat.le_trans Z0 E1.1) A1 (D1 (Or.inl (hw _ (List.mem_of_getElem? (i := 11) rfl))) (ty := (.array .byte)) (by decide)) (D1 (Or.inl (hw _ (List.mem_of_getElem? (i := 27) rfl))) (ty := .int) (by decide)) ge1) (by decide) (by decide) e1 (g := (mkF m 21 #[.val (.long xa), .second, .val (.int xs), .val (.long xb), .second, .val (.int xt), .val (.long x), .second, .val (.long y), .second, .unset, .unset, .unset, .unset, .unset, .unset, .unset, .unset] [(.ref b1), (.ref b1)])) rfl (by rw [hml]; rfl) own_pd4 rfl rfl (by show 2 * 0 + _ ≤ _; exact Nat.le_of_eq rfl) (hb hby at_21) (by decide) (by decide)
  obtain ⟨ar2, rfl, N2q, K2, sar2, q2_0, q2_1, q2_2⟩ := hQ2
  have N2 := Fr.app N0 N2q
  refine own_st st2 ?_
  have ne2_ar_b1 : b1 ≠ ar2 := Nat.ne_of_lt (Nat.lt_of_lt_of_le A1.lt sar2)
  have ge2_ar : n0 ≤ ar2 := Nat.le_trans (Nat.le_trans Z0 E1.1) sar2
  have sz2_ar : h0.size ≤ ar2 := Nat.le_trans (Nat.le_trans (Nat.le_refl h0.size) E1.1) sar2
  show own_G p e below s _ _ _ (T2.setTop (mkF m 24 #[.val (.long xa), .second, .val (.int xs), .val (.long xb), .second, .val (.int xt), .val (.long x), .second, .val (.long y), .second, .unset, .unset, .unset, .unset, .unset, .unset, .unset, .unset] [(.ref b1)]))
  refine own_st (fun zt zk => XS.astore X2.here hx rfl (hb hby at_24) rfl rfl (l' := #[.val (.long xa), .second, .val (.int xs), .val (.long xb), .second, .val (.int xt), .val (.long x), .second, .val (.long y), .second, .val (.ref b1), .unset, .unset, .unset, .unset, .unset, .unset, .unset]) rfl zk) ?_
  show own_G p e below s _ _ _ (T2.setTop (mkF m 26 #[.val (.long xa), .second, .val (.int xs), .val (.long xb), .second, .val (.int xt), .val (.long x), .second, .val (.long y), .second, .val (.ref b1), .unset, .unset, .unset, .unset, .unset, .unset, .unset] []))
  refine own_st (fun zt zk => XS.aload X2.here hx rfl (hb hby at_26) rfl rfl zk) ?_
  show own_G p e below s _ _ _ (T2.setTop (mkF m 28 #[.val (.long xa), .second, .val (.int xs), .val (.long xb), .second, .val (.int xt), .val (.long x), .second, .val (.long y), .second, .val (.ref b1), .unset, .unset, .unset, .unset, .unset, .unset, .unset] [(.ref b1)]))
  refine own_st (fun zt zk => XS.lload X2.here hx rfl (hb hby at_28) rfl zk) ?_
  show own_G p e below s _ _ _ (T2.setTop (mkF m 30 #[.val (.long xa), .second, .val (.int xs), .val (.long xb), .second, .val (.int xt), .val (.long x), .second, .val (.long y), .second, .val (.ref b1), .unset, .unset, .unset, .unset, .unset, .unset, .unset] [(.long x), (.ref b1)]))
  have E4 : Exa Z T2.heap b1 "com/example/orderly_results/orderlyresults/engine/Packed$Writer" := (A1.keep K2)
  obtain ⟨_, T3, L3, X3, hQ3, st3⟩ := own_callV X2 hx hZ (C := "com/example/orderly_results/orderlyresults/engine/Packed$Writer") (y := (⟨"com/example/orderly_results/orderlyresults/engine/Packed$Writer", "varlong", "(J)V"⟩ : MethodName)) (z := (⟨"com/example/orderly_results/orderlyresults/engine/Packed$Writer", "varlong", "(J)V"⟩ : MethodName)) (a := b1) (argsL := [(.long x)]) (rest := []) 0 hown (hw _ (List.mem_of_getElem? (i := 12) rfl)) (hw _ (List.mem_of_getElem? (i := 13) rfl)) (own_nf hZ (hw _ (List.mem_of_getElem? (i := 15) rfl))) (hw _ (List.mem_of_getElem? (i := 15) rfl)) (hw _ (List.mem_of_getElem? (i := 14) rfl)) (hw _ (List.mem_of_getElem? (i := 2) rfl)) (hw _ (List.mem_of_getElem? (i := 16) rfl)) (by decide) (own_wvl l Z a0 hw [] b1 x ar2 (0 : Int32) 0 tx (fun _ => (0 : Int32)) T2.heap n0 (Nat.le_trans (Nat.le_trans Z0 E1.1) K2.1) E4 q2_0 q2_1 q2_2 ge1 ge2_ar ne2_ar_b1 (show (0 : Int32).toInt = (0 : Nat) from by decide) (by omega) hxs hxc) (by decide) (by decide) rfl E4 (g := (mkF m 30 #[.val (.long xa), .second, .val (.int xs), .val (.long xb), .second, .val (.int xt), .val (.long x), .second, .val (.long y), .second, .val (.ref b1), .unset, .unset, .unset, .unset, .unset, .unset, .unset] [(.long x), (.ref b1)])) rfl (by rw [hml]; rfl) own_pd2 rfl rfl (by show 2 * 0 + _ ≤ _; exact Nat.le_of_eq rfl) (hb hby at_30) (by decide) (by decide)
  obtain ⟨rfl, N3q, K3, q3_0, q3_1, q3_2⟩ := hQ3
  have N3 := Fr.app N2 N3q
  refine own_st st3 ?_
  show own_G p e below s _ _ _ (T3.setTop (mkF m 33 #[.val (.long xa), .second, .val (.int xs), .val (.long xb), .second, .val (.int xt), .val (.long x), .second, .val (.long y), .second, .val (.ref b1), .unset, .unset, .unset, .unset, .unset, .unset, .unset] []))
  refine own_st (fun zt zk => XS.aload X3.here hx rfl (hb hby at_33) rfl rfl zk) ?_
  show own_G p e below s _ _ _ (T3.setTop (mkF m 35 #[.val (.long xa), .second, .val (.int xs), .val (.long xb), .second, .val (.int xt), .val (.long x), .second, .val (.long y), .second, .val (.ref b1), .unset, .unset, .unset, .unset, .unset, .unset, .unset] [(.ref b1)]))
  refine own_st (fun zt zk => XS.lload X3.here hx rfl (hb hby at_35) rfl zk) ?_
  show own_G p e below s _ _ _ (T3.setTop (mkF m 37 #[.val (.long xa), .second, .val (.int xs), .val (.long xb), .second, .val (.int xt), .val (.long x), .second, .val (.long y), .second, .val (.ref b1), .unset, .unset, .unset, .unset, .unset, .unset, .unset] [(.long y), (.ref b1)]))
  have E6 : Exa Z T3.heap b1 "com/example/orderly_results/orderlyresults/engine/Packed$Writer" := (E4.keep K3)
  obtain ⟨_, T5, L5, X5, hQ5, st5⟩ := own_callV X3 hx hZ (C := "com/example/orderly_results/orderlyresults/engine/Packed$Writer") (y := (⟨"com/example/orderly_results/orderlyresults/engine/Packed$Writer", "varlong", "(J)V"⟩ : MethodName)) (z := (⟨"com/example/orderly_results/orderlyresults/engine/Packed$Writer", "varlong", "(J)V"⟩ : MethodName)) (a := b1) (argsL := [(.long y)]) (rest := []) 0 hown (hw _ (List.mem_of_getElem? (i := 12) rfl)) (hw _ (List.mem_of_getElem? (i := 13) rfl)) (own_nf hZ (hw _ (List.mem_of_getElem? (i := 15) rfl))) (hw _ (List.mem_of_getElem? (i := 15) rfl)) (hw _ (List.mem_of_getElem? (i := 14) rfl)) (hw _ (List.mem_of_getElem? (i := 2) rfl)) (hw _ (List.mem_of_getElem? (i := 16) rfl)) (by decide) (own_wvl l Z a0 hw [] b1 y ar2 (Int32.ofNat (0 + tx + 1)) (0 + tx + 1) ty (own_put (fun _ => (0 : Int32)) 0 x tx) T3.heap n0 (Nat.le_trans (Nat.le_trans (Nat.le_trans Z0 E1.1) K2.1) K3.1) E6 q3_0 q3_1 q3_2 ge1 ge2_ar ne2_ar_b1 (own_toI (by omega)) (by omega) hys hyc) (by decide) (by decide) rfl E6 (g := (mkF m 37 #[.val (.long xa), .second, .val (.int xs), .val (.long xb), .second, .val (.int xt), .val (.long x), .second, .val (.long y), .second, .val (.ref b1), .unset, .unset, .unset, .unset, .unset, .unset, .unset] [(.long y), (.ref b1)])) rfl (by rw [hml]; rfl) own_pd2 rfl rfl (by show 2 * 0 + _ ≤ _; exact Nat.le_of_eq rfl) (hb hby at_37) (by decide) (by decide)
  obtain ⟨rfl, N5q, K5, q5_0, q5_1, q5_2⟩ := hQ5
  have N5 := Fr.app N3 N5q
  refine own_st st5 ?_
  show own_G p e below s _ _ _ (T5.setTop (mkF m 40 #[.val (.long xa), .second, .val (.int xs), .val (.long xb), .second, .val (.int xt), .val (.long x), .second, .val (.long y), .second, .val (.ref b1), .unset, .unset, .unset, .unset, .unset, .unset, .unset] []))
  refine own_st (fun zt zk => XS.iconst X5.here hx rfl (hb hby at_40) zk) ?_
  show own_G p e below s _ _ _ (T5.setTop (mkF m 41 #[.val (.long xa), .second, .val (.int xs), .val (.long xb), .second, .val (.int xt), .val (.long x), .second, .val (.long y), .second, .val (.ref b1), .unset, .unset, .unset, .unset, .unset, .unset, .unset] [(.int (2 : Int32))]))
  have E8 : Exa Z T5.heap b1 "com/example/orderly_results/orderlyresults/engine/Packed$Writer" := (E6.keep K5)
  obtain ⟨T7, h7, X7, e7, E7, V7, st7⟩ := own_newP X5 hx hZ (aty := .byte) (hw _ (List.mem_of_getElem? (i := 9) rfl)) rfl (g := (mkF m 41 #[.val (.long xa), .second, .val (.int xs), .val (.long xb), .second, .val (.int xt), .val (.long x), .second, .val (.long y), .second, .val (.ref b1), .unset, .unset, .unset, .unset, .unset, .unset, .unset] [(.int (2 : Int32))])) rfl (hb hby at_41) rfl (n := 2) (by decide) (cap := 2) (Nat.le_refl _) (by decide) (by decide) (by decide)
  obtain ⟨b7, g7⟩ : ∃ z, z = T5.heap.size := ⟨_, rfl⟩
  rw [← g7] at V7 st7
  have ne7_b1 : b1 ≠ b7 := by rw [g7]; exact Nat.ne_of_lt E8.lt
  have ne7_ar2 : ar2 ≠ b7 := by rw [g7]; exact Nat.ne_of_lt q5_2.lt
  have ge7 : n0 ≤ b7 := Nat.le_trans (Nat.le_trans (Nat.le_trans (Nat.le_trans (Nat.le_trans Z0 E1.1) K2.1) K3.1) K5.1) (Nat.le_of_eq g7.symm)
  have sz7 : h0.size ≤ b7 := Nat.le_trans (Nat.le_trans (Nat.le_trans (Nat.le_trans (Nat.le_trans (Nat.le_refl h0.size) E1.1) K2.1) K3.1) K5.1) (Nat.le_of_eq g7.symm)
  have V7a : own_A Z h7 b7 .byte 2 (fun q => .int ((fun _ => (0 : Int32)) q)) := V7
  refine own_st st7 ?_
  show own_G p e below s _ _ _ (T7.setTop (mkF m 43 #[.val (.long xa), .second, .val (.int xs), .val (.long xb), .second, .val (.int xt), .val (.long x), .second, .val (.long y), .second, .val (.ref b1), .unset, .unset, .unset, .unset, .unset, .unset, .unset] [(.ref b7)]))
  refine own_st (fun zt zk => XS.dup X7.here hx rfl (hb hby at_43) rfl rfl zk) ?_
  show own_G p e below s _ _ _ (T7.setTop (mkF m 44 #[.val (.long xa), .second, .val (.int xs), .val (.long xb), .second, .val (.int xt), .val (.long x), .second, .val (.long y), .second, .val (.ref b1), .unset, .unset, .unset, .unset, .unset, .unset, .unset] [(.ref b7), (.ref b7)]))
  refine own_st (fun zt zk => XS.iconst X7.here hx rfl (hb hby at_44) zk) ?_
  show own_G p e below s _ _ _ (T7.setTop (mkF m 45 #[.val (.long xa), .second, .val (.int xs), .val (.long xb), .second, .val (.int xt), .val (.long x), .second, .val (.long y), .second, .val (.ref b1), .unset, .unset, .unset, .unset, .unset, .unset, .unset] [(.int (0 : Int32)), (.ref b7), (.ref b7)]))
  refine own_st (fun zt zk => XS.iconst X7.here hx rfl (hb hby at_45) zk) ?_
  show own_G p e below s _ _ _ (T7.setTop (mkF m 46 #[.val (.long xa), .second, .val (.int xs), .val (.long xb), .second, .val (.int xt), .val (.long x), .second, .val (.long y), .second, .val (.ref b1), .unset, .unset, .unset, .unset, .unset, .unset, .unset] [(.int (-1 : Int32)), (.int (0 : Int32)), (.ref b7), (.ref b7)]))
  obtain ⟨T9, h9, X9, e9, W9, V9, st9⟩ := own_bastore X7 hx hZ e7 V7a (i := 0) (by decide) (by decide) (-1 : Int32) (by decide) (g := (mkF m 46 #[.val (.long xa), .second, .val (.int xs), .val (.long xb), .second, .val (.int xt), .val (.long x), .second, .val (.long y), .second, .val (.ref b1), .unset, .unset, .unset, .unset, .unset, .unset, .unset] [(.int (-1 : Int32)), (.int (0 : Int32)), (.ref b7), (.ref b7)])) rfl rfl (hb hby at_46)
  refine own_st st9 ?_
  have N9 := Fr.snoc X9 N5 ge7
  have V9a : own_A Z h9 b7 .byte 2 (fun q => .int ((own_up (fun _ => (0 : Int32)) 0 (-1 : Int32)) q)) := V9.congr (fun q _ => by simp only [own_up]; split <;> rfl)
  show own_G p e below s _ _ _ (T9.setTop (mkF m 47 #[.val (.long xa), .second, .val (.int xs), .val (.long xb), .second, .val (.int xt), .val (.long x), .second, .val (.long y), .second, .val (.ref b1), .unset, .unset, .unset, .unset, .unset, .unset, .unset] [(.ref b7)]))
  refine own_st (fun zt zk => XS.dup X9.here hx rfl (hb hby at_47) rfl rfl zk) ?_
  show own_G p e below s _ _ _ (T9.setTop (mkF m 48 #[.val (.long xa), .second, .val (.int xs), .val (.long xb), .second, .val (.int xt), .val (.long x), .second, .val (.long y), .second, .val (.ref b1), .unset, .unset, .unset, .unset, .unset, .unset, .unset] [(.ref b7), (.ref b7)]))
  refine own_st (fun zt zk => XS.iconst X9.here hx rfl (hb hby at_48) zk) ?_
  show own_G p e below s _ _ _ (T9.setTop (mkF m 49 #[.val (.long xa), .second, .val (.int xs), .val (.long xb), .second, .val (.int xt), .val (.long x), .second, .val (.long y), .second, .val (.ref b1), .unset, .unset, .unset, .unset, .unset, .unset, .unset] [(.int (1 : Int32)), (.ref b7), (.ref b7)]))
  refine own_st (fun zt zk => XS.bipush X9.here hx rfl (hb hby at_49) zk) ?_
  show own_G p e below s _ _ _ (T9.setTop (mkF m 51 #[.val (.long xa), .second, .val (.int xs), .val (.long xb), .second, .val (.int xt), .val (.long x), .second, .val (.long y), .second, .val (.ref b1), .unset, .unset, .unset, .unset, .unset, .unset, .unset] [(.int (-127 : Int32)), (.int (1 : Int32)), (.ref b7), (.ref b7)]))
  obtain ⟨T10, h10, X10, e10, W10, V10, st10⟩ := own_bastore X9 hx hZ e9 V9a (i := 1) (by decide) (by decide) (-127 : Int32) (by decide) (g := (mkF m 51 #[.val (.long xa), .second, .val (.int xs), .val (.long xb), .second, .val (.int xt), .val (.long x), .second, .val (.long y), .second, .val (.ref b1), .unset, .unset, .unset, .unset, .unset, .unset, .unset] [(.int (-127 : Int32)), (.int (1 : Int32)), (.ref b7), (.ref b7)])) rfl rfl (hb hby at_51)
  refine own_st st10 ?_
  have N10 := Fr.snoc X10 N9 ge7
  have V10a : own_A Z h10 b7 .byte 2 (fun q => .int ((own_up (own_up (fun _ => (0 : Int32)) 0 (-1 : Int32)) 1 (-127 : Int32)) q)) := V10.congr (fun q _ => by simp only [own_up]; split <;> rfl)
  show own_G p e below s _ _ _ (T10.setTop (mkF m 52 #[.val (.long xa), .second, .val (.int xs), .val (.long xb), .second, .val (.int xt), .val (.long x), .second, .val (.long y), .second, .val (.ref b1), .unset, .unset, .unset, .unset, .unset, .unset, .unset] [(.ref b7)]))
  refine own_st (fun zt zk => XS.astore X10.here hx rfl (hb hby at_52) rfl rfl (l' := #[.val (.long xa), .second, .val (.int xs), .val (.long xb), .second, .val (.int xt), .val (.long x), .second, .val (.long y), .second, .val (.ref b1), .val (.ref b7), .unset, .unset, .unset, .unset, .unset, .unset]) rfl zk) ?_
  show own_G p e below s _ _ _ (T10.setTop (mkF m 54 #[.val (.long xa), .second, .val (.int xs), .val (.long xb), .second, .val (.int xt), .val (.long x), .second, .val (.long y), .second, .val (.ref b1), .val (.ref b7), .unset, .unset, .unset, .unset, .unset, .unset] []))
  refine own_st (fun zt zk => XS.aload X10.here hx rfl (hb hby at_54) rfl rfl zk) ?_
  show own_G p e below s _ _ _ (T10.setTop (mkF m 56 #[.val (.long xa), .second, .val (.int xs), .val (.long xb), .second, .val (.int xt), .val (.long x), .second, .val (.long y), .second, .val (.ref b1), .val (.ref b7), .unset, .unset, .unset, .unset, .unset, .unset] [(.ref b1)]))
  refine own_st (fun zt zk => XS.aload X10.here hx rfl (hb hby at_56) rfl rfl zk) ?_
  show own_G p e below s _ _ _ (T10.setTop (mkF m 58 #[.val (.long xa), .second, .val (.int xs), .val (.long xb), .second, .val (.int xt), .val (.long x), .second, .val (.long y), .second, .val (.ref b1), .val (.ref b7), .unset, .unset, .unset, .unset, .unset, .unset] [(.ref b7), (.ref b1)]))
  have F12 : Fld Z h10 b1 "com/example/orderly_results/orderlyresults/engine/Packed$Writer" "bytes" "[B" (.ref ar2) := (Fld.other W10 (Fld.other W9 (q5_0.ext E7) (Or.inl ne7_b1)) (Or.inl ne7_b1))
  have F13 : Fld Z h10 b1 "com/example/orderly_results/orderlyresults/engine/Packed$Writer" "size" "I" (.int (Int32.ofNat ((0 + tx + 1) + ty + 1))) := (Fld.other W10 (Fld.other W9 (q5_1.ext E7) (Or.inl ne7_b1)) (Or.inl ne7_b1))
  have E14 : Exa Z h10 b1 "com/example/orderly_results/orderlyresults/engine/Packed$Writer" := (((E8.ext E7).wr W9).wr W10)
  have V15 : own_A Z h10 ar2 .byte 32 (fun q => .int ((own_put (own_put (fun _ => (0 : Int32)) 0 x tx) (0 + tx + 1) y ty) q)) := (((q5_2.ext E7).other W9 ne7_ar2).other W10 ne7_ar2)
  obtain ⟨_, T11, L11, X11, hQ11, st11⟩ := own_callV X10 hx hZ (C := "com/example/orderly_results/orderlyresults/engine/Packed$Writer") (y := (⟨"com/example/orderly_results/orderlyresults/engine/Packed$Writer", "toBytes", "([B)[B"⟩ : MethodName)) (z := (⟨"com/example/orderly_results/orderlyresults/engine/Packed$Writer", "toBytes", "([B)[B"⟩ : MethodName)) (a := b1) (argsL := [(.ref b7)]) (rest := []) 0 hown (hw _ (List.mem_of_getElem? (i := 30) rfl)) (hw _ (List.mem_of_getElem? (i := 31) rfl)) (own_nf hZ (hw _ (List.mem_of_getElem? (i := 33) rfl))) (hw _ (List.mem_of_getElem? (i := 33) rfl)) (hw _ (List.mem_of_getElem? (i := 32) rfl)) (hw _ (List.mem_of_getElem? (i := 2) rfl)) (hw _ (List.mem_of_getElem? (i := 34) rfl)) (by decide) (own_tob l Z a0 hw [] b1 b7 ar2 (Int32.ofNat ((0 + tx + 1) + ty + 1)) (0 + tx + 1 + ty + 1) (own_put (own_put (fun _ => (0 : Int32)) 0 x tx) (0 + tx + 1) y ty) (own_up (own_up (fun _ => (0 : Int32)) 0 (-1 : Int32)) 1 (-127 : Int32)) h10 n0 (Nat.le_trans (Nat.le_trans (Nat.le_trans (Nat.le_trans (Nat.le_trans (Nat.le_trans (Nat.le_trans Z0 E1.1) K2.1) K3.1) K5.1) E7.1) (Nat.le_of_eq W9.size.symm)) (Nat.le_of_eq W10.size.symm)) E14 F12 F13 V15 V10a (own_toI (by omega)) (by omega)) (by decide) (by decide) e10 E14 (g := (mkF m 58 #[.val (.long xa), .second, .val (.int xs), .val (.long xb), .second, .val (.int xt), .val (.long x), .second, .val (.long y), .second, .val (.ref b1), .val (.ref b7), .unset, .unset, .unset, .unset, .unset, .unset] [(.ref b7), (.ref b1)])) rfl (by rw [hml]; rfl) own_pd8 rfl rfl (by show 2 * 0 + _ ≤ _; exact Nat.le_of_eq rfl) (hb hby at_58) (by decide) (by decide)
  obtain ⟨nb11, rfl, N11q, K11, snb11, q11_0⟩ := hQ11
  have N11 := Fr.app N10 N11q
  refine own_st st11 ?_
  have ne11_nb_b1 : b1 ≠ nb11 := Nat.ne_of_lt (Nat.lt_of_lt_of_le E14.lt snb11)
  have ne11_nb_ar2 : ar2 ≠ nb11 := Nat.ne_of_lt (Nat.lt_of_lt_of_le V15.lt snb11)
  have ne11_nb_b7 : b7 ≠ nb11 := Nat.ne_of_lt (Nat.lt_of_lt_of_le V10a.lt snb11)
  have ge11_nb : n0 ≤ nb11 := Nat.le_trans (Nat.le_trans (Nat.le_trans (Nat.le_trans (Nat.le_trans (Nat.le_trans (Nat.le_trans (Nat.le_trans Z0 E1.1) K2.1) K3.1) K5.1) E7.1) (Nat.le_of_eq W9.size.symm)) (Nat.le_of_eq W10.size.symm)) snb11
  have sz11_nb : h0.size ≤ nb11 := Nat.le_trans (Nat.le_trans (Nat.le_trans (Nat.le_trans (Nat.le_trans (Nat.le_trans (Nat.le_trans (Nat.le_trans (Nat.le_refl h0.size) E1.1) K2.1) K3.1) K5.1) E7.1) (Nat.le_of_eq W9.size.symm)) (Nat.le_of_eq W10.size.symm)) snb11
  show own_G p e below s _ _ _ (T11.setTop (mkF m 61 #[.val (.long xa), .second, .val (.int xs), .val (.long xb), .second, .val (.int xt), .val (.long x), .second, .val (.long y), .second, .val (.ref b1), .val (.ref b7), .unset, .unset, .unset, .unset, .unset, .unset] [(.ref nb11)]))
  refine own_st (fun zt zk => XS.astore X11.here hx rfl (hb hby at_61) rfl rfl (l' := #[.val (.long xa), .second, .val (.int xs), .val (.long xb), .second, .val (.int xt), .val (.long x), .second, .val (.long y), .second, .val (.ref b1), .val (.ref b7), .val (.ref nb11), .unset, .unset, .unset, .unset, .unset]) rfl zk) ?_
  show own_G p e below s _ _ _ (T11.setTop (mkF m 63 #[.val (.long xa), .second, .val (.int xs), .val (.long xb), .second, .val (.int xt), .val (.long x), .second, .val (.long y), .second, .val (.ref b1), .val (.ref b7), .val (.ref nb11), .unset, .unset, .unset, .unset, .unset] []))
  obtain ⟨CC, hCC⟩ : ∃ z, z = (own_cp (own_up (own_up (fun _ => (0 : Int32)) 0 (-1 : Int32)) 1 (-127 : Int32)) 0 (own_cp (own_put (own_put (fun _ => (0 : Int32)) 0 x tx) (0 + tx + 1) y ty) 0 (own_put (fun _ => (0 : Int32)) 0 ((Int32.ofNat ((0 + tx + 1) + ty + 1)).toInt64 &&& (4294967295 : Int64)) 0) 1 (0 + tx + 1 + ty + 1)) (1 + (0 + tx + 1 + ty + 1)) 2) := ⟨_, rfl⟩
  have VC : own_A Z T11.heap nb11 .byte ((0 + tx + 1 + ty + 1) + 3) (fun q => .int (CC q)) := by rw [hCC]; exact q11_0
  have hSZ : (Int32.ofNat (0 + tx + 1 + ty + 1)).toInt = (0 + tx + 1 + ty + 1 : Nat) := own_toI (by omega)
  have cb0 : ∀ i, i ≤ 0 → CC (0 + i) = own_byte ((Int32.ofNat (0 + tx + 1 + ty + 1)).toInt64 &&& (4294967295 : Int64)) 0 i := by
    intro i hi
    obtain rfl : i = 0 := by omega
    rw [hCC]
    unfold own_cp
    rw [if_neg (by omega), if_neg (by omega)]
    exact own_put_get _ 0 _ 0 0 (by omega)
  have cbx : ∀ i, i ≤ tx → CC (1 + i) = own_byte x tx i := by
    intro i hi
    rw [hCC]
    unfold own_cp
    rw [if_neg (by omega), if_pos ⟨by omega, by omega⟩, show 0 + (1 + i - 1) = i by omega, own_put_old _ _ _ _ _ (by omega)]
    rw [← own_put_get (fun _ => (0 : Int32)) 0 x tx i hi, show 0 + i = i by omega]
  have cby : ∀ i, i ≤ ty → CC (1 + tx + 1 + i) = own_byte y ty i := by
    intro i hi
    rw [hCC]
    unfold own_cp
    rw [if_neg (by omega), if_pos ⟨by omega, by omega⟩, show 0 + (1 + tx + 1 + i - 1) = 0 + tx + 1 + i by omega]
    exact own_put_get _ _ _ _ _ hi
  have E17 : Exa Z T11.heap b1 "com/example/orderly_results/orderlyresults/engine/Packed$Writer" := (E14.keep K11)
  have V18 : own_A Z T11.heap ar2 .byte 32 (fun q => .int ((own_put (own_put (fun _ => (0 : Int32)) 0 x tx) (0 + tx + 1) y ty) q)) := (V15.keep K11 nin0)
  have V19 : own_A Z T11.heap b7 .byte 2 (fun q => .int ((own_up (own_up (fun _ => (0 : Int32)) 0 (-1 : Int32)) 1 (-127 : Int32)) q)) := (V10a.keep K11 nin0)
  obtain ⟨T16, h16, X16, e16, E16, A16, D16, -, st16⟩ := newO X11 hx hZ hown (hw _ (List.mem_of_getElem? (i := 57) rfl)) (hw _ (List.mem_of_getElem? (i := 58) rfl)) (hw _ (List.mem_of_getElem? (i := 59) rfl)) rfl (g := (mkF m 63 #[.val (.long xa), .second, .val (.int xs), .val (.long xb), .second, .val (.int xt), .val (.long x), .second, .val (.long y), .second, .val (.ref b1), .val (.ref b7), .val (.ref nb11), .unset, .unset, .unset, .unset, .unset] [])) rfl (hb hby at_63) (by decide) (by decide)
  obtain ⟨b16, g16⟩ : ∃ z, z = T11.heap.size := ⟨_, rfl⟩
  rw [← g16] at A16 D16 st16
  have ne16_b1 : b1 ≠ b16 := by rw [g16]; exact Nat.ne_of_lt E17.lt
  have ne16_ar2 : ar2 ≠ b16 := by rw [g16]; exact Nat.ne_of_lt V18.lt
  have ne16_b7 : b7 ≠ b16 := by rw [g16]; exact Nat.ne_of_lt V19.lt
  have ne16_nb11 : nb11 ≠ b16 := by rw [g16]; exact Nat.ne_of_lt VC.lt
  have ge16 : n0 ≤ b16 := Nat.le_trans (Nat.le_trans (Nat.le_trans (Nat.le_trans (Nat.le_trans (Nat.le_trans (Nat.le_trans (Nat.le_trans (Nat.le_trans Z0 E1.1) K2.1) K3.1) K5.1) E7.1) (Nat.le_of_eq W9.size.symm)) (Nat.le_of_eq W10.size.symm)) K11.1) (Nat.le_of_eq g16.symm)
  have sz16 : h0.size ≤ b16 := Nat.le_trans (Nat.le_trans (Nat.le_trans (Nat.le_trans (Nat.le_trans (Nat.le_trans (Nat.le_trans (Nat.le_trans (Nat.le_trans (Nat.le_refl h0.size) E1.1) K2.1) K3.1) K5.1) E7.1) (Nat.le_of_eq W9.size.symm)) (Nat.le_of_eq W10.size.symm)) K11.1) (Nat.le_of_eq g16.symm)
  refine own_st st16 ?_
  show own_G p e below s _ _ _ (T16.setTop (mkF m 66 #[.val (.long xa), .second, .val (.int xs), .val (.long xb), .second, .val (.int xt), .val (.long x), .second, .val (.long y), .second, .val (.ref b1), .val (.ref b7), .val (.ref nb11), .unset, .unset, .unset, .unset, .unset] [(.ref b16)]))
  refine own_st (fun zt zk => XS.dup X16.here hx rfl (hb hby at_66) rfl rfl zk) ?_
  show own_G p e below s _ _ _ (T16.setTop (mkF m 67 #[.val (.long xa), .second, .val (.int xs), .val (.long xb), .second, .val (.int xt), .val (.long x), .second, .val (.long y), .second, .val (.ref b1), .val (.ref b7), .val (.ref nb11), .unset, .unset, .unset, .unset, .unset] [(.ref b16), (.ref b16)]))
  refine own_st (fun zt zk => XS.aload X16.here hx rfl (hb hby at_67) rfl rfl zk) ?_
  show own_G p e below s _ _ _ (T16.setTop (mkF m 69 #[.val (.long xa), .second, .val (.int xs), .val (.long xb), .second, .val (.int xt), .val (.long x), .second, .val (.long y), .second, .val (.ref b1), .val (.ref b7), .val (.ref nb11), .unset, .unset, .unset, .unset, .unset] [(.ref nb11), (.ref b16), (.ref b16)]))
  have V21 : own_A Z h16 nb11 .byte ((0 + tx + 1 + ty + 1) + 3) (fun q => .int (CC q)) := (VC.ext E16)
  obtain ⟨_, T20, L20, X20, hQ20, st20⟩ := own_callI X16 hx hZ (y := (⟨"com/example/orderly_results/orderlyresults/engine/Packed$Reader", "<init>", "([B)V"⟩ : MethodName)) (a := b16) (argsL := [(.ref nb11)]) (rest := [(.ref b16)]) 1 rfl hown (hw _ (List.mem_of_getElem? (i := 60) rfl)) (hw _ (List.mem_of_getElem? (i := 61) rfl)) (hw _ (List.mem_of_getElem? (i := 59) rfl)) (hw _ (List.mem_of_getElem? (i := 62) rfl)) (by decide) (own_rini l Z a0 hw [] b16 nb11 0 ((0 + tx + 1 + ty + 1) + 3) ((Int32.ofNat (0 + tx + 1 + ty + 1)).toInt64 &&& (4294967295 : Int64)) CC h16 n0 (Nat.le_trans (Nat.le_trans (Nat.le_trans (Nat.le_trans (Nat.le_trans (Nat.le_trans (Nat.le_trans (Nat.le_trans (Nat.le_trans Z0 E1.1) K2.1) K3.1) K5.1) E7.1) (Nat.le_of_eq W9.size.symm)) (Nat.le_of_eq W10.size.symm)) K11.1) E16.1) A16 (D16 (Or.inr (hw _ (List.mem_of_getElem? (i := 65) rfl))) (ty := (.array .byte)) (by decide)) (D16 (Or.inl (hw _ (List.mem_of_getElem? (i := 77) rfl))) (ty := .int) (by decide)) (D16 (Or.inr (hw _ (List.mem_of_getElem? (i := 79) rfl))) (ty := .int) (by decide)) (D16 (Or.inr (hw _ (List.mem_of_getElem? (i := 81) rfl))) (ty := .int) (by decide)) V21 ge16 (Ne.symm ne16_nb11) (by omega) (by omega) (own_hd hSZ (by omega)) (by omega) cb0) (by decide) (by decide) e16 (g := (mkF m 69 #[.val (.long xa), .second, .val (.int xs), .val (.long xb), .second, .val (.int xt), .val (.long x), .second, .val (.long y), .second, .val (.ref b1), .val (.ref b7), .val (.ref nb11), .unset, .unset, .unset, .unset, .unset] [(.ref nb11), (.ref b16), (.ref b16)])) rfl (by rw [hml]; rfl) own_pd9 rfl rfl (by show 2 * 0 + _ ≤ _; exact Nat.le_of_eq rfl) (hb hby at_69) (by decide) (by decide)
  obtain ⟨rfl, N20q, K20, q20_0, q20_1, q20_2, q20_3⟩ := hQ20
  have N20 := Fr.app N11 N20q
  refine own_st st20 ?_
  show own_G p e below s _ _ _ (T20.setTop (mkF m 72 #[.val (.long xa), .second, .val (.int xs), .val (.long xb), .second, .val (.int xt), .val (.long x), .second, .val (.long y), .second, .val (.ref b1), .val (.ref b7), .val (.ref nb11), .unset, .unset, .unset, .unset, .unset] [(.ref b16)]))
  refine own_st (fun zt zk => XS.astore X20.here hx rfl (hb hby at_72) rfl rfl (l' := #[.val (.long xa), .second, .val (.int xs), .val (.long xb), .second, .val (.int xt), .val (.long x), .second, .val (.long y), .second, .val (.ref b1), .val (.ref b7), .val (.ref nb11), .val (.ref b16), .unset, .unset, .unset, .unset]) rfl zk) ?_
  show own_G p e below s _ _ _ (T20.setTop (mkF m 74 #[.val (.long xa), .second, .val (.int xs), .val (.long xb), .second, .val (.int xt), .val (.long x), .second, .val (.long y), .second, .val (.ref b1), .val (.ref b7), .val (.ref nb11), .val (.ref b16), .unset, .unset, .unset, .unset] []))
  refine own_st (fun zt zk => XS.aload X20.here hx rfl (hb hby at_74) rfl rfl zk) ?_
  show own_G p e below s _ _ _ (T20.setTop (mkF m 76 #[.val (.long xa), .second, .val (.int xs), .val (.long xb), .second, .val (.int xt), .val (.long x), .second, .val (.long y), .second, .val (.ref b1), .val (.ref b7), .val (.ref nb11), .val (.ref b16), .unset, .unset, .unset, .unset] [(.ref b16)]))
  have E23 : Exa Z T20.heap b16 "com/example/orderly_results/orderlyresults/engine/Packed$Reader" := (A16.keep K20)
  have V24 : own_A Z T20.heap nb11 .byte ((0 + tx + 1 + ty + 1) + 3) (fun q => .int (CC q)) := (V21.keep K20 (ninS ne16_nb11 nin0))
  obtain ⟨_, T22, L22, X22, hQ22, st22⟩ := own_callV X20 hx hZ (C := "com/example/orderly_results/orderlyresults/engine/Packed$Reader") (y := (⟨"com/example/orderly_results/orderlyresults/engine/Packed$Reader", "varlong", "()J"⟩ : MethodName)) (z := (⟨"com/example/orderly_results/orderlyresults/engine/Packed$Reader", "varlong", "()J"⟩ : MethodName)) (a := b16) (argsL := []) (rest := []) 0 hown (hw _ (List.mem_of_getElem? (i := 82) rfl)) (hw _ (List.mem_of_getElem? (i := 72) rfl)) (own_nf hZ (hw _ (List.mem_of_getElem? (i := 74) rfl))) (hw _ (List.mem_of_getElem? (i := 74) rfl)) (hw _ (List.mem_of_getElem? (i := 73) rfl)) (hw _ (List.mem_of_getElem? (i := 59) rfl)) (hw _ (List.mem_of_getElem? (i := 75) rfl)) (by decide) (own_rvl l Z a0 hw [] b16 nb11 (Int32.ofNat (0 + 0 + 1)) (Int32.ofNat (0 + 0 + 1)) ((Int32.ofNat (0 + 0 + 1)) + ((Int32.ofNat (0 + tx + 1 + ty + 1)).toInt64 &&& (4294967295 : Int64)).toInt32) 1 tx ((0 + tx + 1 + ty + 1) + 3) x CC T20.heap n0 (Nat.le_trans (Nat.le_trans (Nat.le_trans (Nat.le_trans (Nat.le_trans (Nat.le_trans (Nat.le_trans (Nat.le_trans (Nat.le_trans (Nat.le_trans Z0 E1.1) K2.1) K3.1) K5.1) E7.1) (Nat.le_of_eq W9.size.symm)) (Nat.le_of_eq W10.size.symm)) K11.1) E16.1) K20.1) E23 q20_0 q20_1 q20_2 q20_3 V24 ge16 (Ne.symm ne16_nb11) (show (Int32.ofNat (0 + 0 + 1)).toInt = (1 : Nat) from by decide) (by omega) (by omega) hxs hx9 cbx) (by decide) (by decide) rfl E23 (g := (mkF m 76 #[.val (.long xa), .second, .val (.int xs), .val (.long xb), .second, .val (.int xt), .val (.long x), .second, .val (.long y), .second, .val (.ref b1), .val (.ref b7), .val (.ref nb11), .val (.ref b16), .unset, .unset, .unset, .unset] [(.ref b16)])) rfl (by rw [hml]; rfl) own_pd6 rfl rfl (by show 2 * 0 + _ ≤ _; exact Nat.le_of_eq rfl) (hb hby at_76) (by decide) (by decide)
  obtain ⟨rfl, N22q, K22, q22_0, q22_1, q22_2, q22_3⟩ := hQ22
  have N22 := Fr.app N20 N22q
  refine own_st st22 ?_
  show own_G p e below s _ _ _ (T22.setTop (mkF m 79 #[.val (.long xa), .second, .val (.int xs), .val (.long xb), .second, .val (.int xt), .val (.long x), .second, .val (.long y), .second, .val (.ref b1), .val (.ref b7), .val (.ref nb11), .val (.ref b16), .unset, .unset, .unset, .unset] [(.long x)]))
  refine own_st (fun zt zk => XS.lstore X22.here hx rfl (hb hby at_79) rfl (l' := #[.val (.long xa), .second, .val (.int xs), .val (.long xb), .second, .val (.int xt), .val (.long x), .second, .val (.long y), .second, .val (.ref b1), .val (.ref b7), .val (.ref nb11), .val (.ref b16), .val (.long x), .second, .unset, .unset]) rfl zk) ?_
  show own_G p e below s _ _ _ (T22.setTop (mkF m 81 #[.val (.long xa), .second, .val (.int xs), .val (.long xb), .second, .val (.int xt), .val (.long x), .second, .val (.long y), .second, .val (.ref b1), .val (.ref b7), .val (.ref nb11), .val (.ref b16), .val (.long x), .second, .unset, .unset] []))
  refine own_st (fun zt zk => XS.aload X22.here hx rfl (hb hby at_81) rfl rfl zk) ?_
  show own_G p e below s _ _ _ (T22.setTop (mkF m 83 #[.val (.long xa), .second, .val (.int xs), .val (.long xb), .second, .val (.int xt), .val (.long x), .second, .val (.long y), .second, .val (.ref b1), .val (.ref b7), .val (.ref nb11), .val (.ref b16), .val (.long x), .second, .unset, .unset] [(.ref b16)]))
  have E26 : Exa Z T22.heap b16 "com/example/orderly_results/orderlyresults/engine/Packed$Reader" := (E23.keep K22)
  have V27 : own_A Z T22.heap nb11 .byte ((0 + tx + 1 + ty + 1) + 3) (fun q => .int (CC q)) := (V24.keep K22 (ninS ne16_nb11 nin0))
  obtain ⟨_, T25, L25, X25, hQ25, st25⟩ := own_callV X22 hx hZ (C := "com/example/orderly_results/orderlyresults/engine/Packed$Reader") (y := (⟨"com/example/orderly_results/orderlyresults/engine/Packed$Reader", "varlong", "()J"⟩ : MethodName)) (z := (⟨"com/example/orderly_results/orderlyresults/engine/Packed$Reader", "varlong", "()J"⟩ : MethodName)) (a := b16) (argsL := []) (rest := []) 0 hown (hw _ (List.mem_of_getElem? (i := 82) rfl)) (hw _ (List.mem_of_getElem? (i := 72) rfl)) (own_nf hZ (hw _ (List.mem_of_getElem? (i := 74) rfl))) (hw _ (List.mem_of_getElem? (i := 74) rfl)) (hw _ (List.mem_of_getElem? (i := 73) rfl)) (hw _ (List.mem_of_getElem? (i := 59) rfl)) (hw _ (List.mem_of_getElem? (i := 75) rfl)) (by decide) (own_rvl l Z a0 hw [] b16 nb11 (Int32.ofNat (1 + tx + 1)) (Int32.ofNat (0 + 0 + 1)) ((Int32.ofNat (0 + 0 + 1)) + ((Int32.ofNat (0 + tx + 1 + ty + 1)).toInt64 &&& (4294967295 : Int64)).toInt32) (1 + tx + 1) ty ((0 + tx + 1 + ty + 1) + 3) y CC T22.heap n0 (Nat.le_trans (Nat.le_trans (Nat.le_trans (Nat.le_trans (Nat.le_trans (Nat.le_trans (Nat.le_trans (Nat.le_trans (Nat.le_trans (Nat.le_trans (Nat.le_trans Z0 E1.1) K2.1) K3.1) K5.1) E7.1) (Nat.le_of_eq W9.size.symm)) (Nat.le_of_eq W10.size.symm)) K11.1) E16.1) K20.1) K22.1) E26 q22_0 q22_1 q22_2 q22_3 V27 ge16 (Ne.symm ne16_nb11) (own_toI (by omega)) (by omega) (by omega) hys hy9 cby) (by decide) (by decide) rfl E26 (g := (mkF m 83 #[.val (.long xa), .second, .val (.int xs), .val (.long xb), .second, .val (.int xt), .val (.long x), .second, .val (.long y), .second, .val (.ref b1), .val (.ref b7), .val (.ref nb11), .val (.ref b16), .val (.long x), .second, .unset, .unset] [(.ref b16)])) rfl (by rw [hml]; rfl) own_pd6 rfl rfl (by show 2 * 0 + _ ≤ _; exact Nat.le_of_eq rfl) (hb hby at_83) (by decide) (by decide)
  obtain ⟨rfl, N25q, K25, q25_0, q25_1, q25_2, q25_3⟩ := hQ25
  have N25 := Fr.app N22 N25q
  refine own_st st25 ?_
  show own_G p e below s _ _ _ (T25.setTop (mkF m 86 #[.val (.long xa), .second, .val (.int xs), .val (.long xb), .second, .val (.int xt), .val (.long x), .second, .val (.long y), .second, .val (.ref b1), .val (.ref b7), .val (.ref nb11), .val (.ref b16), .val (.long x), .second, .unset, .unset] [(.long y)]))
  refine own_st (fun zt zk => XS.lstore X25.here hx rfl (hb hby at_86) rfl (l' := #[.val (.long xa), .second, .val (.int xs), .val (.long xb), .second, .val (.int xt), .val (.long x), .second, .val (.long y), .second, .val (.ref b1), .val (.ref b7), .val (.ref nb11), .val (.ref b16), .val (.long x), .second, .val (.long y), .second]) rfl zk) ?_
  show own_G p e below s _ _ _ (T25.setTop (mkF m 88 #[.val (.long xa), .second, .val (.int xs), .val (.long xb), .second, .val (.int xt), .val (.long x), .second, .val (.long y), .second, .val (.ref b1), .val (.ref b7), .val (.ref nb11), .val (.ref b16), .val (.long x), .second, .val (.long y), .second] []))
  refine own_st (fun zt zk => XS.lload X25.here hx rfl (hb hby at_88) rfl zk) ?_
  show own_G p e below s _ _ _ (T25.setTop (mkF m 90 #[.val (.long xa), .second, .val (.int xs), .val (.long xb), .second, .val (.int xt), .val (.long x), .second, .val (.long y), .second, .val (.ref b1), .val (.ref b7), .val (.ref nb11), .val (.ref b16), .val (.long x), .second, .val (.long y), .second] [(.long x)]))
  refine own_st (fun zt zk => XS.lload X25.here hx rfl (hb hby at_90) rfl zk) ?_
  show own_G p e below s _ _ _ (T25.setTop (mkF m 92 #[.val (.long xa), .second, .val (.int xs), .val (.long xb), .second, .val (.int xt), .val (.long x), .second, .val (.long y), .second, .val (.ref b1), .val (.ref b7), .val (.ref nb11), .val (.ref b16), .val (.long x), .second, .val (.long y), .second] [(.long x), (.long x)]))
  refine own_st (fun zt zk => XS.lcmp X25.here hx rfl (hb hby at_92) rfl zk) ?_
  show own_G p e below s _ _ _ (T25.setTop (mkF m 93 #[.val (.long xa), .second, .val (.int xs), .val (.long xb), .second, .val (.int xt), .val (.long x), .second, .val (.long y), .second, .val (.ref b1), .val (.ref b7), .val (.ref nb11), .val (.ref b16), .val (.long x), .second, .val (.long y), .second] [(.int (lcmpW x x))]))
  refine own_st (fun zt zk => XS.ifNo X25.here hx rfl (hb hby at_93) rfl ((if0 _ _).trans (teq ((lw_eq x x).mpr (rfl : x = x))).2) zk) ?_
  show own_G p e below s _ _ _ (T25.setTop (mkF m 96 #[.val (.long xa), .second, .val (.int xs), .val (.long xb), .second, .val (.int xt), .val (.long x), .second, .val (.long y), .second, .val (.ref b1), .val (.ref b7), .val (.ref nb11), .val (.ref b16), .val (.long x), .second, .val (.long y), .second] []))
  refine own_st (fun zt zk => XS.lload X25.here hx rfl (hb hby at_96) rfl zk) ?_
  show own_G p e below s _ _ _ (T25.setTop (mkF m 98 #[.val (.long xa), .second, .val (.int xs), .val (.long xb), .second, .val (.int xt), .val (.long x), .second, .val (.long y), .second, .val (.ref b1), .val (.ref b7), .val (.ref nb11), .val (.ref b16), .val (.long x), .second, .val (.long y), .second] [(.long y)]))
  refine own_st (fun zt zk => XS.lload X25.here hx rfl (hb hby at_98) rfl zk) ?_
  show own_G p e below s _ _ _ (T25.setTop (mkF m 100 #[.val (.long xa), .second, .val (.int xs), .val (.long xb), .second, .val (.int xt), .val (.long x), .second, .val (.long y), .second, .val (.ref b1), .val (.ref b7), .val (.ref nb11), .val (.ref b16), .val (.long x), .second, .val (.long y), .second] [(.long y), (.long y)]))
  refine own_st (fun zt zk => XS.lcmp X25.here hx rfl (hb hby at_100) rfl zk) ?_
  show own_G p e below s _ _ _ (T25.setTop (mkF m 101 #[.val (.long xa), .second, .val (.int xs), .val (.long xb), .second, .val (.int xt), .val (.long x), .second, .val (.long y), .second, .val (.ref b1), .val (.ref b7), .val (.ref nb11), .val (.ref b16), .val (.long x), .second, .val (.long y), .second] [(.int (lcmpW y y))]))
  refine own_st (fun zt zk => XS.ifNo X25.here hx rfl (hb hby at_101) rfl ((if0 _ _).trans (teq ((lw_eq y y).mpr (rfl : y = y))).2) zk) ?_
  show own_G p e below s _ _ _ (T25.setTop (mkF m 104 #[.val (.long xa), .second, .val (.int xs), .val (.long xb), .second, .val (.int xt), .val (.long x), .second, .val (.long y), .second, .val (.ref b1), .val (.ref b7), .val (.ref nb11), .val (.ref b16), .val (.long x), .second, .val (.long y), .second] []))
  refine own_st (fun zt zk => XS.iconst X25.here hx rfl (hb hby at_104) zk) ?_
  show own_G p e below s _ _ _ (T25.setTop (mkF m 105 #[.val (.long xa), .second, .val (.int xs), .val (.long xb), .second, .val (.int xt), .val (.long x), .second, .val (.long y), .second, .val (.ref b1), .val (.ref b7), .val (.ref nb11), .val (.ref b16), .val (.long x), .second, .val (.long y), .second] [(.int (1 : Int32))]))
  refine own_st (fun zt zk => XS.goto X25.here hx rfl (pc0 := 105) (pc' := 109) rfl (hb hby at_105) (by decide) (by decide) zk) ?_
  show own_G p e below s _ _ _ (T25.setTop (mkF m 109 #[.val (.long xa), .second, .val (.int xs), .val (.long xb), .second, .val (.int xt), .val (.long x), .second, .val (.long y), .second, .val (.ref b1), .val (.ref b7), .val (.ref nb11), .val (.ref b16), .val (.long x), .second, .val (.long y), .second] [(.int (1 : Int32))]))
  refine own_retZ X25 hx hlk hret (by decide) (hb hby at_109) (by decide) (by decide) ?_
  show Q_own_law Z xa xs xb xt h0 n0 (some (.int (1 : Int32))) T25.heap _
  exact ⟨rfl, N25⟩
set_option maxRecDepth 65536 in
set_option maxHeartbeats 40000000 in
theorem comes_1 {Post : Tables → Env → Array Value → State → Outcome → State → Prop} (hpost : ∀ tb e args s v u, (limb_1_1.after args s (.returned v) u = true ∧ limb_1_2.after args s (.returned v) u = true ∧ True) → FrameEnd s (.returned v) u (Jvm.fieldLocs frame_1_writes args s ++ Jvm.arrayLocs frame_1_arrays args s ++ Jvm.staticLocs frame_1_statics s) 24 320 → Post tb e args s (.returned v) u) :
    ArmFor flags0 classFile x code maxLocals ret World_1 tables_1 room_1 Calls_1 rest_1 Pre_1 Post := by
  intro l hfl _ _ p e ha hc hk s m args below hf hA hF happ hP
  obtain ⟨hcalls, hrest, hpre⟩ := hP
  obtain ⟨-, -, -, hnamed, -, -, -, hat⟩ := (Spec.applies_iff hf).mp happ
  obtain ⟨hg, hn⟩ := and_e (Cond.before_iff.mp (show (Jvm.Cond.and given_1 narrow_1).before args s = true from hpre))
  obtain ⟨k1, k2⟩ := and_e hg
  obtain ⟨j0, i0⟩ := and_e k2
  obtain ⟨j1, i1⟩ := and_e i0
  obtain ⟨j2, i2⟩ := and_e i1
  obtain ⟨w0, w1, w2, w3, rfl⟩ : ∃ w0 w1 w2 w3 : Value, args = #[w0, w1, w2, w3] := by
    have hs : args.size = 4 := by simpa [Cond.value, given_1] using k1
    obtain ⟨L⟩ := args
    match L, hs with
    | [w0, w1, w2, w3], _ => exact ⟨w0, w1, w2, w3, rfl⟩
  have hw := fun d (hd : d ∈ tables_1) => atoms_spec (ws := Jvm.Cond.code x code maxLocals ret :: tables_1) hat d (List.mem_cons_of_mem _ hd)
  have hfit : Fit s := fun {y c} hc i hi => by
    obtain ⟨ha, rfl⟩ := Array.getElem?_eq_some_iff.mp hc
    have q := List.all_eq_true.mp ((Array.all_eq_true_iff_forall_mem.mp hF) _ (Array.getElem_mem ha)) i (List.mem_range.mpr hi)
    simpa [Array.getElem?_eq_getElem hi] using q
  obtain ⟨y0, z0⟩ := isL_v j0
  obtain rfl : w0 = (.long y0) := Option.some.inj z0
  obtain ⟨y1, z1⟩ := is_v j1
  obtain rfl : w1 = (.int y1) := Option.some.inj z1
  obtain ⟨y2, z2⟩ := isL_v j2
  obtain rfl : w2 = (.long y2) := Option.some.inj z2
  obtain ⟨y3, z3⟩ := is_v i2
  obtain rfl : w3 = (.int y3) := Option.some.inj z3
  obtain ⟨n, o, h1, h2, h3, _, L, rfl, ⟨rfl, N⟩, hq⟩ := own_law l s _ hw tables_1 y0 y1 y2 y3 s.heap s.heap.size (Nat.le_refl _)  p e ha hc hk s m _ below hf ((Spec.applies_iff_loose hf).mp happ).1 ⟨rfl, State.Warmed39.refl s, rfl⟩ trivial
  refine ⟨n, _, h1, h2, h3, hpost _ _ _ _ _ _ ⟨Cond.after_iff.mpr rfl, Cond.after_iff.mpr (eq_i res_at (Term.int_eval (1)) rfl), trivial⟩ ⟨hq.1, hq.2.1, (hq.2.2.sift fun y hy => Or.inr (N y hy)).mono (by decide) (by decide)⟩⟩
theorem main_1_1 : Claimed_1_1 := comes_1 fun _ _ _ _ _ _ h hF => ⟨h.1, hF⟩
theorem main_1_2 : Claimed_1_2 := comes_1 fun _ _ _ _ _ _ h hF => ⟨h.2.1, hF⟩
end Jvm.Pilot.@@N@@
namespace Jvm.Pilot.@@N@@
open Jvm Jvm.ClassFile Sem Op Lib Jvm.Free Jvm.Stand Jvm.Pilot.@@N@@.Jvm.D
/-! MADE BY PROGRAM (witnessworld.py) out of the Statement's table words and the real class files: 13 classes; the members and pool entries that the words name. The judged class is class 1, her method 1. -/
namespace start1
open Jvm.ClassFile
def u (s : String) : CpInfo := .utf8 (stringToUtf16 s)
/-- a pool by its gaps: so many unusable entries, then the entry; so many at the end -/
def gap : Nat → List CpInfo → List CpInfo
  | 0, r => r
  | n + 1, r => .unusable :: gap n r
def poolList (es : List (Nat × CpInfo)) (last : Nat) : List CpInfo := es.foldr (fun e r => gap e.1 (e.2 :: r)) (gap last [])
def pool (es : List (Nat × CpInfo)) (last : Nat) : Array CpInfo := ⟨poolList es last⟩
def fileOf (pool : Array CpInfo) (this : Nat) (attrs : Array Attribute := #[]) (ms : Array MethodInfo := #[]) (fl : Nat := 33) (sup : Nat := 0) (ifs : Array Nat := #[]) (fds : Array FieldInfo := #[]) : ClassFile where
  minorVersion := 0
  majorVersion := 65
  constantPool := pool
  accessFlags := fl
  thisClass := this
  superClass := sup
  interfaces := ifs
  fields := fds
  methods := ms
  attributes := attrs
def plain (name : String) (sup : Option ClassId) : Class where
  name := name
  kind := .ordinary
  loader := none
  accessFlags := 33
  super := sup
  interfaces := #[]
  cf := none
  fields := #[]
  methods := #[]
  instanceTypes := #[]
  staticTypes := #[]
  resolved := #[]
  callSites := []
  init := .initialized
  statics := none
  mirror := none

def pool0 : Array CpInfo := pool [(5, u "<init>"), (0, u "()V"), (1, .class_ 10), (1, u "java/lang/Object")] 113

def k0c0 : Code := { maxStack := 0, maxLocals := 1, code := object_method_1_code, exceptionTable := #[], attributes := #[] }
def k0m0 : Method := { name := "<init>", desc := "()V", sig := { parameters := [], returnType := none }, accessFlags := 1, code := some k0c0 }
/-- java/lang/Object -/
def k0 : Class := { plain "java/lang/Object" none with
  accessFlags := 33
  interfaces := #[]
  cf := some (fileOf pool0 8 #[] #[{ accessFlags := 1, nameIndex := 5, descriptorIndex := 6, attributes := #[] }] 33 0 #[] #[])
  fields := #[]
  methods := #[k0m0]
  instanceTypes := #[]
  staticTypes := #[]
  resolved := Array.replicate 124 none
  statics := none }

def pool1 : Array CpInfo := pool [(2, .class_ 4), (0, .nameAndType 5 6), (0, u "java/lang/Object"), (0, u "<init>"), (0, u "()V"), (0, .class_ 8), (0, u "com/example/orderly_results/orderlyresults/engine/Packed$Writer"), (0, .methodref 7 3), (0, .methodref 7 11), (0, .nameAndType 12 13), (0, u "varlong"), (0, u "(J)V"), (0, .methodref 7 15), (0, .nameAndType 16 17), (0, u "toBytes"), (0, u "([B)[B"), (0, .class_ 19), (0, u "com/example/orderly_results/orderlyresults/engine/Packed$Reader"), (0, .methodref 18 21), (0, .nameAndType 5 22), (0, u "([B)V"), (0, .methodref 18 24), (0, .nameAndType 12 25), (0, u "()J"), (0, .class_ 27), (0, u "com/example/orderly_results/orderlyresults/engine/ReaderVarlongPinLaw"), (2, u "law"), (0, u "(JIJI)Z")] 10

def k1m0 : Method := { name := "<init>", desc := "()V", sig := { parameters := [], returnType := none }, accessFlags := 1, code := none }
def k1c1 : Code := { maxStack := 4, maxLocals := 18, code := code, exceptionTable := #[], attributes := #[] }
def k1m1 : Method := { name := "law", desc := "(JIJI)Z", sig := { parameters := [.long, .int, .long, .int], returnType := some .boolean }, accessFlags := 9, code := some k1c1 }
/-- com/example/orderly_results/orderlyresults/engine/ReaderVarlongPinLaw -/
def k1 : Class := { plain "com/example/orderly_results/orderlyresults/engine/ReaderVarlongPinLaw" (some 0) with
  accessFlags := 49
  interfaces := #[]
  cf := some (fileOf pool1 26 #[] #[{ accessFlags := 1, nameIndex := 5, descriptorIndex := 6, attributes := #[] }, { accessFlags := 9, nameIndex := 30, descriptorIndex := 31, attributes := #[] }] 49 2 #[] #[])
  fields := #[]
  methods := #[k1m0, k1m1]
  instanceTypes := #[]
  staticTypes := #[]
  resolved := Array.replicate 42 none
  statics := none }

def pool2 : Array CpInfo := pool [(1, .class_ 2), (0, u "com/example/orderly_results/orderlyresults/engine/Packed"), (0, .methodref 4 5), (0, .class_ 6), (0, .nameAndType 7 8), (0, u "java/lang/Object"), (0, u "<init>"), (0, u "()V"), (0, .class_ 10), (0, u "com/example/orderly_results/orderlyresults/engine/Packed$Writer"), (0, .fieldref 9 12), (0, .nameAndType 13 14), (0, u "bytes"), (0, u "[B"), (0, .long 4294967295), (1, .methodref 9 18), (0, .nameAndType 19 20), (0, u "varlong"), (0, u "(J)V"), (0, .long 18446744073709551488), (1, .long 127), (1, .long 128), (1, .methodref 9 28), (0, .nameAndType 29 30), (0, u "write"), (0, u "(B)V"), (5, .methodref 9 37), (0, .nameAndType 38 39), (0, u "ensure"), (0, u "(I)V"), (0, .fieldref 9 41), (0, .nameAndType 42 43), (0, u "size"), (0, u "I"), (0, .methodref 45 46), (0, .class_ 47), (0, .nameAndType 48 49), (0, u "java/lang/System"), (0, u "arraycopy"), (0, u "(Ljava/lang/Object;ILjava/lang/Object;II)V"), (0, .methodref 9 51), (0, .nameAndType 52 39), (0, u "varint"), (30, .methodref 9 5), (0, .methodref 85 86), (0, .class_ 87), (0, .nameAndType 88 89), (0, u "java/util/Arrays"), (0, u "copyOf"), (0, u "([BI)[B"), (33, u "FIRST_BYTES"), (10, u "toBytes"), (0, u "([B)[B")] 7

def k2c0 : Code := { maxStack := 2, maxLocals := 1, code := prog_14_method_1_code, exceptionTable := #[], attributes := #[] }
def k2m0 : Method := { name := "<init>", desc := "()V", sig := { parameters := [], returnType := none }, accessFlags := 0, code := some k2c0 }
def k2c1 : Code := { maxStack := 5, maxLocals := 2, code := prog_14_method_2_code, exceptionTable := #[], attributes := #[] }
def k2m1 : Method := { name := "varint", desc := "(I)V", sig := { parameters := [.int], returnType := none }, accessFlags := 0, code := some k2c1 }
def k2c2 : Code := { maxStack := 5, maxLocals := 5, code := prog_14_method_3_code, exceptionTable := #[], attributes := #[] }
def k2m2 : Method := { name := "varlong", desc := "(J)V", sig := { parameters := [.long], returnType := none }, accessFlags := 0, code := some k2c2 }
def k2c3 : Code := { maxStack := 5, maxLocals := 4, code := prog_14_method_11_code, exceptionTable := #[], attributes := #[] }
def k2m3 : Method := { name := "toBytes", desc := "([B)[B", sig := { parameters := [(.array .byte)], returnType := some (.array .byte) }, accessFlags := 0, code := some k2c3 }
def k2c4 : Code := { maxStack := 5, maxLocals := 2, code := prog_14_method_14_code, exceptionTable := #[], attributes := #[] }
def k2m4 : Method := { name := "write", desc := "(B)V", sig := { parameters := [.byte], returnType := none }, accessFlags := 2, code := some k2c4 }
def k2c5 : Code := { maxStack := 5, maxLocals := 2, code := prog_14_method_15_code, exceptionTable := #[], attributes := #[] }
def k2m5 : Method := { name := "ensure", desc := "(I)V", sig := { parameters := [.int], returnType := none }, accessFlags := 2, code := some k2c5 }
/-- com/example/orderly_results/orderlyresults/engine/Packed$Writer -/
def k2 : Class := { plain "com/example/orderly_results/orderlyresults/engine/Packed$Writer" (some 0) with
  accessFlags := 32
  interfaces := #[]
  cf := some (fileOf pool2 9 #[.nestHost 1] #[{ accessFlags := 0, nameIndex := 7, descriptorIndex := 8, attributes := #[] }, { accessFlags := 0, nameIndex := 52, descriptorIndex := 39, attributes := #[] }, { accessFlags := 0, nameIndex := 19, descriptorIndex := 20, attributes := #[] }, { accessFlags := 0, nameIndex := 134, descriptorIndex := 135, attributes := #[] }, { accessFlags := 2, nameIndex := 29, descriptorIndex := 30, attributes := #[] }, { accessFlags := 2, nameIndex := 38, descriptorIndex := 39, attributes := #[] }] 32 4 #[] #[{ accessFlags := 26, nameIndex := 123, descriptorIndex := 43, attributes := #[] }, { accessFlags := 2, nameIndex := 13, descriptorIndex := 14, attributes := #[] }, { accessFlags := 2, nameIndex := 42, descriptorIndex := 43, attributes := #[] }])
  fields := #[{ name := "FIRST_BYTES", type := .int, accessFlags := 26, slot := 0, constantValue := 0 }, { name := "bytes", type := (.array .byte), accessFlags := 2, slot := 0, constantValue := 0 }, { name := "size", type := .int, accessFlags := 2, slot := 1, constantValue := 0 }]
  methods := #[k2m0, k2m1, k2m2, k2m3, k2m4, k2m5]
  instanceTypes := #[(.array .byte), .int]
  staticTypes := #[.int]
  resolved := Array.replicate 143 none
  statics := none }

def pool3 : Array CpInfo := pool [(2, .class_ 4), (1, u "java/lang/Object"), (0, u "<init>"), (0, u "()V"), (7, .class_ 16), (1, u "java/util/Arrays"), (57, .class_ 76), (1, u "java/util/Arrays$NaturalOrder"), (36, .class_ 115), (1, u "java/util/Arrays$LegacyMergeSort"), (1, u "Z"), (32, .methodref 151 152), (0, .class_ 153), (0, .nameAndType 154 155), (0, u "java/lang/System"), (0, u "arraycopy"), (0, u "(Ljava/lang/Object;ILjava/lang/Object;II)V"), (146, u "copyOf"), (1, .methodref 305 306), (0, .class_ 307), (0, .nameAndType 308 309), (0, u "java/lang/Math"), (0, u "min"), (0, u "(II)I"), (65, .class_ 376), (0, u "java/util/Arrays$ArrayList"), (68, u "$assertionsDisabled"), (269, u "MIN_ARRAY_SORT_GRAN"), (0, u "I"), (2, u "INSERTIONSORT_THRESHOLD"), (149, u "([BI)[B"), (105, .class_ 976), (0, u "java/util/Arrays$ArrayItr")] 52

def k3m0 : Method := { name := "<init>", desc := "()V", sig := { parameters := [], returnType := none }, accessFlags := 2, code := none }
def k3c1 : Code := { maxStack := 6, maxLocals := 3, code := jdk_65_method_121_code, exceptionTable := #[], attributes := #[] }
def k3m1 : Method := { name := "copyOf", desc := "([BI)[B", sig := { parameters := [(.array .byte), .int], returnType := some (.array .byte) }, accessFlags := 9, code := some k3c1 }
/-- java/util/Arrays -/
def k3 : Class := { plain "java/util/Arrays" (some 0) with
  accessFlags := 49
  interfaces := #[]
  cf := some (fileOf pool3 14 #[.nestMembers #[975, 375, 113, 74]] #[{ accessFlags := 2, nameIndex := 5, descriptorIndex := 6, attributes := #[] }, { accessFlags := 9, nameIndex := 302, descriptorIndex := 869, attributes := #[] }] 49 2 #[] #[{ accessFlags := 26, nameIndex := 715, descriptorIndex := 716, attributes := #[] }, { accessFlags := 26, nameIndex := 719, descriptorIndex := 716, attributes := #[] }, { accessFlags := 4120, nameIndex := 445, descriptorIndex := 117, attributes := #[] }])
  fields := #[{ name := "MIN_ARRAY_SORT_GRAN", type := .int, accessFlags := 26, slot := 0, constantValue := 0 }, { name := "INSERTIONSORT_THRESHOLD", type := .int, accessFlags := 26, slot := 1, constantValue := 0 }, { name := "$assertionsDisabled", type := .boolean, accessFlags := 4120, slot := 2, constantValue := 0 }]
  methods := #[k3m0, k3m1]
  instanceTypes := #[]
  staticTypes := #[.int, .int, .boolean]
  resolved := Array.replicate 1029 none
  statics := none }

def pool4 : Array CpInfo := pool [(1, .class_ 2), (0, u "java/lang/Math"), (1, .class_ 6), (1, u "java/lang/Object"), (0, u "<init>"), (0, u "()V"), (89, .class_ 100), (1, u "java/lang/Math$RandomNumberGeneratorHolder"), (71, u "negativeZeroFloatBits"), (0, u "J"), (2, u "negativeZeroDoubleBits"), (24, u "min"), (43, u "$assertionsDisabled"), (0, u "Z"), (88, u "(II)I"), (2, u "twoToTheDoubleScaleDown"), (0, u "D"), (4, u "twoToTheDoubleScaleUp"), (9, u "E"), (3, u "PI"), (2, u "TAU"), (2, u "DEGREES_TO_RADIANS"), (0, u "RADIANS_TO_DEGREES")] 94

def k4m0 : Method := { name := "<init>", desc := "()V", sig := { parameters := [], returnType := none }, accessFlags := 2, code := none }
def k4c1 : Code := { maxStack := 2, maxLocals := 2, code := jdk_29_method_69_code, exceptionTable := #[], attributes := #[] }
def k4m1 : Method := { name := "min", desc := "(II)I", sig := { parameters := [.int, .int], returnType := some .int }, accessFlags := 9, code := some k4c1 }
/-- java/lang/Math -/
def k4 : Class := { plain "java/lang/Math" (some 0) with
  accessFlags := 49
  interfaces := #[]
  cf := some (fileOf pool4 1 #[.nestMembers #[98]] #[{ accessFlags := 2, nameIndex := 7, descriptorIndex := 8, attributes := #[] }, { accessFlags := 9, nameIndex := 201, descriptorIndex := 335, attributes := #[] }] 49 4 #[] #[{ accessFlags := 25, nameIndex := 354, descriptorIndex := 339, attributes := #[] }, { accessFlags := 25, nameIndex := 358, descriptorIndex := 339, attributes := #[] }, { accessFlags := 25, nameIndex := 361, descriptorIndex := 339, attributes := #[] }, { accessFlags := 26, nameIndex := 364, descriptorIndex := 339, attributes := #[] }, { accessFlags := 26, nameIndex := 365, descriptorIndex := 339, attributes := #[] }, { accessFlags := 26, nameIndex := 172, descriptorIndex := 173, attributes := #[] }, { accessFlags := 26, nameIndex := 176, descriptorIndex := 173, attributes := #[] }, { accessFlags := 8, nameIndex := 344, descriptorIndex := 339, attributes := #[] }, { accessFlags := 8, nameIndex := 338, descriptorIndex := 339, attributes := #[] }, { accessFlags := 4120, nameIndex := 245, descriptorIndex := 246, attributes := #[] }])
  fields := #[{ name := "E", type := .double, accessFlags := 25, slot := 0, constantValue := 0 }, { name := "PI", type := .double, accessFlags := 25, slot := 1, constantValue := 0 }, { name := "TAU", type := .double, accessFlags := 25, slot := 2, constantValue := 0 }, { name := "DEGREES_TO_RADIANS", type := .double, accessFlags := 26, slot := 3, constantValue := 0 }, { name := "RADIANS_TO_DEGREES", type := .double, accessFlags := 26, slot := 4, constantValue := 0 }, { name := "negativeZeroFloatBits", type := .long, accessFlags := 26, slot := 5, constantValue := 0 }, { name := "negativeZeroDoubleBits", type := .long, accessFlags := 26, slot := 6, constantValue := 0 }, { name := "twoToTheDoubleScaleUp", type := .double, accessFlags := 8, slot := 7, constantValue := 0 }, { name := "twoToTheDoubleScaleDown", type := .double, accessFlags := 8, slot := 8, constantValue := 0 }, { name := "$assertionsDisabled", type := .boolean, accessFlags := 4120, slot := 9, constantValue := 0 }]
  methods := #[k4m0, k4m1]
  instanceTypes := #[]
  staticTypes := #[.double, .double, .double, .double, .double, .long, .long, .double, .double, .boolean]
  resolved := Array.replicate 460 none
  statics := none }

def pool5 : Array CpInfo := pool [(2, .class_ 4), (1, u "java/lang/Object"), (0, u "<init>"), (0, u "()V"), (1, .class_ 10), (1, u "java/lang/System"), (0, u "allowSecurityManager"), (0, u "I"), (16, u "cons"), (0, u "Ljava/io/Console;"), (77, .class_ 110), (1, u "java/lang/System$CallersHolder"), (43, u "initialErrStream"), (0, u "Ljava/io/PrintStream;"), (19, u "security"), (0, u "Ljava/lang/SecurityManager;"), (31, .class_ 209), (0, u "java/lang/System$1"), (7, u "props"), (0, u "Ljava/util/Properties;"), (2, u "lineSeparator"), (0, u "Ljava/lang/String;"), (96, .class_ 321), (1, u "java/lang/System$LoggerFinder"), (5, .class_ 328), (0, u "java/lang/System$Logger"), (67, u "err"), (2, u "out"), (91, u "notSupportedJnuEncoding"), (15, u "in"), (17, u "initialIn"), (0, u "Ljava/io/InputStream;"), (35, u "bootLayer"), (0, u "Ljava/lang/ModuleLayer;"), (99, .class_ 664), (0, u "java/lang/System$2"), (9, u "NEVER"), (2, u "MAYBE"), (49, u "arraycopy"), (0, u "(Ljava/lang/Object;ILjava/lang/Object;II)V"), (72, .class_ 802), (0, u "java/lang/System$Logger$Level")] 31

def k5m0 : Method := { name := "<init>", desc := "()V", sig := { parameters := [], returnType := none }, accessFlags := 2, code := none }
def k5m1 : Method := { name := "arraycopy", desc := "(Ljava/lang/Object;ILjava/lang/Object;II)V", sig := { parameters := [(.object "java/lang/Object"), .int, (.object "java/lang/Object"), .int, .int], returnType := none }, accessFlags := 265, code := none }
/-- java/lang/System -/
def k5 : Class := { plain "java/lang/System" (some 0) with
  accessFlags := 49
  interfaces := #[]
  cf := some (fileOf pool5 8 #[.nestMembers #[319, 327, 801, 108, 663, 208]] #[{ accessFlags := 2, nameIndex := 5, descriptorIndex := 6, attributes := #[] }, { accessFlags := 265, nameIndex := 727, descriptorIndex := 728, attributes := #[] }] 49 2 #[] #[{ accessFlags := 25, nameIndex := 507, descriptorIndex := 526, attributes := #[] }, { accessFlags := 25, nameIndex := 399, descriptorIndex := 155, attributes := #[] }, { accessFlags := 25, nameIndex := 396, descriptorIndex := 155, attributes := #[] }, { accessFlags := 10, nameIndex := 525, descriptorIndex := 526, attributes := #[] }, { accessFlags := 26, nameIndex := 674, descriptorIndex := 12, attributes := #[] }, { accessFlags := 26, nameIndex := 677, descriptorIndex := 12, attributes := #[] }, { accessFlags := 10, nameIndex := 11, descriptorIndex := 12, attributes := #[] }, { accessFlags := 74, nameIndex := 175, descriptorIndex := 176, attributes := #[] }, { accessFlags := 10, nameIndex := 491, descriptorIndex := 222, attributes := #[] }, { accessFlags := 74, nameIndex := 29, descriptorIndex := 30, attributes := #[] }, { accessFlags := 74, nameIndex := 154, descriptorIndex := 155, attributes := #[] }, { accessFlags := 10, nameIndex := 217, descriptorIndex := 218, attributes := #[] }, { accessFlags := 10, nameIndex := 221, descriptorIndex := 222, attributes := #[] }, { accessFlags := 8, nameIndex := 562, descriptorIndex := 563, attributes := #[] }])
  fields := #[{ name := "in", type := (.object "java/io/InputStream"), accessFlags := 25, slot := 0, constantValue := 0 }, { name := "out", type := (.object "java/io/PrintStream"), accessFlags := 25, slot := 1, constantValue := 0 }, { name := "err", type := (.object "java/io/PrintStream"), accessFlags := 25, slot := 2, constantValue := 0 }, { name := "initialIn", type := (.object "java/io/InputStream"), accessFlags := 10, slot := 3, constantValue := 0 }, { name := "NEVER", type := .int, accessFlags := 26, slot := 4, constantValue := 0 }, { name := "MAYBE", type := .int, accessFlags := 26, slot := 5, constantValue := 0 }, { name := "allowSecurityManager", type := .int, accessFlags := 10, slot := 6, constantValue := 0 }, { name := "security", type := (.object "java/lang/SecurityManager"), accessFlags := 74, slot := 7, constantValue := 0 }, { name := "notSupportedJnuEncoding", type := (.object "java/lang/String"), accessFlags := 10, slot := 8, constantValue := 0 }, { name := "cons", type := (.object "java/io/Console"), accessFlags := 74, slot := 9, constantValue := 0 }, { name := "initialErrStream", type := (.object "java/io/PrintStream"), accessFlags := 74, slot := 10, constantValue := 0 }, { name := "props", type := (.object "java/util/Properties"), accessFlags := 10, slot := 11, constantValue := 0 }, { name := "lineSeparator", type := (.object "java/lang/String"), accessFlags := 10, slot := 12, constantValue := 0 }, { name := "bootLayer", type := (.object "java/lang/ModuleLayer"), accessFlags := 8, slot := 13, constantValue := 0 }]
  methods := #[k5m0, k5m1]
  instanceTypes := #[]
  staticTypes := #[(.object "java/io/InputStream"), (.object "java/io/PrintStream"), (.object "java/io/PrintStream"), (.object "java/io/InputStream"), .int, .int, .int, (.object "java/lang/SecurityManager"), (.object "java/lang/String"), (.object "java/io/Console"), (.object "java/io/PrintStream"), (.object "java/util/Properties"), (.object "java/lang/String"), (.object "java/lang/ModuleLayer")]
  resolved := Array.replicate 834 none
  statics := none }

def pool6 : Array CpInfo := pool [(1, .class_ 2), (0, u "com/example/orderly_results/orderlyresults/engine/Packed"), (0, .methodref 4 5), (0, .class_ 6), (0, .nameAndType 7 8), (0, u "java/lang/Object"), (0, u "<init>"), (0, u "()V"), (0, .fieldref 10 11), (0, .class_ 12), (0, .nameAndType 13 14), (0, u "com/example/orderly_results/orderlyresults/engine/Packed$Reader"), (0, u "bytes"), (0, u "[B"), (0, .methodref 10 16), (0, .nameAndType 17 18), (0, u "varint"), (0, u "()I"), (0, .fieldref 10 20), (0, .nameAndType 21 22), (0, u "position"), (0, u "I"), (0, .fieldref 10 24), (0, .nameAndType 25 22), (0, u "valuesStart"), (0, .fieldref 10 27), (0, .nameAndType 28 22), (0, u "valuesEnd"), (6, .methodref 10 36), (0, .nameAndType 37 38), (0, u "varlong"), (0, u "()J"), (2, u "blockEnd"), (74, u "([B)V")] 31

def k6c0 : Code := { maxStack := 3, maxLocals := 3, code := prog_10_method_1_code, exceptionTable := #[], attributes := #[] }
def k6m0 : Method := { name := "<init>", desc := "([B)V", sig := { parameters := [(.array .byte)], returnType := none }, accessFlags := 0, code := some k6c0 }
def k6c1 : Code := { maxStack := 2, maxLocals := 1, code := prog_10_method_3_code, exceptionTable := #[], attributes := #[] }
def k6m1 : Method := { name := "varint", desc := "()I", sig := { parameters := [], returnType := some .int }, accessFlags := 0, code := some k6c1 }
def k6c2 : Code := { maxStack := 5, maxLocals := 5, code := prog_10_method_6_code, exceptionTable := #[], attributes := #[] }
def k6m2 : Method := { name := "varlong", desc := "()J", sig := { parameters := [], returnType := some .long }, accessFlags := 0, code := some k6c2 }
/-- com/example/orderly_results/orderlyresults/engine/Packed$Reader -/
def k6 : Class := { plain "com/example/orderly_results/orderlyresults/engine/Packed$Reader" (some 0) with
  accessFlags := 32
  interfaces := #[]
  cf := some (fileOf pool6 10 #[.nestHost 1] #[{ accessFlags := 0, nameIndex := 7, descriptorIndex := 116, attributes := #[] }, { accessFlags := 0, nameIndex := 17, descriptorIndex := 18, attributes := #[] }, { accessFlags := 0, nameIndex := 37, descriptorIndex := 38, attributes := #[] }] 32 4 #[] #[{ accessFlags := 18, nameIndex := 13, descriptorIndex := 14, attributes := #[] }, { accessFlags := 18, nameIndex := 25, descriptorIndex := 22, attributes := #[] }, { accessFlags := 18, nameIndex := 28, descriptorIndex := 22, attributes := #[] }, { accessFlags := 2, nameIndex := 21, descriptorIndex := 22, attributes := #[] }, { accessFlags := 2, nameIndex := 41, descriptorIndex := 22, attributes := #[] }])
  fields := #[{ name := "bytes", type := (.array .byte), accessFlags := 18, slot := 0, constantValue := 0 }, { name := "valuesStart", type := .int, accessFlags := 18, slot := 1, constantValue := 0 }, { name := "valuesEnd", type := .int, accessFlags := 18, slot := 2, constantValue := 0 }, { name := "position", type := .int, accessFlags := 2, slot := 3, constantValue := 0 }, { name := "blockEnd", type := .int, accessFlags := 2, slot := 4, constantValue := 0 }]
  methods := #[k6m0, k6m1, k6m2]
  instanceTypes := #[(.array .byte), .int, .int, .int, .int]
  staticTypes := #[]
  resolved := Array.replicate 148 none
  statics := none }

def pool7 : Array CpInfo := pool [(1, u "java/lang/Cloneable"), (0, .class_ 1), (0, u "java/lang/Object"), (0, .class_ 3)] 3

/-- java/lang/Cloneable -/
def k7 : Class := { plain "java/lang/Cloneable" (some 0) with
  accessFlags := 1537
  interfaces := #[]
  cf := some (fileOf pool7 2 #[] #[] 1537 4 #[] #[])
  fields := #[]
  methods := #[]
  instanceTypes := #[]
  staticTypes := #[]
  resolved := Array.replicate 8 none
  statics := none }

def pool8 : Array CpInfo := pool [(1, u "java/io/Serializable"), (0, .class_ 1), (0, u "java/lang/Object"), (0, .class_ 3)] 3

/-- java/io/Serializable -/
def k8 : Class := { plain "java/io/Serializable" (some 0) with
  accessFlags := 1537
  interfaces := #[]
  cf := some (fileOf pool8 2 #[] #[] 1537 4 #[] #[])
  fields := #[]
  methods := #[]
  instanceTypes := #[]
  staticTypes := #[]
  resolved := Array.replicate 8 none
  statics := none }

/-- the primitive byte -/
def k9 : Class := { plain "byte" none with kind := .primitive 'B', accessFlags := 0x411 }
/-- [B -/
def k10 : Class := { plain "[B" (some 0) with kind := .array 9 .byte, interfaces := #[7, 8], accessFlags := 1041 }

/-- the primitive int -/
def k11 : Class := { plain "int" none with kind := .primitive 'I', accessFlags := 0x411 }
/-- [I -/
def k12 : Class := { plain "[I" (some 0) with kind := .array 11 .int, interfaces := #[7, 8], accessFlags := 1041 }

def heap : Heap := #[]
def classes : Array Class := #[k0, k1, k2, k3, k4, k5, k6, k7, k8, k9, k10, k11, k12]
def interned : List (Array UInt16 × Addr) := []
def slotsUsed : Nat := 0
def theMethod : MethodId := ⟨1, 1⟩
def args0 : Array Value := #[.long 5, .int 7, .long 9, .int 4]
def aboutOver (below : List Frame) : State where
  vm := { classes := classes, interned := interned.toArray }
  heap := heap
  slotsUsed := slotsUsed
  threads := #[{ frames := .invoking theMethod args0 :: below }]
def below0 : List Frame := [.native { method := ⟨0, 0⟩, args := #[] }]
def about1 : State := aboutOver below0
def p0 : Program := .bare "" "" ""
def e0 : Env := launch0.env 0 0 0
theorem w_frames : about1.frames = Frame.invoking theMethod args0 :: below0 := rfl
set_option maxRecDepth 65536 in
theorem w_args : argsFit about1.vm theMethod args0 = true := by decide +kernel
set_option maxRecDepth 65536 in
theorem w_heap : heapFits about1 = true := by decide +kernel
set_option maxRecDepth 65536 in
theorem w_runnable : about1.curStatus? = some .runnable := by decide +kernel
set_option maxRecDepth 65536 in
theorem w_alone : about1.alone = true := by decide +kernel
set_option maxRecDepth 65536 in
theorem w_named : about1.methodNamed? x = some theMethod := by decide +kernel
set_option maxRecDepth 65536 in
theorem w_hears : about1.hears theMethod below0 = true := by decide +kernel
set_option maxRecDepth 65536 in
theorem w_ripe : about1.ripe theMethod args0 below0 = true := by decide +kernel
theorem w_running : about1.status = .running := rfl
set_option maxRecDepth 65536 in
theorem w_room : about1.hasRoom e0.platform room_1 = true :=
  launch0.hasRoom_least _ room_1 (by decide +kernel) (by decide +kernel) (by decide +kernel) (by decide +kernel) (by decide +kernel) (by decide +kernel)
theorem allAtoms_all (ts : List Jvm.Cond) (a : Array Jvm.Value) (st : Jvm.State) : (allAtoms ts).before a st = ts.all (fun c => c.before a st) := by
  induction ts with
  | nil => rfl
  | cons c t ih =>
    show (Jvm.Cond.and c (allAtoms t)).before a st = _
    rw [Jvm.Cond.before_and, ih, List.all_cons]
def words1 : List Jvm.Cond := Jvm.Cond.code x code maxLocals ret :: tables_1
/-- a 'code' word, met by the world's own term for the bytes: nothing is compared byte by byte -/
theorem code_word {y : MethodName} {bytes : ByteArray} {mx : Nat} {rt : Option FieldType} {a : Array Value} {s : State} {m : MethodId} {meth : Method} {c : Code} (h1 : s.methodNamed? y = some m) (h2 : s.vm.method? m = some meth) (h3 : meth.code = some c) (h4 : c.code = bytes)
    (h5 : (c.maxLocals == mx && c.exceptionTable.isEmpty && decide (c.maxStack ≤ mostOperands) && decide (meth.sig.returnType = rt) && !meth.locks && decide (parseMethodDescriptor y.desc = some meth.sig)) = true) : (Jvm.Cond.code y bytes mx rt).before a s = true := by
  simp only [Bool.and_eq_true, beq_iff_eq, Bool.not_eq_true', decide_eq_true_eq] at h5
  obtain ⟨⟨⟨⟨⟨g1, g2⟩, g3⟩, g4⟩, g5⟩, g6⟩ := h5
  simp [Cond.before, Cond.holds, Cond.value, h1, h2, h3, h4, g1, g2, g3, g4, g5, g6]
def isCode : Jvm.Cond → Bool
  | .code _ _ _ _ => true
  | _ => false
theorem all_split {L : List Jvm.Cond} {P : Jvm.Cond → Bool} (h1 : L.all (fun c => isCode c || P c) = true) (h2 : ∀ c ∈ L.filter isCode, P c = true) : L.all P = true := by
  refine List.all_eq_true.mpr fun c hc => ?_
  have h := List.all_eq_true.mp h1 c hc
  rcases Bool.eq_false_or_eq_true (isCode c) with hi | hi
  · exact h2 c (List.mem_filter.mpr ⟨hc, hi⟩)
  · simpa [hi] using h
set_option maxRecDepth 65536 in
theorem w_c0 : (Jvm.Cond.code x code maxLocals ret).before args0 about1 = true := code_word (m := ⟨1, 1⟩) (meth := k1m1) (c := k1c1) (by decide +kernel) rfl rfl rfl (by decide +kernel)
set_option maxRecDepth 65536 in
theorem w_c1 : (Jvm.Cond.code ({ cls := "com/example/orderly_results/orderlyresults/engine/Packed$Writer", name := "<init>", desc := "()V" } : Jvm.MethodName) prog_14_method_1_code (1 : Nat) (Option.none : Option Jvm.ClassFile.FieldType)).before args0 about1 = true := code_word (m := ⟨2, 0⟩) (meth := k2m0) (c := k2c0) (by decide +kernel) rfl rfl rfl (by decide +kernel)
set_option maxRecDepth 65536 in
theorem w_c2 : (Jvm.Cond.code ({ cls := "java/lang/Object", name := "<init>", desc := "()V" } : Jvm.MethodName) object_method_1_code (1 : Nat) (Option.none : Option Jvm.ClassFile.FieldType)).before args0 about1 = true := code_word (m := ⟨0, 0⟩) (meth := k0m0) (c := k0c0) (by decide +kernel) rfl rfl rfl (by decide +kernel)
set_option maxRecDepth 65536 in
theorem w_c3 : (Jvm.Cond.code ({ cls := "com/example/orderly_results/orderlyresults/engine/Packed$Writer", name := "varlong", desc := "(J)V" } : Jvm.MethodName) prog_14_method_3_code (5 : Nat) (Option.none : Option Jvm.ClassFile.FieldType)).before args0 about1 = true := code_word (m := ⟨2, 2⟩) (meth := k2m2) (c := k2c2) (by decide +kernel) rfl rfl rfl (by decide +kernel)
set_option maxRecDepth 65536 in
theorem w_c4 : (Jvm.Cond.code ({ cls := "com/example/orderly_results/orderlyresults/engine/Packed$Writer", name := "write", desc := "(B)V" } : Jvm.MethodName) prog_14_method_14_code (2 : Nat) (Option.none : Option Jvm.ClassFile.FieldType)).before args0 about1 = true := code_word (m := ⟨2, 4⟩) (meth := k2m4) (c := k2c4) (by decide +kernel) rfl rfl rfl (by decide +kernel)
set_option maxRecDepth 65536 in
theorem w_c5 : (Jvm.Cond.code ({ cls := "com/example/orderly_results/orderlyresults/engine/Packed$Writer", name := "ensure", desc := "(I)V" } : Jvm.MethodName) prog_14_method_15_code (2 : Nat) (Option.none : Option Jvm.ClassFile.FieldType)).before args0 about1 = true := code_word (m := ⟨2, 5⟩) (meth := k2m5) (c := k2c5) (by decide +kernel) rfl rfl rfl (by decide +kernel)
set_option maxRecDepth 65536 in
theorem w_c6 : (Jvm.Cond.code ({ cls := "com/example/orderly_results/orderlyresults/engine/Packed$Writer", name := "toBytes", desc := "([B)[B" } : Jvm.MethodName) prog_14_method_11_code (4 : Nat) (Option.some (Jvm.ClassFile.FieldType.array Jvm.ClassFile.FieldType.byte))).before args0 about1 = true := code_word (m := ⟨2, 3⟩) (meth := k2m3) (c := k2c3) (by decide +kernel) rfl rfl rfl (by decide +kernel)
set_option maxRecDepth 65536 in
theorem w_c7 : (Jvm.Cond.code ({ cls := "com/example/orderly_results/orderlyresults/engine/Packed$Writer", name := "varint", desc := "(I)V" } : Jvm.MethodName) prog_14_method_2_code (2 : Nat) (Option.none : Option Jvm.ClassFile.FieldType)).before args0 about1 = true := code_word (m := ⟨2, 1⟩) (meth := k2m1) (c := k2c1) (by decide +kernel) rfl rfl rfl (by decide +kernel)
set_option maxRecDepth 65536 in
theorem w_c8 : (Jvm.Cond.code ({ cls := "java/util/Arrays", name := "copyOf", desc := "([BI)[B" } : Jvm.MethodName) jdk_65_method_121_code (3 : Nat) (Option.some (Jvm.ClassFile.FieldType.array Jvm.ClassFile.FieldType.byte))).before args0 about1 = true := code_word (m := ⟨3, 1⟩) (meth := k3m1) (c := k3c1) (by decide +kernel) rfl rfl rfl (by decide +kernel)
set_option maxRecDepth 65536 in
theorem w_c9 : (Jvm.Cond.code ({ cls := "java/lang/Math", name := "min", desc := "(II)I" } : Jvm.MethodName) jdk_29_method_69_code (2 : Nat) (Option.some Jvm.ClassFile.FieldType.int)).before args0 about1 = true := code_word (m := ⟨4, 1⟩) (meth := k4m1) (c := k4c1) (by decide +kernel) rfl rfl rfl (by decide +kernel)
set_option maxRecDepth 65536 in
theorem w_c10 : (Jvm.Cond.code ({ cls := "com/example/orderly_results/orderlyresults/engine/Packed$Reader", name := "<init>", desc := "([B)V" } : Jvm.MethodName) prog_10_method_1_code (3 : Nat) (Option.none : Option Jvm.ClassFile.FieldType)).before args0 about1 = true := code_word (m := ⟨6, 0⟩) (meth := k6m0) (c := k6c0) (by decide +kernel) rfl rfl rfl (by decide +kernel)
set_option maxRecDepth 65536 in
theorem w_c11 : (Jvm.Cond.code ({ cls := "com/example/orderly_results/orderlyresults/engine/Packed$Reader", name := "varint", desc := "()I" } : Jvm.MethodName) prog_10_method_3_code (1 : Nat) (Option.some Jvm.ClassFile.FieldType.int)).before args0 about1 = true := code_word (m := ⟨6, 1⟩) (meth := k6m1) (c := k6c1) (by decide +kernel) rfl rfl rfl (by decide +kernel)
set_option maxRecDepth 65536 in
theorem w_c12 : (Jvm.Cond.code ({ cls := "com/example/orderly_results/orderlyresults/engine/Packed$Reader", name := "varlong", desc := "()J" } : Jvm.MethodName) prog_10_method_6_code (5 : Nat) (Option.some Jvm.ClassFile.FieldType.long)).before args0 about1 = true := code_word (m := ⟨6, 2⟩) (meth := k6m2) (c := k6c2) (by decide +kernel) rfl rfl rfl (by decide +kernel)
def codes1 : List Jvm.Cond := [Jvm.Cond.code x code maxLocals ret, Jvm.Cond.code ({ cls := "com/example/orderly_results/orderlyresults/engine/Packed$Writer", name := "<init>", desc := "()V" } : Jvm.MethodName) prog_14_method_1_code (1 : Nat) (Option.none : Option Jvm.ClassFile.FieldType), Jvm.Cond.code ({ cls := "java/lang/Object", name := "<init>", desc := "()V" } : Jvm.MethodName) object_method_1_code (1 : Nat) (Option.none : Option Jvm.ClassFile.FieldType), Jvm.Cond.code ({ cls := "com/example/orderly_results/orderlyresults/engine/Packed$Writer", name := "varlong", desc := "(J)V" } : Jvm.MethodName) prog_14_method_3_code (5 : Nat) (Option.none : Option Jvm.ClassFile.FieldType), Jvm.Cond.code ({ cls := "com/example/orderly_results/orderlyresults/engine/Packed$Writer", name := "write", desc := "(B)V" } : Jvm.MethodName) prog_14_method_14_code (2 : Nat) (Option.none : Option Jvm.ClassFile.FieldType), Jvm.Cond.code ({ cls := "com/example/orderly_results/orderlyresults/engine/Packed$Writer", name := "ensure", desc := "(I)V" } : Jvm.MethodName) prog_14_method_15_code (2 : Nat) (Option.none : Option Jvm.ClassFile.FieldType), Jvm.Cond.code ({ cls := "com/example/orderly_results/orderlyresults/engine/Packed$Writer", name := "toBytes", desc := "([B)[B" } : Jvm.MethodName) prog_14_method_11_code (4 : Nat) (Option.some (Jvm.ClassFile.FieldType.array Jvm.ClassFile.FieldType.byte)), Jvm.Cond.code ({ cls := "com/example/orderly_results/orderlyresults/engine/Packed$Writer", name := "varint", desc := "(I)V" } : Jvm.MethodName) prog_14_method_2_code (2 : Nat) (Option.none : Option Jvm.ClassFile.FieldType), Jvm.Cond.code ({ cls := "java/util/Arrays", name := "copyOf", desc := "([BI)[B" } : Jvm.MethodName) jdk_65_method_121_code (3 : Nat) (Option.some (Jvm.ClassFile.FieldType.array Jvm.ClassFile.FieldType.byte)), Jvm.Cond.code ({ cls := "java/lang/Math", name := "min", desc := "(II)I" } : Jvm.MethodName) jdk_29_method_69_code (2 : Nat) (Option.some Jvm.ClassFile.FieldType.int), Jvm.Cond.code ({ cls := "com/example/orderly_results/orderlyresults/engine/Packed$Reader", name := "<init>", desc := "([B)V" } : Jvm.MethodName) prog_10_method_1_code (3 : Nat) (Option.none : Option Jvm.ClassFile.FieldType), Jvm.Cond.code ({ cls := "com/example/orderly_results/orderlyresults/engine/Packed$Reader", name := "varint", desc := "()I" } : Jvm.MethodName) prog_10_method_3_code (1 : Nat) (Option.some Jvm.ClassFile.FieldType.int), Jvm.Cond.code ({ cls := "com/example/orderly_results/orderlyresults/engine/Packed$Reader", name := "varlong", desc := "()J" } : Jvm.MethodName) prog_10_method_6_code (5 : Nat) (Option.some Jvm.ClassFile.FieldType.long)]
set_option maxRecDepth 65536 in
theorem codes_eq : words1.filter isCode = codes1 := rfl
theorem w_codes : ∀ c ∈ words1.filter isCode, c.before args0 about1 = true := by
  rw [codes_eq]
  intro c hc
  simp only [codes1, List.mem_cons, List.not_mem_nil, or_false] at hc
  rcases hc with rfl | rfl | rfl | rfl | rfl | rfl | rfl | rfl | rfl | rfl | rfl | rfl | rfl
  · exact w_c0
  · exact w_c1
  · exact w_c2
  · exact w_c3
  · exact w_c4
  · exact w_c5
  · exact w_c6
  · exact w_c7
  · exact w_c8
  · exact w_c9
  · exact w_c10
  · exact w_c11
  · exact w_c12
set_option maxRecDepth 65536 in
theorem w_t1 : (words1.take 24).all (fun c => isCode c || c.before args0 about1) = true := by decide +kernel
set_option maxRecDepth 65536 in
theorem w_t2 : ((words1.drop 24).take 24).all (fun c => isCode c || c.before args0 about1) = true := by decide +kernel
set_option maxRecDepth 65536 in
theorem w_t3 : (((words1.drop 24).drop 24).take 24).all (fun c => isCode c || c.before args0 about1) = true := by decide +kernel
set_option maxRecDepth 65536 in
theorem w_t4 : (((words1.drop 24).drop 24).drop 24).all (fun c => isCode c || c.before args0 about1) = true := by decide +kernel
theorem w_tables : (allAtoms (Jvm.Cond.code x code maxLocals ret :: tables_1)).before args0 about1 = true := by
  rw [allAtoms_all]
  show words1.all (fun c => c.before args0 about1) = true
  refine all_split ?_ w_codes
  rw [← List.take_append_drop 24 words1, List.all_append, w_t1, ← List.take_append_drop 24 (words1.drop 24), List.all_append, w_t2, ← List.take_append_drop 24 ((words1.drop 24).drop 24), List.all_append, w_t3, w_t4]
  rfl
set_option maxRecDepth 65536 in
theorem w_case : (Jvm.Cond.and given_1 narrow_1).before args0 about1 = true := by decide +kernel
theorem w_applies : (headSpec (Jvm.Cond.code x code maxLocals ret :: tables_1) room_1).applies x e0.platform about1 = true :=
  (Spec.applies_iff w_frames).mpr ⟨w_running, w_runnable, w_alone, w_named, w_hears, w_ripe, w_room, w_tables⟩
theorem atStart : AtStart classFile x code maxLocals ret World_1 tables_1 room_1 Calls_1 rest_1 Pre_1 launch0 p0 e0 about1 theMethod args0 below0 :=
  ⟨lists_1, trivial, launch0.admits_env _ _ _, launch0.least_env, fairChoices_fair.cas, fairChoices_fair.clock, w_frames, w_args, w_heap, w_applies, trivial, trivial, w_case⟩
end start1
theorem witness_1 : WitnessClaimed_1 := ⟨start1.p0, start1.e0, start1.about1, start1.theMethod, start1.args0, start1.below0, start1.atStart⟩
end Jvm.Pilot.@@N@@
