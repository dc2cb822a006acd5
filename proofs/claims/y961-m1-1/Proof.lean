import JvmDerived
import JvmDerived.Pilot.@@N@@Statement
import JvmDerived.Pilot.@@N@@Code
set_option linter.unusedVariables false
set_option linter.unusedSimpArgs false
namespace Jvm.Pilot.@@N@@
open Jvm Jvm.ClassFile Sem Op Lib Jvm.Free Jvm.Stand Jvm.LawKit Jvm.RoadKit Bundle Jvm.Pilot.@@N@@.Jvm.D
section OwnKit
variable {p : Program} {l : Launch} {e : Env} {R : Room} {s : State} {m : MethodId} {args : Array Value} {below : List Frame} {meth : Method} {c : Code} {T : State} {locs : List Loc} {cells slots : Nat} {Z : State} {a0 : Array Value} {h : Heap}
/-- the walk from A ends well: it returns, what it returns and leaves is as Q says -/
def own_G (p : Program) (e : Env) (below : List Frame) (s : State) (Q : Option Value → Heap → List Loc → Prop) (ce sl : Nat) (A : State) : Prop :=
  ∃ s₂ o, Steps p.tables e below A s₂ ∧ s₂.status = .running ∧ Ended s₂ below o ∧ ∃ v L, o = .returned v ∧ Q v s₂.heap L ∧ FrameEnd s o s₂ L ce sl
theorem own_st {Q : Option Value → Heap → List Loc → Prop} {ce sl : Nat} {A B : State} (k : ∀ t, Steps p.tables e below B t → Steps p.tables e below A t) (g : own_G p e below s Q ce sl B) : own_G p e below s Q ce sl A := by
  obtain ⟨s₂, o, h1, h2⟩ := g
  exact ⟨s₂, o, k _ h1, h2⟩
theorem own_ret {Q : Option Value → Heap → List Loc → Prop} {ce sl : Nat} (X : Stand p l e R s m args below meth c T locs cells slots) (hx : p.tables.exec = Jvm.exec) (hlk : meth.locks = false) {pc : Nat} {Ls : Array Slot} {w : Value} {t : FieldType} {i : Instr} {rest : List Value} (hret : meth.sig.returnType = some t) (hn : narrow t w = w)
    (hi : (i = .ireturn ∧ (t = .int ∨ t = .boolean ∨ t = .byte ∨ t = .char ∨ t = .short) ∧ ∃ z, w = .int z) ∨ (i = .lreturn ∧ t = .long ∧ ∃ z, w = .long z) ∨ (i = .dreturn ∧ t = .double ∧ ∃ z, w = .double z) ∨ (i = .freturn ∧ t = .float ∧ ∃ z, w = .float z) ∨ (i = .areturn ∧ t.isReference = true ∧ w.isRef = true))
    (hd : decode c.code pc = .ok (i, 1)) (hc : cells ≤ ce) (hs : slots ≤ sl) (hQ : Q (some w) T.heap locs) : own_G p e below s Q ce sl (T.setTop (mkF m pc Ls (w :: rest))) := by
  obtain ⟨fs, hr, hrun, hended, hW, hsame⟩ := X.leave (v := some w) (fun q => by rw [hret] at q; cases q) hlk
  exact ⟨_, _, retOut X hx hret hn hi hd hr, hrun, hended, _, _, rfl, hQ, ⟨_, rfl⟩, hW, hsame.mono hc hs⟩
theorem own_retI {Q : Option Value → Heap → List Loc → Prop} {ce sl : Nat} (X : Stand p l e R s m args below meth c T locs cells slots) (hx : p.tables.exec = Jvm.exec) (hlk : meth.locks = false) {pc : Nat} {Ls : Array Slot} {z : Int32} {rest : List Value} (hret : meth.sig.returnType = some .int)
    (hd : decode c.code pc = .ok (.ireturn, 1)) (hc : cells ≤ ce) (hs : slots ≤ sl) (hQ : Q (some (.int z)) T.heap locs) : own_G p e below s Q ce sl (T.setTop (mkF m pc Ls (.int z :: rest))) :=
  own_ret X hx hlk hret rfl (Or.inl ⟨rfl, Or.inl rfl, z, rfl⟩) hd hc hs hQ
theorem own_retZ {Q : Option Value → Heap → List Loc → Prop} {ce sl : Nat} (X : Stand p l e R s m args below meth c T locs cells slots) (hx : p.tables.exec = Jvm.exec) (hlk : meth.locks = false) {pc : Nat} {Ls : Array Slot} {z : Int32} {rest : List Value} (hret : meth.sig.returnType = some .boolean) (hn : z = 0 ∨ z = 1)
    (hd : decode c.code pc = .ok (.ireturn, 1)) (hc : cells ≤ ce) (hs : slots ≤ sl) (hQ : Q (some (.int z)) T.heap locs) : own_G p e below s Q ce sl (T.setTop (mkF m pc Ls (.int z :: rest))) :=
  own_ret X hx hlk hret (by rcases hn with rfl | rfl <;> rfl) (Or.inl ⟨rfl, Or.inr (Or.inl rfl), z, rfl⟩) hd hc hs hQ
theorem own_retJ {Q : Option Value → Heap → List Loc → Prop} {ce sl : Nat} (X : Stand p l e R s m args below meth c T locs cells slots) (hx : p.tables.exec = Jvm.exec) (hlk : meth.locks = false) {pc : Nat} {Ls : Array Slot} {z : Int64} {rest : List Value} (hret : meth.sig.returnType = some .long)
    (hd : decode c.code pc = .ok (.lreturn, 1)) (hc : cells ≤ ce) (hs : slots ≤ sl) (hQ : Q (some (.long z)) T.heap locs) : own_G p e below s Q ce sl (T.setTop (mkF m pc Ls (.long z :: rest))) :=
  own_ret X hx hlk hret rfl (Or.inr (Or.inl ⟨rfl, rfl, z, rfl⟩)) hd hc hs hQ
theorem own_retA {Q : Option Value → Heap → List Loc → Prop} {ce sl : Nat} (X : Stand p l e R s m args below meth c T locs cells slots) (hx : p.tables.exec = Jvm.exec) (hlk : meth.locks = false) {pc : Nat} {Ls : Array Slot} {w : Value} {t : FieldType} {rest : List Value} (hret : meth.sig.returnType = some t) (ht : t.isReference = true) (hw : w.isRef = true)
    (hd : decode c.code pc = .ok (.areturn, 1)) (hc : cells ≤ ce) (hs : slots ≤ sl) (hQ : Q (some w) T.heap locs) : own_G p e below s Q ce sl (T.setTop (mkF m pc Ls (w :: rest))) :=
  own_ret X hx hlk hret (by cases w <;> first | rfl | (cases t <;> first | rfl | cases ht)) (Or.inr (Or.inr (Or.inr (Or.inr ⟨rfl, ht, hw⟩)))) hd hc hs hQ
theorem own_retV {Q : Option Value → Heap → List Loc → Prop} {ce sl : Nat} (X : Stand p l e R s m args below meth c T locs cells slots) (hx : p.tables.exec = Jvm.exec) (hlk : meth.locks = false) {pc : Nat} {Ls : Array Slot} (hret : meth.sig.returnType = none)
    (hd : decode c.code pc = .ok (.return_, 1)) (hc : cells ≤ ce) (hs : slots ≤ sl) (hQ : Q none T.heap locs) : own_G p e below s Q ce sl (T.setTop (mkF m pc Ls [])) := by
  obtain ⟨fs, hr, hrun, hended, hW, hsame⟩ := X.leave (v := none) (fun _ => rfl) hlk
  exact ⟨_, _, X.returnOut hx hret hd hr, hrun, hended, _, _, rfl, hQ, ⟨_, rfl⟩, hW, hsame.mono hc hs⟩
/-- a contract out of the walk of its body -/
theorem own_met {y : MethodName} {bytes : ByteArray} {maxL : Nat} {ret : Option FieldType} {ws : List Jvm.Cond} {rm : Room} {as' : Array Value} {h0 : Heap} {Q : Option Value → Heap → List Loc → Prop} {ce sl : Nat} (hp : plainFor y = true)
    (body : ∀ (p : Program) (e : Env) (s : State) (m : MethodId) (below : List Frame) (meth : Method) (c : Code) (T : State), p.tables.exec = Jvm.exec → c.code = bytes → c.maxLocals = maxL → s.vm.findClass y.cls = some m.cls → meth.name = y.name → meth.sig.returnType = ret → meth.locks = false → Z.Warmed39 s.vm → T.heap = h0 →
      Stand p l e rm s m as' below meth c T [] 0 0 → own_G p e below s Q ce sl (T.setTop (entryFrame m as' maxL))) :
    MetFree l y (head1 (Jvm.Cond.code y bytes maxL ret :: ws) rm) (fun a U => a = as' ∧ Z.Warmed39 U.vm ∧ U.heap = h0) (fun _ _ _ _ _ => True) (fun _ U o U' => ∃ v L, o = .returned v ∧ Q v U'.heap L ∧ FrameEnd U o U' L ce sl) := by
  refine MetFree.of_bodySF hp hisR ?_
  intro p e s m args below meth c s₁ Bd hml0 hP hK
  obtain ⟨rfl, hZ, hh⟩ := hP
  exact body p e s m below meth c s₁ Bd.exec Bd.bytes hml0 (findClass_of_methodNamed Bd.named) (name_of_methodNamed Bd.named Bd.method).1 Bd.returns Bd.notSynchronized hZ (by rw [← hh, Bd.state]; rfl) (Stand.of_body Bd)
theorem own_callS (X : Stand p l e R s m args below meth c T locs cells slots) (hx : p.tables.exec = Jvm.exec) (hZ : Z.Warmed39 s.vm) {own : String} {index : Nat} {y : MethodName} {bytes : ByteArray} {maxL : Nat} {ret : Option FieldType} {rm : Room} {Q : Option Value → Heap → List Loc → Prop} {argsL rest : List Value} (W : Nat)
    (hown : s.vm.findClass own = some m.cls) (wl : (Jvm.Cond.methodLink own index y).before a0 Z = true) (wst : (Jvm.Cond.static y).before a0 Z = true) (wz : (Jvm.Cond.initialized y.cls).before a0 Z = true) (wc : (Jvm.Cond.code y bytes maxL ret).before a0 Z = true) (hy : y.cls ≠ "java/lang/invoke/MethodHandle" ∧ y.cls ≠ "java/lang/invoke/VarHandle")
    (hM : MetFree l y (head1 [Jvm.Cond.code y bytes maxL ret] rm) (fun a U => a = argsL.toArray ∧ Z.Warmed39 U.vm ∧ U.heap = h) (fun _ _ _ _ _ => True) (fun _ U o U' => ∃ v L, o = .returned v ∧ Q v U'.heap L ∧ FrameEnd U o U' L rm.cells rm.slots))
    (hf : rm.frames + 1 ≤ R.frames) (hl : W + (maxL + 11) + rm.locals ≤ R.locals) (eT : T.heap = h) {g : JFrame} (hg : g.method = m) (hsize : g.locals.size = c.maxLocals) {ps : List FieldType} {r : Option FieldType} (hpd : parseMethodDescriptor y.desc = some ⟨ps, r⟩) (hlen : argsL.length = ps.length)
    (hstack : g.stack = argsL.reverse ++ rest) (hW : 2 * g.monitorRoom + (rest.map fun v => v.category).sum ≤ W) (hdg : decode c.code g.pc = .ok (.invokestatic index, 3)) (hc : cells + rm.cells ≤ R.cells) (hs : slots + rm.slots ≤ R.slots) :
    ∃ v T' L, Stand p l e R s m args below meth c T' (locs ++ L) (cells + rm.cells) (slots + rm.slots) ∧ Q v T'.heap L ∧ ∀ t, Steps p.tables e below (T'.setTop { g with pc := g.pc + 3, stack := v.toList ++ rest }) t → Steps p.tables e below (T.setTop g) t := by
  obtain ⟨v, _, ⟨T', L', k', n'⟩, -, X', ⟨L, hQ, l1, y1, z1⟩, st⟩ := Jvm.LawKit.callS X hx (y := y) hown (mvT hZ wl) (mvT hZ wst) (mvT hZ wz) (mvT hZ wc) hy (backOf (W := W) hM hZ wc wz hf hl) hg hsize (lenOf hpd hlen) hstack hW hdg (fun _ _ => ⟨rfl, eT, hc, hs⟩)
  dsimp only [Pt.U, Pt.locs, Pt.cells, Pt.slots] at X' l1 y1 z1 st hQ
  subst l1 y1 z1
  exact ⟨v, T', L, X', hQ, st⟩
theorem own_callI (X : Stand p l e R s m args below meth c T locs cells slots) (hx : p.tables.exec = Jvm.exec) (hZ : Z.Warmed39 s.vm) {own : String} {index : Nat} {y : MethodName} {bytes : ByteArray} {maxL : Nat} {rm : Room} {Q : Option Value → Heap → List Loc → Prop} {a : Addr} {argsL rest : List Value} (W : Nat)
    (hy1 : y.name = "<init>") (hown : s.vm.findClass own = some m.cls) (wl : (Jvm.Cond.methodLink own index y).before a0 Z = true) (wi : (Jvm.Cond.instanceMethod y).before a0 Z = true) (wz : (Jvm.Cond.initialized y.cls).before a0 Z = true) (wc : (Jvm.Cond.code y bytes maxL none).before a0 Z = true) (hy : y.cls ≠ "java/lang/invoke/MethodHandle" ∧ y.cls ≠ "java/lang/invoke/VarHandle")
    (hM : MetFree l y (head1 [Jvm.Cond.code y bytes maxL none] rm) (fun b U => b = (Value.ref a :: argsL).toArray ∧ Z.Warmed39 U.vm ∧ U.heap = h) (fun _ _ _ _ _ => True) (fun _ U o U' => ∃ v L, o = .returned v ∧ Q v U'.heap L ∧ FrameEnd U o U' L rm.cells rm.slots))
    (hf : rm.frames + 1 ≤ R.frames) (hl : W + (maxL + 11) + rm.locals ≤ R.locals) (eT : T.heap = h) {g : JFrame} (hg : g.method = m) (hsize : g.locals.size = c.maxLocals) {ps : List FieldType} {r : Option FieldType} (hpd : parseMethodDescriptor y.desc = some ⟨ps, r⟩) (hlen : argsL.length = ps.length)
    (hstack : g.stack = argsL.reverse ++ .ref a :: rest) (hW : 2 * g.monitorRoom + (rest.map fun v => v.category).sum ≤ W) (hdg : decode c.code g.pc = .ok (.invokespecial index, 3)) (hc : cells + rm.cells ≤ R.cells) (hs : slots + rm.slots ≤ R.slots) :
    ∃ v T' L, Stand p l e R s m args below meth c T' (locs ++ L) (cells + rm.cells) (slots + rm.slots) ∧ Q v T'.heap L ∧ ∀ t, Steps p.tables e below (T'.setTop { g with pc := g.pc + 3, stack := v.toList ++ rest }) t → Steps p.tables e below (T.setTop g) t := by
  obtain ⟨v, _, ⟨T', L', k', n'⟩, -, X', ⟨L, hQ, l1, y1, z1⟩, st⟩ := X.specialBack hx (y := y) hy1 hown (mvT hZ wl) (mvT hZ wi) (mvT hZ wc) hy (backOf (W := W) hM hZ wc wz hf hl) hg hsize (Steps.refl _) (a := a) (lenOf hpd hlen) hstack hW hdg (fun _ _ => ⟨rfl, eT, hc, hs⟩)
  dsimp only [Pt.U, Pt.locs, Pt.cells, Pt.slots] at X' l1 y1 z1 st hQ
  subst l1 y1 z1
  exact ⟨v, T', L, X', hQ, fun t k => st.trans k⟩
theorem own_callV (X : Stand p l e R s m args below meth c T locs cells slots) (hx : p.tables.exec = Jvm.exec) (hZ : Z.Warmed39 s.vm) {own C : String} {index : Nat} {y z : MethodName} {bytes : ByteArray} {maxL : Nat} {ret : Option FieldType} {rm : Room} {Q : Option Value → Heap → List Loc → Prop} {a : Addr} {argsL rest : List Value} (W : Nat)
    (hown : s.vm.findClass own = some m.cls) (wl : (Jvm.Cond.methodLink own index y).before a0 Z = true) (wd : (Jvm.Cond.declares y).before a0 Z = true) (hnf : NotFace s y) (wsel : (Jvm.Cond.selects C y z).before a0 Z = true) (wi : (Jvm.Cond.instanceMethod z).before a0 Z = true) (wz : (Jvm.Cond.initialized z.cls).before a0 Z = true) (wc : (Jvm.Cond.code z bytes maxL ret).before a0 Z = true) (hy : y.cls ≠ "java/lang/invoke/MethodHandle" ∧ y.cls ≠ "java/lang/invoke/VarHandle")
    (hM : MetFree l z (head1 [Jvm.Cond.code z bytes maxL ret] rm) (fun b U => b = (Value.ref a :: argsL).toArray ∧ Z.Warmed39 U.vm ∧ U.heap = h) (fun _ _ _ _ _ => True) (fun _ U o U' => ∃ v L, o = .returned v ∧ Q v U'.heap L ∧ FrameEnd U o U' L rm.cells rm.slots))
    (hf : rm.frames + 1 ≤ R.frames) (hl : W + (maxL + 11) + rm.locals ≤ R.locals) (eT : T.heap = h) (E : Exa Z h a C) {g : JFrame} (hg : g.method = m) (hsize : g.locals.size = c.maxLocals) {ps : List FieldType} {r : Option FieldType} (hpd : parseMethodDescriptor y.desc = some ⟨ps, r⟩) (hlen : argsL.length = ps.length)
    (hstack : g.stack = argsL.reverse ++ .ref a :: rest) (hW : 2 * g.monitorRoom + (rest.map fun v => v.category).sum ≤ W) (hdg : decode c.code g.pc = .ok (.invokevirtual index, 3)) (hc : cells + rm.cells ≤ R.cells) (hs : slots + rm.slots ≤ R.slots) :
    ∃ v T' L, Stand p l e R s m args below meth c T' (locs ++ L) (cells + rm.cells) (slots + rm.slots) ∧ Q v T'.heap L ∧ ∀ t, Steps p.tables e below (T'.setTop { g with pc := g.pc + 3, stack := v.toList ++ rest }) t → Steps p.tables e below (T.setTop g) t := by
  obtain ⟨cq, kq, qa, qb, qc⟩ := isOf hZ eT E
  obtain ⟨v, _, ⟨T', L', k', n'⟩, -, X', ⟨L, hQ, l1, y1, z1⟩, st⟩ := X.virtualBack hx (y := y) (z := z) hown (mvT hZ wl) (mvT hZ wd) hnf (mvT hZ wsel) (mvT hZ wi) hy (backOf (W := W) hM hZ wc wz hf hl) qa qc hg hsize (Steps.refl _) (lenOf hpd hlen) hstack hW hdg (fun _ _ => ⟨rfl, eT, hc, hs⟩)
  dsimp only [Pt.U, Pt.locs, Pt.cells, Pt.slots] at X' l1 y1 z1 st hQ
  subst l1 y1 z1
  exact ⟨v, T', L, X', hQ, fun t k => st.trans k⟩
theorem own_nf {y : MethodName} {C : String} (hZ : Z.Warmed39 s.vm) (w : (Jvm.Cond.selects C y y).before a0 Z = true) : NotFace s y := notFace_of_selects (args := #[]) (mvT hZ w)
theorem own_selP {y y0 : MethodName} {C : String} (hZ : Z.Warmed39 s.vm) (w0 : (Jvm.Cond.selects C y0 y0).before a0 Z = true) (hc : y0.cls = y.cls) (wp : (Jvm.Cond.privateMethod y).before a0 Z = true) (wi : (Jvm.Cond.instanceMethod y).before a0 Z = true) (hy : y.cls ≠ "java/lang/invoke/MethodHandle" ∧ y.cls ≠ "java/lang/invoke/VarHandle") :
    (Jvm.Cond.selects y.cls y y).before args s = true := by
  obtain ⟨c2, r2, m2, q1, q2, q3, q4, kP, hkP, hkPi⟩ := Cond.selects_spec (mvT (args := args) hZ w0)
  exact selects_self_of_private (hc ▸ findClass_of_methodNamed q3) hkP hkPi (Cond.privateMethod_at (mvP hZ wp (args := #[]))) (mvT hZ wi) hy
theorem own_callP (X : Stand p l e R s m args below meth c T locs cells slots) (hx : p.tables.exec = Jvm.exec) (hZ : Z.Warmed39 s.vm) {own C C0 : String} {index : Nat} {y y0 : MethodName} {bytes : ByteArray} {maxL : Nat} {ret : Option FieldType} {rm : Room} {Q : Option Value → Heap → List Loc → Prop} {a : Addr} {argsL rest : List Value} (W : Nat)
    (hown : s.vm.findClass own = some m.cls) (wl : (Jvm.Cond.methodLink own index y).before a0 Z = true) (w0 : (Jvm.Cond.selects C0 y0 y0).before a0 Z = true) (hc0 : y0.cls = y.cls) (wp : (Jvm.Cond.privateMethod y).before a0 Z = true) (wi : (Jvm.Cond.instanceMethod y).before a0 Z = true) (wz : (Jvm.Cond.initialized y.cls).before a0 Z = true) (wc : (Jvm.Cond.code y bytes maxL ret).before a0 Z = true) (hy : y.cls ≠ "java/lang/invoke/MethodHandle" ∧ y.cls ≠ "java/lang/invoke/VarHandle")
    (hM : MetFree l y (head1 [Jvm.Cond.code y bytes maxL ret] rm) (fun b U => b = (Value.ref a :: argsL).toArray ∧ Z.Warmed39 U.vm ∧ U.heap = h) (fun _ _ _ _ _ => True) (fun _ U o U' => ∃ v L, o = .returned v ∧ Q v U'.heap L ∧ FrameEnd U o U' L rm.cells rm.slots))
    (hf : rm.frames + 1 ≤ R.frames) (hl : W + (maxL + 11) + rm.locals ≤ R.locals) (eT : T.heap = h) (E : Exa Z h a C) {g : JFrame} (hg : g.method = m) (hsize : g.locals.size = c.maxLocals) {ps : List FieldType} {r : Option FieldType} (hpd : parseMethodDescriptor y.desc = some ⟨ps, r⟩) (hlen : argsL.length = ps.length)
    (hstack : g.stack = argsL.reverse ++ .ref a :: rest) (hW : 2 * g.monitorRoom + (rest.map fun v => v.category).sum ≤ W) (hdg : decode c.code g.pc = .ok (.invokevirtual index, 3)) (hc : cells + rm.cells ≤ R.cells) (hs : slots + rm.slots ≤ R.slots) :
    ∃ v T' L, Stand p l e R s m args below meth c T' (locs ++ L) (cells + rm.cells) (slots + rm.slots) ∧ Q v T'.heap L ∧ ∀ t, Steps p.tables e below (T'.setTop { g with pc := g.pc + 3, stack := v.toList ++ rest }) t → Steps p.tables e below (T.setTop g) t := by
  obtain ⟨cq, q1, q2⟩ := E.cell
  obtain ⟨v, _, ⟨T', L', k', n'⟩, -, X', ⟨L, hQ, l1, y1, z1⟩, st⟩ := X.privateBack hx (y := y) hown (mvT hZ wl) (mvT hZ wi) (own_selP hZ w0 hc0 wp wi hy) (Cond.privateMethod_at (mvP hZ wp (args := #[]))) (mvT hZ wc) hy (backOf (W := W) hM hZ wc wz hf hl) hg hsize (Steps.refl _) (a := a) (by rw [eT]; exact q1) q2 (lenOf hpd hlen) hstack hW hdg (fun _ _ => ⟨rfl, eT, hc, hs⟩)
  dsimp only [Pt.U, Pt.locs, Pt.cells, Pt.slots] at X' l1 y1 z1 st hQ
  subst l1 y1 z1
  exact ⟨v, T', L, X', hQ, fun t k => st.trans k⟩
theorem own_callF (X : Stand p l e R s m args below meth c T locs cells slots) (hx : p.tables.exec = Jvm.exec) (hZ : Z.Warmed39 s.vm) {own C : String} {index count : Nat} {xi y : MethodName} {bytes : ByteArray} {maxL : Nat} {ret : Option FieldType} {rm : Room} {Q : Option Value → Heap → List Loc → Prop} {a : Addr} {argsL rest : List Value} (W : Nat)
    (hown : s.vm.findClass own = some m.cls) (wl : (Jvm.Cond.methodLink own index xi).before a0 Z = true) (wd : (Jvm.Cond.declares xi).before a0 Z = true) (wf : (Jvm.Cond.interfaceMethod xi.cls xi.cls xi.name xi.desc).before args s = true) (wsel : (Jvm.Cond.selects C xi y).before a0 Z = true) (wi : (Jvm.Cond.instanceMethod y).before a0 Z = true) (wp : (Jvm.Cond.publicMethod y).before a0 Z = true) (wu : (Jvm.Cond.unhidden C xi.name xi.desc).before a0 Z = true) (wk : (Jvm.Cond.castable C xi.cls).before a0 Z = true) (wz : (Jvm.Cond.initialized y.cls).before a0 Z = true) (wc : (Jvm.Cond.code y bytes maxL ret).before a0 Z = true) (hy : xi.cls ≠ "java/lang/invoke/MethodHandle" ∧ xi.cls ≠ "java/lang/invoke/VarHandle")
    (hM : MetFree l y (head1 [Jvm.Cond.code y bytes maxL ret] rm) (fun b U => b = (Value.ref a :: argsL).toArray ∧ Z.Warmed39 U.vm ∧ U.heap = h) (fun _ _ _ _ _ => True) (fun _ U o U' => ∃ v L, o = .returned v ∧ Q v U'.heap L ∧ FrameEnd U o U' L rm.cells rm.slots))
    (hf : rm.frames + 1 ≤ R.frames) (hl : W + (maxL + 11) + rm.locals ≤ R.locals) (eT : T.heap = h) (E : Exa Z h a C) {g : JFrame} (hg : g.method = m) (hsize : g.locals.size = c.maxLocals) {ps : List FieldType} {r : Option FieldType} (hpd : parseMethodDescriptor xi.desc = some ⟨ps, r⟩) (hlen : argsL.length = ps.length)
    (hstack : g.stack = argsL.reverse ++ .ref a :: rest) (hW : 2 * g.monitorRoom + (rest.map fun v => v.category).sum ≤ W) (hdg : decode c.code g.pc = .ok (.invokeinterface index count, 5)) (hc : cells + rm.cells ≤ R.cells) (hs : slots + rm.slots ≤ R.slots) :
    ∃ v T' L, Stand p l e R s m args below meth c T' (locs ++ L) (cells + rm.cells) (slots + rm.slots) ∧ Q v T'.heap L ∧ ∀ t, Steps p.tables e below (T'.setTop { g with pc := g.pc + 5, stack := v.toList ++ rest }) t → Steps p.tables e below (T.setTop g) t := by
  obtain ⟨cq, kq, qa, qb, qc⟩ := isOf hZ eT E
  obtain ⟨v, _, ⟨T', L', k', n'⟩, -, X', ⟨L, hQ, l1, y1, z1⟩, st⟩ := X.interfaceBack hx (xi := xi) (y := y) hown (mvT hZ wl) (mvT hZ wd) wf (mvT hZ wsel) (mvT hZ wi) (mvT hZ wp) (mvT hZ wu) (mvT hZ wk) hy (backOf (W := W) hM hZ wc wz hf hl) qa qb qc hg hsize (Steps.refl _) (lenOf hpd hlen) hstack hW hdg (fun _ _ => ⟨rfl, eT, hc, hs⟩)
  dsimp only [Pt.U, Pt.locs, Pt.cells, Pt.slots] at X' l1 y1 z1 st hQ
  subst l1 y1 z1
  exact ⟨v, T', L, X', hQ, fun t k => st.trans k⟩
/-- a truth as Java's int -/
def own_b (P : Prop) [Decidable P] : Int32 := if P then 1 else 0
theorem own_b1 {P : Prop} [Decidable P] (h : P) : own_b P = 1 := if_pos h
theorem own_b0 {P : Prop} [Decidable P] (h : ¬ P) : own_b P = 0 := if_neg h
theorem own_b01 (P : Prop) [Decidable P] : own_b P = 0 ∨ own_b P = 1 := by
  by_cases h : P
  · exact Or.inr (own_b1 h)
  · exact Or.inl (own_b0 h)
theorem own_bn {P : Prop} [Decidable P] (h : P) : ¬ own_b P = 0 := by rw [own_b1 h]; decide
theorem own_narZ {z : Int32} (h : z = 0 ∨ z = 1) : narrow .boolean (.int z) = .int z := by rcases h with rfl | rfl <;> rfl
theorem own_fitZ {z : Int32} (h : z = 0 ∨ z = 1) : fits .boolean (.int z) = true := by rcases h with rfl | rfl <;> rfl
end OwnKit
def own_minJ (x y : Int64) : Int64 := if y < x then y else x
def own_raise (x d : Int32) : Int32 := (own_minJ (x.toInt64 + (d &&& (2147483647 : Int32)).toInt64) (2147483647 : Int64)).toInt32
theorem own_raised (x d : Int32) : x.toInt ≤ (own_raise x d).toInt := by
  have h1 := c_mask d 2147483647 31 (by decide) (by decide)
  unfold own_raise
  generalize d &&& (2147483647 : Int32) = y at *
  have h2 := c_ladd x.toInt64 y.toInt64
  rw [c_i2l, c_i2l] at h2
  have r1 := rng32 x
  have r2 := rng64 (x.toInt64 + y.toInt64)
  have m : (2147483647 : Int64).toInt = 2147483647 := by decide
  have h3 := c_l2i (own_minJ (x.toInt64 + y.toInt64) 2147483647)
  have r3 := rng32 (own_minJ (x.toInt64 + y.toInt64) 2147483647).toInt32
  unfold own_minJ at h3 r3 ⊢
  split at h3 <;> rename_i q <;> simp only [q, if_true, if_false] at r3 ⊢ <;> rw [Int64.lt_iff_toInt_lt] at q <;> omega
theorem own_pn0 : plainFor (⟨"java/lang/Math", "min", "(JJ)J"⟩ : MethodName) = true := Jvm.Free.JP.mathPlain rfl (by decide +kernel)
theorem dd_jdk_29m70_0 : decode jdk_29_method_70_code 0 = .ok (.lload_n 0, 1) := by decide +kernel
theorem dd_jdk_29m70_1 : decode jdk_29_method_70_code 1 = .ok (.lload_n 2, 1) := by decide +kernel
theorem dd_jdk_29m70_2 : decode jdk_29_method_70_code 2 = .ok (.lcmp, 1) := by decide +kernel
theorem dd_jdk_29m70_3 : decode jdk_29_method_70_code 3 = .ok (.ifCond .gt 7, 3) := by decide +kernel
theorem dd_jdk_29m70_10 : decode jdk_29_method_70_code 10 = .ok (.lload_n 2, 1) := by decide +kernel
theorem dd_jdk_29m70_11 : decode jdk_29_method_70_code 11 = .ok (.lreturn, 1) := by decide +kernel
theorem dd_jdk_29m70_6 : decode jdk_29_method_70_code 6 = .ok (.lload_n 0, 1) := by decide +kernel
theorem dd_jdk_29m70_7 : decode jdk_29_method_70_code 7 = .ok (.goto 4, 3) := by decide +kernel
theorem ef_own_mj (m : MethodId) (z0 : Int64) (z1 : Int64) : entryFrame m #[(.long z0), (.long z1)] 4 = mkF m 0 #[.val (.long z0), .second, .val (.long z1), .second] [] := by first | (simp [entryFrame, mkF, argsToLocals, Value.category]; done) | rfl
def Q_own_mj (Z : State) (x : Int64) (y : Int64) (h0 : Heap) (n0 : Nat) (zv : Option Value) (zh : Heap) (zL : List Loc) : Prop := zv = some (.long (own_minJ x y)) ∧ Fr n0 zL ∧ zh = h0
set_option maxRecDepth 65536 in
set_option maxHeartbeats 40000000 in
theorem own_mj (l : Launch) (Z : State) (a0 : Array Value) (hw : ∀ d ∈ tables_1, d.before a0 Z = true) (ws : List Jvm.Cond) (x : Int64) (y : Int64) (h0 : Heap) (n0 : Nat) (Z0 : n0 ≤ h0.size)  :
    MetFree l (⟨"java/lang/Math", "min", "(JJ)J"⟩ : MethodName) (head1 (Jvm.Cond.code (⟨"java/lang/Math", "min", "(JJ)J"⟩ : MethodName) jdk_29_method_70_code 4 (some .long) :: ws) ({ frames := 0, cells := 0, slots := 0, locals := 0 } : Room)) (fun za zU => za = #[(.long x), (.long y)] ∧ Z.Warmed39 zU.vm ∧ zU.heap = h0) (fun _ _ _ _ _ => True) (fun _ zU zo zU' => ∃ zv zL, zo = .returned zv ∧ Q_own_mj Z x y h0 n0 zv zU'.heap zL ∧ FrameEnd zU zo zU' zL ({ frames := 0, cells := 0, slots := 0, locals := 0 } : Room).cells ({ frames := 0, cells := 0, slots := 0, locals := 0 } : Room).slots) := by
  refine own_met (y := (⟨"java/lang/Math", "min", "(JJ)J"⟩ : MethodName)) own_pn0 ?_
  intro p e s m below meth c T0 hx hby hml hown hnm hret hlk hZ e0 X0
  have N0 := Fr.nil n0
  refine own_st (fun zt zk => castTop (ef_own_mj m x y) zk) ?_
  show own_G p e below s _ _ _ (T0.setTop (mkF m 0 #[.val (.long x), .second, .val (.long y), .second] []))
  refine own_st (fun zt zk => XS.lloadN X0.here hx rfl (hb hby dd_jdk_29m70_0) rfl zk) ?_
  show own_G p e below s _ _ _ (T0.setTop (mkF m 1 #[.val (.long x), .second, .val (.long y), .second] [(.long x)]))
  refine own_st (fun zt zk => XS.lloadN X0.here hx rfl (hb hby dd_jdk_29m70_1) rfl zk) ?_
  show own_G p e below s _ _ _ (T0.setTop (mkF m 2 #[.val (.long x), .second, .val (.long y), .second] [(.long y), (.long x)]))
  refine own_st (fun zt zk => XS.lcmp X0.here hx rfl (hb hby dd_jdk_29m70_2) rfl zk) ?_
  show own_G p e below s _ _ _ (T0.setTop (mkF m 3 #[.val (.long x), .second, .val (.long y), .second] [(.int (lcmpW x y))]))
  by_cases hc3_1 : y < x
  · refine own_st (fun zt zk => XS.ifYes X0.here hx rfl (pc0 := 3) (pc' := 10) rfl (hb hby dd_jdk_29m70_3) rfl ((if0 _ _).trans (tlt ((lw_gt x y).mpr hc3_1)).2.2.1) (by decide) (by decide) zk) ?_
    show own_G p e below s _ _ _ (T0.setTop (mkF m 10 #[.val (.long x), .second, .val (.long y), .second] []))
    refine own_st (fun zt zk => XS.lloadN X0.here hx rfl (hb hby dd_jdk_29m70_10) rfl zk) ?_
    show own_G p e below s _ _ _ (T0.setTop (mkF m 11 #[.val (.long x), .second, .val (.long y), .second] [(.long y)]))
    refine own_retJ X0 hx hlk hret (hb hby dd_jdk_29m70_11) (by decide) (by decide) ?_
    show Q_own_mj Z x y h0 n0 (some (.long y)) T0.heap _
    rw [e0]
    exact ⟨(by simp [own_minJ, hc3_1]), N0, rfl⟩
  · refine own_st (fun zt zk => XS.ifNo X0.here hx rfl (hb hby dd_jdk_29m70_3) rfl ((if0 _ _).trans (flt (mt (lw_gt x y).mp hc3_1)).2.2.1) zk) ?_
    show own_G p e below s _ _ _ (T0.setTop (mkF m 6 #[.val (.long x), .second, .val (.long y), .second] []))
    refine own_st (fun zt zk => XS.lloadN X0.here hx rfl (hb hby dd_jdk_29m70_6) rfl zk) ?_
    show own_G p e below s _ _ _ (T0.setTop (mkF m 7 #[.val (.long x), .second, .val (.long y), .second] [(.long x)]))
    refine own_st (fun zt zk => XS.goto X0.here hx rfl (pc0 := 7) (pc' := 11) rfl (hb hby dd_jdk_29m70_7) (by decide) (by decide) zk) ?_
    show own_G p e below s _ _ _ (T0.setTop (mkF m 11 #[.val (.long x), .second, .val (.long y), .second] [(.long x)]))
    refine own_retJ X0 hx hlk hret (hb hby dd_jdk_29m70_11) (by decide) (by decide) ?_
    show Q_own_mj Z x y h0 n0 (some (.long x)) T0.heap _
    rw [e0]
    exact ⟨(by simp [own_minJ, hc3_1]), N0, rfl⟩
theorem own_pn1 : plainFor (⟨"com/example/deferral_ledger/deferralledger/model/RetirementAge", "<init>", "(II)V"⟩ : MethodName) = true := plainFor_of_name (by first | (simp [plainName, overriddenIn]; done) | decide +kernel)
theorem dd_prog_78m1_0 : decode prog_78_method_1_code 0 = .ok (.aload_n 0, 1) := by decide +kernel
theorem dd_prog_78m1_1 : decode prog_78_method_1_code 1 = .ok (.invokespecial 1, 3) := by decide +kernel
theorem dd_prog_78m1_4 : decode prog_78_method_1_code 4 = .ok (.aload_n 0, 1) := by decide +kernel
theorem dd_prog_78m1_5 : decode prog_78_method_1_code 5 = .ok (.iload_n 1, 1) := by decide +kernel
theorem dd_prog_78m1_6 : decode prog_78_method_1_code 6 = .ok (.putfield 7, 3) := by decide +kernel
theorem dd_prog_78m1_9 : decode prog_78_method_1_code 9 = .ok (.aload_n 0, 1) := by decide +kernel
theorem dd_prog_78m1_10 : decode prog_78_method_1_code 10 = .ok (.iload_n 2, 1) := by decide +kernel
theorem dd_prog_78m1_11 : decode prog_78_method_1_code 11 = .ok (.putfield 13, 3) := by decide +kernel
theorem dd_prog_78m1_14 : decode prog_78_method_1_code 14 = .ok (.return_, 1) := by decide +kernel
theorem ef_own_ini (m : MethodId) (z0 : Addr) (z1 : Int32) (z2 : Int32) : entryFrame m #[(.ref z0), (.int z1), (.int z2)] 3 = mkF m 0 #[.val (.ref z0), .val (.int z1), .val (.int z2)] [] := by first | (simp [entryFrame, mkF, argsToLocals, Value.category]; done) | rfl
def Q_own_ini (Z : State) (a : Addr) (g : Int32) (y : Int32) (h0 : Heap) (n0 : Nat) (zv : Option Value) (zh : Heap) (zL : List Loc) : Prop := zv = none ∧ Fr n0 zL ∧ Keep h0 zh [a] ∧ Fld Z zh a "com/example/deferral_ledger/deferralledger/model/RetirementAge" "age" "I" (.int g) ∧ Fld Z zh a "com/example/deferral_ledger/deferralledger/model/RetirementAge" "yearsOfService" "I" (.int y)
set_option maxRecDepth 65536 in
set_option maxHeartbeats 40000000 in
theorem own_ini (l : Launch) (Z : State) (a0 : Array Value) (hw : ∀ d ∈ tables_1, d.before a0 Z = true) (ws : List Jvm.Cond) (a : Addr) (g : Int32) (y : Int32) (h0 : Heap) (n0 : Nat) (Z0 : n0 ≤ h0.size) (p0_ : Exa Z h0 a "com/example/deferral_ledger/deferralledger/model/RetirementAge") (p1_ : Fld Z h0 a "com/example/deferral_ledger/deferralledger/model/RetirementAge" "age" "I" (.int (0 : Int32))) (p2_ : Fld Z h0 a "com/example/deferral_ledger/deferralledger/model/RetirementAge" "yearsOfService" "I" (.int (0 : Int32))) (p3_ : n0 ≤ a) :
    MetFree l (⟨"com/example/deferral_ledger/deferralledger/model/RetirementAge", "<init>", "(II)V"⟩ : MethodName) (head1 (Jvm.Cond.code (⟨"com/example/deferral_ledger/deferralledger/model/RetirementAge", "<init>", "(II)V"⟩ : MethodName) prog_78_method_1_code 3 none :: ws) ({ frames := 1, cells := 0, slots := 0, locals := 12 } : Room)) (fun za zU => za = #[(.ref a), (.int g), (.int y)] ∧ Z.Warmed39 zU.vm ∧ zU.heap = h0) (fun _ _ _ _ _ => True) (fun _ zU zo zU' => ∃ zv zL, zo = .returned zv ∧ Q_own_ini Z a g y h0 n0 zv zU'.heap zL ∧ FrameEnd zU zo zU' zL ({ frames := 1, cells := 0, slots := 0, locals := 12 } : Room).cells ({ frames := 1, cells := 0, slots := 0, locals := 12 } : Room).slots) := by
  refine own_met (y := (⟨"com/example/deferral_ledger/deferralledger/model/RetirementAge", "<init>", "(II)V"⟩ : MethodName)) own_pn1 ?_
  intro p e s m below meth c T0 hx hby hml hown hnm hret hlk hZ e0 X0
  have N0 := Fr.nil n0
  refine own_st (fun zt zk => castTop (ef_own_ini m a g y) zk) ?_
  show own_G p e below s _ _ _ (T0.setTop (mkF m 0 #[.val (.ref a), .val (.int g), .val (.int y)] []))
  refine own_st (fun zt zk => XS.aloadN X0.here hx rfl (hb hby dd_prog_78m1_0) rfl rfl zk) ?_
  show own_G p e below s _ _ _ (T0.setTop (mkF m 1 #[.val (.ref a), .val (.int g), .val (.int y)] [(.ref a)]))
  obtain ⟨T1, X1, e1, st1⟩ := initO X0 hx hZ hown (hw _ (List.mem_of_getElem? (i := 6) rfl)) (hw _ (List.mem_of_getElem? (i := 7) rfl)) (hw _ (List.mem_of_getElem? (i := 8) rfl)) e0 (g := (mkF m 1 #[.val (.ref a), .val (.int g), .val (.int y)] [(.ref a)])) rfl (by rw [hml]; rfl) rfl (hb hby dd_prog_78m1_1) (by decide) (W := 0) (by show 2 * 0 + _ ≤ _; exact Nat.le_of_eq rfl) (by decide)
  refine own_st st1 ?_
  show own_G p e below s _ _ _ (T1.setTop (mkF m 4 #[.val (.ref a), .val (.int g), .val (.int y)] []))
  refine own_st (fun zt zk => XS.aloadN X1.here hx rfl (hb hby dd_prog_78m1_4) rfl rfl zk) ?_
  show own_G p e below s _ _ _ (T1.setTop (mkF m 5 #[.val (.ref a), .val (.int g), .val (.int y)] [(.ref a)]))
  refine own_st (fun zt zk => XS.iloadN X1.here hx rfl (hb hby dd_prog_78m1_5) rfl zk) ?_
  show own_G p e below s _ _ _ (T1.setTop (mkF m 6 #[.val (.ref a), .val (.int g), .val (.int y)] [(.int g), (.ref a)]))
  obtain ⟨T2, h2, X2, e2, W2, st2⟩ := putF X1 hx hZ hown (host := "") (Or.inl (hw _ (List.mem_of_getElem? (i := 9) rfl))) Via.refl e1 p1_ p0_ (Or.inr ⟨(hw _ (List.mem_of_getElem? (i := 10) rfl)), rfl, hnm⟩) (hw _ (List.mem_of_getElem? (i := 1) rfl)) (ty := .int) (by decide) rfl rfl (g := (mkF m 6 #[.val (.ref a), .val (.int g), .val (.int y)] [(.int g), (.ref a)])) rfl rfl (hb hby dd_prog_78m1_6)
  refine own_st st2 ?_
  have N2 := Fr.snoc X2 N0 p3_
  show own_G p e below s _ _ _ (T2.setTop (mkF m 9 #[.val (.ref a), .val (.int g), .val (.int y)] []))
  refine own_st (fun zt zk => XS.aloadN X2.here hx rfl (hb hby dd_prog_78m1_9) rfl rfl zk) ?_
  show own_G p e below s _ _ _ (T2.setTop (mkF m 10 #[.val (.ref a), .val (.int g), .val (.int y)] [(.ref a)]))
  refine own_st (fun zt zk => XS.iloadN X2.here hx rfl (hb hby dd_prog_78m1_10) rfl zk) ?_
  show own_G p e below s _ _ _ (T2.setTop (mkF m 11 #[.val (.ref a), .val (.int g), .val (.int y)] [(.int y), (.ref a)]))
  have F3 : Fld Z h2 a "com/example/deferral_ledger/deferralledger/model/RetirementAge" "yearsOfService" "I" (.int (0 : Int32)) := (Fld.other W2 p2_ (Or.inr (slot_ne (Or.inr (hw _ (List.mem_of_getElem? (i := 12) rfl))) (Or.inr (hw _ (List.mem_of_getElem? (i := 10) rfl))) (by decide) (t := .int) (t' := .int) (by decide) (by decide))))
  have E4 : Exa Z h2 a "com/example/deferral_ledger/deferralledger/model/RetirementAge" := (p0_.wr W2)
  obtain ⟨T5, h5, X5, e5, W5, st5⟩ := putF X2 hx hZ hown (host := "") (Or.inl (hw _ (List.mem_of_getElem? (i := 11) rfl))) Via.refl e2 F3 E4 (Or.inr ⟨(hw _ (List.mem_of_getElem? (i := 12) rfl)), rfl, hnm⟩) (hw _ (List.mem_of_getElem? (i := 1) rfl)) (ty := .int) (by decide) rfl rfl (g := (mkF m 11 #[.val (.ref a), .val (.int g), .val (.int y)] [(.int y), (.ref a)])) rfl rfl (hb hby dd_prog_78m1_11)
  refine own_st st5 ?_
  have N5 := Fr.snoc X5 N2 p3_
  show own_G p e below s _ _ _ (T5.setTop (mkF m 14 #[.val (.ref a), .val (.int g), .val (.int y)] []))
  have F6 : Fld Z h5 a "com/example/deferral_ledger/deferralledger/model/RetirementAge" "age" "I" (.int g) := (Fld.other W5 (Fld.same W2 p1_) (Or.inr (slot_ne (Or.inr (hw _ (List.mem_of_getElem? (i := 10) rfl))) (Or.inr (hw _ (List.mem_of_getElem? (i := 12) rfl))) (by decide) (t := .int) (t' := .int) (by decide) (by decide))))
  have F7 : Fld Z h5 a "com/example/deferral_ledger/deferralledger/model/RetirementAge" "yearsOfService" "I" (.int y) := (Fld.same W5 F3)
  refine own_retV X5 hx hlk hret (hb hby dd_prog_78m1_14) (by decide) (by decide) ?_
  show Q_own_ini Z a g y h0 n0 none T5.heap _
  rw [e5]
  exact ⟨rfl, N5, (((Keep.refl _ _).wr W2 (Or.inl (List.mem_of_getElem? (i := 0) rfl))).wr W5 (Or.inl (List.mem_of_getElem? (i := 0) rfl))), F6, F7⟩
theorem own_pn2 : plainFor (⟨"com/example/deferral_ledger/deferralledger/model/RetirementAge", "isMetBy", "(II)Z"⟩ : MethodName) = true := plainFor_of_name (by first | (simp [plainName, overriddenIn]; done) | decide +kernel)
theorem dd_prog_78m2_0 : decode prog_78_method_2_code 0 = .ok (.iload_n 1, 1) := by decide +kernel
theorem dd_prog_78m2_1 : decode prog_78_method_2_code 1 = .ok (.aload_n 0, 1) := by decide +kernel
theorem dd_prog_78m2_2 : decode prog_78_method_2_code 2 = .ok (.getfield 7, 3) := by decide +kernel
theorem dd_prog_78m2_5 : decode prog_78_method_2_code 5 = .ok (.if_icmp .lt 15, 3) := by decide +kernel
theorem dd_prog_78m2_20 : decode prog_78_method_2_code 20 = .ok (.iconst 0, 1) := by decide +kernel
theorem dd_prog_78m2_21 : decode prog_78_method_2_code 21 = .ok (.ireturn, 1) := by decide +kernel
theorem dd_prog_78m2_8 : decode prog_78_method_2_code 8 = .ok (.iload_n 2, 1) := by decide +kernel
theorem dd_prog_78m2_9 : decode prog_78_method_2_code 9 = .ok (.aload_n 0, 1) := by decide +kernel
theorem dd_prog_78m2_10 : decode prog_78_method_2_code 10 = .ok (.getfield 13, 3) := by decide +kernel
theorem dd_prog_78m2_13 : decode prog_78_method_2_code 13 = .ok (.if_icmp .lt 7, 3) := by decide +kernel
theorem dd_prog_78m2_16 : decode prog_78_method_2_code 16 = .ok (.iconst 1, 1) := by decide +kernel
theorem dd_prog_78m2_17 : decode prog_78_method_2_code 17 = .ok (.goto 4, 3) := by decide +kernel
theorem ef_own_isMet (m : MethodId) (z0 : Addr) (z1 : Int32) (z2 : Int32) : entryFrame m #[(.ref z0), (.int z1), (.int z2)] 3 = mkF m 0 #[.val (.ref z0), .val (.int z1), .val (.int z2)] [] := by first | (simp [entryFrame, mkF, argsToLocals, Value.category]; done) | rfl
def Q_own_isMet (Z : State) (a : Addr) (u : Int32) (v : Int32) (g : Int32) (y : Int32) (h0 : Heap) (n0 : Nat) (zv : Option Value) (zh : Heap) (zL : List Loc) : Prop := zv = some (.int (own_b (¬ (u < g) ∧ ¬ (v < y)))) ∧ Fr n0 zL ∧ zh = h0
set_option maxRecDepth 65536 in
set_option maxHeartbeats 40000000 in
theorem own_isMet (l : Launch) (Z : State) (a0 : Array Value) (hw : ∀ d ∈ tables_1, d.before a0 Z = true) (ws : List Jvm.Cond) (a : Addr) (u : Int32) (v : Int32) (g : Int32) (y : Int32) (h0 : Heap) (n0 : Nat) (Z0 : n0 ≤ h0.size) (p0_ : Fld Z h0 a "com/example/deferral_ledger/deferralledger/model/RetirementAge" "age" "I" (.int g)) (p1_ : Fld Z h0 a "com/example/deferral_ledger/deferralledger/model/RetirementAge" "yearsOfService" "I" (.int y)) :
    MetFree l (⟨"com/example/deferral_ledger/deferralledger/model/RetirementAge", "isMetBy", "(II)Z"⟩ : MethodName) (head1 (Jvm.Cond.code (⟨"com/example/deferral_ledger/deferralledger/model/RetirementAge", "isMetBy", "(II)Z"⟩ : MethodName) prog_78_method_2_code 3 (some .boolean) :: ws) ({ frames := 0, cells := 0, slots := 0, locals := 0 } : Room)) (fun za zU => za = #[(.ref a), (.int u), (.int v)] ∧ Z.Warmed39 zU.vm ∧ zU.heap = h0) (fun _ _ _ _ _ => True) (fun _ zU zo zU' => ∃ zv zL, zo = .returned zv ∧ Q_own_isMet Z a u v g y h0 n0 zv zU'.heap zL ∧ FrameEnd zU zo zU' zL ({ frames := 0, cells := 0, slots := 0, locals := 0 } : Room).cells ({ frames := 0, cells := 0, slots := 0, locals := 0 } : Room).slots) := by
  refine own_met (y := (⟨"com/example/deferral_ledger/deferralledger/model/RetirementAge", "isMetBy", "(II)Z"⟩ : MethodName)) own_pn2 ?_
  intro p e s m below meth c T0 hx hby hml hown hnm hret hlk hZ e0 X0
  have N0 := Fr.nil n0
  refine own_st (fun zt zk => castTop (ef_own_isMet m a u v) zk) ?_
  show own_G p e below s _ _ _ (T0.setTop (mkF m 0 #[.val (.ref a), .val (.int u), .val (.int v)] []))
  refine own_st (fun zt zk => XS.iloadN X0.here hx rfl (hb hby dd_prog_78m2_0) rfl zk) ?_
  show own_G p e below s _ _ _ (T0.setTop (mkF m 1 #[.val (.ref a), .val (.int u), .val (.int v)] [(.int u)]))
  refine own_st (fun zt zk => XS.aloadN X0.here hx rfl (hb hby dd_prog_78m2_1) rfl rfl zk) ?_
  show own_G p e below s _ _ _ (T0.setTop (mkF m 2 #[.val (.ref a), .val (.int u), .val (.int v)] [(.ref a), (.int u)]))
  obtain ⟨T1, X1, e1, st1⟩ := getF X0 hx hZ hown (host := "") (Or.inl (hw _ (List.mem_of_getElem? (i := 9) rfl))) Via.refl e0 p0_ (g := (mkF m 2 #[.val (.ref a), .val (.int u), .val (.int v)] [(.ref a), (.int u)])) rfl rfl (hb hby dd_prog_78m2_2)
  refine own_st st1 ?_
  show own_G p e below s _ _ _ (T1.setTop (mkF m 5 #[.val (.ref a), .val (.int u), .val (.int v)] [(.int g), (.int u)]))
  by_cases hc5_2 : u < g
  · refine own_st (fun zt zk => XS.icmpYes X1.here hx rfl (pc0 := 5) (pc' := 20) rfl (hb hby dd_prog_78m2_5) rfl (tlt hc5_2).1 (by decide) (by decide) zk) ?_
    show own_G p e below s _ _ _ (T1.setTop (mkF m 20 #[.val (.ref a), .val (.int u), .val (.int v)] []))
    refine own_st (fun zt zk => XS.iconst X1.here hx rfl (hb hby dd_prog_78m2_20) zk) ?_
    show own_G p e below s _ _ _ (T1.setTop (mkF m 21 #[.val (.ref a), .val (.int u), .val (.int v)] [(.int (0 : Int32))]))
    refine own_retZ X1 hx hlk hret (by decide) (hb hby dd_prog_78m2_21) (by decide) (by decide) ?_
    show Q_own_isMet Z a u v g y h0 n0 (some (.int (0 : Int32))) T1.heap _
    rw [e1]
    exact ⟨(by simp [own_b, hc5_2]), N0, rfl⟩
  · refine own_st (fun zt zk => XS.icmpNo X1.here hx rfl (hb hby dd_prog_78m2_5) rfl (flt hc5_2).1 zk) ?_
    show own_G p e below s _ _ _ (T1.setTop (mkF m 8 #[.val (.ref a), .val (.int u), .val (.int v)] []))
    refine own_st (fun zt zk => XS.iloadN X1.here hx rfl (hb hby dd_prog_78m2_8) rfl zk) ?_
    show own_G p e below s _ _ _ (T1.setTop (mkF m 9 #[.val (.ref a), .val (.int u), .val (.int v)] [(.int v)]))
    refine own_st (fun zt zk => XS.aloadN X1.here hx rfl (hb hby dd_prog_78m2_9) rfl rfl zk) ?_
    show own_G p e below s _ _ _ (T1.setTop (mkF m 10 #[.val (.ref a), .val (.int u), .val (.int v)] [(.ref a), (.int v)]))
    obtain ⟨T3, X3, e3, st3⟩ := getF X1 hx hZ hown (host := "") (Or.inl (hw _ (List.mem_of_getElem? (i := 11) rfl))) Via.refl e1 p1_ (g := (mkF m 10 #[.val (.ref a), .val (.int u), .val (.int v)] [(.ref a), (.int v)])) rfl rfl (hb hby dd_prog_78m2_10)
    refine own_st st3 ?_
    show own_G p e below s _ _ _ (T3.setTop (mkF m 13 #[.val (.ref a), .val (.int u), .val (.int v)] [(.int y), (.int v)]))
    by_cases hc13_4 : v < y
    · refine own_st (fun zt zk => XS.icmpYes X3.here hx rfl (pc0 := 13) (pc' := 20) rfl (hb hby dd_prog_78m2_13) rfl (tlt hc13_4).1 (by decide) (by decide) zk) ?_
      show own_G p e below s _ _ _ (T3.setTop (mkF m 20 #[.val (.ref a), .val (.int u), .val (.int v)] []))
      refine own_st (fun zt zk => XS.iconst X3.here hx rfl (hb hby dd_prog_78m2_20) zk) ?_
      show own_G p e below s _ _ _ (T3.setTop (mkF m 21 #[.val (.ref a), .val (.int u), .val (.int v)] [(.int (0 : Int32))]))
      refine own_retZ X3 hx hlk hret (by decide) (hb hby dd_prog_78m2_21) (by decide) (by decide) ?_
      show Q_own_isMet Z a u v g y h0 n0 (some (.int (0 : Int32))) T3.heap _
      rw [e3]
      exact ⟨(by simp [own_b, hc5_2, hc13_4]), N0, rfl⟩
    · refine own_st (fun zt zk => XS.icmpNo X3.here hx rfl (hb hby dd_prog_78m2_13) rfl (flt hc13_4).1 zk) ?_
      show own_G p e below s _ _ _ (T3.setTop (mkF m 16 #[.val (.ref a), .val (.int u), .val (.int v)] []))
      refine own_st (fun zt zk => XS.iconst X3.here hx rfl (hb hby dd_prog_78m2_16) zk) ?_
      show own_G p e below s _ _ _ (T3.setTop (mkF m 17 #[.val (.ref a), .val (.int u), .val (.int v)] [(.int (1 : Int32))]))
      refine own_st (fun zt zk => XS.goto X3.here hx rfl (pc0 := 17) (pc' := 21) rfl (hb hby dd_prog_78m2_17) (by decide) (by decide) zk) ?_
      show own_G p e below s _ _ _ (T3.setTop (mkF m 21 #[.val (.ref a), .val (.int u), .val (.int v)] [(.int (1 : Int32))]))
      refine own_retZ X3 hx hlk hret (by decide) (hb hby dd_prog_78m2_21) (by decide) (by decide) ?_
      show Q_own_isMet Z a u v g y h0 n0 (some (.int (1 : Int32))) T3.heap _
      rw [e3]
      exact ⟨(by simp [own_b, hc5_2, hc13_4]), N0, rfl⟩
theorem own_pn3 : plainFor (⟨"com/example/deferral_ledger/deferralledger/model/RetirementAgeIsMetByPinLaw", "raise", "(II)I"⟩ : MethodName) = true := plainFor_of_name (by first | (simp [plainName, overriddenIn]; done) | decide +kernel)
theorem dd_method_3_0 : decode method_3_code 0 = .ok (.iload_n 0, 1) := by decide +kernel
theorem dd_method_3_1 : decode method_3_code 1 = .ok (.i2l, 1) := by decide +kernel
theorem dd_method_3_2 : decode method_3_code 2 = .ok (.iload_n 1, 1) := by decide +kernel
theorem dd_method_3_3 : decode method_3_code 3 = .ok (.ldc 19, 2) := by decide +kernel
theorem dd_method_3_5 : decode method_3_code 5 = .ok (.iand, 1) := by decide +kernel
theorem dd_method_3_6 : decode method_3_code 6 = .ok (.i2l, 1) := by decide +kernel
theorem dd_method_3_7 : decode method_3_code 7 = .ok (.ladd, 1) := by decide +kernel
theorem dd_method_3_8 : decode method_3_code 8 = .ok (.lstore_n 2, 1) := by decide +kernel
theorem dd_method_3_9 : decode method_3_code 9 = .ok (.lload_n 2, 1) := by decide +kernel
theorem dd_method_3_10 : decode method_3_code 10 = .ok (.ldc2_w 26, 3) := by decide +kernel
theorem dd_method_3_13 : decode method_3_code 13 = .ok (.invokestatic 28, 3) := by decide +kernel
theorem own_pd0 : parseMethodDescriptor "(JJ)J" = some ⟨[.long, .long], some .long⟩ := by decide +kernel
theorem dd_method_3_16 : decode method_3_code 16 = .ok (.l2i, 1) := by decide +kernel
theorem dd_method_3_17 : decode method_3_code 17 = .ok (.ireturn, 1) := by decide +kernel
theorem ef_own_rai (m : MethodId) (z0 : Int32) (z1 : Int32) : entryFrame m #[(.int z0), (.int z1)] 4 = mkF m 0 #[.val (.int z0), .val (.int z1), .unset, .unset] [] := by first | (simp [entryFrame, mkF, argsToLocals, Value.category]; done) | rfl
def Q_own_rai (Z : State) (x : Int32) (d : Int32) (h0 : Heap) (n0 : Nat) (zv : Option Value) (zh : Heap) (zL : List Loc) : Prop := zv = some (.int (own_raise x d)) ∧ Fr n0 zL ∧ zh = h0
set_option maxRecDepth 65536 in
set_option maxHeartbeats 40000000 in
theorem own_rai (l : Launch) (Z : State) (a0 : Array Value) (hw : ∀ d ∈ tables_1, d.before a0 Z = true) (ws : List Jvm.Cond) (x : Int32) (d : Int32) (h0 : Heap) (n0 : Nat) (Z0 : n0 ≤ h0.size)  :
    MetFree l (⟨"com/example/deferral_ledger/deferralledger/model/RetirementAgeIsMetByPinLaw", "raise", "(II)I"⟩ : MethodName) (head1 (Jvm.Cond.code (⟨"com/example/deferral_ledger/deferralledger/model/RetirementAgeIsMetByPinLaw", "raise", "(II)I"⟩ : MethodName) method_3_code 4 (some .int) :: ws) ({ frames := 1, cells := 0, slots := 0, locals := 15 } : Room)) (fun za zU => za = #[(.int x), (.int d)] ∧ Z.Warmed39 zU.vm ∧ zU.heap = h0) (fun _ _ _ _ _ => True) (fun _ zU zo zU' => ∃ zv zL, zo = .returned zv ∧ Q_own_rai Z x d h0 n0 zv zU'.heap zL ∧ FrameEnd zU zo zU' zL ({ frames := 1, cells := 0, slots := 0, locals := 15 } : Room).cells ({ frames := 1, cells := 0, slots := 0, locals := 15 } : Room).slots) := by
  refine own_met (y := (⟨"com/example/deferral_ledger/deferralledger/model/RetirementAgeIsMetByPinLaw", "raise", "(II)I"⟩ : MethodName)) own_pn3 ?_
  intro p e s m below meth c T0 hx hby hml hown hnm hret hlk hZ e0 X0
  have N0 := Fr.nil n0
  refine own_st (fun zt zk => castTop (ef_own_rai m x d) zk) ?_
  show own_G p e below s _ _ _ (T0.setTop (mkF m 0 #[.val (.int x), .val (.int d), .unset, .unset] []))
  refine own_st (fun zt zk => XS.iloadN X0.here hx rfl (hb hby dd_method_3_0) rfl zk) ?_
  show own_G p e below s _ _ _ (T0.setTop (mkF m 1 #[.val (.int x), .val (.int d), .unset, .unset] [(.int x)]))
  refine own_st (fun zt zk => XS.i2l X0.here hx rfl (hb hby dd_method_3_1) rfl zk) ?_
  show own_G p e below s _ _ _ (T0.setTop (mkF m 2 #[.val (.int x), .val (.int d), .unset, .unset] [(.long x.toInt64)]))
  refine own_st (fun zt zk => XS.iloadN X0.here hx rfl (hb hby dd_method_3_2) rfl zk) ?_
  show own_G p e below s _ _ _ (T0.setTop (mkF m 3 #[.val (.int x), .val (.int d), .unset, .unset] [(.int d), (.long x.toInt64)]))
  refine own_st (X0.ldcInt hx hown (mvT hZ (hw _ (List.mem_of_getElem? (i := 19) rfl))) (g := (mkF m 3 #[.val (.int x), .val (.int d), .unset, .unset] [(.int d), (.long x.toInt64)])) rfl (hb hby dd_method_3_3)) ?_
  show own_G p e below s _ _ _ (T0.setTop (mkF m 5 #[.val (.int x), .val (.int d), .unset, .unset] [(.int (2147483647 : Int32)), (.int d), (.long x.toInt64)]))
  refine own_st (fun zt zk => XS.iand X0.here hx rfl (hb hby dd_method_3_5) rfl zk) ?_
  show own_G p e below s _ _ _ (T0.setTop (mkF m 6 #[.val (.int x), .val (.int d), .unset, .unset] [(.int (d &&& (2147483647 : Int32))), (.long x.toInt64)]))
  refine own_st (fun zt zk => XS.i2l X0.here hx rfl (hb hby dd_method_3_6) rfl zk) ?_
  show own_G p e below s _ _ _ (T0.setTop (mkF m 7 #[.val (.int x), .val (.int d), .unset, .unset] [(.long (d &&& (2147483647 : Int32)).toInt64), (.long x.toInt64)]))
  refine own_st (fun zt zk => XS.ladd X0.here hx rfl (hb hby dd_method_3_7) rfl zk) ?_
  show own_G p e below s _ _ _ (T0.setTop (mkF m 8 #[.val (.int x), .val (.int d), .unset, .unset] [(.long (x.toInt64 + (d &&& (2147483647 : Int32)).toInt64))]))
  refine own_st (fun zt zk => XS.lstoreN X0.here hx rfl (hb hby dd_method_3_8) rfl (l' := #[.val (.int x), .val (.int d), .val (.long (x.toInt64 + (d &&& (2147483647 : Int32)).toInt64)), .second]) rfl zk) ?_
  show own_G p e below s _ _ _ (T0.setTop (mkF m 9 #[.val (.int x), .val (.int d), .val (.long (x.toInt64 + (d &&& (2147483647 : Int32)).toInt64)), .second] []))
  refine own_st (fun zt zk => XS.lloadN X0.here hx rfl (hb hby dd_method_3_9) rfl zk) ?_
  show own_G p e below s _ _ _ (T0.setTop (mkF m 10 #[.val (.int x), .val (.int d), .val (.long (x.toInt64 + (d &&& (2147483647 : Int32)).toInt64)), .second] [(.long (x.toInt64 + (d &&& (2147483647 : Int32)).toInt64))]))
  refine own_st (X0.ldc2Long hx hown (mvT hZ (hw _ (List.mem_of_getElem? (i := 24) rfl))) (g := (mkF m 10 #[.val (.int x), .val (.int d), .val (.long (x.toInt64 + (d &&& (2147483647 : Int32)).toInt64)), .second] [(.long (x.toInt64 + (d &&& (2147483647 : Int32)).toInt64))])) rfl (hb hby dd_method_3_10)) ?_
  show own_G p e below s _ _ _ (T0.setTop (mkF m 13 #[.val (.int x), .val (.int d), .val (.long (x.toInt64 + (d &&& (2147483647 : Int32)).toInt64)), .second] [(.long (2147483647 : Int64)), (.long (x.toInt64 + (d &&& (2147483647 : Int32)).toInt64))]))
  obtain ⟨_, T1, L1, X1, hQ1, st1⟩ := own_callS X0 hx hZ (y := (⟨"java/lang/Math", "min", "(JJ)J"⟩ : MethodName)) (argsL := [(.long (x.toInt64 + (d &&& (2147483647 : Int32)).toInt64)), (.long (2147483647 : Int64))]) (rest := []) 0 hown (hw _ (List.mem_of_getElem? (i := 25) rfl)) (hw _ (List.mem_of_getElem? (i := 26) rfl)) (hw _ (List.mem_of_getElem? (i := 27) rfl)) (hw _ (List.mem_of_getElem? (i := 28) rfl)) (by decide) (own_mj l Z a0 hw [] (x.toInt64 + (d &&& (2147483647 : Int32)).toInt64) (2147483647 : Int64) h0 n0 Z0 ) (by decide) (by decide) e0 (g := (mkF m 13 #[.val (.int x), .val (.int d), .val (.long (x.toInt64 + (d &&& (2147483647 : Int32)).toInt64)), .second] [(.long (2147483647 : Int64)), (.long (x.toInt64 + (d &&& (2147483647 : Int32)).toInt64))])) rfl (by rw [hml]; rfl) own_pd0 rfl rfl (by show 2 * 0 + _ ≤ _; exact Nat.le_of_eq rfl) (hb hby dd_method_3_13) (by decide) (by decide)
  obtain ⟨rfl, N1q, e1⟩ := hQ1
  have N1 := Fr.app N0 N1q
  refine own_st st1 ?_
  show own_G p e below s _ _ _ (T1.setTop (mkF m 16 #[.val (.int x), .val (.int d), .val (.long (x.toInt64 + (d &&& (2147483647 : Int32)).toInt64)), .second] [(.long (own_minJ (x.toInt64 + (d &&& (2147483647 : Int32)).toInt64) (2147483647 : Int64)))]))
  refine own_st (fun zt zk => XS.l2i X1.here hx rfl (hb hby dd_method_3_16) rfl zk) ?_
  show own_G p e below s _ _ _ (T1.setTop (mkF m 17 #[.val (.int x), .val (.int d), .val (.long (x.toInt64 + (d &&& (2147483647 : Int32)).toInt64)), .second] [(.int (own_minJ (x.toInt64 + (d &&& (2147483647 : Int32)).toInt64) (2147483647 : Int64)).toInt32)]))
  refine own_retI X1 hx hlk hret (hb hby dd_method_3_17) (by decide) (by decide) ?_
  show Q_own_rai Z x d h0 n0 (some (.int (own_minJ (x.toInt64 + (d &&& (2147483647 : Int32)).toInt64) (2147483647 : Int64)).toInt32)) T1.heap _
  rw [e1]
  exact ⟨rfl, N1, rfl⟩
theorem own_pn4 : plainFor (⟨"com/example/deferral_ledger/deferralledger/model/RetirementAgeIsMetByPinLaw", "law", "(IIIIII)Z"⟩ : MethodName) = true := plainFor_of_name (by first | (simp [plainName, overriddenIn]; done) | decide +kernel)
theorem own_pd1 : parseMethodDescriptor "(II)V" = some ⟨[.int, .int], none⟩ := by decide +kernel
theorem own_pd2 : parseMethodDescriptor "(II)Z" = some ⟨[.int, .int], some .boolean⟩ := by decide +kernel
theorem own_pd3 : parseMethodDescriptor "(II)I" = some ⟨[.int, .int], some .int⟩ := by decide +kernel
theorem ef_own_law (m : MethodId) (z0 : Int32) (z1 : Int32) (z2 : Int32) (z3 : Int32) (z4 : Int32) (z5 : Int32) : entryFrame m #[(.int z0), (.int z1), (.int z2), (.int z3), (.int z4), (.int z5)] maxLocals = mkF m 0 #[.val (.int z0), .val (.int z1), .val (.int z2), .val (.int z3), .val (.int z4), .val (.int z5), .unset, .unset, .unset, .unset, .unset, .unset, .unset] [] := by first | (simp [entryFrame, mkF, argsToLocals, Value.category, maxLocals]; done) | rfl
def Q_own_law (Z : State) (ag : Int32) (yo : Int32) (pa : Int32) (py : Int32) (d1 : Int32) (d2 : Int32) (h0 : Heap) (n0 : Nat) (zv : Option Value) (zh : Heap) (zL : List Loc) : Prop := zv = some (.int (1 : Int32)) ∧ Fr n0 zL
set_option maxRecDepth 65536 in
set_option maxHeartbeats 40000000 in
theorem own_law (l : Launch) (Z : State) (a0 : Array Value) (hw : ∀ d ∈ tables_1, d.before a0 Z = true) (ws : List Jvm.Cond) (ag : Int32) (yo : Int32) (pa : Int32) (py : Int32) (d1 : Int32) (d2 : Int32) (h0 : Heap) (n0 : Nat) (Z0 : n0 ≤ h0.size)  :
    MetFree l x (head1 (Jvm.Cond.code x code maxLocals ret :: ws) room_1) (fun za zU => za = #[(.int ag), (.int yo), (.int pa), (.int py), (.int d1), (.int d2)] ∧ Z.Warmed39 zU.vm ∧ zU.heap = h0) (fun _ _ _ _ _ => True) (fun _ zU zo zU' => ∃ zv zL, zo = .returned zv ∧ Q_own_law Z ag yo pa py d1 d2 h0 n0 zv zU'.heap zL ∧ FrameEnd zU zo zU' zL 1 2) := by
  refine own_met (y := x) own_pn4 ?_
  intro p e s m below meth c T0 hx hby hml hown hnm hret hlk hZ e0 X0
  have N0 := Fr.nil n0
  refine own_st (fun zt zk => castTop (ef_own_law m ag yo pa py d1 d2) zk) ?_
  show own_G p e below s _ _ _ (T0.setTop (mkF m 0 #[.val (.int ag), .val (.int yo), .val (.int pa), .val (.int py), .val (.int d1), .val (.int d2), .unset, .unset, .unset, .unset, .unset, .unset, .unset] []))
  obtain ⟨T1, h1, X1, e1, E1, A1, D1, -, st1⟩ := newO X0 hx hZ hown (hw _ (List.mem_of_getElem? (i := 0) rfl)) (hw _ (List.mem_of_getElem? (i := 1) rfl)) (hw _ (List.mem_of_getElem? (i := 2) rfl)) e0 (g := (mkF m 0 #[.val (.int ag), .val (.int yo), .val (.int pa), .val (.int py), .val (.int d1), .val (.int d2), .unset, .unset, .unset, .unset, .unset, .unset, .unset] [])) rfl (hb hby at_0) (by decide) (by decide)
  obtain ⟨b1, g1⟩ : ∃ z, z = h0.size := ⟨_, rfl⟩
  rw [← g1] at A1 D1 st1
  have ge1 : n0 ≤ b1 := Nat.le_trans Z0 (Nat.le_of_eq g1.symm)
  have sz1 : h0.size ≤ b1 := Nat.le_trans (Nat.le_refl h0.size) (Nat.le_of_eq g1.symm)
  refine own_st st1 ?_
  show own_G p e below s _ _ _ (T1.setTop (mkF m 3 #[.val (.int ag), .val (.int yo), .val (.int pa), .val (.int py), .val (.int d1), .val (.int d2), .unset, .unset, .unset, .unset, .unset, .unset, .unset] [(.ref b1)]))
  refine own_st (fun zt zk => XS.dup X1.here hx rfl (hb hby at_3) rfl rfl zk) ?_
  show own_G p e below s _ _ _ (T1.setTop (mkF m 4 #[.val (.int ag), .val (.int yo), .val (.int pa), .val (.int py), .val (.int d1), .val (.int d2), .unset, .unset, .unset, .unset, .unset, .unset, .unset] [(.ref b1), (.ref b1)]))
  refine own_st (fun zt zk => XS.iloadN X1.here hx rfl (hb hby at_4) rfl zk) ?_
  show own_G p e below s _ _ _ (T1.setTop (mkF m 5 #[.val (.int ag), .val (.int yo), .val (.int pa), .val (.int py), .val (.int d1), .val (.int d2), .unset, .unset, .unset, .unset, .unset, .unset, .unset] [(.int ag), (.ref b1), (.ref b1)]))
  refine own_st (fun zt zk => XS.iloadN X1.here hx rfl (hb hby at_5) rfl zk) ?_
  show own_G p e below s _ _ _ (T1.setTop (mkF m 6 #[.val (.int ag), .val (.int yo), .val (.int pa), .val (.int py), .val (.int d1), .val (.int d2), .unset, .unset, .unset, .unset, .unset, .unset, .unset] [(.int yo), (.int ag), (.ref b1), (.ref b1)]))
  obtain ⟨_, T2, L2, X2, hQ2, st2⟩ := own_callI X1 hx hZ (y := (⟨"com/example/deferral_ledger/deferralledger/model/RetirementAge", "<init>", "(II)V"⟩ : MethodName)) (a := b1) (argsL := [(.int ag), (.int yo)]) (rest := [(.ref b1)]) 1 rfl hown (hw _ (List.mem_of_getElem? (i := 3) rfl)) (hw _ (List.mem_of_getElem? (i := 4) rfl)) (hw _ (List.mem_of_getElem? (i := 2) rfl)) (hw _ (List.mem_of_getElem? (i := 5) rfl)) (by decide) (own_ini l Z a0 hw [] b1 ag yo h1 n0 (Nat.le_trans Z0 E1.1) A1 (D1 (Or.inr (hw _ (List.mem_of_getElem? (i := 10) rfl))) (ty := .int) (by decide)) (D1 (Or.inr (hw _ (List.mem_of_getElem? (i := 12) rfl))) (ty := .int) (by decide)) ge1) (by decide) (by decide) e1 (g := (mkF m 6 #[.val (.int ag), .val (.int yo), .val (.int pa), .val (.int py), .val (.int d1), .val (.int d2), .unset, .unset, .unset, .unset, .unset, .unset, .unset] [(.int yo), (.int ag), (.ref b1), (.ref b1)])) rfl (by rw [hml]; rfl) own_pd1 rfl rfl (by show 2 * 0 + _ ≤ _; exact Nat.le_of_eq rfl) (hb hby at_6) (by decide) (by decide)
  obtain ⟨rfl, N2q, K2, q2_0, q2_1⟩ := hQ2
  have N2 := Fr.app N0 N2q
  refine own_st st2 ?_
  show own_G p e below s _ _ _ (T2.setTop (mkF m 9 #[.val (.int ag), .val (.int yo), .val (.int pa), .val (.int py), .val (.int d1), .val (.int d2), .unset, .unset, .unset, .unset, .unset, .unset, .unset] [(.ref b1)]))
  refine own_st (fun zt zk => XS.astore X2.here hx rfl (hb hby at_9) rfl rfl (l' := #[.val (.int ag), .val (.int yo), .val (.int pa), .val (.int py), .val (.int d1), .val (.int d2), .val (.ref b1), .unset, .unset, .unset, .unset, .unset, .unset]) rfl zk) ?_
  show own_G p e below s _ _ _ (T2.setTop (mkF m 11 #[.val (.int ag), .val (.int yo), .val (.int pa), .val (.int py), .val (.int d1), .val (.int d2), .val (.ref b1), .unset, .unset, .unset, .unset, .unset, .unset] []))
  refine own_st (fun zt zk => XS.aload X2.here hx rfl (hb hby at_11) rfl rfl zk) ?_
  show own_G p e below s _ _ _ (T2.setTop (mkF m 13 #[.val (.int ag), .val (.int yo), .val (.int pa), .val (.int py), .val (.int d1), .val (.int d2), .val (.ref b1), .unset, .unset, .unset, .unset, .unset, .unset] [(.ref b1)]))
  refine own_st (fun zt zk => XS.iloadN X2.here hx rfl (hb hby at_13) rfl zk) ?_
  show own_G p e below s _ _ _ (T2.setTop (mkF m 14 #[.val (.int ag), .val (.int yo), .val (.int pa), .val (.int py), .val (.int d1), .val (.int d2), .val (.ref b1), .unset, .unset, .unset, .unset, .unset, .unset] [(.int ag), (.ref b1)]))
  refine own_st (fun zt zk => XS.iloadN X2.here hx rfl (hb hby at_14) rfl zk) ?_
  show own_G p e below s _ _ _ (T2.setTop (mkF m 15 #[.val (.int ag), .val (.int yo), .val (.int pa), .val (.int py), .val (.int d1), .val (.int d2), .val (.ref b1), .unset, .unset, .unset, .unset, .unset, .unset] [(.int yo), (.int ag), (.ref b1)]))
  have E4 : Exa Z T2.heap b1 "com/example/deferral_ledger/deferralledger/model/RetirementAge" := (A1.keep K2)
  obtain ⟨_, T3, L3, X3, hQ3, st3⟩ := own_callV X2 hx hZ (C := "com/example/deferral_ledger/deferralledger/model/RetirementAge") (y := (⟨"com/example/deferral_ledger/deferralledger/model/RetirementAge", "isMetBy", "(II)Z"⟩ : MethodName)) (z := (⟨"com/example/deferral_ledger/deferralledger/model/RetirementAge", "isMetBy", "(II)Z"⟩ : MethodName)) (a := b1) (argsL := [(.int ag), (.int yo)]) (rest := []) 0 hown (hw _ (List.mem_of_getElem? (i := 13) rfl)) (hw _ (List.mem_of_getElem? (i := 14) rfl)) (own_nf hZ (hw _ (List.mem_of_getElem? (i := 16) rfl))) (hw _ (List.mem_of_getElem? (i := 16) rfl)) (hw _ (List.mem_of_getElem? (i := 15) rfl)) (hw _ (List.mem_of_getElem? (i := 2) rfl)) (hw _ (List.mem_of_getElem? (i := 17) rfl)) (by decide) (own_isMet l Z a0 hw [] b1 ag yo ag yo T2.heap n0 (Nat.le_trans (Nat.le_trans Z0 E1.1) K2.1) q2_0 q2_1) (by decide) (by decide) rfl E4 (g := (mkF m 15 #[.val (.int ag), .val (.int yo), .val (.int pa), .val (.int py), .val (.int d1), .val (.int d2), .val (.ref b1), .unset, .unset, .unset, .unset, .unset, .unset] [(.int yo), (.int ag), (.ref b1)])) rfl (by rw [hml]; rfl) own_pd2 rfl rfl (by show 2 * 0 + _ ≤ _; exact Nat.le_of_eq rfl) (hb hby at_15) (by decide) (by decide)
  obtain ⟨rfl, N3q, e3⟩ := hQ3
  have N3 := Fr.app N2 N3q
  refine own_st st3 ?_
  show own_G p e below s _ _ _ (T3.setTop (mkF m 18 #[.val (.int ag), .val (.int yo), .val (.int pa), .val (.int py), .val (.int d1), .val (.int d2), .val (.ref b1), .unset, .unset, .unset, .unset, .unset, .unset] [(.int (own_b (¬ (ag < ag) ∧ ¬ (yo < yo))))]))
  refine own_st (fun zt zk => XS.istore X3.here hx rfl (hb hby at_18) rfl (l' := #[.val (.int ag), .val (.int yo), .val (.int pa), .val (.int py), .val (.int d1), .val (.int d2), .val (.ref b1), .val (.int (own_b (¬ (ag < ag) ∧ ¬ (yo < yo)))), .unset, .unset, .unset, .unset, .unset]) rfl zk) ?_
  show own_G p e below s _ _ _ (T3.setTop (mkF m 20 #[.val (.int ag), .val (.int yo), .val (.int pa), .val (.int py), .val (.int d1), .val (.int d2), .val (.ref b1), .val (.int (own_b (¬ (ag < ag) ∧ ¬ (yo < yo)))), .unset, .unset, .unset, .unset, .unset] []))
  refine own_st (fun zt zk => XS.iloadN X3.here hx rfl (hb hby at_20) rfl zk) ?_
  show own_G p e below s _ _ _ (T3.setTop (mkF m 21 #[.val (.int ag), .val (.int yo), .val (.int pa), .val (.int py), .val (.int d1), .val (.int d2), .val (.ref b1), .val (.int (own_b (¬ (ag < ag) ∧ ¬ (yo < yo)))), .unset, .unset, .unset, .unset, .unset] [(.int ag)]))
  refine own_st (X3.ldcInt hx hown (mvT hZ (hw _ (List.mem_of_getElem? (i := 18) rfl))) (g := (mkF m 21 #[.val (.int ag), .val (.int yo), .val (.int pa), .val (.int py), .val (.int d1), .val (.int d2), .val (.ref b1), .val (.int (own_b (¬ (ag < ag) ∧ ¬ (yo < yo)))), .unset, .unset, .unset, .unset, .unset] [(.int ag)])) rfl (hb hby at_21)) ?_
  show own_G p e below s _ _ _ (T3.setTop (mkF m 23 #[.val (.int ag), .val (.int yo), .val (.int pa), .val (.int py), .val (.int d1), .val (.int d2), .val (.ref b1), .val (.int (own_b (¬ (ag < ag) ∧ ¬ (yo < yo)))), .unset, .unset, .unset, .unset, .unset] [(.int (-2147483648 : Int32)), (.int ag)]))
  by_cases hc23_5 : ag = (-2147483648 : Int32)
  · refine own_st (fun zt zk => XS.icmpYes X3.here hx rfl (pc0 := 23) (pc' := 39) rfl (hb hby at_23) rfl (teq hc23_5).1 (by decide) (by decide) zk) ?_
    show own_G p e below s _ _ _ (T3.setTop (mkF m 39 #[.val (.int ag), .val (.int yo), .val (.int pa), .val (.int py), .val (.int d1), .val (.int d2), .val (.ref b1), .val (.int (own_b (¬ (ag < ag) ∧ ¬ (yo < yo)))), .unset, .unset, .unset, .unset, .unset] []))
    refine own_st (fun zt zk => XS.iconst X3.here hx rfl (hb hby at_39) zk) ?_
    show own_G p e below s _ _ _ (T3.setTop (mkF m 40 #[.val (.int ag), .val (.int yo), .val (.int pa), .val (.int py), .val (.int d1), .val (.int d2), .val (.ref b1), .val (.int (own_b (¬ (ag < ag) ∧ ¬ (yo < yo)))), .unset, .unset, .unset, .unset, .unset] [(.int (1 : Int32))]))
    refine own_st (fun zt zk => XS.goto X3.here hx rfl (pc0 := 40) (pc' := 44) rfl (hb hby at_40) (by decide) (by decide) zk) ?_
    show own_G p e below s _ _ _ (T3.setTop (mkF m 44 #[.val (.int ag), .val (.int yo), .val (.int pa), .val (.int py), .val (.int d1), .val (.int d2), .val (.ref b1), .val (.int (own_b (¬ (ag < ag) ∧ ¬ (yo < yo)))), .unset, .unset, .unset, .unset, .unset] [(.int (1 : Int32))]))
    refine own_st (fun zt zk => XS.istore X3.here hx rfl (hb hby at_44) rfl (l' := #[.val (.int ag), .val (.int yo), .val (.int pa), .val (.int py), .val (.int d1), .val (.int d2), .val (.ref b1), .val (.int (own_b (¬ (ag < ag) ∧ ¬ (yo < yo)))), .val (.int (1 : Int32)), .unset, .unset, .unset, .unset]) rfl zk) ?_
    show own_G p e below s _ _ _ (T3.setTop (mkF m 46 #[.val (.int ag), .val (.int yo), .val (.int pa), .val (.int py), .val (.int d1), .val (.int d2), .val (.ref b1), .val (.int (own_b (¬ (ag < ag) ∧ ¬ (yo < yo)))), .val (.int (1 : Int32)), .unset, .unset, .unset, .unset] []))
    refine own_st (fun zt zk => XS.iloadN X3.here hx rfl (hb hby at_46) rfl zk) ?_
    show own_G p e below s _ _ _ (T3.setTop (mkF m 47 #[.val (.int ag), .val (.int yo), .val (.int pa), .val (.int py), .val (.int d1), .val (.int d2), .val (.ref b1), .val (.int (own_b (¬ (ag < ag) ∧ ¬ (yo < yo)))), .val (.int (1 : Int32)), .unset, .unset, .unset, .unset] [(.int yo)]))
    refine own_st (X3.ldcInt hx hown (mvT hZ (hw _ (List.mem_of_getElem? (i := 18) rfl))) (g := (mkF m 47 #[.val (.int ag), .val (.int yo), .val (.int pa), .val (.int py), .val (.int d1), .val (.int d2), .val (.ref b1), .val (.int (own_b (¬ (ag < ag) ∧ ¬ (yo < yo)))), .val (.int (1 : Int32)), .unset, .unset, .unset, .unset] [(.int yo)])) rfl (hb hby at_47)) ?_
    show own_G p e below s _ _ _ (T3.setTop (mkF m 49 #[.val (.int ag), .val (.int yo), .val (.int pa), .val (.int py), .val (.int d1), .val (.int d2), .val (.ref b1), .val (.int (own_b (¬ (ag < ag) ∧ ¬ (yo < yo)))), .val (.int (1 : Int32)), .unset, .unset, .unset, .unset] [(.int (-2147483648 : Int32)), (.int yo)]))
    by_cases hc49_6 : yo = (-2147483648 : Int32)
    · refine own_st (fun zt zk => XS.icmpYes X3.here hx rfl (pc0 := 49) (pc' := 65) rfl (hb hby at_49) rfl (teq hc49_6).1 (by decide) (by decide) zk) ?_
      show own_G p e below s _ _ _ (T3.setTop (mkF m 65 #[.val (.int ag), .val (.int yo), .val (.int pa), .val (.int py), .val (.int d1), .val (.int d2), .val (.ref b1), .val (.int (own_b (¬ (ag < ag) ∧ ¬ (yo < yo)))), .val (.int (1 : Int32)), .unset, .unset, .unset, .unset] []))
      refine own_st (fun zt zk => XS.iconst X3.here hx rfl (hb hby at_65) zk) ?_
      show own_G p e below s _ _ _ (T3.setTop (mkF m 66 #[.val (.int ag), .val (.int yo), .val (.int pa), .val (.int py), .val (.int d1), .val (.int d2), .val (.ref b1), .val (.int (own_b (¬ (ag < ag) ∧ ¬ (yo < yo)))), .val (.int (1 : Int32)), .unset, .unset, .unset, .unset] [(.int (1 : Int32))]))
      refine own_st (fun zt zk => XS.goto X3.here hx rfl (pc0 := 66) (pc' := 70) rfl (hb hby at_66) (by decide) (by decide) zk) ?_
      show own_G p e below s _ _ _ (T3.setTop (mkF m 70 #[.val (.int ag), .val (.int yo), .val (.int pa), .val (.int py), .val (.int d1), .val (.int d2), .val (.ref b1), .val (.int (own_b (¬ (ag < ag) ∧ ¬ (yo < yo)))), .val (.int (1 : Int32)), .unset, .unset, .unset, .unset] [(.int (1 : Int32))]))
      refine own_st (fun zt zk => XS.istore X3.here hx rfl (hb hby at_70) rfl (l' := #[.val (.int ag), .val (.int yo), .val (.int pa), .val (.int py), .val (.int d1), .val (.int d2), .val (.ref b1), .val (.int (own_b (¬ (ag < ag) ∧ ¬ (yo < yo)))), .val (.int (1 : Int32)), .val (.int (1 : Int32)), .unset, .unset, .unset]) rfl zk) ?_
      show own_G p e below s _ _ _ (T3.setTop (mkF m 72 #[.val (.int ag), .val (.int yo), .val (.int pa), .val (.int py), .val (.int d1), .val (.int d2), .val (.ref b1), .val (.int (own_b (¬ (ag < ag) ∧ ¬ (yo < yo)))), .val (.int (1 : Int32)), .val (.int (1 : Int32)), .unset, .unset, .unset] []))
      refine own_st (fun zt zk => XS.iloadN X3.here hx rfl (hb hby at_72) rfl zk) ?_
      show own_G p e below s _ _ _ (T3.setTop (mkF m 73 #[.val (.int ag), .val (.int yo), .val (.int pa), .val (.int py), .val (.int d1), .val (.int d2), .val (.ref b1), .val (.int (own_b (¬ (ag < ag) ∧ ¬ (yo < yo)))), .val (.int (1 : Int32)), .val (.int (1 : Int32)), .unset, .unset, .unset] [(.int pa)]))
      refine own_st (fun zt zk => XS.iload X3.here hx rfl (hb hby at_73) rfl zk) ?_
      show own_G p e below s _ _ _ (T3.setTop (mkF m 75 #[.val (.int ag), .val (.int yo), .val (.int pa), .val (.int py), .val (.int d1), .val (.int d2), .val (.ref b1), .val (.int (own_b (¬ (ag < ag) ∧ ¬ (yo < yo)))), .val (.int (1 : Int32)), .val (.int (1 : Int32)), .unset, .unset, .unset] [(.int d1), (.int pa)]))
      obtain ⟨_, T7, L7, X7, hQ7, st7⟩ := own_callS X3 hx hZ (y := (⟨"com/example/deferral_ledger/deferralledger/model/RetirementAgeIsMetByPinLaw", "raise", "(II)I"⟩ : MethodName)) (argsL := [(.int pa), (.int d1)]) (rest := []) 0 hown (hw _ (List.mem_of_getElem? (i := 20) rfl)) (hw _ (List.mem_of_getElem? (i := 21) rfl)) (hw _ (List.mem_of_getElem? (i := 22) rfl)) (hw _ (List.mem_of_getElem? (i := 23) rfl)) (by decide) (own_rai l Z a0 hw [] pa d1 T2.heap n0 (Nat.le_trans (Nat.le_trans Z0 E1.1) K2.1) ) (by decide) (by decide) e3 (g := (mkF m 75 #[.val (.int ag), .val (.int yo), .val (.int pa), .val (.int py), .val (.int d1), .val (.int d2), .val (.ref b1), .val (.int (own_b (¬ (ag < ag) ∧ ¬ (yo < yo)))), .val (.int (1 : Int32)), .val (.int (1 : Int32)), .unset, .unset, .unset] [(.int d1), (.int pa)])) rfl (by rw [hml]; rfl) own_pd3 rfl rfl (by show 2 * 0 + _ ≤ _; exact Nat.le_of_eq rfl) (hb hby at_75) (by decide) (by decide)
      obtain ⟨rfl, N7q, e7⟩ := hQ7
      have N7 := Fr.app N3 N7q
      refine own_st st7 ?_
      show own_G p e below s _ _ _ (T7.setTop (mkF m 78 #[.val (.int ag), .val (.int yo), .val (.int pa), .val (.int py), .val (.int d1), .val (.int d2), .val (.ref b1), .val (.int (own_b (¬ (ag < ag) ∧ ¬ (yo < yo)))), .val (.int (1 : Int32)), .val (.int (1 : Int32)), .unset, .unset, .unset] [(.int (own_raise pa d1))]))
      refine own_st (fun zt zk => XS.istore X7.here hx rfl (hb hby at_78) rfl (l' := #[.val (.int ag), .val (.int yo), .val (.int pa), .val (.int py), .val (.int d1), .val (.int d2), .val (.ref b1), .val (.int (own_b (¬ (ag < ag) ∧ ¬ (yo < yo)))), .val (.int (1 : Int32)), .val (.int (1 : Int32)), .val (.int (own_raise pa d1)), .unset, .unset]) rfl zk) ?_
      show own_G p e below s _ _ _ (T7.setTop (mkF m 80 #[.val (.int ag), .val (.int yo), .val (.int pa), .val (.int py), .val (.int d1), .val (.int d2), .val (.ref b1), .val (.int (own_b (¬ (ag < ag) ∧ ¬ (yo < yo)))), .val (.int (1 : Int32)), .val (.int (1 : Int32)), .val (.int (own_raise pa d1)), .unset, .unset] []))
      refine own_st (fun zt zk => XS.iloadN X7.here hx rfl (hb hby at_80) rfl zk) ?_
      show own_G p e below s _ _ _ (T7.setTop (mkF m 81 #[.val (.int ag), .val (.int yo), .val (.int pa), .val (.int py), .val (.int d1), .val (.int d2), .val (.ref b1), .val (.int (own_b (¬ (ag < ag) ∧ ¬ (yo < yo)))), .val (.int (1 : Int32)), .val (.int (1 : Int32)), .val (.int (own_raise pa d1)), .unset, .unset] [(.int py)]))
      refine own_st (fun zt zk => XS.iload X7.here hx rfl (hb hby at_81) rfl zk) ?_
      show own_G p e below s _ _ _ (T7.setTop (mkF m 83 #[.val (.int ag), .val (.int yo), .val (.int pa), .val (.int py), .val (.int d1), .val (.int d2), .val (.ref b1), .val (.int (own_b (¬ (ag < ag) ∧ ¬ (yo < yo)))), .val (.int (1 : Int32)), .val (.int (1 : Int32)), .val (.int (own_raise pa d1)), .unset, .unset] [(.int d2), (.int py)]))
      obtain ⟨_, T8, L8, X8, hQ8, st8⟩ := own_callS X7 hx hZ (y := (⟨"com/example/deferral_ledger/deferralledger/model/RetirementAgeIsMetByPinLaw", "raise", "(II)I"⟩ : MethodName)) (argsL := [(.int py), (.int d2)]) (rest := []) 0 hown (hw _ (List.mem_of_getElem? (i := 20) rfl)) (hw _ (List.mem_of_getElem? (i := 21) rfl)) (hw _ (List.mem_of_getElem? (i := 22) rfl)) (hw _ (List.mem_of_getElem? (i := 23) rfl)) (by decide) (own_rai l Z a0 hw [] py d2 T2.heap n0 (Nat.le_trans (Nat.le_trans Z0 E1.1) K2.1) ) (by decide) (by decide) e7 (g := (mkF m 83 #[.val (.int ag), .val (.int yo), .val (.int pa), .val (.int py), .val (.int d1), .val (.int d2), .val (.ref b1), .val (.int (own_b (¬ (ag < ag) ∧ ¬ (yo < yo)))), .val (.int (1 : Int32)), .val (.int (1 : Int32)), .val (.int (own_raise pa d1)), .unset, .unset] [(.int d2), (.int py)])) rfl (by rw [hml]; rfl) own_pd3 rfl rfl (by show 2 * 0 + _ ≤ _; exact Nat.le_of_eq rfl) (hb hby at_83) (by decide) (by decide)
      obtain ⟨rfl, N8q, e8⟩ := hQ8
      have N8 := Fr.app N7 N8q
      refine own_st st8 ?_
      show own_G p e below s _ _ _ (T8.setTop (mkF m 86 #[.val (.int ag), .val (.int yo), .val (.int pa), .val (.int py), .val (.int d1), .val (.int d2), .val (.ref b1), .val (.int (own_b (¬ (ag < ag) ∧ ¬ (yo < yo)))), .val (.int (1 : Int32)), .val (.int (1 : Int32)), .val (.int (own_raise pa d1)), .unset, .unset] [(.int (own_raise py d2))]))
      refine own_st (fun zt zk => XS.istore X8.here hx rfl (hb hby at_86) rfl (l' := #[.val (.int ag), .val (.int yo), .val (.int pa), .val (.int py), .val (.int d1), .val (.int d2), .val (.ref b1), .val (.int (own_b (¬ (ag < ag) ∧ ¬ (yo < yo)))), .val (.int (1 : Int32)), .val (.int (1 : Int32)), .val (.int (own_raise pa d1)), .val (.int (own_raise py d2)), .unset]) rfl zk) ?_
      show own_G p e below s _ _ _ (T8.setTop (mkF m 88 #[.val (.int ag), .val (.int yo), .val (.int pa), .val (.int py), .val (.int d1), .val (.int d2), .val (.ref b1), .val (.int (own_b (¬ (ag < ag) ∧ ¬ (yo < yo)))), .val (.int (1 : Int32)), .val (.int (1 : Int32)), .val (.int (own_raise pa d1)), .val (.int (own_raise py d2)), .unset] []))
      refine own_st (fun zt zk => XS.aload X8.here hx rfl (hb hby at_88) rfl rfl zk) ?_
      show own_G p e below s _ _ _ (T8.setTop (mkF m 90 #[.val (.int ag), .val (.int yo), .val (.int pa), .val (.int py), .val (.int d1), .val (.int d2), .val (.ref b1), .val (.int (own_b (¬ (ag < ag) ∧ ¬ (yo < yo)))), .val (.int (1 : Int32)), .val (.int (1 : Int32)), .val (.int (own_raise pa d1)), .val (.int (own_raise py d2)), .unset] [(.ref b1)]))
      refine own_st (fun zt zk => XS.iloadN X8.here hx rfl (hb hby at_90) rfl zk) ?_
      show own_G p e below s _ _ _ (T8.setTop (mkF m 91 #[.val (.int ag), .val (.int yo), .val (.int pa), .val (.int py), .val (.int d1), .val (.int d2), .val (.ref b1), .val (.int (own_b (¬ (ag < ag) ∧ ¬ (yo < yo)))), .val (.int (1 : Int32)), .val (.int (1 : Int32)), .val (.int (own_raise pa d1)), .val (.int (own_raise py d2)), .unset] [(.int pa), (.ref b1)]))
      refine own_st (fun zt zk => XS.iloadN X8.here hx rfl (hb hby at_91) rfl zk) ?_
      show own_G p e below s _ _ _ (T8.setTop (mkF m 92 #[.val (.int ag), .val (.int yo), .val (.int pa), .val (.int py), .val (.int d1), .val (.int d2), .val (.ref b1), .val (.int (own_b (¬ (ag < ag) ∧ ¬ (yo < yo)))), .val (.int (1 : Int32)), .val (.int (1 : Int32)), .val (.int (own_raise pa d1)), .val (.int (own_raise py d2)), .unset] [(.int py), (.int pa), (.ref b1)]))
      obtain ⟨_, T9, L9, X9, hQ9, st9⟩ := own_callV X8 hx hZ (C := "com/example/deferral_ledger/deferralledger/model/RetirementAge") (y := (⟨"com/example/deferral_ledger/deferralledger/model/RetirementAge", "isMetBy", "(II)Z"⟩ : MethodName)) (z := (⟨"com/example/deferral_ledger/deferralledger/model/RetirementAge", "isMetBy", "(II)Z"⟩ : MethodName)) (a := b1) (argsL := [(.int pa), (.int py)]) (rest := []) 0 hown (hw _ (List.mem_of_getElem? (i := 13) rfl)) (hw _ (List.mem_of_getElem? (i := 14) rfl)) (own_nf hZ (hw _ (List.mem_of_getElem? (i := 16) rfl))) (hw _ (List.mem_of_getElem? (i := 16) rfl)) (hw _ (List.mem_of_getElem? (i := 15) rfl)) (hw _ (List.mem_of_getElem? (i := 2) rfl)) (hw _ (List.mem_of_getElem? (i := 17) rfl)) (by decide) (own_isMet l Z a0 hw [] b1 pa py ag yo T2.heap n0 (Nat.le_trans (Nat.le_trans Z0 E1.1) K2.1) q2_0 q2_1) (by decide) (by decide) e8 E4 (g := (mkF m 92 #[.val (.int ag), .val (.int yo), .val (.int pa), .val (.int py), .val (.int d1), .val (.int d2), .val (.ref b1), .val (.int (own_b (¬ (ag < ag) ∧ ¬ (yo < yo)))), .val (.int (1 : Int32)), .val (.int (1 : Int32)), .val (.int (own_raise pa d1)), .val (.int (own_raise py d2)), .unset] [(.int py), (.int pa), (.ref b1)])) rfl (by rw [hml]; rfl) own_pd2 rfl rfl (by show 2 * 0 + _ ≤ _; exact Nat.le_of_eq rfl) (hb hby at_92) (by decide) (by decide)
      obtain ⟨rfl, N9q, e9⟩ := hQ9
      have N9 := Fr.app N8 N9q
      refine own_st st9 ?_
      show own_G p e below s _ _ _ (T9.setTop (mkF m 95 #[.val (.int ag), .val (.int yo), .val (.int pa), .val (.int py), .val (.int d1), .val (.int d2), .val (.ref b1), .val (.int (own_b (¬ (ag < ag) ∧ ¬ (yo < yo)))), .val (.int (1 : Int32)), .val (.int (1 : Int32)), .val (.int (own_raise pa d1)), .val (.int (own_raise py d2)), .unset] [(.int (own_b (¬ (pa < ag) ∧ ¬ (py < yo))))]))
      by_cases hc95_10 : (¬ (pa < ag) ∧ ¬ (py < yo))
      · refine own_st (fun zt zk => XS.ifNo X9.here hx rfl (hb hby at_95) rfl ((if0 _ _).trans (feq (own_bn hc95_10)).1) zk) ?_
        show own_G p e below s _ _ _ (T9.setTop (mkF m 98 #[.val (.int ag), .val (.int yo), .val (.int pa), .val (.int py), .val (.int d1), .val (.int d2), .val (.ref b1), .val (.int (own_b (¬ (ag < ag) ∧ ¬ (yo < yo)))), .val (.int (1 : Int32)), .val (.int (1 : Int32)), .val (.int (own_raise pa d1)), .val (.int (own_raise py d2)), .unset] []))
        refine own_st (fun zt zk => XS.aload X9.here hx rfl (hb hby at_98) rfl rfl zk) ?_
        show own_G p e below s _ _ _ (T9.setTop (mkF m 100 #[.val (.int ag), .val (.int yo), .val (.int pa), .val (.int py), .val (.int d1), .val (.int d2), .val (.ref b1), .val (.int (own_b (¬ (ag < ag) ∧ ¬ (yo < yo)))), .val (.int (1 : Int32)), .val (.int (1 : Int32)), .val (.int (own_raise pa d1)), .val (.int (own_raise py d2)), .unset] [(.ref b1)]))
        refine own_st (fun zt zk => XS.iload X9.here hx rfl (hb hby at_100) rfl zk) ?_
        show own_G p e below s _ _ _ (T9.setTop (mkF m 102 #[.val (.int ag), .val (.int yo), .val (.int pa), .val (.int py), .val (.int d1), .val (.int d2), .val (.ref b1), .val (.int (own_b (¬ (ag < ag) ∧ ¬ (yo < yo)))), .val (.int (1 : Int32)), .val (.int (1 : Int32)), .val (.int (own_raise pa d1)), .val (.int (own_raise py d2)), .unset] [(.int (own_raise pa d1)), (.ref b1)]))
        refine own_st (fun zt zk => XS.iload X9.here hx rfl (hb hby at_102) rfl zk) ?_
        show own_G p e below s _ _ _ (T9.setTop (mkF m 104 #[.val (.int ag), .val (.int yo), .val (.int pa), .val (.int py), .val (.int d1), .val (.int d2), .val (.ref b1), .val (.int (own_b (¬ (ag < ag) ∧ ¬ (yo < yo)))), .val (.int (1 : Int32)), .val (.int (1 : Int32)), .val (.int (own_raise pa d1)), .val (.int (own_raise py d2)), .unset] [(.int (own_raise py d2)), (.int (own_raise pa d1)), (.ref b1)]))
        obtain ⟨_, T11, L11, X11, hQ11, st11⟩ := own_callV X9 hx hZ (C := "com/example/deferral_ledger/deferralledger/model/RetirementAge") (y := (⟨"com/example/deferral_ledger/deferralledger/model/RetirementAge", "isMetBy", "(II)Z"⟩ : MethodName)) (z := (⟨"com/example/deferral_ledger/deferralledger/model/RetirementAge", "isMetBy", "(II)Z"⟩ : MethodName)) (a := b1) (argsL := [(.int (own_raise pa d1)), (.int (own_raise py d2))]) (rest := []) 0 hown (hw _ (List.mem_of_getElem? (i := 13) rfl)) (hw _ (List.mem_of_getElem? (i := 14) rfl)) (own_nf hZ (hw _ (List.mem_of_getElem? (i := 16) rfl))) (hw _ (List.mem_of_getElem? (i := 16) rfl)) (hw _ (List.mem_of_getElem? (i := 15) rfl)) (hw _ (List.mem_of_getElem? (i := 2) rfl)) (hw _ (List.mem_of_getElem? (i := 17) rfl)) (by decide) (own_isMet l Z a0 hw [] b1 (own_raise pa d1) (own_raise py d2) ag yo T2.heap n0 (Nat.le_trans (Nat.le_trans Z0 E1.1) K2.1) q2_0 q2_1) (by decide) (by decide) e9 E4 (g := (mkF m 104 #[.val (.int ag), .val (.int yo), .val (.int pa), .val (.int py), .val (.int d1), .val (.int d2), .val (.ref b1), .val (.int (own_b (¬ (ag < ag) ∧ ¬ (yo < yo)))), .val (.int (1 : Int32)), .val (.int (1 : Int32)), .val (.int (own_raise pa d1)), .val (.int (own_raise py d2)), .unset] [(.int (own_raise py d2)), (.int (own_raise pa d1)), (.ref b1)])) rfl (by rw [hml]; rfl) own_pd2 rfl rfl (by show 2 * 0 + _ ≤ _; exact Nat.le_of_eq rfl) (hb hby at_104) (by decide) (by decide)
        obtain ⟨rfl, N11q, e11⟩ := hQ11
        have N11 := Fr.app N9 N11q
        refine own_st st11 ?_
        show own_G p e below s _ _ _ (T11.setTop (mkF m 107 #[.val (.int ag), .val (.int yo), .val (.int pa), .val (.int py), .val (.int d1), .val (.int d2), .val (.ref b1), .val (.int (own_b (¬ (ag < ag) ∧ ¬ (yo < yo)))), .val (.int (1 : Int32)), .val (.int (1 : Int32)), .val (.int (own_raise pa d1)), .val (.int (own_raise py d2)), .unset] [(.int (own_b (¬ ((own_raise pa d1) < ag) ∧ ¬ ((own_raise py d2) < yo))))]))
        have hc107_12 : (¬ ((own_raise pa d1) < ag) ∧ ¬ ((own_raise py d2) < yo)) := (by
              have i1 : (1 : Int32).toInt = 1 := by decide
              have i2 : (-2147483648 : Int32).toInt = -2147483648 := by decide
              have i3 : (2147483647 : Int32).toInt = 2147483647 := by decide
              have a1 := c_isub ag 1
              have a2 := c_isub yo 1
              have r1 := rng32 ag
              have r2 := rng32 yo
              have r3 := rng32 (ag - 1)
              have r4 := rng32 (yo - 1)
              have r5 := own_raised pa d1
              have r6 := own_raised py d2
              simp only [Int32.lt_iff_toInt_lt, ← Int32.toInt_inj] at hc95_10 ⊢
              omega)
        refine own_st (fun zt zk => XS.ifNo X11.here hx rfl (hb hby at_107) rfl ((if0 _ _).trans (feq (own_bn hc107_12)).1) zk) ?_
        show own_G p e below s _ _ _ (T11.setTop (mkF m 110 #[.val (.int ag), .val (.int yo), .val (.int pa), .val (.int py), .val (.int d1), .val (.int d2), .val (.ref b1), .val (.int (own_b (¬ (ag < ag) ∧ ¬ (yo < yo)))), .val (.int (1 : Int32)), .val (.int (1 : Int32)), .val (.int (own_raise pa d1)), .val (.int (own_raise py d2)), .unset] []))
        refine own_st (fun zt zk => XS.iconst X11.here hx rfl (hb hby at_110) zk) ?_
        show own_G p e below s _ _ _ (T11.setTop (mkF m 111 #[.val (.int ag), .val (.int yo), .val (.int pa), .val (.int py), .val (.int d1), .val (.int d2), .val (.ref b1), .val (.int (own_b (¬ (ag < ag) ∧ ¬ (yo < yo)))), .val (.int (1 : Int32)), .val (.int (1 : Int32)), .val (.int (own_raise pa d1)), .val (.int (own_raise py d2)), .unset] [(.int (1 : Int32))]))
        refine own_st (fun zt zk => XS.goto X11.here hx rfl (pc0 := 111) (pc' := 115) rfl (hb hby at_111) (by decide) (by decide) zk) ?_
        show own_G p e below s _ _ _ (T11.setTop (mkF m 115 #[.val (.int ag), .val (.int yo), .val (.int pa), .val (.int py), .val (.int d1), .val (.int d2), .val (.ref b1), .val (.int (own_b (¬ (ag < ag) ∧ ¬ (yo < yo)))), .val (.int (1 : Int32)), .val (.int (1 : Int32)), .val (.int (own_raise pa d1)), .val (.int (own_raise py d2)), .unset] [(.int (1 : Int32))]))
        refine own_st (fun zt zk => XS.istore X11.here hx rfl (hb hby at_115) rfl (l' := #[.val (.int ag), .val (.int yo), .val (.int pa), .val (.int py), .val (.int d1), .val (.int d2), .val (.ref b1), .val (.int (own_b (¬ (ag < ag) ∧ ¬ (yo < yo)))), .val (.int (1 : Int32)), .val (.int (1 : Int32)), .val (.int (own_raise pa d1)), .val (.int (own_raise py d2)), .val (.int (1 : Int32))]) rfl zk) ?_
        show own_G p e below s _ _ _ (T11.setTop (mkF m 117 #[.val (.int ag), .val (.int yo), .val (.int pa), .val (.int py), .val (.int d1), .val (.int d2), .val (.ref b1), .val (.int (own_b (¬ (ag < ag) ∧ ¬ (yo < yo)))), .val (.int (1 : Int32)), .val (.int (1 : Int32)), .val (.int (own_raise pa d1)), .val (.int (own_raise py d2)), .val (.int (1 : Int32))] []))
        refine own_st (fun zt zk => XS.iload X11.here hx rfl (hb hby at_117) rfl zk) ?_
        show own_G p e below s _ _ _ (T11.setTop (mkF m 119 #[.val (.int ag), .val (.int yo), .val (.int pa), .val (.int py), .val (.int d1), .val (.int d2), .val (.ref b1), .val (.int (own_b (¬ (ag < ag) ∧ ¬ (yo < yo)))), .val (.int (1 : Int32)), .val (.int (1 : Int32)), .val (.int (own_raise pa d1)), .val (.int (own_raise py d2)), .val (.int (1 : Int32))] [(.int (own_b (¬ (ag < ag) ∧ ¬ (yo < yo))))]))
        have hc119_13 : (¬ (ag < ag) ∧ ¬ (yo < yo)) := ⟨Int32.lt_irrefl, Int32.lt_irrefl⟩
        refine own_st (fun zt zk => XS.ifNo X11.here hx rfl (hb hby at_119) rfl ((if0 _ _).trans (feq (own_bn hc119_13)).1) zk) ?_
        show own_G p e below s _ _ _ (T11.setTop (mkF m 122 #[.val (.int ag), .val (.int yo), .val (.int pa), .val (.int py), .val (.int d1), .val (.int d2), .val (.ref b1), .val (.int (own_b (¬ (ag < ag) ∧ ¬ (yo < yo)))), .val (.int (1 : Int32)), .val (.int (1 : Int32)), .val (.int (own_raise pa d1)), .val (.int (own_raise py d2)), .val (.int (1 : Int32))] []))
        refine own_st (fun zt zk => XS.iload X11.here hx rfl (hb hby at_122) rfl zk) ?_
        show own_G p e below s _ _ _ (T11.setTop (mkF m 124 #[.val (.int ag), .val (.int yo), .val (.int pa), .val (.int py), .val (.int d1), .val (.int d2), .val (.ref b1), .val (.int (own_b (¬ (ag < ag) ∧ ¬ (yo < yo)))), .val (.int (1 : Int32)), .val (.int (1 : Int32)), .val (.int (own_raise pa d1)), .val (.int (own_raise py d2)), .val (.int (1 : Int32))] [(.int (1 : Int32))]))
        refine own_st (fun zt zk => XS.ifNo X11.here hx rfl (hb hby at_124) rfl ((if0 _ _).trans (feq (by decide : ¬ ((1 : Int32) = (0 : Int32)))).1) zk) ?_
        show own_G p e below s _ _ _ (T11.setTop (mkF m 127 #[.val (.int ag), .val (.int yo), .val (.int pa), .val (.int py), .val (.int d1), .val (.int d2), .val (.ref b1), .val (.int (own_b (¬ (ag < ag) ∧ ¬ (yo < yo)))), .val (.int (1 : Int32)), .val (.int (1 : Int32)), .val (.int (own_raise pa d1)), .val (.int (own_raise py d2)), .val (.int (1 : Int32))] []))
        refine own_st (fun zt zk => XS.iload X11.here hx rfl (hb hby at_127) rfl zk) ?_
        show own_G p e below s _ _ _ (T11.setTop (mkF m 129 #[.val (.int ag), .val (.int yo), .val (.int pa), .val (.int py), .val (.int d1), .val (.int d2), .val (.ref b1), .val (.int (own_b (¬ (ag < ag) ∧ ¬ (yo < yo)))), .val (.int (1 : Int32)), .val (.int (1 : Int32)), .val (.int (own_raise pa d1)), .val (.int (own_raise py d2)), .val (.int (1 : Int32))] [(.int (1 : Int32))]))
        refine own_st (fun zt zk => XS.ifNo X11.here hx rfl (hb hby at_129) rfl ((if0 _ _).trans (feq (by decide : ¬ ((1 : Int32) = (0 : Int32)))).1) zk) ?_
        show own_G p e below s _ _ _ (T11.setTop (mkF m 132 #[.val (.int ag), .val (.int yo), .val (.int pa), .val (.int py), .val (.int d1), .val (.int d2), .val (.ref b1), .val (.int (own_b (¬ (ag < ag) ∧ ¬ (yo < yo)))), .val (.int (1 : Int32)), .val (.int (1 : Int32)), .val (.int (own_raise pa d1)), .val (.int (own_raise py d2)), .val (.int (1 : Int32))] []))
        refine own_st (fun zt zk => XS.iload X11.here hx rfl (hb hby at_132) rfl zk) ?_
        show own_G p e below s _ _ _ (T11.setTop (mkF m 134 #[.val (.int ag), .val (.int yo), .val (.int pa), .val (.int py), .val (.int d1), .val (.int d2), .val (.ref b1), .val (.int (own_b (¬ (ag < ag) ∧ ¬ (yo < yo)))), .val (.int (1 : Int32)), .val (.int (1 : Int32)), .val (.int (own_raise pa d1)), .val (.int (own_raise py d2)), .val (.int (1 : Int32))] [(.int (1 : Int32))]))
        refine own_st (fun zt zk => XS.ifNo X11.here hx rfl (hb hby at_134) rfl ((if0 _ _).trans (feq (by decide : ¬ ((1 : Int32) = (0 : Int32)))).1) zk) ?_
        show own_G p e below s _ _ _ (T11.setTop (mkF m 137 #[.val (.int ag), .val (.int yo), .val (.int pa), .val (.int py), .val (.int d1), .val (.int d2), .val (.ref b1), .val (.int (own_b (¬ (ag < ag) ∧ ¬ (yo < yo)))), .val (.int (1 : Int32)), .val (.int (1 : Int32)), .val (.int (own_raise pa d1)), .val (.int (own_raise py d2)), .val (.int (1 : Int32))] []))
        refine own_st (fun zt zk => XS.iconst X11.here hx rfl (hb hby at_137) zk) ?_
        show own_G p e below s _ _ _ (T11.setTop (mkF m 138 #[.val (.int ag), .val (.int yo), .val (.int pa), .val (.int py), .val (.int d1), .val (.int d2), .val (.ref b1), .val (.int (own_b (¬ (ag < ag) ∧ ¬ (yo < yo)))), .val (.int (1 : Int32)), .val (.int (1 : Int32)), .val (.int (own_raise pa d1)), .val (.int (own_raise py d2)), .val (.int (1 : Int32))] [(.int (1 : Int32))]))
        refine own_st (fun zt zk => XS.goto X11.here hx rfl (pc0 := 138) (pc' := 142) rfl (hb hby at_138) (by decide) (by decide) zk) ?_
        show own_G p e below s _ _ _ (T11.setTop (mkF m 142 #[.val (.int ag), .val (.int yo), .val (.int pa), .val (.int py), .val (.int d1), .val (.int d2), .val (.ref b1), .val (.int (own_b (¬ (ag < ag) ∧ ¬ (yo < yo)))), .val (.int (1 : Int32)), .val (.int (1 : Int32)), .val (.int (own_raise pa d1)), .val (.int (own_raise py d2)), .val (.int (1 : Int32))] [(.int (1 : Int32))]))
        refine own_retZ X11 hx hlk hret (by decide) (hb hby at_142) (by decide) (by decide) ?_
        show Q_own_law Z ag yo pa py d1 d2 h0 n0 (some (.int (1 : Int32))) T11.heap _
        rw [e11]
        exact ⟨rfl, N11⟩
      · refine own_st (fun zt zk => XS.ifYes X9.here hx rfl (pc0 := 95) (pc' := 110) rfl (hb hby at_95) rfl ((if0 _ _).trans (teq (own_b0 hc95_10)).1) (by decide) (by decide) zk) ?_
        show own_G p e below s _ _ _ (T9.setTop (mkF m 110 #[.val (.int ag), .val (.int yo), .val (.int pa), .val (.int py), .val (.int d1), .val (.int d2), .val (.ref b1), .val (.int (own_b (¬ (ag < ag) ∧ ¬ (yo < yo)))), .val (.int (1 : Int32)), .val (.int (1 : Int32)), .val (.int (own_raise pa d1)), .val (.int (own_raise py d2)), .unset] []))
        refine own_st (fun zt zk => XS.iconst X9.here hx rfl (hb hby at_110) zk) ?_
        show own_G p e below s _ _ _ (T9.setTop (mkF m 111 #[.val (.int ag), .val (.int yo), .val (.int pa), .val (.int py), .val (.int d1), .val (.int d2), .val (.ref b1), .val (.int (own_b (¬ (ag < ag) ∧ ¬ (yo < yo)))), .val (.int (1 : Int32)), .val (.int (1 : Int32)), .val (.int (own_raise pa d1)), .val (.int (own_raise py d2)), .unset] [(.int (1 : Int32))]))
        refine own_st (fun zt zk => XS.goto X9.here hx rfl (pc0 := 111) (pc' := 115) rfl (hb hby at_111) (by decide) (by decide) zk) ?_
        show own_G p e below s _ _ _ (T9.setTop (mkF m 115 #[.val (.int ag), .val (.int yo), .val (.int pa), .val (.int py), .val (.int d1), .val (.int d2), .val (.ref b1), .val (.int (own_b (¬ (ag < ag) ∧ ¬ (yo < yo)))), .val (.int (1 : Int32)), .val (.int (1 : Int32)), .val (.int (own_raise pa d1)), .val (.int (own_raise py d2)), .unset] [(.int (1 : Int32))]))
        refine own_st (fun zt zk => XS.istore X9.here hx rfl (hb hby at_115) rfl (l' := #[.val (.int ag), .val (.int yo), .val (.int pa), .val (.int py), .val (.int d1), .val (.int d2), .val (.ref b1), .val (.int (own_b (¬ (ag < ag) ∧ ¬ (yo < yo)))), .val (.int (1 : Int32)), .val (.int (1 : Int32)), .val (.int (own_raise pa d1)), .val (.int (own_raise py d2)), .val (.int (1 : Int32))]) rfl zk) ?_
        show own_G p e below s _ _ _ (T9.setTop (mkF m 117 #[.val (.int ag), .val (.int yo), .val (.int pa), .val (.int py), .val (.int d1), .val (.int d2), .val (.ref b1), .val (.int (own_b (¬ (ag < ag) ∧ ¬ (yo < yo)))), .val (.int (1 : Int32)), .val (.int (1 : Int32)), .val (.int (own_raise pa d1)), .val (.int (own_raise py d2)), .val (.int (1 : Int32))] []))
        refine own_st (fun zt zk => XS.iload X9.here hx rfl (hb hby at_117) rfl zk) ?_
        show own_G p e below s _ _ _ (T9.setTop (mkF m 119 #[.val (.int ag), .val (.int yo), .val (.int pa), .val (.int py), .val (.int d1), .val (.int d2), .val (.ref b1), .val (.int (own_b (¬ (ag < ag) ∧ ¬ (yo < yo)))), .val (.int (1 : Int32)), .val (.int (1 : Int32)), .val (.int (own_raise pa d1)), .val (.int (own_raise py d2)), .val (.int (1 : Int32))] [(.int (own_b (¬ (ag < ag) ∧ ¬ (yo < yo))))]))
        have hc119_14 : (¬ (ag < ag) ∧ ¬ (yo < yo)) := ⟨Int32.lt_irrefl, Int32.lt_irrefl⟩
        refine own_st (fun zt zk => XS.ifNo X9.here hx rfl (hb hby at_119) rfl ((if0 _ _).trans (feq (own_bn hc119_14)).1) zk) ?_
        show own_G p e below s _ _ _ (T9.setTop (mkF m 122 #[.val (.int ag), .val (.int yo), .val (.int pa), .val (.int py), .val (.int d1), .val (.int d2), .val (.ref b1), .val (.int (own_b (¬ (ag < ag) ∧ ¬ (yo < yo)))), .val (.int (1 : Int32)), .val (.int (1 : Int32)), .val (.int (own_raise pa d1)), .val (.int (own_raise py d2)), .val (.int (1 : Int32))] []))
        refine own_st (fun zt zk => XS.iload X9.here hx rfl (hb hby at_122) rfl zk) ?_
        show own_G p e below s _ _ _ (T9.setTop (mkF m 124 #[.val (.int ag), .val (.int yo), .val (.int pa), .val (.int py), .val (.int d1), .val (.int d2), .val (.ref b1), .val (.int (own_b (¬ (ag < ag) ∧ ¬ (yo < yo)))), .val (.int (1 : Int32)), .val (.int (1 : Int32)), .val (.int (own_raise pa d1)), .val (.int (own_raise py d2)), .val (.int (1 : Int32))] [(.int (1 : Int32))]))
        refine own_st (fun zt zk => XS.ifNo X9.here hx rfl (hb hby at_124) rfl ((if0 _ _).trans (feq (by decide : ¬ ((1 : Int32) = (0 : Int32)))).1) zk) ?_
        show own_G p e below s _ _ _ (T9.setTop (mkF m 127 #[.val (.int ag), .val (.int yo), .val (.int pa), .val (.int py), .val (.int d1), .val (.int d2), .val (.ref b1), .val (.int (own_b (¬ (ag < ag) ∧ ¬ (yo < yo)))), .val (.int (1 : Int32)), .val (.int (1 : Int32)), .val (.int (own_raise pa d1)), .val (.int (own_raise py d2)), .val (.int (1 : Int32))] []))
        refine own_st (fun zt zk => XS.iload X9.here hx rfl (hb hby at_127) rfl zk) ?_
        show own_G p e below s _ _ _ (T9.setTop (mkF m 129 #[.val (.int ag), .val (.int yo), .val (.int pa), .val (.int py), .val (.int d1), .val (.int d2), .val (.ref b1), .val (.int (own_b (¬ (ag < ag) ∧ ¬ (yo < yo)))), .val (.int (1 : Int32)), .val (.int (1 : Int32)), .val (.int (own_raise pa d1)), .val (.int (own_raise py d2)), .val (.int (1 : Int32))] [(.int (1 : Int32))]))
        refine own_st (fun zt zk => XS.ifNo X9.here hx rfl (hb hby at_129) rfl ((if0 _ _).trans (feq (by decide : ¬ ((1 : Int32) = (0 : Int32)))).1) zk) ?_
        show own_G p e below s _ _ _ (T9.setTop (mkF m 132 #[.val (.int ag), .val (.int yo), .val (.int pa), .val (.int py), .val (.int d1), .val (.int d2), .val (.ref b1), .val (.int (own_b (¬ (ag < ag) ∧ ¬ (yo < yo)))), .val (.int (1 : Int32)), .val (.int (1 : Int32)), .val (.int (own_raise pa d1)), .val (.int (own_raise py d2)), .val (.int (1 : Int32))] []))
        refine own_st (fun zt zk => XS.iload X9.here hx rfl (hb hby at_132) rfl zk) ?_
        show own_G p e below s _ _ _ (T9.setTop (mkF m 134 #[.val (.int ag), .val (.int yo), .val (.int pa), .val (.int py), .val (.int d1), .val (.int d2), .val (.ref b1), .val (.int (own_b (¬ (ag < ag) ∧ ¬ (yo < yo)))), .val (.int (1 : Int32)), .val (.int (1 : Int32)), .val (.int (own_raise pa d1)), .val (.int (own_raise py d2)), .val (.int (1 : Int32))] [(.int (1 : Int32))]))
        refine own_st (fun zt zk => XS.ifNo X9.here hx rfl (hb hby at_134) rfl ((if0 _ _).trans (feq (by decide : ¬ ((1 : Int32) = (0 : Int32)))).1) zk) ?_
        show own_G p e below s _ _ _ (T9.setTop (mkF m 137 #[.val (.int ag), .val (.int yo), .val (.int pa), .val (.int py), .val (.int d1), .val (.int d2), .val (.ref b1), .val (.int (own_b (¬ (ag < ag) ∧ ¬ (yo < yo)))), .val (.int (1 : Int32)), .val (.int (1 : Int32)), .val (.int (own_raise pa d1)), .val (.int (own_raise py d2)), .val (.int (1 : Int32))] []))
        refine own_st (fun zt zk => XS.iconst X9.here hx rfl (hb hby at_137) zk) ?_
        show own_G p e below s _ _ _ (T9.setTop (mkF m 138 #[.val (.int ag), .val (.int yo), .val (.int pa), .val (.int py), .val (.int d1), .val (.int d2), .val (.ref b1), .val (.int (own_b (¬ (ag < ag) ∧ ¬ (yo < yo)))), .val (.int (1 : Int32)), .val (.int (1 : Int32)), .val (.int (own_raise pa d1)), .val (.int (own_raise py d2)), .val (.int (1 : Int32))] [(.int (1 : Int32))]))
        refine own_st (fun zt zk => XS.goto X9.here hx rfl (pc0 := 138) (pc' := 142) rfl (hb hby at_138) (by decide) (by decide) zk) ?_
        show own_G p e below s _ _ _ (T9.setTop (mkF m 142 #[.val (.int ag), .val (.int yo), .val (.int pa), .val (.int py), .val (.int d1), .val (.int d2), .val (.ref b1), .val (.int (own_b (¬ (ag < ag) ∧ ¬ (yo < yo)))), .val (.int (1 : Int32)), .val (.int (1 : Int32)), .val (.int (own_raise pa d1)), .val (.int (own_raise py d2)), .val (.int (1 : Int32))] [(.int (1 : Int32))]))
        refine own_retZ X9 hx hlk hret (by decide) (hb hby at_142) (by decide) (by decide) ?_
        show Q_own_law Z ag yo pa py d1 d2 h0 n0 (some (.int (1 : Int32))) T9.heap _
        rw [e9]
        exact ⟨rfl, N9⟩
    · refine own_st (fun zt zk => XS.icmpNo X3.here hx rfl (hb hby at_49) rfl (feq hc49_6).1 zk) ?_
      show own_G p e below s _ _ _ (T3.setTop (mkF m 52 #[.val (.int ag), .val (.int yo), .val (.int pa), .val (.int py), .val (.int d1), .val (.int d2), .val (.ref b1), .val (.int (own_b (¬ (ag < ag) ∧ ¬ (yo < yo)))), .val (.int (1 : Int32)), .unset, .unset, .unset, .unset] []))
      refine own_st (fun zt zk => XS.aload X3.here hx rfl (hb hby at_52) rfl rfl zk) ?_
      show own_G p e below s _ _ _ (T3.setTop (mkF m 54 #[.val (.int ag), .val (.int yo), .val (.int pa), .val (.int py), .val (.int d1), .val (.int d2), .val (.ref b1), .val (.int (own_b (¬ (ag < ag) ∧ ¬ (yo < yo)))), .val (.int (1 : Int32)), .unset, .unset, .unset, .unset] [(.ref b1)]))
      refine own_st (X3.ldcInt hx hown (mvT hZ (hw _ (List.mem_of_getElem? (i := 19) rfl))) (g := (mkF m 54 #[.val (.int ag), .val (.int yo), .val (.int pa), .val (.int py), .val (.int d1), .val (.int d2), .val (.ref b1), .val (.int (own_b (¬ (ag < ag) ∧ ¬ (yo < yo)))), .val (.int (1 : Int32)), .unset, .unset, .unset, .unset] [(.ref b1)])) rfl (hb hby at_54)) ?_
      show own_G p e below s _ _ _ (T3.setTop (mkF m 56 #[.val (.int ag), .val (.int yo), .val (.int pa), .val (.int py), .val (.int d1), .val (.int d2), .val (.ref b1), .val (.int (own_b (¬ (ag < ag) ∧ ¬ (yo < yo)))), .val (.int (1 : Int32)), .unset, .unset, .unset, .unset] [(.int (2147483647 : Int32)), (.ref b1)]))
      refine own_st (fun zt zk => XS.iloadN X3.here hx rfl (hb hby at_56) rfl zk) ?_
      show own_G p e below s _ _ _ (T3.setTop (mkF m 57 #[.val (.int ag), .val (.int yo), .val (.int pa), .val (.int py), .val (.int d1), .val (.int d2), .val (.ref b1), .val (.int (own_b (¬ (ag < ag) ∧ ¬ (yo < yo)))), .val (.int (1 : Int32)), .unset, .unset, .unset, .unset] [(.int yo), (.int (2147483647 : Int32)), (.ref b1)]))
      refine own_st (fun zt zk => XS.iconst X3.here hx rfl (hb hby at_57) zk) ?_
      show own_G p e below s _ _ _ (T3.setTop (mkF m 58 #[.val (.int ag), .val (.int yo), .val (.int pa), .val (.int py), .val (.int d1), .val (.int d2), .val (.ref b1), .val (.int (own_b (¬ (ag < ag) ∧ ¬ (yo < yo)))), .val (.int (1 : Int32)), .unset, .unset, .unset, .unset] [(.int (1 : Int32)), (.int yo), (.int (2147483647 : Int32)), (.ref b1)]))
      refine own_st (fun zt zk => XS.isub X3.here hx rfl (hb hby at_58) rfl zk) ?_
      show own_G p e below s _ _ _ (T3.setTop (mkF m 59 #[.val (.int ag), .val (.int yo), .val (.int pa), .val (.int py), .val (.int d1), .val (.int d2), .val (.ref b1), .val (.int (own_b (¬ (ag < ag) ∧ ¬ (yo < yo)))), .val (.int (1 : Int32)), .unset, .unset, .unset, .unset] [(.int (yo - (1 : Int32))), (.int (2147483647 : Int32)), (.ref b1)]))
      obtain ⟨_, T15, L15, X15, hQ15, st15⟩ := own_callV X3 hx hZ (C := "com/example/deferral_ledger/deferralledger/model/RetirementAge") (y := (⟨"com/example/deferral_ledger/deferralledger/model/RetirementAge", "isMetBy", "(II)Z"⟩ : MethodName)) (z := (⟨"com/example/deferral_ledger/deferralledger/model/RetirementAge", "isMetBy", "(II)Z"⟩ : MethodName)) (a := b1) (argsL := [(.int (2147483647 : Int32)), (.int (yo - (1 : Int32)))]) (rest := []) 0 hown (hw _ (List.mem_of_getElem? (i := 13) rfl)) (hw _ (List.mem_of_getElem? (i := 14) rfl)) (own_nf hZ (hw _ (List.mem_of_getElem? (i := 16) rfl))) (hw _ (List.mem_of_getElem? (i := 16) rfl)) (hw _ (List.mem_of_getElem? (i := 15) rfl)) (hw _ (List.mem_of_getElem? (i := 2) rfl)) (hw _ (List.mem_of_getElem? (i := 17) rfl)) (by decide) (own_isMet l Z a0 hw [] b1 (2147483647 : Int32) (yo - (1 : Int32)) ag yo T2.heap n0 (Nat.le_trans (Nat.le_trans Z0 E1.1) K2.1) q2_0 q2_1) (by decide) (by decide) e3 E4 (g := (mkF m 59 #[.val (.int ag), .val (.int yo), .val (.int pa), .val (.int py), .val (.int d1), .val (.int d2), .val (.ref b1), .val (.int (own_b (¬ (ag < ag) ∧ ¬ (yo < yo)))), .val (.int (1 : Int32)), .unset, .unset, .unset, .unset] [(.int (yo - (1 : Int32))), (.int (2147483647 : Int32)), (.ref b1)])) rfl (by rw [hml]; rfl) own_pd2 rfl rfl (by show 2 * 0 + _ ≤ _; exact Nat.le_of_eq rfl) (hb hby at_59) (by decide) (by decide)
      obtain ⟨rfl, N15q, e15⟩ := hQ15
      have N15 := Fr.app N3 N15q
      refine own_st st15 ?_
      show own_G p e below s _ _ _ (T15.setTop (mkF m 62 #[.val (.int ag), .val (.int yo), .val (.int pa), .val (.int py), .val (.int d1), .val (.int d2), .val (.ref b1), .val (.int (own_b (¬ (ag < ag) ∧ ¬ (yo < yo)))), .val (.int (1 : Int32)), .unset, .unset, .unset, .unset] [(.int (own_b (¬ ((2147483647 : Int32) < ag) ∧ ¬ ((yo - (1 : Int32)) < yo))))]))
      have hc62_16 : ¬ ((¬ ((2147483647 : Int32) < ag) ∧ ¬ ((yo - (1 : Int32)) < yo))) := (by
            have i1 : (1 : Int32).toInt = 1 := by decide
            have i2 : (-2147483648 : Int32).toInt = -2147483648 := by decide
            have i3 : (2147483647 : Int32).toInt = 2147483647 := by decide
            have a1 := c_isub ag 1
            have a2 := c_isub yo 1
            have r1 := rng32 ag
            have r2 := rng32 yo
            have r3 := rng32 (ag - 1)
            have r4 := rng32 (yo - 1)
            have r5 := own_raised pa d1
            have r6 := own_raised py d2
            simp only [Int32.lt_iff_toInt_lt, ← Int32.toInt_inj] at hc49_6 ⊢
            omega)
      refine own_st (fun zt zk => XS.ifNo X15.here hx rfl (hb hby at_62) rfl ((if0 _ _).trans (teq (own_b0 hc62_16)).2) zk) ?_
      show own_G p e below s _ _ _ (T15.setTop (mkF m 65 #[.val (.int ag), .val (.int yo), .val (.int pa), .val (.int py), .val (.int d1), .val (.int d2), .val (.ref b1), .val (.int (own_b (¬ (ag < ag) ∧ ¬ (yo < yo)))), .val (.int (1 : Int32)), .unset, .unset, .unset, .unset] []))
      refine own_st (fun zt zk => XS.iconst X15.here hx rfl (hb hby at_65) zk) ?_
      show own_G p e below s _ _ _ (T15.setTop (mkF m 66 #[.val (.int ag), .val (.int yo), .val (.int pa), .val (.int py), .val (.int d1), .val (.int d2), .val (.ref b1), .val (.int (own_b (¬ (ag < ag) ∧ ¬ (yo < yo)))), .val (.int (1 : Int32)), .unset, .unset, .unset, .unset] [(.int (1 : Int32))]))
      refine own_st (fun zt zk => XS.goto X15.here hx rfl (pc0 := 66) (pc' := 70) rfl (hb hby at_66) (by decide) (by decide) zk) ?_
      show own_G p e below s _ _ _ (T15.setTop (mkF m 70 #[.val (.int ag), .val (.int yo), .val (.int pa), .val (.int py), .val (.int d1), .val (.int d2), .val (.ref b1), .val (.int (own_b (¬ (ag < ag) ∧ ¬ (yo < yo)))), .val (.int (1 : Int32)), .unset, .unset, .unset, .unset] [(.int (1 : Int32))]))
      refine own_st (fun zt zk => XS.istore X15.here hx rfl (hb hby at_70) rfl (l' := #[.val (.int ag), .val (.int yo), .val (.int pa), .val (.int py), .val (.int d1), .val (.int d2), .val (.ref b1), .val (.int (own_b (¬ (ag < ag) ∧ ¬ (yo < yo)))), .val (.int (1 : Int32)), .val (.int (1 : Int32)), .unset, .unset, .unset]) rfl zk) ?_
      show own_G p e below s _ _ _ (T15.setTop (mkF m 72 #[.val (.int ag), .val (.int yo), .val (.int pa), .val (.int py), .val (.int d1), .val (.int d2), .val (.ref b1), .val (.int (own_b (¬ (ag < ag) ∧ ¬ (yo < yo)))), .val (.int (1 : Int32)), .val (.int (1 : Int32)), .unset, .unset, .unset] []))
      refine own_st (fun zt zk => XS.iloadN X15.here hx rfl (hb hby at_72) rfl zk) ?_
      show own_G p e below s _ _ _ (T15.setTop (mkF m 73 #[.val (.int ag), .val (.int yo), .val (.int pa), .val (.int py), .val (.int d1), .val (.int d2), .val (.ref b1), .val (.int (own_b (¬ (ag < ag) ∧ ¬ (yo < yo)))), .val (.int (1 : Int32)), .val (.int (1 : Int32)), .unset, .unset, .unset] [(.int pa)]))
      refine own_st (fun zt zk => XS.iload X15.here hx rfl (hb hby at_73) rfl zk) ?_
      show own_G p e below s _ _ _ (T15.setTop (mkF m 75 #[.val (.int ag), .val (.int yo), .val (.int pa), .val (.int py), .val (.int d1), .val (.int d2), .val (.ref b1), .val (.int (own_b (¬ (ag < ag) ∧ ¬ (yo < yo)))), .val (.int (1 : Int32)), .val (.int (1 : Int32)), .unset, .unset, .unset] [(.int d1), (.int pa)]))
      obtain ⟨_, T17, L17, X17, hQ17, st17⟩ := own_callS X15 hx hZ (y := (⟨"com/example/deferral_ledger/deferralledger/model/RetirementAgeIsMetByPinLaw", "raise", "(II)I"⟩ : MethodName)) (argsL := [(.int pa), (.int d1)]) (rest := []) 0 hown (hw _ (List.mem_of_getElem? (i := 20) rfl)) (hw _ (List.mem_of_getElem? (i := 21) rfl)) (hw _ (List.mem_of_getElem? (i := 22) rfl)) (hw _ (List.mem_of_getElem? (i := 23) rfl)) (by decide) (own_rai l Z a0 hw [] pa d1 T2.heap n0 (Nat.le_trans (Nat.le_trans Z0 E1.1) K2.1) ) (by decide) (by decide) e15 (g := (mkF m 75 #[.val (.int ag), .val (.int yo), .val (.int pa), .val (.int py), .val (.int d1), .val (.int d2), .val (.ref b1), .val (.int (own_b (¬ (ag < ag) ∧ ¬ (yo < yo)))), .val (.int (1 : Int32)), .val (.int (1 : Int32)), .unset, .unset, .unset] [(.int d1), (.int pa)])) rfl (by rw [hml]; rfl) own_pd3 rfl rfl (by show 2 * 0 + _ ≤ _; exact Nat.le_of_eq rfl) (hb hby at_75) (by decide) (by decide)
      obtain ⟨rfl, N17q, e17⟩ := hQ17
      have N17 := Fr.app N15 N17q
      refine own_st st17 ?_
      show own_G p e below s _ _ _ (T17.setTop (mkF m 78 #[.val (.int ag), .val (.int yo), .val (.int pa), .val (.int py), .val (.int d1), .val (.int d2), .val (.ref b1), .val (.int (own_b (¬ (ag < ag) ∧ ¬ (yo < yo)))), .val (.int (1 : Int32)), .val (.int (1 : Int32)), .unset, .unset, .unset] [(.int (own_raise pa d1))]))
      refine own_st (fun zt zk => XS.istore X17.here hx rfl (hb hby at_78) rfl (l' := #[.val (.int ag), .val (.int yo), .val (.int pa), .val (.int py), .val (.int d1), .val (.int d2), .val (.ref b1), .val (.int (own_b (¬ (ag < ag) ∧ ¬ (yo < yo)))), .val (.int (1 : Int32)), .val (.int (1 : Int32)), .val (.int (own_raise pa d1)), .unset, .unset]) rfl zk) ?_
      show own_G p e below s _ _ _ (T17.setTop (mkF m 80 #[.val (.int ag), .val (.int yo), .val (.int pa), .val (.int py), .val (.int d1), .val (.int d2), .val (.ref b1), .val (.int (own_b (¬ (ag < ag) ∧ ¬ (yo < yo)))), .val (.int (1 : Int32)), .val (.int (1 : Int32)), .val (.int (own_raise pa d1)), .unset, .unset] []))
      refine own_st (fun zt zk => XS.iloadN X17.here hx rfl (hb hby at_80) rfl zk) ?_
      show own_G p e below s _ _ _ (T17.setTop (mkF m 81 #[.val (.int ag), .val (.int yo), .val (.int pa), .val (.int py), .val (.int d1), .val (.int d2), .val (.ref b1), .val (.int (own_b (¬ (ag < ag) ∧ ¬ (yo < yo)))), .val (.int (1 : Int32)), .val (.int (1 : Int32)), .val (.int (own_raise pa d1)), .unset, .unset] [(.int py)]))
      refine own_st (fun zt zk => XS.iload X17.here hx rfl (hb hby at_81) rfl zk) ?_
      show own_G p e below s _ _ _ (T17.setTop (mkF m 83 #[.val (.int ag), .val (.int yo), .val (.int pa), .val (.int py), .val (.int d1), .val (.int d2), .val (.ref b1), .val (.int (own_b (¬ (ag < ag) ∧ ¬ (yo < yo)))), .val (.int (1 : Int32)), .val (.int (1 : Int32)), .val (.int (own_raise pa d1)), .unset, .unset] [(.int d2), (.int py)]))
      obtain ⟨_, T18, L18, X18, hQ18, st18⟩ := own_callS X17 hx hZ (y := (⟨"com/example/deferral_ledger/deferralledger/model/RetirementAgeIsMetByPinLaw", "raise", "(II)I"⟩ : MethodName)) (argsL := [(.int py), (.int d2)]) (rest := []) 0 hown (hw _ (List.mem_of_getElem? (i := 20) rfl)) (hw _ (List.mem_of_getElem? (i := 21) rfl)) (hw _ (List.mem_of_getElem? (i := 22) rfl)) (hw _ (List.mem_of_getElem? (i := 23) rfl)) (by decide) (own_rai l Z a0 hw [] py d2 T2.heap n0 (Nat.le_trans (Nat.le_trans Z0 E1.1) K2.1) ) (by decide) (by decide) e17 (g := (mkF m 83 #[.val (.int ag), .val (.int yo), .val (.int pa), .val (.int py), .val (.int d1), .val (.int d2), .val (.ref b1), .val (.int (own_b (¬ (ag < ag) ∧ ¬ (yo < yo)))), .val (.int (1 : Int32)), .val (.int (1 : Int32)), .val (.int (own_raise pa d1)), .unset, .unset] [(.int d2), (.int py)])) rfl (by rw [hml]; rfl) own_pd3 rfl rfl (by show 2 * 0 + _ ≤ _; exact Nat.le_of_eq rfl) (hb hby at_83) (by decide) (by decide)
      obtain ⟨rfl, N18q, e18⟩ := hQ18
      have N18 := Fr.app N17 N18q
      refine own_st st18 ?_
      show own_G p e below s _ _ _ (T18.setTop (mkF m 86 #[.val (.int ag), .val (.int yo), .val (.int pa), .val (.int py), .val (.int d1), .val (.int d2), .val (.ref b1), .val (.int (own_b (¬ (ag < ag) ∧ ¬ (yo < yo)))), .val (.int (1 : Int32)), .val (.int (1 : Int32)), .val (.int (own_raise pa d1)), .unset, .unset] [(.int (own_raise py d2))]))
      refine own_st (fun zt zk => XS.istore X18.here hx rfl (hb hby at_86) rfl (l' := #[.val (.int ag), .val (.int yo), .val (.int pa), .val (.int py), .val (.int d1), .val (.int d2), .val (.ref b1), .val (.int (own_b (¬ (ag < ag) ∧ ¬ (yo < yo)))), .val (.int (1 : Int32)), .val (.int (1 : Int32)), .val (.int (own_raise pa d1)), .val (.int (own_raise py d2)), .unset]) rfl zk) ?_
      show own_G p e below s _ _ _ (T18.setTop (mkF m 88 #[.val (.int ag), .val (.int yo), .val (.int pa), .val (.int py), .val (.int d1), .val (.int d2), .val (.ref b1), .val (.int (own_b (¬ (ag < ag) ∧ ¬ (yo < yo)))), .val (.int (1 : Int32)), .val (.int (1 : Int32)), .val (.int (own_raise pa d1)), .val (.int (own_raise py d2)), .unset] []))
      refine own_st (fun zt zk => XS.aload X18.here hx rfl (hb hby at_88) rfl rfl zk) ?_
      show own_G p e below s _ _ _ (T18.setTop (mkF m 90 #[.val (.int ag), .val (.int yo), .val (.int pa), .val (.int py), .val (.int d1), .val (.int d2), .val (.ref b1), .val (.int (own_b (¬ (ag < ag) ∧ ¬ (yo < yo)))), .val (.int (1 : Int32)), .val (.int (1 : Int32)), .val (.int (own_raise pa d1)), .val (.int (own_raise py d2)), .unset] [(.ref b1)]))
      refine own_st (fun zt zk => XS.iloadN X18.here hx rfl (hb hby at_90) rfl zk) ?_
      show own_G p e below s _ _ _ (T18.setTop (mkF m 91 #[.val (.int ag), .val (.int yo), .val (.int pa), .val (.int py), .val (.int d1), .val (.int d2), .val (.ref b1), .val (.int (own_b (¬ (ag < ag) ∧ ¬ (yo < yo)))), .val (.int (1 : Int32)), .val (.int (1 : Int32)), .val (.int (own_raise pa d1)), .val (.int (own_raise py d2)), .unset] [(.int pa), (.ref b1)]))
      refine own_st (fun zt zk => XS.iloadN X18.here hx rfl (hb hby at_91) rfl zk) ?_
      show own_G p e below s _ _ _ (T18.setTop (mkF m 92 #[.val (.int ag), .val (.int yo), .val (.int pa), .val (.int py), .val (.int d1), .val (.int d2), .val (.ref b1), .val (.int (own_b (¬ (ag < ag) ∧ ¬ (yo < yo)))), .val (.int (1 : Int32)), .val (.int (1 : Int32)), .val (.int (own_raise pa d1)), .val (.int (own_raise py d2)), .unset] [(.int py), (.int pa), (.ref b1)]))
      obtain ⟨_, T19, L19, X19, hQ19, st19⟩ := own_callV X18 hx hZ (C := "com/example/deferral_ledger/deferralledger/model/RetirementAge") (y := (⟨"com/example/deferral_ledger/deferralledger/model/RetirementAge", "isMetBy", "(II)Z"⟩ : MethodName)) (z := (⟨"com/example/deferral_ledger/deferralledger/model/RetirementAge", "isMetBy", "(II)Z"⟩ : MethodName)) (a := b1) (argsL := [(.int pa), (.int py)]) (rest := []) 0 hown (hw _ (List.mem_of_getElem? (i := 13) rfl)) (hw _ (List.mem_of_getElem? (i := 14) rfl)) (own_nf hZ (hw _ (List.mem_of_getElem? (i := 16) rfl))) (hw _ (List.mem_of_getElem? (i := 16) rfl)) (hw _ (List.mem_of_getElem? (i := 15) rfl)) (hw _ (List.mem_of_getElem? (i := 2) rfl)) (hw _ (List.mem_of_getElem? (i := 17) rfl)) (by decide) (own_isMet l Z a0 hw [] b1 pa py ag yo T2.heap n0 (Nat.le_trans (Nat.le_trans Z0 E1.1) K2.1) q2_0 q2_1) (by decide) (by decide) e18 E4 (g := (mkF m 92 #[.val (.int ag), .val (.int yo), .val (.int pa), .val (.int py), .val (.int d1), .val (.int d2), .val (.ref b1), .val (.int (own_b (¬ (ag < ag) ∧ ¬ (yo < yo)))), .val (.int (1 : Int32)), .val (.int (1 : Int32)), .val (.int (own_raise pa d1)), .val (.int (own_raise py d2)), .unset] [(.int py), (.int pa), (.ref b1)])) rfl (by rw [hml]; rfl) own_pd2 rfl rfl (by show 2 * 0 + _ ≤ _; exact Nat.le_of_eq rfl) (hb hby at_92) (by decide) (by decide)
      obtain ⟨rfl, N19q, e19⟩ := hQ19
      have N19 := Fr.app N18 N19q
      refine own_st st19 ?_
      show own_G p e below s _ _ _ (T19.setTop (mkF m 95 #[.val (.int ag), .val (.int yo), .val (.int pa), .val (.int py), .val (.int d1), .val (.int d2), .val (.ref b1), .val (.int (own_b (¬ (ag < ag) ∧ ¬ (yo < yo)))), .val (.int (1 : Int32)), .val (.int (1 : Int32)), .val (.int (own_raise pa d1)), .val (.int (own_raise py d2)), .unset] [(.int (own_b (¬ (pa < ag) ∧ ¬ (py < yo))))]))
      by_cases hc95_20 : (¬ (pa < ag) ∧ ¬ (py < yo))
      · refine own_st (fun zt zk => XS.ifNo X19.here hx rfl (hb hby at_95) rfl ((if0 _ _).trans (feq (own_bn hc95_20)).1) zk) ?_
        show own_G p e below s _ _ _ (T19.setTop (mkF m 98 #[.val (.int ag), .val (.int yo), .val (.int pa), .val (.int py), .val (.int d1), .val (.int d2), .val (.ref b1), .val (.int (own_b (¬ (ag < ag) ∧ ¬ (yo < yo)))), .val (.int (1 : Int32)), .val (.int (1 : Int32)), .val (.int (own_raise pa d1)), .val (.int (own_raise py d2)), .unset] []))
        refine own_st (fun zt zk => XS.aload X19.here hx rfl (hb hby at_98) rfl rfl zk) ?_
        show own_G p e below s _ _ _ (T19.setTop (mkF m 100 #[.val (.int ag), .val (.int yo), .val (.int pa), .val (.int py), .val (.int d1), .val (.int d2), .val (.ref b1), .val (.int (own_b (¬ (ag < ag) ∧ ¬ (yo < yo)))), .val (.int (1 : Int32)), .val (.int (1 : Int32)), .val (.int (own_raise pa d1)), .val (.int (own_raise py d2)), .unset] [(.ref b1)]))
        refine own_st (fun zt zk => XS.iload X19.here hx rfl (hb hby at_100) rfl zk) ?_
        show own_G p e below s _ _ _ (T19.setTop (mkF m 102 #[.val (.int ag), .val (.int yo), .val (.int pa), .val (.int py), .val (.int d1), .val (.int d2), .val (.ref b1), .val (.int (own_b (¬ (ag < ag) ∧ ¬ (yo < yo)))), .val (.int (1 : Int32)), .val (.int (1 : Int32)), .val (.int (own_raise pa d1)), .val (.int (own_raise py d2)), .unset] [(.int (own_raise pa d1)), (.ref b1)]))
        refine own_st (fun zt zk => XS.iload X19.here hx rfl (hb hby at_102) rfl zk) ?_
        show own_G p e below s _ _ _ (T19.setTop (mkF m 104 #[.val (.int ag), .val (.int yo), .val (.int pa), .val (.int py), .val (.int d1), .val (.int d2), .val (.ref b1), .val (.int (own_b (¬ (ag < ag) ∧ ¬ (yo < yo)))), .val (.int (1 : Int32)), .val (.int (1 : Int32)), .val (.int (own_raise pa d1)), .val (.int (own_raise py d2)), .unset] [(.int (own_raise py d2)), (.int (own_raise pa d1)), (.ref b1)]))
        obtain ⟨_, T21, L21, X21, hQ21, st21⟩ := own_callV X19 hx hZ (C := "com/example/deferral_ledger/deferralledger/model/RetirementAge") (y := (⟨"com/example/deferral_ledger/deferralledger/model/RetirementAge", "isMetBy", "(II)Z"⟩ : MethodName)) (z := (⟨"com/example/deferral_ledger/deferralledger/model/RetirementAge", "isMetBy", "(II)Z"⟩ : MethodName)) (a := b1) (argsL := [(.int (own_raise pa d1)), (.int (own_raise py d2))]) (rest := []) 0 hown (hw _ (List.mem_of_getElem? (i := 13) rfl)) (hw _ (List.mem_of_getElem? (i := 14) rfl)) (own_nf hZ (hw _ (List.mem_of_getElem? (i := 16) rfl))) (hw _ (List.mem_of_getElem? (i := 16) rfl)) (hw _ (List.mem_of_getElem? (i := 15) rfl)) (hw _ (List.mem_of_getElem? (i := 2) rfl)) (hw _ (List.mem_of_getElem? (i := 17) rfl)) (by decide) (own_isMet l Z a0 hw [] b1 (own_raise pa d1) (own_raise py d2) ag yo T2.heap n0 (Nat.le_trans (Nat.le_trans Z0 E1.1) K2.1) q2_0 q2_1) (by decide) (by decide) e19 E4 (g := (mkF m 104 #[.val (.int ag), .val (.int yo), .val (.int pa), .val (.int py), .val (.int d1), .val (.int d2), .val (.ref b1), .val (.int (own_b (¬ (ag < ag) ∧ ¬ (yo < yo)))), .val (.int (1 : Int32)), .val (.int (1 : Int32)), .val (.int (own_raise pa d1)), .val (.int (own_raise py d2)), .unset] [(.int (own_raise py d2)), (.int (own_raise pa d1)), (.ref b1)])) rfl (by rw [hml]; rfl) own_pd2 rfl rfl (by show 2 * 0 + _ ≤ _; exact Nat.le_of_eq rfl) (hb hby at_104) (by decide) (by decide)
        obtain ⟨rfl, N21q, e21⟩ := hQ21
        have N21 := Fr.app N19 N21q
        refine own_st st21 ?_
        show own_G p e below s _ _ _ (T21.setTop (mkF m 107 #[.val (.int ag), .val (.int yo), .val (.int pa), .val (.int py), .val (.int d1), .val (.int d2), .val (.ref b1), .val (.int (own_b (¬ (ag < ag) ∧ ¬ (yo < yo)))), .val (.int (1 : Int32)), .val (.int (1 : Int32)), .val (.int (own_raise pa d1)), .val (.int (own_raise py d2)), .unset] [(.int (own_b (¬ ((own_raise pa d1) < ag) ∧ ¬ ((own_raise py d2) < yo))))]))
        have hc107_22 : (¬ ((own_raise pa d1) < ag) ∧ ¬ ((own_raise py d2) < yo)) := (by
              have i1 : (1 : Int32).toInt = 1 := by decide
              have i2 : (-2147483648 : Int32).toInt = -2147483648 := by decide
              have i3 : (2147483647 : Int32).toInt = 2147483647 := by decide
              have a1 := c_isub ag 1
              have a2 := c_isub yo 1
              have r1 := rng32 ag
              have r2 := rng32 yo
              have r3 := rng32 (ag - 1)
              have r4 := rng32 (yo - 1)
              have r5 := own_raised pa d1
              have r6 := own_raised py d2
              simp only [Int32.lt_iff_toInt_lt, ← Int32.toInt_inj] at hc95_20 ⊢
              omega)
        refine own_st (fun zt zk => XS.ifNo X21.here hx rfl (hb hby at_107) rfl ((if0 _ _).trans (feq (own_bn hc107_22)).1) zk) ?_
        show own_G p e below s _ _ _ (T21.setTop (mkF m 110 #[.val (.int ag), .val (.int yo), .val (.int pa), .val (.int py), .val (.int d1), .val (.int d2), .val (.ref b1), .val (.int (own_b (¬ (ag < ag) ∧ ¬ (yo < yo)))), .val (.int (1 : Int32)), .val (.int (1 : Int32)), .val (.int (own_raise pa d1)), .val (.int (own_raise py d2)), .unset] []))
        refine own_st (fun zt zk => XS.iconst X21.here hx rfl (hb hby at_110) zk) ?_
        show own_G p e below s _ _ _ (T21.setTop (mkF m 111 #[.val (.int ag), .val (.int yo), .val (.int pa), .val (.int py), .val (.int d1), .val (.int d2), .val (.ref b1), .val (.int (own_b (¬ (ag < ag) ∧ ¬ (yo < yo)))), .val (.int (1 : Int32)), .val (.int (1 : Int32)), .val (.int (own_raise pa d1)), .val (.int (own_raise py d2)), .unset] [(.int (1 : Int32))]))
        refine own_st (fun zt zk => XS.goto X21.here hx rfl (pc0 := 111) (pc' := 115) rfl (hb hby at_111) (by decide) (by decide) zk) ?_
        show own_G p e below s _ _ _ (T21.setTop (mkF m 115 #[.val (.int ag), .val (.int yo), .val (.int pa), .val (.int py), .val (.int d1), .val (.int d2), .val (.ref b1), .val (.int (own_b (¬ (ag < ag) ∧ ¬ (yo < yo)))), .val (.int (1 : Int32)), .val (.int (1 : Int32)), .val (.int (own_raise pa d1)), .val (.int (own_raise py d2)), .unset] [(.int (1 : Int32))]))
        refine own_st (fun zt zk => XS.istore X21.here hx rfl (hb hby at_115) rfl (l' := #[.val (.int ag), .val (.int yo), .val (.int pa), .val (.int py), .val (.int d1), .val (.int d2), .val (.ref b1), .val (.int (own_b (¬ (ag < ag) ∧ ¬ (yo < yo)))), .val (.int (1 : Int32)), .val (.int (1 : Int32)), .val (.int (own_raise pa d1)), .val (.int (own_raise py d2)), .val (.int (1 : Int32))]) rfl zk) ?_
        show own_G p e below s _ _ _ (T21.setTop (mkF m 117 #[.val (.int ag), .val (.int yo), .val (.int pa), .val (.int py), .val (.int d1), .val (.int d2), .val (.ref b1), .val (.int (own_b (¬ (ag < ag) ∧ ¬ (yo < yo)))), .val (.int (1 : Int32)), .val (.int (1 : Int32)), .val (.int (own_raise pa d1)), .val (.int (own_raise py d2)), .val (.int (1 : Int32))] []))
        refine own_st (fun zt zk => XS.iload X21.here hx rfl (hb hby at_117) rfl zk) ?_
        show own_G p e below s _ _ _ (T21.setTop (mkF m 119 #[.val (.int ag), .val (.int yo), .val (.int pa), .val (.int py), .val (.int d1), .val (.int d2), .val (.ref b1), .val (.int (own_b (¬ (ag < ag) ∧ ¬ (yo < yo)))), .val (.int (1 : Int32)), .val (.int (1 : Int32)), .val (.int (own_raise pa d1)), .val (.int (own_raise py d2)), .val (.int (1 : Int32))] [(.int (own_b (¬ (ag < ag) ∧ ¬ (yo < yo))))]))
        have hc119_23 : (¬ (ag < ag) ∧ ¬ (yo < yo)) := ⟨Int32.lt_irrefl, Int32.lt_irrefl⟩
        refine own_st (fun zt zk => XS.ifNo X21.here hx rfl (hb hby at_119) rfl ((if0 _ _).trans (feq (own_bn hc119_23)).1) zk) ?_
        show own_G p e below s _ _ _ (T21.setTop (mkF m 122 #[.val (.int ag), .val (.int yo), .val (.int pa), .val (.int py), .val (.int d1), .val (.int d2), .val (.ref b1), .val (.int (own_b (¬ (ag < ag) ∧ ¬ (yo < yo)))), .val (.int (1 : Int32)), .val (.int (1 : Int32)), .val (.int (own_raise pa d1)), .val (.int (own_raise py d2)), .val (.int (1 : Int32))] []))
        refine own_st (fun zt zk => XS.iload X21.here hx rfl (hb hby at_122) rfl zk) ?_
        show own_G p e below s _ _ _ (T21.setTop (mkF m 124 #[.val (.int ag), .val (.int yo), .val (.int pa), .val (.int py), .val (.int d1), .val (.int d2), .val (.ref b1), .val (.int (own_b (¬ (ag < ag) ∧ ¬ (yo < yo)))), .val (.int (1 : Int32)), .val (.int (1 : Int32)), .val (.int (own_raise pa d1)), .val (.int (own_raise py d2)), .val (.int (1 : Int32))] [(.int (1 : Int32))]))
        refine own_st (fun zt zk => XS.ifNo X21.here hx rfl (hb hby at_124) rfl ((if0 _ _).trans (feq (by decide : ¬ ((1 : Int32) = (0 : Int32)))).1) zk) ?_
        show own_G p e below s _ _ _ (T21.setTop (mkF m 127 #[.val (.int ag), .val (.int yo), .val (.int pa), .val (.int py), .val (.int d1), .val (.int d2), .val (.ref b1), .val (.int (own_b (¬ (ag < ag) ∧ ¬ (yo < yo)))), .val (.int (1 : Int32)), .val (.int (1 : Int32)), .val (.int (own_raise pa d1)), .val (.int (own_raise py d2)), .val (.int (1 : Int32))] []))
        refine own_st (fun zt zk => XS.iload X21.here hx rfl (hb hby at_127) rfl zk) ?_
        show own_G p e below s _ _ _ (T21.setTop (mkF m 129 #[.val (.int ag), .val (.int yo), .val (.int pa), .val (.int py), .val (.int d1), .val (.int d2), .val (.ref b1), .val (.int (own_b (¬ (ag < ag) ∧ ¬ (yo < yo)))), .val (.int (1 : Int32)), .val (.int (1 : Int32)), .val (.int (own_raise pa d1)), .val (.int (own_raise py d2)), .val (.int (1 : Int32))] [(.int (1 : Int32))]))
        refine own_st (fun zt zk => XS.ifNo X21.here hx rfl (hb hby at_129) rfl ((if0 _ _).trans (feq (by decide : ¬ ((1 : Int32) = (0 : Int32)))).1) zk) ?_
        show own_G p e below s _ _ _ (T21.setTop (mkF m 132 #[.val (.int ag), .val (.int yo), .val (.int pa), .val (.int py), .val (.int d1), .val (.int d2), .val (.ref b1), .val (.int (own_b (¬ (ag < ag) ∧ ¬ (yo < yo)))), .val (.int (1 : Int32)), .val (.int (1 : Int32)), .val (.int (own_raise pa d1)), .val (.int (own_raise py d2)), .val (.int (1 : Int32))] []))
        refine own_st (fun zt zk => XS.iload X21.here hx rfl (hb hby at_132) rfl zk) ?_
        show own_G p e below s _ _ _ (T21.setTop (mkF m 134 #[.val (.int ag), .val (.int yo), .val (.int pa), .val (.int py), .val (.int d1), .val (.int d2), .val (.ref b1), .val (.int (own_b (¬ (ag < ag) ∧ ¬ (yo < yo)))), .val (.int (1 : Int32)), .val (.int (1 : Int32)), .val (.int (own_raise pa d1)), .val (.int (own_raise py d2)), .val (.int (1 : Int32))] [(.int (1 : Int32))]))
        refine own_st (fun zt zk => XS.ifNo X21.here hx rfl (hb hby at_134) rfl ((if0 _ _).trans (feq (by decide : ¬ ((1 : Int32) = (0 : Int32)))).1) zk) ?_
        show own_G p e below s _ _ _ (T21.setTop (mkF m 137 #[.val (.int ag), .val (.int yo), .val (.int pa), .val (.int py), .val (.int d1), .val (.int d2), .val (.ref b1), .val (.int (own_b (¬ (ag < ag) ∧ ¬ (yo < yo)))), .val (.int (1 : Int32)), .val (.int (1 : Int32)), .val (.int (own_raise pa d1)), .val (.int (own_raise py d2)), .val (.int (1 : Int32))] []))
        refine own_st (fun zt zk => XS.iconst X21.here hx rfl (hb hby at_137) zk) ?_
        show own_G p e below s _ _ _ (T21.setTop (mkF m 138 #[.val (.int ag), .val (.int yo), .val (.int pa), .val (.int py), .val (.int d1), .val (.int d2), .val (.ref b1), .val (.int (own_b (¬ (ag < ag) ∧ ¬ (yo < yo)))), .val (.int (1 : Int32)), .val (.int (1 : Int32)), .val (.int (own_raise pa d1)), .val (.int (own_raise py d2)), .val (.int (1 : Int32))] [(.int (1 : Int32))]))
        refine own_st (fun zt zk => XS.goto X21.here hx rfl (pc0 := 138) (pc' := 142) rfl (hb hby at_138) (by decide) (by decide) zk) ?_
        show own_G p e below s _ _ _ (T21.setTop (mkF m 142 #[.val (.int ag), .val (.int yo), .val (.int pa), .val (.int py), .val (.int d1), .val (.int d2), .val (.ref b1), .val (.int (own_b (¬ (ag < ag) ∧ ¬ (yo < yo)))), .val (.int (1 : Int32)), .val (.int (1 : Int32)), .val (.int (own_raise pa d1)), .val (.int (own_raise py d2)), .val (.int (1 : Int32))] [(.int (1 : Int32))]))
        refine own_retZ X21 hx hlk hret (by decide) (hb hby at_142) (by decide) (by decide) ?_
        show Q_own_law Z ag yo pa py d1 d2 h0 n0 (some (.int (1 : Int32))) T21.heap _
        rw [e21]
        exact ⟨rfl, N21⟩
      · refine own_st (fun zt zk => XS.ifYes X19.here hx rfl (pc0 := 95) (pc' := 110) rfl (hb hby at_95) rfl ((if0 _ _).trans (teq (own_b0 hc95_20)).1) (by decide) (by decide) zk) ?_
        show own_G p e below s _ _ _ (T19.setTop (mkF m 110 #[.val (.int ag), .val (.int yo), .val (.int pa), .val (.int py), .val (.int d1), .val (.int d2), .val (.ref b1), .val (.int (own_b (¬ (ag < ag) ∧ ¬ (yo < yo)))), .val (.int (1 : Int32)), .val (.int (1 : Int32)), .val (.int (own_raise pa d1)), .val (.int (own_raise py d2)), .unset] []))
        refine own_st (fun zt zk => XS.iconst X19.here hx rfl (hb hby at_110) zk) ?_
        show own_G p e below s _ _ _ (T19.setTop (mkF m 111 #[.val (.int ag), .val (.int yo), .val (.int pa), .val (.int py), .val (.int d1), .val (.int d2), .val (.ref b1), .val (.int (own_b (¬ (ag < ag) ∧ ¬ (yo < yo)))), .val (.int (1 : Int32)), .val (.int (1 : Int32)), .val (.int (own_raise pa d1)), .val (.int (own_raise py d2)), .unset] [(.int (1 : Int32))]))
        refine own_st (fun zt zk => XS.goto X19.here hx rfl (pc0 := 111) (pc' := 115) rfl (hb hby at_111) (by decide) (by decide) zk) ?_
        show own_G p e below s _ _ _ (T19.setTop (mkF m 115 #[.val (.int ag), .val (.int yo), .val (.int pa), .val (.int py), .val (.int d1), .val (.int d2), .val (.ref b1), .val (.int (own_b (¬ (ag < ag) ∧ ¬ (yo < yo)))), .val (.int (1 : Int32)), .val (.int (1 : Int32)), .val (.int (own_raise pa d1)), .val (.int (own_raise py d2)), .unset] [(.int (1 : Int32))]))
        refine own_st (fun zt zk => XS.istore X19.here hx rfl (hb hby at_115) rfl (l' := #[.val (.int ag), .val (.int yo), .val (.int pa), .val (.int py), .val (.int d1), .val (.int d2), .val (.ref b1), .val (.int (own_b (¬ (ag < ag) ∧ ¬ (yo < yo)))), .val (.int (1 : Int32)), .val (.int (1 : Int32)), .val (.int (own_raise pa d1)), .val (.int (own_raise py d2)), .val (.int (1 : Int32))]) rfl zk) ?_
        show own_G p e below s _ _ _ (T19.setTop (mkF m 117 #[.val (.int ag), .val (.int yo), .val (.int pa), .val (.int py), .val (.int d1), .val (.int d2), .val (.ref b1), .val (.int (own_b (¬ (ag < ag) ∧ ¬ (yo < yo)))), .val (.int (1 : Int32)), .val (.int (1 : Int32)), .val (.int (own_raise pa d1)), .val (.int (own_raise py d2)), .val (.int (1 : Int32))] []))
        refine own_st (fun zt zk => XS.iload X19.here hx rfl (hb hby at_117) rfl zk) ?_
        show own_G p e below s _ _ _ (T19.setTop (mkF m 119 #[.val (.int ag), .val (.int yo), .val (.int pa), .val (.int py), .val (.int d1), .val (.int d2), .val (.ref b1), .val (.int (own_b (¬ (ag < ag) ∧ ¬ (yo < yo)))), .val (.int (1 : Int32)), .val (.int (1 : Int32)), .val (.int (own_raise pa d1)), .val (.int (own_raise py d2)), .val (.int (1 : Int32))] [(.int (own_b (¬ (ag < ag) ∧ ¬ (yo < yo))))]))
        have hc119_24 : (¬ (ag < ag) ∧ ¬ (yo < yo)) := ⟨Int32.lt_irrefl, Int32.lt_irrefl⟩
        refine own_st (fun zt zk => XS.ifNo X19.here hx rfl (hb hby at_119) rfl ((if0 _ _).trans (feq (own_bn hc119_24)).1) zk) ?_
        show own_G p e below s _ _ _ (T19.setTop (mkF m 122 #[.val (.int ag), .val (.int yo), .val (.int pa), .val (.int py), .val (.int d1), .val (.int d2), .val (.ref b1), .val (.int (own_b (¬ (ag < ag) ∧ ¬ (yo < yo)))), .val (.int (1 : Int32)), .val (.int (1 : Int32)), .val (.int (own_raise pa d1)), .val (.int (own_raise py d2)), .val (.int (1 : Int32))] []))
        refine own_st (fun zt zk => XS.iload X19.here hx rfl (hb hby at_122) rfl zk) ?_
        show own_G p e below s _ _ _ (T19.setTop (mkF m 124 #[.val (.int ag), .val (.int yo), .val (.int pa), .val (.int py), .val (.int d1), .val (.int d2), .val (.ref b1), .val (.int (own_b (¬ (ag < ag) ∧ ¬ (yo < yo)))), .val (.int (1 : Int32)), .val (.int (1 : Int32)), .val (.int (own_raise pa d1)), .val (.int (own_raise py d2)), .val (.int (1 : Int32))] [(.int (1 : Int32))]))
        refine own_st (fun zt zk => XS.ifNo X19.here hx rfl (hb hby at_124) rfl ((if0 _ _).trans (feq (by decide : ¬ ((1 : Int32) = (0 : Int32)))).1) zk) ?_
        show own_G p e below s _ _ _ (T19.setTop (mkF m 127 #[.val (.int ag), .val (.int yo), .val (.int pa), .val (.int py), .val (.int d1), .val (.int d2), .val (.ref b1), .val (.int (own_b (¬ (ag < ag) ∧ ¬ (yo < yo)))), .val (.int (1 : Int32)), .val (.int (1 : Int32)), .val (.int (own_raise pa d1)), .val (.int (own_raise py d2)), .val (.int (1 : Int32))] []))
        refine own_st (fun zt zk => XS.iload X19.here hx rfl (hb hby at_127) rfl zk) ?_
        show own_G p e below s _ _ _ (T19.setTop (mkF m 129 #[.val (.int ag), .val (.int yo), .val (.int pa), .val (.int py), .val (.int d1), .val (.int d2), .val (.ref b1), .val (.int (own_b (¬ (ag < ag) ∧ ¬ (yo < yo)))), .val (.int (1 : Int32)), .val (.int (1 : Int32)), .val (.int (own_raise pa d1)), .val (.int (own_raise py d2)), .val (.int (1 : Int32))] [(.int (1 : Int32))]))
        refine own_st (fun zt zk => XS.ifNo X19.here hx rfl (hb hby at_129) rfl ((if0 _ _).trans (feq (by decide : ¬ ((1 : Int32) = (0 : Int32)))).1) zk) ?_
        show own_G p e below s _ _ _ (T19.setTop (mkF m 132 #[.val (.int ag), .val (.int yo), .val (.int pa), .val (.int py), .val (.int d1), .val (.int d2), .val (.ref b1), .val (.int (own_b (¬ (ag < ag) ∧ ¬ (yo < yo)))), .val (.int (1 : Int32)), .val (.int (1 : Int32)), .val (.int (own_raise pa d1)), .val (.int (own_raise py d2)), .val (.int (1 : Int32))] []))
        refine own_st (fun zt zk => XS.iload X19.here hx rfl (hb hby at_132) rfl zk) ?_
        show own_G p e below s _ _ _ (T19.setTop (mkF m 134 #[.val (.int ag), .val (.int yo), .val (.int pa), .val (.int py), .val (.int d1), .val (.int d2), .val (.ref b1), .val (.int (own_b (¬ (ag < ag) ∧ ¬ (yo < yo)))), .val (.int (1 : Int32)), .val (.int (1 : Int32)), .val (.int (own_raise pa d1)), .val (.int (own_raise py d2)), .val (.int (1 : Int32))] [(.int (1 : Int32))]))
        refine own_st (fun zt zk => XS.ifNo X19.here hx rfl (hb hby at_134) rfl ((if0 _ _).trans (feq (by decide : ¬ ((1 : Int32) = (0 : Int32)))).1) zk) ?_
        show own_G p e below s _ _ _ (T19.setTop (mkF m 137 #[.val (.int ag), .val (.int yo), .val (.int pa), .val (.int py), .val (.int d1), .val (.int d2), .val (.ref b1), .val (.int (own_b (¬ (ag < ag) ∧ ¬ (yo < yo)))), .val (.int (1 : Int32)), .val (.int (1 : Int32)), .val (.int (own_raise pa d1)), .val (.int (own_raise py d2)), .val (.int (1 : Int32))] []))
        refine own_st (fun zt zk => XS.iconst X19.here hx rfl (hb hby at_137) zk) ?_
        show own_G p e below s _ _ _ (T19.setTop (mkF m 138 #[.val (.int ag), .val (.int yo), .val (.int pa), .val (.int py), .val (.int d1), .val (.int d2), .val (.ref b1), .val (.int (own_b (¬ (ag < ag) ∧ ¬ (yo < yo)))), .val (.int (1 : Int32)), .val (.int (1 : Int32)), .val (.int (own_raise pa d1)), .val (.int (own_raise py d2)), .val (.int (1 : Int32))] [(.int (1 : Int32))]))
        refine own_st (fun zt zk => XS.goto X19.here hx rfl (pc0 := 138) (pc' := 142) rfl (hb hby at_138) (by decide) (by decide) zk) ?_
        show own_G p e below s _ _ _ (T19.setTop (mkF m 142 #[.val (.int ag), .val (.int yo), .val (.int pa), .val (.int py), .val (.int d1), .val (.int d2), .val (.ref b1), .val (.int (own_b (¬ (ag < ag) ∧ ¬ (yo < yo)))), .val (.int (1 : Int32)), .val (.int (1 : Int32)), .val (.int (own_raise pa d1)), .val (.int (own_raise py d2)), .val (.int (1 : Int32))] [(.int (1 : Int32))]))
        refine own_retZ X19 hx hlk hret (by decide) (hb hby at_142) (by decide) (by decide) ?_
        show Q_own_law Z ag yo pa py d1 d2 h0 n0 (some (.int (1 : Int32))) T19.heap _
        rw [e19]
        exact ⟨rfl, N19⟩
  · refine own_st (fun zt zk => XS.icmpNo X3.here hx rfl (hb hby at_23) rfl (feq hc23_5).1 zk) ?_
    show own_G p e below s _ _ _ (T3.setTop (mkF m 26 #[.val (.int ag), .val (.int yo), .val (.int pa), .val (.int py), .val (.int d1), .val (.int d2), .val (.ref b1), .val (.int (own_b (¬ (ag < ag) ∧ ¬ (yo < yo)))), .unset, .unset, .unset, .unset, .unset] []))
    refine own_st (fun zt zk => XS.aload X3.here hx rfl (hb hby at_26) rfl rfl zk) ?_
    show own_G p e below s _ _ _ (T3.setTop (mkF m 28 #[.val (.int ag), .val (.int yo), .val (.int pa), .val (.int py), .val (.int d1), .val (.int d2), .val (.ref b1), .val (.int (own_b (¬ (ag < ag) ∧ ¬ (yo < yo)))), .unset, .unset, .unset, .unset, .unset] [(.ref b1)]))
    refine own_st (fun zt zk => XS.iloadN X3.here hx rfl (hb hby at_28) rfl zk) ?_
    show own_G p e below s _ _ _ (T3.setTop (mkF m 29 #[.val (.int ag), .val (.int yo), .val (.int pa), .val (.int py), .val (.int d1), .val (.int d2), .val (.ref b1), .val (.int (own_b (¬ (ag < ag) ∧ ¬ (yo < yo)))), .unset, .unset, .unset, .unset, .unset] [(.int ag), (.ref b1)]))
    refine own_st (fun zt zk => XS.iconst X3.here hx rfl (hb hby at_29) zk) ?_
    show own_G p e below s _ _ _ (T3.setTop (mkF m 30 #[.val (.int ag), .val (.int yo), .val (.int pa), .val (.int py), .val (.int d1), .val (.int d2), .val (.ref b1), .val (.int (own_b (¬ (ag < ag) ∧ ¬ (yo < yo)))), .unset, .unset, .unset, .unset, .unset] [(.int (1 : Int32)), (.int ag), (.ref b1)]))
    refine own_st (fun zt zk => XS.isub X3.here hx rfl (hb hby at_30) rfl zk) ?_
    show own_G p e below s _ _ _ (T3.setTop (mkF m 31 #[.val (.int ag), .val (.int yo), .val (.int pa), .val (.int py), .val (.int d1), .val (.int d2), .val (.ref b1), .val (.int (own_b (¬ (ag < ag) ∧ ¬ (yo < yo)))), .unset, .unset, .unset, .unset, .unset] [(.int (ag - (1 : Int32))), (.ref b1)]))
    refine own_st (X3.ldcInt hx hown (mvT hZ (hw _ (List.mem_of_getElem? (i := 19) rfl))) (g := (mkF m 31 #[.val (.int ag), .val (.int yo), .val (.int pa), .val (.int py), .val (.int d1), .val (.int d2), .val (.ref b1), .val (.int (own_b (¬ (ag < ag) ∧ ¬ (yo < yo)))), .unset, .unset, .unset, .unset, .unset] [(.int (ag - (1 : Int32))), (.ref b1)])) rfl (hb hby at_31)) ?_
    show own_G p e below s _ _ _ (T3.setTop (mkF m 33 #[.val (.int ag), .val (.int yo), .val (.int pa), .val (.int py), .val (.int d1), .val (.int d2), .val (.ref b1), .val (.int (own_b (¬ (ag < ag) ∧ ¬ (yo < yo)))), .unset, .unset, .unset, .unset, .unset] [(.int (2147483647 : Int32)), (.int (ag - (1 : Int32))), (.ref b1)]))
    obtain ⟨_, T25, L25, X25, hQ25, st25⟩ := own_callV X3 hx hZ (C := "com/example/deferral_ledger/deferralledger/model/RetirementAge") (y := (⟨"com/example/deferral_ledger/deferralledger/model/RetirementAge", "isMetBy", "(II)Z"⟩ : MethodName)) (z := (⟨"com/example/deferral_ledger/deferralledger/model/RetirementAge", "isMetBy", "(II)Z"⟩ : MethodName)) (a := b1) (argsL := [(.int (ag - (1 : Int32))), (.int (2147483647 : Int32))]) (rest := []) 0 hown (hw _ (List.mem_of_getElem? (i := 13) rfl)) (hw _ (List.mem_of_getElem? (i := 14) rfl)) (own_nf hZ (hw _ (List.mem_of_getElem? (i := 16) rfl))) (hw _ (List.mem_of_getElem? (i := 16) rfl)) (hw _ (List.mem_of_getElem? (i := 15) rfl)) (hw _ (List.mem_of_getElem? (i := 2) rfl)) (hw _ (List.mem_of_getElem? (i := 17) rfl)) (by decide) (own_isMet l Z a0 hw [] b1 (ag - (1 : Int32)) (2147483647 : Int32) ag yo T2.heap n0 (Nat.le_trans (Nat.le_trans Z0 E1.1) K2.1) q2_0 q2_1) (by decide) (by decide) e3 E4 (g := (mkF m 33 #[.val (.int ag), .val (.int yo), .val (.int pa), .val (.int py), .val (.int d1), .val (.int d2), .val (.ref b1), .val (.int (own_b (¬ (ag < ag) ∧ ¬ (yo < yo)))), .unset, .unset, .unset, .unset, .unset] [(.int (2147483647 : Int32)), (.int (ag - (1 : Int32))), (.ref b1)])) rfl (by rw [hml]; rfl) own_pd2 rfl rfl (by show 2 * 0 + _ ≤ _; exact Nat.le_of_eq rfl) (hb hby at_33) (by decide) (by decide)
    obtain ⟨rfl, N25q, e25⟩ := hQ25
    have N25 := Fr.app N3 N25q
    refine own_st st25 ?_
    show own_G p e below s _ _ _ (T25.setTop (mkF m 36 #[.val (.int ag), .val (.int yo), .val (.int pa), .val (.int py), .val (.int d1), .val (.int d2), .val (.ref b1), .val (.int (own_b (¬ (ag < ag) ∧ ¬ (yo < yo)))), .unset, .unset, .unset, .unset, .unset] [(.int (own_b (¬ ((ag - (1 : Int32)) < ag) ∧ ¬ ((2147483647 : Int32) < yo))))]))
    have hc36_26 : ¬ ((¬ ((ag - (1 : Int32)) < ag) ∧ ¬ ((2147483647 : Int32) < yo))) := (by
          have i1 : (1 : Int32).toInt = 1 := by decide
          have i2 : (-2147483648 : Int32).toInt = -2147483648 := by decide
          have i3 : (2147483647 : Int32).toInt = 2147483647 := by decide
          have a1 := c_isub ag 1
          have a2 := c_isub yo 1
          have r1 := rng32 ag
          have r2 := rng32 yo
          have r3 := rng32 (ag - 1)
          have r4 := rng32 (yo - 1)
          have r5 := own_raised pa d1
          have r6 := own_raised py d2
          simp only [Int32.lt_iff_toInt_lt, ← Int32.toInt_inj] at hc23_5 ⊢
          omega)
    refine own_st (fun zt zk => XS.ifNo X25.here hx rfl (hb hby at_36) rfl ((if0 _ _).trans (teq (own_b0 hc36_26)).2) zk) ?_
    show own_G p e below s _ _ _ (T25.setTop (mkF m 39 #[.val (.int ag), .val (.int yo), .val (.int pa), .val (.int py), .val (.int d1), .val (.int d2), .val (.ref b1), .val (.int (own_b (¬ (ag < ag) ∧ ¬ (yo < yo)))), .unset, .unset, .unset, .unset, .unset] []))
    refine own_st (fun zt zk => XS.iconst X25.here hx rfl (hb hby at_39) zk) ?_
    show own_G p e below s _ _ _ (T25.setTop (mkF m 40 #[.val (.int ag), .val (.int yo), .val (.int pa), .val (.int py), .val (.int d1), .val (.int d2), .val (.ref b1), .val (.int (own_b (¬ (ag < ag) ∧ ¬ (yo < yo)))), .unset, .unset, .unset, .unset, .unset] [(.int (1 : Int32))]))
    refine own_st (fun zt zk => XS.goto X25.here hx rfl (pc0 := 40) (pc' := 44) rfl (hb hby at_40) (by decide) (by decide) zk) ?_
    show own_G p e below s _ _ _ (T25.setTop (mkF m 44 #[.val (.int ag), .val (.int yo), .val (.int pa), .val (.int py), .val (.int d1), .val (.int d2), .val (.ref b1), .val (.int (own_b (¬ (ag < ag) ∧ ¬ (yo < yo)))), .unset, .unset, .unset, .unset, .unset] [(.int (1 : Int32))]))
    refine own_st (fun zt zk => XS.istore X25.here hx rfl (hb hby at_44) rfl (l' := #[.val (.int ag), .val (.int yo), .val (.int pa), .val (.int py), .val (.int d1), .val (.int d2), .val (.ref b1), .val (.int (own_b (¬ (ag < ag) ∧ ¬ (yo < yo)))), .val (.int (1 : Int32)), .unset, .unset, .unset, .unset]) rfl zk) ?_
    show own_G p e below s _ _ _ (T25.setTop (mkF m 46 #[.val (.int ag), .val (.int yo), .val (.int pa), .val (.int py), .val (.int d1), .val (.int d2), .val (.ref b1), .val (.int (own_b (¬ (ag < ag) ∧ ¬ (yo < yo)))), .val (.int (1 : Int32)), .unset, .unset, .unset, .unset] []))
    refine own_st (fun zt zk => XS.iloadN X25.here hx rfl (hb hby at_46) rfl zk) ?_
    show own_G p e below s _ _ _ (T25.setTop (mkF m 47 #[.val (.int ag), .val (.int yo), .val (.int pa), .val (.int py), .val (.int d1), .val (.int d2), .val (.ref b1), .val (.int (own_b (¬ (ag < ag) ∧ ¬ (yo < yo)))), .val (.int (1 : Int32)), .unset, .unset, .unset, .unset] [(.int yo)]))
    refine own_st (X25.ldcInt hx hown (mvT hZ (hw _ (List.mem_of_getElem? (i := 18) rfl))) (g := (mkF m 47 #[.val (.int ag), .val (.int yo), .val (.int pa), .val (.int py), .val (.int d1), .val (.int d2), .val (.ref b1), .val (.int (own_b (¬ (ag < ag) ∧ ¬ (yo < yo)))), .val (.int (1 : Int32)), .unset, .unset, .unset, .unset] [(.int yo)])) rfl (hb hby at_47)) ?_
    show own_G p e below s _ _ _ (T25.setTop (mkF m 49 #[.val (.int ag), .val (.int yo), .val (.int pa), .val (.int py), .val (.int d1), .val (.int d2), .val (.ref b1), .val (.int (own_b (¬ (ag < ag) ∧ ¬ (yo < yo)))), .val (.int (1 : Int32)), .unset, .unset, .unset, .unset] [(.int (-2147483648 : Int32)), (.int yo)]))
    by_cases hc49_27 : yo = (-2147483648 : Int32)
    · refine own_st (fun zt zk => XS.icmpYes X25.here hx rfl (pc0 := 49) (pc' := 65) rfl (hb hby at_49) rfl (teq hc49_27).1 (by decide) (by decide) zk) ?_
      show own_G p e below s _ _ _ (T25.setTop (mkF m 65 #[.val (.int ag), .val (.int yo), .val (.int pa), .val (.int py), .val (.int d1), .val (.int d2), .val (.ref b1), .val (.int (own_b (¬ (ag < ag) ∧ ¬ (yo < yo)))), .val (.int (1 : Int32)), .unset, .unset, .unset, .unset] []))
      refine own_st (fun zt zk => XS.iconst X25.here hx rfl (hb hby at_65) zk) ?_
      show own_G p e below s _ _ _ (T25.setTop (mkF m 66 #[.val (.int ag), .val (.int yo), .val (.int pa), .val (.int py), .val (.int d1), .val (.int d2), .val (.ref b1), .val (.int (own_b (¬ (ag < ag) ∧ ¬ (yo < yo)))), .val (.int (1 : Int32)), .unset, .unset, .unset, .unset] [(.int (1 : Int32))]))
      refine own_st (fun zt zk => XS.goto X25.here hx rfl (pc0 := 66) (pc' := 70) rfl (hb hby at_66) (by decide) (by decide) zk) ?_
      show own_G p e below s _ _ _ (T25.setTop (mkF m 70 #[.val (.int ag), .val (.int yo), .val (.int pa), .val (.int py), .val (.int d1), .val (.int d2), .val (.ref b1), .val (.int (own_b (¬ (ag < ag) ∧ ¬ (yo < yo)))), .val (.int (1 : Int32)), .unset, .unset, .unset, .unset] [(.int (1 : Int32))]))
      refine own_st (fun zt zk => XS.istore X25.here hx rfl (hb hby at_70) rfl (l' := #[.val (.int ag), .val (.int yo), .val (.int pa), .val (.int py), .val (.int d1), .val (.int d2), .val (.ref b1), .val (.int (own_b (¬ (ag < ag) ∧ ¬ (yo < yo)))), .val (.int (1 : Int32)), .val (.int (1 : Int32)), .unset, .unset, .unset]) rfl zk) ?_
      show own_G p e below s _ _ _ (T25.setTop (mkF m 72 #[.val (.int ag), .val (.int yo), .val (.int pa), .val (.int py), .val (.int d1), .val (.int d2), .val (.ref b1), .val (.int (own_b (¬ (ag < ag) ∧ ¬ (yo < yo)))), .val (.int (1 : Int32)), .val (.int (1 : Int32)), .unset, .unset, .unset] []))
      refine own_st (fun zt zk => XS.iloadN X25.here hx rfl (hb hby at_72) rfl zk) ?_
      show own_G p e below s _ _ _ (T25.setTop (mkF m 73 #[.val (.int ag), .val (.int yo), .val (.int pa), .val (.int py), .val (.int d1), .val (.int d2), .val (.ref b1), .val (.int (own_b (¬ (ag < ag) ∧ ¬ (yo < yo)))), .val (.int (1 : Int32)), .val (.int (1 : Int32)), .unset, .unset, .unset] [(.int pa)]))
      refine own_st (fun zt zk => XS.iload X25.here hx rfl (hb hby at_73) rfl zk) ?_
      show own_G p e below s _ _ _ (T25.setTop (mkF m 75 #[.val (.int ag), .val (.int yo), .val (.int pa), .val (.int py), .val (.int d1), .val (.int d2), .val (.ref b1), .val (.int (own_b (¬ (ag < ag) ∧ ¬ (yo < yo)))), .val (.int (1 : Int32)), .val (.int (1 : Int32)), .unset, .unset, .unset] [(.int d1), (.int pa)]))
      obtain ⟨_, T28, L28, X28, hQ28, st28⟩ := own_callS X25 hx hZ (y := (⟨"com/example/deferral_ledger/deferralledger/model/RetirementAgeIsMetByPinLaw", "raise", "(II)I"⟩ : MethodName)) (argsL := [(.int pa), (.int d1)]) (rest := []) 0 hown (hw _ (List.mem_of_getElem? (i := 20) rfl)) (hw _ (List.mem_of_getElem? (i := 21) rfl)) (hw _ (List.mem_of_getElem? (i := 22) rfl)) (hw _ (List.mem_of_getElem? (i := 23) rfl)) (by decide) (own_rai l Z a0 hw [] pa d1 T2.heap n0 (Nat.le_trans (Nat.le_trans Z0 E1.1) K2.1) ) (by decide) (by decide) e25 (g := (mkF m 75 #[.val (.int ag), .val (.int yo), .val (.int pa), .val (.int py), .val (.int d1), .val (.int d2), .val (.ref b1), .val (.int (own_b (¬ (ag < ag) ∧ ¬ (yo < yo)))), .val (.int (1 : Int32)), .val (.int (1 : Int32)), .unset, .unset, .unset] [(.int d1), (.int pa)])) rfl (by rw [hml]; rfl) own_pd3 rfl rfl (by show 2 * 0 + _ ≤ _; exact Nat.le_of_eq rfl) (hb hby at_75) (by decide) (by decide)
      obtain ⟨rfl, N28q, e28⟩ := hQ28
      have N28 := Fr.app N25 N28q
      refine own_st st28 ?_
      show own_G p e below s _ _ _ (T28.setTop (mkF m 78 #[.val (.int ag), .val (.int yo), .val (.int pa), .val (.int py), .val (.int d1), .val (.int d2), .val (.ref b1), .val (.int (own_b (¬ (ag < ag) ∧ ¬ (yo < yo)))), .val (.int (1 : Int32)), .val (.int (1 : Int32)), .unset, .unset, .unset] [(.int (own_raise pa d1))]))
      refine own_st (fun zt zk => XS.istore X28.here hx rfl (hb hby at_78) rfl (l' := #[.val (.int ag), .val (.int yo), .val (.int pa), .val (.int py), .val (.int d1), .val (.int d2), .val (.ref b1), .val (.int (own_b (¬ (ag < ag) ∧ ¬ (yo < yo)))), .val (.int (1 : Int32)), .val (.int (1 : Int32)), .val (.int (own_raise pa d1)), .unset, .unset]) rfl zk) ?_
      show own_G p e below s _ _ _ (T28.setTop (mkF m 80 #[.val (.int ag), .val (.int yo), .val (.int pa), .val (.int py), .val (.int d1), .val (.int d2), .val (.ref b1), .val (.int (own_b (¬ (ag < ag) ∧ ¬ (yo < yo)))), .val (.int (1 : Int32)), .val (.int (1 : Int32)), .val (.int (own_raise pa d1)), .unset, .unset] []))
      refine own_st (fun zt zk => XS.iloadN X28.here hx rfl (hb hby at_80) rfl zk) ?_
      show own_G p e below s _ _ _ (T28.setTop (mkF m 81 #[.val (.int ag), .val (.int yo), .val (.int pa), .val (.int py), .val (.int d1), .val (.int d2), .val (.ref b1), .val (.int (own_b (¬ (ag < ag) ∧ ¬ (yo < yo)))), .val (.int (1 : Int32)), .val (.int (1 : Int32)), .val (.int (own_raise pa d1)), .unset, .unset] [(.int py)]))
      refine own_st (fun zt zk => XS.iload X28.here hx rfl (hb hby at_81) rfl zk) ?_
      show own_G p e below s _ _ _ (T28.setTop (mkF m 83 #[.val (.int ag), .val (.int yo), .val (.int pa), .val (.int py), .val (.int d1), .val (.int d2), .val (.ref b1), .val (.int (own_b (¬ (ag < ag) ∧ ¬ (yo < yo)))), .val (.int (1 : Int32)), .val (.int (1 : Int32)), .val (.int (own_raise pa d1)), .unset, .unset] [(.int d2), (.int py)]))
      obtain ⟨_, T29, L29, X29, hQ29, st29⟩ := own_callS X28 hx hZ (y := (⟨"com/example/deferral_ledger/deferralledger/model/RetirementAgeIsMetByPinLaw", "raise", "(II)I"⟩ : MethodName)) (argsL := [(.int py), (.int d2)]) (rest := []) 0 hown (hw _ (List.mem_of_getElem? (i := 20) rfl)) (hw _ (List.mem_of_getElem? (i := 21) rfl)) (hw _ (List.mem_of_getElem? (i := 22) rfl)) (hw _ (List.mem_of_getElem? (i := 23) rfl)) (by decide) (own_rai l Z a0 hw [] py d2 T2.heap n0 (Nat.le_trans (Nat.le_trans Z0 E1.1) K2.1) ) (by decide) (by decide) e28 (g := (mkF m 83 #[.val (.int ag), .val (.int yo), .val (.int pa), .val (.int py), .val (.int d1), .val (.int d2), .val (.ref b1), .val (.int (own_b (¬ (ag < ag) ∧ ¬ (yo < yo)))), .val (.int (1 : Int32)), .val (.int (1 : Int32)), .val (.int (own_raise pa d1)), .unset, .unset] [(.int d2), (.int py)])) rfl (by rw [hml]; rfl) own_pd3 rfl rfl (by show 2 * 0 + _ ≤ _; exact Nat.le_of_eq rfl) (hb hby at_83) (by decide) (by decide)
      obtain ⟨rfl, N29q, e29⟩ := hQ29
      have N29 := Fr.app N28 N29q
      refine own_st st29 ?_
      show own_G p e below s _ _ _ (T29.setTop (mkF m 86 #[.val (.int ag), .val (.int yo), .val (.int pa), .val (.int py), .val (.int d1), .val (.int d2), .val (.ref b1), .val (.int (own_b (¬ (ag < ag) ∧ ¬ (yo < yo)))), .val (.int (1 : Int32)), .val (.int (1 : Int32)), .val (.int (own_raise pa d1)), .unset, .unset] [(.int (own_raise py d2))]))
      refine own_st (fun zt zk => XS.istore X29.here hx rfl (hb hby at_86) rfl (l' := #[.val (.int ag), .val (.int yo), .val (.int pa), .val (.int py), .val (.int d1), .val (.int d2), .val (.ref b1), .val (.int (own_b (¬ (ag < ag) ∧ ¬ (yo < yo)))), .val (.int (1 : Int32)), .val (.int (1 : Int32)), .val (.int (own_raise pa d1)), .val (.int (own_raise py d2)), .unset]) rfl zk) ?_
      show own_G p e below s _ _ _ (T29.setTop (mkF m 88 #[.val (.int ag), .val (.int yo), .val (.int pa), .val (.int py), .val (.int d1), .val (.int d2), .val (.ref b1), .val (.int (own_b (¬ (ag < ag) ∧ ¬ (yo < yo)))), .val (.int (1 : Int32)), .val (.int (1 : Int32)), .val (.int (own_raise pa d1)), .val (.int (own_raise py d2)), .unset] []))
      refine own_st (fun zt zk => XS.aload X29.here hx rfl (hb hby at_88) rfl rfl zk) ?_
      show own_G p e below s _ _ _ (T29.setTop (mkF m 90 #[.val (.int ag), .val (.int yo), .val (.int pa), .val (.int py), .val (.int d1), .val (.int d2), .val (.ref b1), .val (.int (own_b (¬ (ag < ag) ∧ ¬ (yo < yo)))), .val (.int (1 : Int32)), .val (.int (1 : Int32)), .val (.int (own_raise pa d1)), .val (.int (own_raise py d2)), .unset] [(.ref b1)]))
      refine own_st (fun zt zk => XS.iloadN X29.here hx rfl (hb hby at_90) rfl zk) ?_
      show own_G p e below s _ _ _ (T29.setTop (mkF m 91 #[.val (.int ag), .val (.int yo), .val (.int pa), .val (.int py), .val (.int d1), .val (.int d2), .val (.ref b1), .val (.int (own_b (¬ (ag < ag) ∧ ¬ (yo < yo)))), .val (.int (1 : Int32)), .val (.int (1 : Int32)), .val (.int (own_raise pa d1)), .val (.int (own_raise py d2)), .unset] [(.int pa), (.ref b1)]))
      refine own_st (fun zt zk => XS.iloadN X29.here hx rfl (hb hby at_91) rfl zk) ?_
      show own_G p e below s _ _ _ (T29.setTop (mkF m 92 #[.val (.int ag), .val (.int yo), .val (.int pa), .val (.int py), .val (.int d1), .val (.int d2), .val (.ref b1), .val (.int (own_b (¬ (ag < ag) ∧ ¬ (yo < yo)))), .val (.int (1 : Int32)), .val (.int (1 : Int32)), .val (.int (own_raise pa d1)), .val (.int (own_raise py d2)), .unset] [(.int py), (.int pa), (.ref b1)]))
      obtain ⟨_, T30, L30, X30, hQ30, st30⟩ := own_callV X29 hx hZ (C := "com/example/deferral_ledger/deferralledger/model/RetirementAge") (y := (⟨"com/example/deferral_ledger/deferralledger/model/RetirementAge", "isMetBy", "(II)Z"⟩ : MethodName)) (z := (⟨"com/example/deferral_ledger/deferralledger/model/RetirementAge", "isMetBy", "(II)Z"⟩ : MethodName)) (a := b1) (argsL := [(.int pa), (.int py)]) (rest := []) 0 hown (hw _ (List.mem_of_getElem? (i := 13) rfl)) (hw _ (List.mem_of_getElem? (i := 14) rfl)) (own_nf hZ (hw _ (List.mem_of_getElem? (i := 16) rfl))) (hw _ (List.mem_of_getElem? (i := 16) rfl)) (hw _ (List.mem_of_getElem? (i := 15) rfl)) (hw _ (List.mem_of_getElem? (i := 2) rfl)) (hw _ (List.mem_of_getElem? (i := 17) rfl)) (by decide) (own_isMet l Z a0 hw [] b1 pa py ag yo T2.heap n0 (Nat.le_trans (Nat.le_trans Z0 E1.1) K2.1) q2_0 q2_1) (by decide) (by decide) e29 E4 (g := (mkF m 92 #[.val (.int ag), .val (.int yo), .val (.int pa), .val (.int py), .val (.int d1), .val (.int d2), .val (.ref b1), .val (.int (own_b (¬ (ag < ag) ∧ ¬ (yo < yo)))), .val (.int (1 : Int32)), .val (.int (1 : Int32)), .val (.int (own_raise pa d1)), .val (.int (own_raise py d2)), .unset] [(.int py), (.int pa), (.ref b1)])) rfl (by rw [hml]; rfl) own_pd2 rfl rfl (by show 2 * 0 + _ ≤ _; exact Nat.le_of_eq rfl) (hb hby at_92) (by decide) (by decide)
      obtain ⟨rfl, N30q, e30⟩ := hQ30
      have N30 := Fr.app N29 N30q
      refine own_st st30 ?_
      show own_G p e below s _ _ _ (T30.setTop (mkF m 95 #[.val (.int ag), .val (.int yo), .val (.int pa), .val (.int py), .val (.int d1), .val (.int d2), .val (.ref b1), .val (.int (own_b (¬ (ag < ag) ∧ ¬ (yo < yo)))), .val (.int (1 : Int32)), .val (.int (1 : Int32)), .val (.int (own_raise pa d1)), .val (.int (own_raise py d2)), .unset] [(.int (own_b (¬ (pa < ag) ∧ ¬ (py < yo))))]))
      by_cases hc95_31 : (¬ (pa < ag) ∧ ¬ (py < yo))
      · refine own_st (fun zt zk => XS.ifNo X30.here hx rfl (hb hby at_95) rfl ((if0 _ _).trans (feq (own_bn hc95_31)).1) zk) ?_
        show own_G p e below s _ _ _ (T30.setTop (mkF m 98 #[.val (.int ag), .val (.int yo), .val (.int pa), .val (.int py), .val (.int d1), .val (.int d2), .val (.ref b1), .val (.int (own_b (¬ (ag < ag) ∧ ¬ (yo < yo)))), .val (.int (1 : Int32)), .val (.int (1 : Int32)), .val (.int (own_raise pa d1)), .val (.int (own_raise py d2)), .unset] []))
        refine own_st (fun zt zk => XS.aload X30.here hx rfl (hb hby at_98) rfl rfl zk) ?_
        show own_G p e below s _ _ _ (T30.setTop (mkF m 100 #[.val (.int ag), .val (.int yo), .val (.int pa), .val (.int py), .val (.int d1), .val (.int d2), .val (.ref b1), .val (.int (own_b (¬ (ag < ag) ∧ ¬ (yo < yo)))), .val (.int (1 : Int32)), .val (.int (1 : Int32)), .val (.int (own_raise pa d1)), .val (.int (own_raise py d2)), .unset] [(.ref b1)]))
        refine own_st (fun zt zk => XS.iload X30.here hx rfl (hb hby at_100) rfl zk) ?_
        show own_G p e below s _ _ _ (T30.setTop (mkF m 102 #[.val (.int ag), .val (.int yo), .val (.int pa), .val (.int py), .val (.int d1), .val (.int d2), .val (.ref b1), .val (.int (own_b (¬ (ag < ag) ∧ ¬ (yo < yo)))), .val (.int (1 : Int32)), .val (.int (1 : Int32)), .val (.int (own_raise pa d1)), .val (.int (own_raise py d2)), .unset] [(.int (own_raise pa d1)), (.ref b1)]))
        refine own_st (fun zt zk => XS.iload X30.here hx rfl (hb hby at_102) rfl zk) ?_
        show own_G p e below s _ _ _ (T30.setTop (mkF m 104 #[.val (.int ag), .val (.int yo), .val (.int pa), .val (.int py), .val (.int d1), .val (.int d2), .val (.ref b1), .val (.int (own_b (¬ (ag < ag) ∧ ¬ (yo < yo)))), .val (.int (1 : Int32)), .val (.int (1 : Int32)), .val (.int (own_raise pa d1)), .val (.int (own_raise py d2)), .unset] [(.int (own_raise py d2)), (.int (own_raise pa d1)), (.ref b1)]))
        obtain ⟨_, T32, L32, X32, hQ32, st32⟩ := own_callV X30 hx hZ (C := "com/example/deferral_ledger/deferralledger/model/RetirementAge") (y := (⟨"com/example/deferral_ledger/deferralledger/model/RetirementAge", "isMetBy", "(II)Z"⟩ : MethodName)) (z := (⟨"com/example/deferral_ledger/deferralledger/model/RetirementAge", "isMetBy", "(II)Z"⟩ : MethodName)) (a := b1) (argsL := [(.int (own_raise pa d1)), (.int (own_raise py d2))]) (rest := []) 0 hown (hw _ (List.mem_of_getElem? (i := 13) rfl)) (hw _ (List.mem_of_getElem? (i := 14) rfl)) (own_nf hZ (hw _ (List.mem_of_getElem? (i := 16) rfl))) (hw _ (List.mem_of_getElem? (i := 16) rfl)) (hw _ (List.mem_of_getElem? (i := 15) rfl)) (hw _ (List.mem_of_getElem? (i := 2) rfl)) (hw _ (List.mem_of_getElem? (i := 17) rfl)) (by decide) (own_isMet l Z a0 hw [] b1 (own_raise pa d1) (own_raise py d2) ag yo T2.heap n0 (Nat.le_trans (Nat.le_trans Z0 E1.1) K2.1) q2_0 q2_1) (by decide) (by decide) e30 E4 (g := (mkF m 104 #[.val (.int ag), .val (.int yo), .val (.int pa), .val (.int py), .val (.int d1), .val (.int d2), .val (.ref b1), .val (.int (own_b (¬ (ag < ag) ∧ ¬ (yo < yo)))), .val (.int (1 : Int32)), .val (.int (1 : Int32)), .val (.int (own_raise pa d1)), .val (.int (own_raise py d2)), .unset] [(.int (own_raise py d2)), (.int (own_raise pa d1)), (.ref b1)])) rfl (by rw [hml]; rfl) own_pd2 rfl rfl (by show 2 * 0 + _ ≤ _; exact Nat.le_of_eq rfl) (hb hby at_104) (by decide) (by decide)
        obtain ⟨rfl, N32q, e32⟩ := hQ32
        have N32 := Fr.app N30 N32q
        refine own_st st32 ?_
        show own_G p e below s _ _ _ (T32.setTop (mkF m 107 #[.val (.int ag), .val (.int yo), .val (.int pa), .val (.int py), .val (.int d1), .val (.int d2), .val (.ref b1), .val (.int (own_b (¬ (ag < ag) ∧ ¬ (yo < yo)))), .val (.int (1 : Int32)), .val (.int (1 : Int32)), .val (.int (own_raise pa d1)), .val (.int (own_raise py d2)), .unset] [(.int (own_b (¬ ((own_raise pa d1) < ag) ∧ ¬ ((own_raise py d2) < yo))))]))
        have hc107_33 : (¬ ((own_raise pa d1) < ag) ∧ ¬ ((own_raise py d2) < yo)) := (by
              have i1 : (1 : Int32).toInt = 1 := by decide
              have i2 : (-2147483648 : Int32).toInt = -2147483648 := by decide
              have i3 : (2147483647 : Int32).toInt = 2147483647 := by decide
              have a1 := c_isub ag 1
              have a2 := c_isub yo 1
              have r1 := rng32 ag
              have r2 := rng32 yo
              have r3 := rng32 (ag - 1)
              have r4 := rng32 (yo - 1)
              have r5 := own_raised pa d1
              have r6 := own_raised py d2
              simp only [Int32.lt_iff_toInt_lt, ← Int32.toInt_inj] at hc95_31 ⊢
              omega)
        refine own_st (fun zt zk => XS.ifNo X32.here hx rfl (hb hby at_107) rfl ((if0 _ _).trans (feq (own_bn hc107_33)).1) zk) ?_
        show own_G p e below s _ _ _ (T32.setTop (mkF m 110 #[.val (.int ag), .val (.int yo), .val (.int pa), .val (.int py), .val (.int d1), .val (.int d2), .val (.ref b1), .val (.int (own_b (¬ (ag < ag) ∧ ¬ (yo < yo)))), .val (.int (1 : Int32)), .val (.int (1 : Int32)), .val (.int (own_raise pa d1)), .val (.int (own_raise py d2)), .unset] []))
        refine own_st (fun zt zk => XS.iconst X32.here hx rfl (hb hby at_110) zk) ?_
        show own_G p e below s _ _ _ (T32.setTop (mkF m 111 #[.val (.int ag), .val (.int yo), .val (.int pa), .val (.int py), .val (.int d1), .val (.int d2), .val (.ref b1), .val (.int (own_b (¬ (ag < ag) ∧ ¬ (yo < yo)))), .val (.int (1 : Int32)), .val (.int (1 : Int32)), .val (.int (own_raise pa d1)), .val (.int (own_raise py d2)), .unset] [(.int (1 : Int32))]))
        refine own_st (fun zt zk => XS.goto X32.here hx rfl (pc0 := 111) (pc' := 115) rfl (hb hby at_111) (by decide) (by decide) zk) ?_
        show own_G p e below s _ _ _ (T32.setTop (mkF m 115 #[.val (.int ag), .val (.int yo), .val (.int pa), .val (.int py), .val (.int d1), .val (.int d2), .val (.ref b1), .val (.int (own_b (¬ (ag < ag) ∧ ¬ (yo < yo)))), .val (.int (1 : Int32)), .val (.int (1 : Int32)), .val (.int (own_raise pa d1)), .val (.int (own_raise py d2)), .unset] [(.int (1 : Int32))]))
        refine own_st (fun zt zk => XS.istore X32.here hx rfl (hb hby at_115) rfl (l' := #[.val (.int ag), .val (.int yo), .val (.int pa), .val (.int py), .val (.int d1), .val (.int d2), .val (.ref b1), .val (.int (own_b (¬ (ag < ag) ∧ ¬ (yo < yo)))), .val (.int (1 : Int32)), .val (.int (1 : Int32)), .val (.int (own_raise pa d1)), .val (.int (own_raise py d2)), .val (.int (1 : Int32))]) rfl zk) ?_
        show own_G p e below s _ _ _ (T32.setTop (mkF m 117 #[.val (.int ag), .val (.int yo), .val (.int pa), .val (.int py), .val (.int d1), .val (.int d2), .val (.ref b1), .val (.int (own_b (¬ (ag < ag) ∧ ¬ (yo < yo)))), .val (.int (1 : Int32)), .val (.int (1 : Int32)), .val (.int (own_raise pa d1)), .val (.int (own_raise py d2)), .val (.int (1 : Int32))] []))
        refine own_st (fun zt zk => XS.iload X32.here hx rfl (hb hby at_117) rfl zk) ?_
        show own_G p e below s _ _ _ (T32.setTop (mkF m 119 #[.val (.int ag), .val (.int yo), .val (.int pa), .val (.int py), .val (.int d1), .val (.int d2), .val (.ref b1), .val (.int (own_b (¬ (ag < ag) ∧ ¬ (yo < yo)))), .val (.int (1 : Int32)), .val (.int (1 : Int32)), .val (.int (own_raise pa d1)), .val (.int (own_raise py d2)), .val (.int (1 : Int32))] [(.int (own_b (¬ (ag < ag) ∧ ¬ (yo < yo))))]))
        have hc119_34 : (¬ (ag < ag) ∧ ¬ (yo < yo)) := ⟨Int32.lt_irrefl, Int32.lt_irrefl⟩
        refine own_st (fun zt zk => XS.ifNo X32.here hx rfl (hb hby at_119) rfl ((if0 _ _).trans (feq (own_bn hc119_34)).1) zk) ?_
        show own_G p e below s _ _ _ (T32.setTop (mkF m 122 #[.val (.int ag), .val (.int yo), .val (.int pa), .val (.int py), .val (.int d1), .val (.int d2), .val (.ref b1), .val (.int (own_b (¬ (ag < ag) ∧ ¬ (yo < yo)))), .val (.int (1 : Int32)), .val (.int (1 : Int32)), .val (.int (own_raise pa d1)), .val (.int (own_raise py d2)), .val (.int (1 : Int32))] []))
        refine own_st (fun zt zk => XS.iload X32.here hx rfl (hb hby at_122) rfl zk) ?_
        show own_G p e below s _ _ _ (T32.setTop (mkF m 124 #[.val (.int ag), .val (.int yo), .val (.int pa), .val (.int py), .val (.int d1), .val (.int d2), .val (.ref b1), .val (.int (own_b (¬ (ag < ag) ∧ ¬ (yo < yo)))), .val (.int (1 : Int32)), .val (.int (1 : Int32)), .val (.int (own_raise pa d1)), .val (.int (own_raise py d2)), .val (.int (1 : Int32))] [(.int (1 : Int32))]))
        refine own_st (fun zt zk => XS.ifNo X32.here hx rfl (hb hby at_124) rfl ((if0 _ _).trans (feq (by decide : ¬ ((1 : Int32) = (0 : Int32)))).1) zk) ?_
        show own_G p e below s _ _ _ (T32.setTop (mkF m 127 #[.val (.int ag), .val (.int yo), .val (.int pa), .val (.int py), .val (.int d1), .val (.int d2), .val (.ref b1), .val (.int (own_b (¬ (ag < ag) ∧ ¬ (yo < yo)))), .val (.int (1 : Int32)), .val (.int (1 : Int32)), .val (.int (own_raise pa d1)), .val (.int (own_raise py d2)), .val (.int (1 : Int32))] []))
        refine own_st (fun zt zk => XS.iload X32.here hx rfl (hb hby at_127) rfl zk) ?_
        show own_G p e below s _ _ _ (T32.setTop (mkF m 129 #[.val (.int ag), .val (.int yo), .val (.int pa), .val (.int py), .val (.int d1), .val (.int d2), .val (.ref b1), .val (.int (own_b (¬ (ag < ag) ∧ ¬ (yo < yo)))), .val (.int (1 : Int32)), .val (.int (1 : Int32)), .val (.int (own_raise pa d1)), .val (.int (own_raise py d2)), .val (.int (1 : Int32))] [(.int (1 : Int32))]))
        refine own_st (fun zt zk => XS.ifNo X32.here hx rfl (hb hby at_129) rfl ((if0 _ _).trans (feq (by decide : ¬ ((1 : Int32) = (0 : Int32)))).1) zk) ?_
        show own_G p e below s _ _ _ (T32.setTop (mkF m 132 #[.val (.int ag), .val (.int yo), .val (.int pa), .val (.int py), .val (.int d1), .val (.int d2), .val (.ref b1), .val (.int (own_b (¬ (ag < ag) ∧ ¬ (yo < yo)))), .val (.int (1 : Int32)), .val (.int (1 : Int32)), .val (.int (own_raise pa d1)), .val (.int (own_raise py d2)), .val (.int (1 : Int32))] []))
        refine own_st (fun zt zk => XS.iload X32.here hx rfl (hb hby at_132) rfl zk) ?_
        show own_G p e below s _ _ _ (T32.setTop (mkF m 134 #[.val (.int ag), .val (.int yo), .val (.int pa), .val (.int py), .val (.int d1), .val (.int d2), .val (.ref b1), .val (.int (own_b (¬ (ag < ag) ∧ ¬ (yo < yo)))), .val (.int (1 : Int32)), .val (.int (1 : Int32)), .val (.int (own_raise pa d1)), .val (.int (own_raise py d2)), .val (.int (1 : Int32))] [(.int (1 : Int32))]))
        refine own_st (fun zt zk => XS.ifNo X32.here hx rfl (hb hby at_134) rfl ((if0 _ _).trans (feq (by decide : ¬ ((1 : Int32) = (0 : Int32)))).1) zk) ?_
        show own_G p e below s _ _ _ (T32.setTop (mkF m 137 #[.val (.int ag), .val (.int yo), .val (.int pa), .val (.int py), .val (.int d1), .val (.int d2), .val (.ref b1), .val (.int (own_b (¬ (ag < ag) ∧ ¬ (yo < yo)))), .val (.int (1 : Int32)), .val (.int (1 : Int32)), .val (.int (own_raise pa d1)), .val (.int (own_raise py d2)), .val (.int (1 : Int32))] []))
        refine own_st (fun zt zk => XS.iconst X32.here hx rfl (hb hby at_137) zk) ?_
        show own_G p e below s _ _ _ (T32.setTop (mkF m 138 #[.val (.int ag), .val (.int yo), .val (.int pa), .val (.int py), .val (.int d1), .val (.int d2), .val (.ref b1), .val (.int (own_b (¬ (ag < ag) ∧ ¬ (yo < yo)))), .val (.int (1 : Int32)), .val (.int (1 : Int32)), .val (.int (own_raise pa d1)), .val (.int (own_raise py d2)), .val (.int (1 : Int32))] [(.int (1 : Int32))]))
        refine own_st (fun zt zk => XS.goto X32.here hx rfl (pc0 := 138) (pc' := 142) rfl (hb hby at_138) (by decide) (by decide) zk) ?_
        show own_G p e below s _ _ _ (T32.setTop (mkF m 142 #[.val (.int ag), .val (.int yo), .val (.int pa), .val (.int py), .val (.int d1), .val (.int d2), .val (.ref b1), .val (.int (own_b (¬ (ag < ag) ∧ ¬ (yo < yo)))), .val (.int (1 : Int32)), .val (.int (1 : Int32)), .val (.int (own_raise pa d1)), .val (.int (own_raise py d2)), .val (.int (1 : Int32))] [(.int (1 : Int32))]))
        refine own_retZ X32 hx hlk hret (by decide) (hb hby at_142) (by decide) (by decide) ?_
        show Q_own_law Z ag yo pa py d1 d2 h0 n0 (some (.int (1 : Int32))) T32.heap _
        rw [e32]
        exact ⟨rfl, N32⟩
      · refine own_st (fun zt zk => XS.ifYes X30.here hx rfl (pc0 := 95) (pc' := 110) rfl (hb hby at_95) rfl ((if0 _ _).trans (teq (own_b0 hc95_31)).1) (by decide) (by decide) zk) ?_
        show own_G p e below s _ _ _ (T30.setTop (mkF m 110 #[.val (.int ag), .val (.int yo), .val (.int pa), .val (.int py), .val (.int d1), .val (.int d2), .val (.ref b1), .val (.int (own_b (¬ (ag < ag) ∧ ¬ (yo < yo)))), .val (.int (1 : Int32)), .val (.int (1 : Int32)), .val (.int (own_raise pa d1)), .val (.int (own_raise py d2)), .unset] []))
        refine own_st (fun zt zk => XS.iconst X30.here hx rfl (hb hby at_110) zk) ?_
        show own_G p e below s _ _ _ (T30.setTop (mkF m 111 #[.val (.int ag), .val (.int yo), .val (.int pa), .val (.int py), .val (.int d1), .val (.int d2), .val (.ref b1), .val (.int (own_b (¬ (ag < ag) ∧ ¬ (yo < yo)))), .val (.int (1 : Int32)), .val (.int (1 : Int32)), .val (.int (own_raise pa d1)), .val (.int (own_raise py d2)), .unset] [(.int (1 : Int32))]))
        refine own_st (fun zt zk => XS.goto X30.here hx rfl (pc0 := 111) (pc' := 115) rfl (hb hby at_111) (by decide) (by decide) zk) ?_
        show own_G p e below s _ _ _ (T30.setTop (mkF m 115 #[.val (.int ag), .val (.int yo), .val (.int pa), .val (.int py), .val (.int d1), .val (.int d2), .val (.ref b1), .val (.int (own_b (¬ (ag < ag) ∧ ¬ (yo < yo)))), .val (.int (1 : Int32)), .val (.int (1 : Int32)), .val (.int (own_raise pa d1)), .val (.int (own_raise py d2)), .unset] [(.int (1 : Int32))]))
        refine own_st (fun zt zk => XS.istore X30.here hx rfl (hb hby at_115) rfl (l' := #[.val (.int ag), .val (.int yo), .val (.int pa), .val (.int py), .val (.int d1), .val (.int d2), .val (.ref b1), .val (.int (own_b (¬ (ag < ag) ∧ ¬ (yo < yo)))), .val (.int (1 : Int32)), .val (.int (1 : Int32)), .val (.int (own_raise pa d1)), .val (.int (own_raise py d2)), .val (.int (1 : Int32))]) rfl zk) ?_
        show own_G p e below s _ _ _ (T30.setTop (mkF m 117 #[.val (.int ag), .val (.int yo), .val (.int pa), .val (.int py), .val (.int d1), .val (.int d2), .val (.ref b1), .val (.int (own_b (¬ (ag < ag) ∧ ¬ (yo < yo)))), .val (.int (1 : Int32)), .val (.int (1 : Int32)), .val (.int (own_raise pa d1)), .val (.int (own_raise py d2)), .val (.int (1 : Int32))] []))
        refine own_st (fun zt zk => XS.iload X30.here hx rfl (hb hby at_117) rfl zk) ?_
        show own_G p e below s _ _ _ (T30.setTop (mkF m 119 #[.val (.int ag), .val (.int yo), .val (.int pa), .val (.int py), .val (.int d1), .val (.int d2), .val (.ref b1), .val (.int (own_b (¬ (ag < ag) ∧ ¬ (yo < yo)))), .val (.int (1 : Int32)), .val (.int (1 : Int32)), .val (.int (own_raise pa d1)), .val (.int (own_raise py d2)), .val (.int (1 : Int32))] [(.int (own_b (¬ (ag < ag) ∧ ¬ (yo < yo))))]))
        have hc119_35 : (¬ (ag < ag) ∧ ¬ (yo < yo)) := ⟨Int32.lt_irrefl, Int32.lt_irrefl⟩
        refine own_st (fun zt zk => XS.ifNo X30.here hx rfl (hb hby at_119) rfl ((if0 _ _).trans (feq (own_bn hc119_35)).1) zk) ?_
        show own_G p e below s _ _ _ (T30.setTop (mkF m 122 #[.val (.int ag), .val (.int yo), .val (.int pa), .val (.int py), .val (.int d1), .val (.int d2), .val (.ref b1), .val (.int (own_b (¬ (ag < ag) ∧ ¬ (yo < yo)))), .val (.int (1 : Int32)), .val (.int (1 : Int32)), .val (.int (own_raise pa d1)), .val (.int (own_raise py d2)), .val (.int (1 : Int32))] []))
        refine own_st (fun zt zk => XS.iload X30.here hx rfl (hb hby at_122) rfl zk) ?_
        show own_G p e below s _ _ _ (T30.setTop (mkF m 124 #[.val (.int ag), .val (.int yo), .val (.int pa), .val (.int py), .val (.int d1), .val (.int d2), .val (.ref b1), .val (.int (own_b (¬ (ag < ag) ∧ ¬ (yo < yo)))), .val (.int (1 : Int32)), .val (.int (1 : Int32)), .val (.int (own_raise pa d1)), .val (.int (own_raise py d2)), .val (.int (1 : Int32))] [(.int (1 : Int32))]))
        refine own_st (fun zt zk => XS.ifNo X30.here hx rfl (hb hby at_124) rfl ((if0 _ _).trans (feq (by decide : ¬ ((1 : Int32) = (0 : Int32)))).1) zk) ?_
        show own_G p e below s _ _ _ (T30.setTop (mkF m 127 #[.val (.int ag), .val (.int yo), .val (.int pa), .val (.int py), .val (.int d1), .val (.int d2), .val (.ref b1), .val (.int (own_b (¬ (ag < ag) ∧ ¬ (yo < yo)))), .val (.int (1 : Int32)), .val (.int (1 : Int32)), .val (.int (own_raise pa d1)), .val (.int (own_raise py d2)), .val (.int (1 : Int32))] []))
        refine own_st (fun zt zk => XS.iload X30.here hx rfl (hb hby at_127) rfl zk) ?_
        show own_G p e below s _ _ _ (T30.setTop (mkF m 129 #[.val (.int ag), .val (.int yo), .val (.int pa), .val (.int py), .val (.int d1), .val (.int d2), .val (.ref b1), .val (.int (own_b (¬ (ag < ag) ∧ ¬ (yo < yo)))), .val (.int (1 : Int32)), .val (.int (1 : Int32)), .val (.int (own_raise pa d1)), .val (.int (own_raise py d2)), .val (.int (1 : Int32))] [(.int (1 : Int32))]))
        refine own_st (fun zt zk => XS.ifNo X30.here hx rfl (hb hby at_129) rfl ((if0 _ _).trans (feq (by decide : ¬ ((1 : Int32) = (0 : Int32)))).1) zk) ?_
        show own_G p e below s _ _ _ (T30.setTop (mkF m 132 #[.val (.int ag), .val (.int yo), .val (.int pa), .val (.int py), .val (.int d1), .val (.int d2), .val (.ref b1), .val (.int (own_b (¬ (ag < ag) ∧ ¬ (yo < yo)))), .val (.int (1 : Int32)), .val (.int (1 : Int32)), .val (.int (own_raise pa d1)), .val (.int (own_raise py d2)), .val (.int (1 : Int32))] []))
        refine own_st (fun zt zk => XS.iload X30.here hx rfl (hb hby at_132) rfl zk) ?_
        show own_G p e below s _ _ _ (T30.setTop (mkF m 134 #[.val (.int ag), .val (.int yo), .val (.int pa), .val (.int py), .val (.int d1), .val (.int d2), .val (.ref b1), .val (.int (own_b (¬ (ag < ag) ∧ ¬ (yo < yo)))), .val (.int (1 : Int32)), .val (.int (1 : Int32)), .val (.int (own_raise pa d1)), .val (.int (own_raise py d2)), .val (.int (1 : Int32))] [(.int (1 : Int32))]))
        refine own_st (fun zt zk => XS.ifNo X30.here hx rfl (hb hby at_134) rfl ((if0 _ _).trans (feq (by decide : ¬ ((1 : Int32) = (0 : Int32)))).1) zk) ?_
        show own_G p e below s _ _ _ (T30.setTop (mkF m 137 #[.val (.int ag), .val (.int yo), .val (.int pa), .val (.int py), .val (.int d1), .val (.int d2), .val (.ref b1), .val (.int (own_b (¬ (ag < ag) ∧ ¬ (yo < yo)))), .val (.int (1 : Int32)), .val (.int (1 : Int32)), .val (.int (own_raise pa d1)), .val (.int (own_raise py d2)), .val (.int (1 : Int32))] []))
        refine own_st (fun zt zk => XS.iconst X30.here hx rfl (hb hby at_137) zk) ?_
        show own_G p e below s _ _ _ (T30.setTop (mkF m 138 #[.val (.int ag), .val (.int yo), .val (.int pa), .val (.int py), .val (.int d1), .val (.int d2), .val (.ref b1), .val (.int (own_b (¬ (ag < ag) ∧ ¬ (yo < yo)))), .val (.int (1 : Int32)), .val (.int (1 : Int32)), .val (.int (own_raise pa d1)), .val (.int (own_raise py d2)), .val (.int (1 : Int32))] [(.int (1 : Int32))]))
        refine own_st (fun zt zk => XS.goto X30.here hx rfl (pc0 := 138) (pc' := 142) rfl (hb hby at_138) (by decide) (by decide) zk) ?_
        show own_G p e below s _ _ _ (T30.setTop (mkF m 142 #[.val (.int ag), .val (.int yo), .val (.int pa), .val (.int py), .val (.int d1), .val (.int d2), .val (.ref b1), .val (.int (own_b (¬ (ag < ag) ∧ ¬ (yo < yo)))), .val (.int (1 : Int32)), .val (.int (1 : Int32)), .val (.int (own_raise pa d1)), .val (.int (own_raise py d2)), .val (.int (1 : Int32))] [(.int (1 : Int32))]))
        refine own_retZ X30 hx hlk hret (by decide) (hb hby at_142) (by decide) (by decide) ?_
        show Q_own_law Z ag yo pa py d1 d2 h0 n0 (some (.int (1 : Int32))) T30.heap _
        rw [e30]
        exact ⟨rfl, N30⟩
    · refine own_st (fun zt zk => XS.icmpNo X25.here hx rfl (hb hby at_49) rfl (feq hc49_27).1 zk) ?_
      show own_G p e below s _ _ _ (T25.setTop (mkF m 52 #[.val (.int ag), .val (.int yo), .val (.int pa), .val (.int py), .val (.int d1), .val (.int d2), .val (.ref b1), .val (.int (own_b (¬ (ag < ag) ∧ ¬ (yo < yo)))), .val (.int (1 : Int32)), .unset, .unset, .unset, .unset] []))
      refine own_st (fun zt zk => XS.aload X25.here hx rfl (hb hby at_52) rfl rfl zk) ?_
      show own_G p e below s _ _ _ (T25.setTop (mkF m 54 #[.val (.int ag), .val (.int yo), .val (.int pa), .val (.int py), .val (.int d1), .val (.int d2), .val (.ref b1), .val (.int (own_b (¬ (ag < ag) ∧ ¬ (yo < yo)))), .val (.int (1 : Int32)), .unset, .unset, .unset, .unset] [(.ref b1)]))
      refine own_st (X25.ldcInt hx hown (mvT hZ (hw _ (List.mem_of_getElem? (i := 19) rfl))) (g := (mkF m 54 #[.val (.int ag), .val (.int yo), .val (.int pa), .val (.int py), .val (.int d1), .val (.int d2), .val (.ref b1), .val (.int (own_b (¬ (ag < ag) ∧ ¬ (yo < yo)))), .val (.int (1 : Int32)), .unset, .unset, .unset, .unset] [(.ref b1)])) rfl (hb hby at_54)) ?_
      show own_G p e below s _ _ _ (T25.setTop (mkF m 56 #[.val (.int ag), .val (.int yo), .val (.int pa), .val (.int py), .val (.int d1), .val (.int d2), .val (.ref b1), .val (.int (own_b (¬ (ag < ag) ∧ ¬ (yo < yo)))), .val (.int (1 : Int32)), .unset, .unset, .unset, .unset] [(.int (2147483647 : Int32)), (.ref b1)]))
      refine own_st (fun zt zk => XS.iloadN X25.here hx rfl (hb hby at_56) rfl zk) ?_
      show own_G p e below s _ _ _ (T25.setTop (mkF m 57 #[.val (.int ag), .val (.int yo), .val (.int pa), .val (.int py), .val (.int d1), .val (.int d2), .val (.ref b1), .val (.int (own_b (¬ (ag < ag) ∧ ¬ (yo < yo)))), .val (.int (1 : Int32)), .unset, .unset, .unset, .unset] [(.int yo), (.int (2147483647 : Int32)), (.ref b1)]))
      refine own_st (fun zt zk => XS.iconst X25.here hx rfl (hb hby at_57) zk) ?_
      show own_G p e below s _ _ _ (T25.setTop (mkF m 58 #[.val (.int ag), .val (.int yo), .val (.int pa), .val (.int py), .val (.int d1), .val (.int d2), .val (.ref b1), .val (.int (own_b (¬ (ag < ag) ∧ ¬ (yo < yo)))), .val (.int (1 : Int32)), .unset, .unset, .unset, .unset] [(.int (1 : Int32)), (.int yo), (.int (2147483647 : Int32)), (.ref b1)]))
      refine own_st (fun zt zk => XS.isub X25.here hx rfl (hb hby at_58) rfl zk) ?_
      show own_G p e below s _ _ _ (T25.setTop (mkF m 59 #[.val (.int ag), .val (.int yo), .val (.int pa), .val (.int py), .val (.int d1), .val (.int d2), .val (.ref b1), .val (.int (own_b (¬ (ag < ag) ∧ ¬ (yo < yo)))), .val (.int (1 : Int32)), .unset, .unset, .unset, .unset] [(.int (yo - (1 : Int32))), (.int (2147483647 : Int32)), (.ref b1)]))
      obtain ⟨_, T36, L36, X36, hQ36, st36⟩ := own_callV X25 hx hZ (C := "com/example/deferral_ledger/deferralledger/model/RetirementAge") (y := (⟨"com/example/deferral_ledger/deferralledger/model/RetirementAge", "isMetBy", "(II)Z"⟩ : MethodName)) (z := (⟨"com/example/deferral_ledger/deferralledger/model/RetirementAge", "isMetBy", "(II)Z"⟩ : MethodName)) (a := b1) (argsL := [(.int (2147483647 : Int32)), (.int (yo - (1 : Int32)))]) (rest := []) 0 hown (hw _ (List.mem_of_getElem? (i := 13) rfl)) (hw _ (List.mem_of_getElem? (i := 14) rfl)) (own_nf hZ (hw _ (List.mem_of_getElem? (i := 16) rfl))) (hw _ (List.mem_of_getElem? (i := 16) rfl)) (hw _ (List.mem_of_getElem? (i := 15) rfl)) (hw _ (List.mem_of_getElem? (i := 2) rfl)) (hw _ (List.mem_of_getElem? (i := 17) rfl)) (by decide) (own_isMet l Z a0 hw [] b1 (2147483647 : Int32) (yo - (1 : Int32)) ag yo T2.heap n0 (Nat.le_trans (Nat.le_trans Z0 E1.1) K2.1) q2_0 q2_1) (by decide) (by decide) e25 E4 (g := (mkF m 59 #[.val (.int ag), .val (.int yo), .val (.int pa), .val (.int py), .val (.int d1), .val (.int d2), .val (.ref b1), .val (.int (own_b (¬ (ag < ag) ∧ ¬ (yo < yo)))), .val (.int (1 : Int32)), .unset, .unset, .unset, .unset] [(.int (yo - (1 : Int32))), (.int (2147483647 : Int32)), (.ref b1)])) rfl (by rw [hml]; rfl) own_pd2 rfl rfl (by show 2 * 0 + _ ≤ _; exact Nat.le_of_eq rfl) (hb hby at_59) (by decide) (by decide)
      obtain ⟨rfl, N36q, e36⟩ := hQ36
      have N36 := Fr.app N25 N36q
      refine own_st st36 ?_
      show own_G p e below s _ _ _ (T36.setTop (mkF m 62 #[.val (.int ag), .val (.int yo), .val (.int pa), .val (.int py), .val (.int d1), .val (.int d2), .val (.ref b1), .val (.int (own_b (¬ (ag < ag) ∧ ¬ (yo < yo)))), .val (.int (1 : Int32)), .unset, .unset, .unset, .unset] [(.int (own_b (¬ ((2147483647 : Int32) < ag) ∧ ¬ ((yo - (1 : Int32)) < yo))))]))
      have hc62_37 : ¬ ((¬ ((2147483647 : Int32) < ag) ∧ ¬ ((yo - (1 : Int32)) < yo))) := (by
            have i1 : (1 : Int32).toInt = 1 := by decide
            have i2 : (-2147483648 : Int32).toInt = -2147483648 := by decide
            have i3 : (2147483647 : Int32).toInt = 2147483647 := by decide
            have a1 := c_isub ag 1
            have a2 := c_isub yo 1
            have r1 := rng32 ag
            have r2 := rng32 yo
            have r3 := rng32 (ag - 1)
            have r4 := rng32 (yo - 1)
            have r5 := own_raised pa d1
            have r6 := own_raised py d2
            simp only [Int32.lt_iff_toInt_lt, ← Int32.toInt_inj] at hc49_27 ⊢
            omega)
      refine own_st (fun zt zk => XS.ifNo X36.here hx rfl (hb hby at_62) rfl ((if0 _ _).trans (teq (own_b0 hc62_37)).2) zk) ?_
      show own_G p e below s _ _ _ (T36.setTop (mkF m 65 #[.val (.int ag), .val (.int yo), .val (.int pa), .val (.int py), .val (.int d1), .val (.int d2), .val (.ref b1), .val (.int (own_b (¬ (ag < ag) ∧ ¬ (yo < yo)))), .val (.int (1 : Int32)), .unset, .unset, .unset, .unset] []))
      refine own_st (fun zt zk => XS.iconst X36.here hx rfl (hb hby at_65) zk) ?_
      show own_G p e below s _ _ _ (T36.setTop (mkF m 66 #[.val (.int ag), .val (.int yo), .val (.int pa), .val (.int py), .val (.int d1), .val (.int d2), .val (.ref b1), .val (.int (own_b (¬ (ag < ag) ∧ ¬ (yo < yo)))), .val (.int (1 : Int32)), .unset, .unset, .unset, .unset] [(.int (1 : Int32))]))
      refine own_st (fun zt zk => XS.goto X36.here hx rfl (pc0 := 66) (pc' := 70) rfl (hb hby at_66) (by decide) (by decide) zk) ?_
      show own_G p e below s _ _ _ (T36.setTop (mkF m 70 #[.val (.int ag), .val (.int yo), .val (.int pa), .val (.int py), .val (.int d1), .val (.int d2), .val (.ref b1), .val (.int (own_b (¬ (ag < ag) ∧ ¬ (yo < yo)))), .val (.int (1 : Int32)), .unset, .unset, .unset, .unset] [(.int (1 : Int32))]))
      refine own_st (fun zt zk => XS.istore X36.here hx rfl (hb hby at_70) rfl (l' := #[.val (.int ag), .val (.int yo), .val (.int pa), .val (.int py), .val (.int d1), .val (.int d2), .val (.ref b1), .val (.int (own_b (¬ (ag < ag) ∧ ¬ (yo < yo)))), .val (.int (1 : Int32)), .val (.int (1 : Int32)), .unset, .unset, .unset]) rfl zk) ?_
      show own_G p e below s _ _ _ (T36.setTop (mkF m 72 #[.val (.int ag), .val (.int yo), .val (.int pa), .val (.int py), .val (.int d1), .val (.int d2), .val (.ref b1), .val (.int (own_b (¬ (ag < ag) ∧ ¬ (yo < yo)))), .val (.int (1 : Int32)), .val (.int (1 : Int32)), .unset, .unset, .unset] []))
      refine own_st (fun zt zk => XS.iloadN X36.here hx rfl (hb hby at_72) rfl zk) ?_
      show own_G p e below s _ _ _ (T36.setTop (mkF m 73 #[.val (.int ag), .val (.int yo), .val (.int pa), .val (.int py), .val (.int d1), .val (.int d2), .val (.ref b1), .val (.int (own_b (¬ (ag < ag) ∧ ¬ (yo < yo)))), .val (.int (1 : Int32)), .val (.int (1 : Int32)), .unset, .unset, .unset] [(.int pa)]))
      refine own_st (fun zt zk => XS.iload X36.here hx rfl (hb hby at_73) rfl zk) ?_
      show own_G p e below s _ _ _ (T36.setTop (mkF m 75 #[.val (.int ag), .val (.int yo), .val (.int pa), .val (.int py), .val (.int d1), .val (.int d2), .val (.ref b1), .val (.int (own_b (¬ (ag < ag) ∧ ¬ (yo < yo)))), .val (.int (1 : Int32)), .val (.int (1 : Int32)), .unset, .unset, .unset] [(.int d1), (.int pa)]))
      obtain ⟨_, T38, L38, X38, hQ38, st38⟩ := own_callS X36 hx hZ (y := (⟨"com/example/deferral_ledger/deferralledger/model/RetirementAgeIsMetByPinLaw", "raise", "(II)I"⟩ : MethodName)) (argsL := [(.int pa), (.int d1)]) (rest := []) 0 hown (hw _ (List.mem_of_getElem? (i := 20) rfl)) (hw _ (List.mem_of_getElem? (i := 21) rfl)) (hw _ (List.mem_of_getElem? (i := 22) rfl)) (hw _ (List.mem_of_getElem? (i := 23) rfl)) (by decide) (own_rai l Z a0 hw [] pa d1 T2.heap n0 (Nat.le_trans (Nat.le_trans Z0 E1.1) K2.1) ) (by decide) (by decide) e36 (g := (mkF m 75 #[.val (.int ag), .val (.int yo), .val (.int pa), .val (.int py), .val (.int d1), .val (.int d2), .val (.ref b1), .val (.int (own_b (¬ (ag < ag) ∧ ¬ (yo < yo)))), .val (.int (1 : Int32)), .val (.int (1 : Int32)), .unset, .unset, .unset] [(.int d1), (.int pa)])) rfl (by rw [hml]; rfl) own_pd3 rfl rfl (by show 2 * 0 + _ ≤ _; exact Nat.le_of_eq rfl) (hb hby at_75) (by decide) (by decide)
      obtain ⟨rfl, N38q, e38⟩ := hQ38
      have N38 := Fr.app N36 N38q
      refine own_st st38 ?_
      show own_G p e below s _ _ _ (T38.setTop (mkF m 78 #[.val (.int ag), .val (.int yo), .val (.int pa), .val (.int py), .val (.int d1), .val (.int d2), .val (.ref b1), .val (.int (own_b (¬ (ag < ag) ∧ ¬ (yo < yo)))), .val (.int (1 : Int32)), .val (.int (1 : Int32)), .unset, .unset, .unset] [(.int (own_raise pa d1))]))
      refine own_st (fun zt zk => XS.istore X38.here hx rfl (hb hby at_78) rfl (l' := #[.val (.int ag), .val (.int yo), .val (.int pa), .val (.int py), .val (.int d1), .val (.int d2), .val (.ref b1), .val (.int (own_b (¬ (ag < ag) ∧ ¬ (yo < yo)))), .val (.int (1 : Int32)), .val (.int (1 : Int32)), .val (.int (own_raise pa d1)), .unset, .unset]) rfl zk) ?_
      show own_G p e below s _ _ _ (T38.setTop (mkF m 80 #[.val (.int ag), .val (.int yo), .val (.int pa), .val (.int py), .val (.int d1), .val (.int d2), .val (.ref b1), .val (.int (own_b (¬ (ag < ag) ∧ ¬ (yo < yo)))), .val (.int (1 : Int32)), .val (.int (1 : Int32)), .val (.int (own_raise pa d1)), .unset, .unset] []))
      refine own_st (fun zt zk => XS.iloadN X38.here hx rfl (hb hby at_80) rfl zk) ?_
      show own_G p e below s _ _ _ (T38.setTop (mkF m 81 #[.val (.int ag), .val (.int yo), .val (.int pa), .val (.int py), .val (.int d1), .val (.int d2), .val (.ref b1), .val (.int (own_b (¬ (ag < ag) ∧ ¬ (yo < yo)))), .val (.int (1 : Int32)), .val (.int (1 : Int32)), .val (.int (own_raise pa d1)), .unset, .unset] [(.int py)]))
      refine own_st (fun zt zk => XS.iload X38.here hx rfl (hb hby at_81) rfl zk) ?_
      show own_G p e below s _ _ _ (T38.setTop (mkF m 83 #[.val (.int ag), .val (.int yo), .val (.int pa), .val (.int py), .val (.int d1), .val (.int d2), .val (.ref b1), .val (.int (own_b (¬ (ag < ag) ∧ ¬ (yo < yo)))), .val (.int (1 : Int32)), .val (.int (1 : Int32)), .val (.int (own_raise pa d1)), .unset, .unset] [(.int d2), (.int py)]))
      obtain ⟨_, T39, L39, X39, hQ39, st39⟩ := own_callS X38 hx hZ (y := (⟨"com/example/deferral_ledger/deferralledger/model/RetirementAgeIsMetByPinLaw", "raise", "(II)I"⟩ : MethodName)) (argsL := [(.int py), (.int d2)]) (rest := []) 0 hown (hw _ (List.mem_of_getElem? (i := 20) rfl)) (hw _ (List.mem_of_getElem? (i := 21) rfl)) (hw _ (List.mem_of_getElem? (i := 22) rfl)) (hw _ (List.mem_of_getElem? (i := 23) rfl)) (by decide) (own_rai l Z a0 hw [] py d2 T2.heap n0 (Nat.le_trans (Nat.le_trans Z0 E1.1) K2.1) ) (by decide) (by decide) e38 (g := (mkF m 83 #[.val (.int ag), .val (.int yo), .val (.int pa), .val (.int py), .val (.int d1), .val (.int d2), .val (.ref b1), .val (.int (own_b (¬ (ag < ag) ∧ ¬ (yo < yo)))), .val (.int (1 : Int32)), .val (.int (1 : Int32)), .val (.int (own_raise pa d1)), .unset, .unset] [(.int d2), (.int py)])) rfl (by rw [hml]; rfl) own_pd3 rfl rfl (by show 2 * 0 + _ ≤ _; exact Nat.le_of_eq rfl) (hb hby at_83) (by decide) (by decide)
      obtain ⟨rfl, N39q, e39⟩ := hQ39
      have N39 := Fr.app N38 N39q
      refine own_st st39 ?_
      show own_G p e below s _ _ _ (T39.setTop (mkF m 86 #[.val (.int ag), .val (.int yo), .val (.int pa), .val (.int py), .val (.int d1), .val (.int d2), .val (.ref b1), .val (.int (own_b (¬ (ag < ag) ∧ ¬ (yo < yo)))), .val (.int (1 : Int32)), .val (.int (1 : Int32)), .val (.int (own_raise pa d1)), .unset, .unset] [(.int (own_raise py d2))]))
      refine own_st (fun zt zk => XS.istore X39.here hx rfl (hb hby at_86) rfl (l' := #[.val (.int ag), .val (.int yo), .val (.int pa), .val (.int py), .val (.int d1), .val (.int d2), .val (.ref b1), .val (.int (own_b (¬ (ag < ag) ∧ ¬ (yo < yo)))), .val (.int (1 : Int32)), .val (.int (1 : Int32)), .val (.int (own_raise pa d1)), .val (.int (own_raise py d2)), .unset]) rfl zk) ?_
      show own_G p e below s _ _ _ (T39.setTop (mkF m 88 #[.val (.int ag), .val (.int yo), .val (.int pa), .val (.int py), .val (.int d1), .val (.int d2), .val (.ref b1), .val (.int (own_b (¬ (ag < ag) ∧ ¬ (yo < yo)))), .val (.int (1 : Int32)), .val (.int (1 : Int32)), .val (.int (own_raise pa d1)), .val (.int (own_raise py d2)), .unset] []))
      refine own_st (fun zt zk => XS.aload X39.here hx rfl (hb hby at_88) rfl rfl zk) ?_
      show own_G p e below s _ _ _ (T39.setTop (mkF m 90 #[.val (.int ag), .val (.int yo), .val (.int pa), .val (.int py), .val (.int d1), .val (.int d2), .val (.ref b1), .val (.int (own_b (¬ (ag < ag) ∧ ¬ (yo < yo)))), .val (.int (1 : Int32)), .val (.int (1 : Int32)), .val (.int (own_raise pa d1)), .val (.int (own_raise py d2)), .unset] [(.ref b1)]))
      refine own_st (fun zt zk => XS.iloadN X39.here hx rfl (hb hby at_90) rfl zk) ?_
      show own_G p e below s _ _ _ (T39.setTop (mkF m 91 #[.val (.int ag), .val (.int yo), .val (.int pa), .val (.int py), .val (.int d1), .val (.int d2), .val (.ref b1), .val (.int (own_b (¬ (ag < ag) ∧ ¬ (yo < yo)))), .val (.int (1 : Int32)), .val (.int (1 : Int32)), .val (.int (own_raise pa d1)), .val (.int (own_raise py d2)), .unset] [(.int pa), (.ref b1)]))
      refine own_st (fun zt zk => XS.iloadN X39.here hx rfl (hb hby at_91) rfl zk) ?_
      show own_G p e below s _ _ _ (T39.setTop (mkF m 92 #[.val (.int ag), .val (.int yo), .val (.int pa), .val (.int py), .val (.int d1), .val (.int d2), .val (.ref b1), .val (.int (own_b (¬ (ag < ag) ∧ ¬ (yo < yo)))), .val (.int (1 : Int32)), .val (.int (1 : Int32)), .val (.int (own_raise pa d1)), .val (.int (own_raise py d2)), .unset] [(.int py), (.int pa), (.ref b1)]))
      obtain ⟨_, T40, L40, X40, hQ40, st40⟩ := own_callV X39 hx hZ (C := "com/example/deferral_ledger/deferralledger/model/RetirementAge") (y := (⟨"com/example/deferral_ledger/deferralledger/model/RetirementAge", "isMetBy", "(II)Z"⟩ : MethodName)) (z := (⟨"com/example/deferral_ledger/deferralledger/model/RetirementAge", "isMetBy", "(II)Z"⟩ : MethodName)) (a := b1) (argsL := [(.int pa), (.int py)]) (rest := []) 0 hown (hw _ (List.mem_of_getElem? (i := 13) rfl)) (hw _ (List.mem_of_getElem? (i := 14) rfl)) (own_nf hZ (hw _ (List.mem_of_getElem? (i := 16) rfl))) (hw _ (List.mem_of_getElem? (i := 16) rfl)) (hw _ (List.mem_of_getElem? (i := 15) rfl)) (hw _ (List.mem_of_getElem? (i := 2) rfl)) (hw _ (List.mem_of_getElem? (i := 17) rfl)) (by decide) (own_isMet l Z a0 hw [] b1 pa py ag yo T2.heap n0 (Nat.le_trans (Nat.le_trans Z0 E1.1) K2.1) q2_0 q2_1) (by decide) (by decide) e39 E4 (g := (mkF m 92 #[.val (.int ag), .val (.int yo), .val (.int pa), .val (.int py), .val (.int d1), .val (.int d2), .val (.ref b1), .val (.int (own_b (¬ (ag < ag) ∧ ¬ (yo < yo)))), .val (.int (1 : Int32)), .val (.int (1 : Int32)), .val (.int (own_raise pa d1)), .val (.int (own_raise py d2)), .unset] [(.int py), (.int pa), (.ref b1)])) rfl (by rw [hml]; rfl) own_pd2 rfl rfl (by show 2 * 0 + _ ≤ _; exact Nat.le_of_eq rfl) (hb hby at_92) (by decide) (by decide)
      obtain ⟨rfl, N40q, e40⟩ := hQ40
      have N40 := Fr.app N39 N40q
      refine own_st st40 ?_
      show own_G p e below s _ _ _ (T40.setTop (mkF m 95 #[.val (.int ag), .val (.int yo), .val (.int pa), .val (.int py), .val (.int d1), .val (.int d2), .val (.ref b1), .val (.int (own_b (¬ (ag < ag) ∧ ¬ (yo < yo)))), .val (.int (1 : Int32)), .val (.int (1 : Int32)), .val (.int (own_raise pa d1)), .val (.int (own_raise py d2)), .unset] [(.int (own_b (¬ (pa < ag) ∧ ¬ (py < yo))))]))
      by_cases hc95_41 : (¬ (pa < ag) ∧ ¬ (py < yo))
      · refine own_st (fun zt zk => XS.ifNo X40.here hx rfl (hb hby at_95) rfl ((if0 _ _).trans (feq (own_bn hc95_41)).1) zk) ?_
        show own_G p e below s _ _ _ (T40.setTop (mkF m 98 #[.val (.int ag), .val (.int yo), .val (.int pa), .val (.int py), .val (.int d1), .val (.int d2), .val (.ref b1), .val (.int (own_b (¬ (ag < ag) ∧ ¬ (yo < yo)))), .val (.int (1 : Int32)), .val (.int (1 : Int32)), .val (.int (own_raise pa d1)), .val (.int (own_raise py d2)), .unset] []))
        refine own_st (fun zt zk => XS.aload X40.here hx rfl (hb hby at_98) rfl rfl zk) ?_
        show own_G p e below s _ _ _ (T40.setTop (mkF m 100 #[.val (.int ag), .val (.int yo), .val (.int pa), .val (.int py), .val (.int d1), .val (.int d2), .val (.ref b1), .val (.int (own_b (¬ (ag < ag) ∧ ¬ (yo < yo)))), .val (.int (1 : Int32)), .val (.int (1 : Int32)), .val (.int (own_raise pa d1)), .val (.int (own_raise py d2)), .unset] [(.ref b1)]))
        refine own_st (fun zt zk => XS.iload X40.here hx rfl (hb hby at_100) rfl zk) ?_
        show own_G p e below s _ _ _ (T40.setTop (mkF m 102 #[.val (.int ag), .val (.int yo), .val (.int pa), .val (.int py), .val (.int d1), .val (.int d2), .val (.ref b1), .val (.int (own_b (¬ (ag < ag) ∧ ¬ (yo < yo)))), .val (.int (1 : Int32)), .val (.int (1 : Int32)), .val (.int (own_raise pa d1)), .val (.int (own_raise py d2)), .unset] [(.int (own_raise pa d1)), (.ref b1)]))
        refine own_st (fun zt zk => XS.iload X40.here hx rfl (hb hby at_102) rfl zk) ?_
        show own_G p e below s _ _ _ (T40.setTop (mkF m 104 #[.val (.int ag), .val (.int yo), .val (.int pa), .val (.int py), .val (.int d1), .val (.int d2), .val (.ref b1), .val (.int (own_b (¬ (ag < ag) ∧ ¬ (yo < yo)))), .val (.int (1 : Int32)), .val (.int (1 : Int32)), .val (.int (own_raise pa d1)), .val (.int (own_raise py d2)), .unset] [(.int (own_raise py d2)), (.int (own_raise pa d1)), (.ref b1)]))
        obtain ⟨_, T42, L42, X42, hQ42, st42⟩ := own_callV X40 hx hZ (C := "com/example/deferral_ledger/deferralledger/model/RetirementAge") (y := (⟨"com/example/deferral_ledger/deferralledger/model/RetirementAge", "isMetBy", "(II)Z"⟩ : MethodName)) (z := (⟨"com/example/deferral_ledger/deferralledger/model/RetirementAge", "isMetBy", "(II)Z"⟩ : MethodName)) (a := b1) (argsL := [(.int (own_raise pa d1)), (.int (own_raise py d2))]) (rest := []) 0 hown (hw _ (List.mem_of_getElem? (i := 13) rfl)) (hw _ (List.mem_of_getElem? (i := 14) rfl)) (own_nf hZ (hw _ (List.mem_of_getElem? (i := 16) rfl))) (hw _ (List.mem_of_getElem? (i := 16) rfl)) (hw _ (List.mem_of_getElem? (i := 15) rfl)) (hw _ (List.mem_of_getElem? (i := 2) rfl)) (hw _ (List.mem_of_getElem? (i := 17) rfl)) (by decide) (own_isMet l Z a0 hw [] b1 (own_raise pa d1) (own_raise py d2) ag yo T2.heap n0 (Nat.le_trans (Nat.le_trans Z0 E1.1) K2.1) q2_0 q2_1) (by decide) (by decide) e40 E4 (g := (mkF m 104 #[.val (.int ag), .val (.int yo), .val (.int pa), .val (.int py), .val (.int d1), .val (.int d2), .val (.ref b1), .val (.int (own_b (¬ (ag < ag) ∧ ¬ (yo < yo)))), .val (.int (1 : Int32)), .val (.int (1 : Int32)), .val (.int (own_raise pa d1)), .val (.int (own_raise py d2)), .unset] [(.int (own_raise py d2)), (.int (own_raise pa d1)), (.ref b1)])) rfl (by rw [hml]; rfl) own_pd2 rfl rfl (by show 2 * 0 + _ ≤ _; exact Nat.le_of_eq rfl) (hb hby at_104) (by decide) (by decide)
        obtain ⟨rfl, N42q, e42⟩ := hQ42
        have N42 := Fr.app N40 N42q
        refine own_st st42 ?_
        show own_G p e below s _ _ _ (T42.setTop (mkF m 107 #[.val (.int ag), .val (.int yo), .val (.int pa), .val (.int py), .val (.int d1), .val (.int d2), .val (.ref b1), .val (.int (own_b (¬ (ag < ag) ∧ ¬ (yo < yo)))), .val (.int (1 : Int32)), .val (.int (1 : Int32)), .val (.int (own_raise pa d1)), .val (.int (own_raise py d2)), .unset] [(.int (own_b (¬ ((own_raise pa d1) < ag) ∧ ¬ ((own_raise py d2) < yo))))]))
        have hc107_43 : (¬ ((own_raise pa d1) < ag) ∧ ¬ ((own_raise py d2) < yo)) := (by
              have i1 : (1 : Int32).toInt = 1 := by decide
              have i2 : (-2147483648 : Int32).toInt = -2147483648 := by decide
              have i3 : (2147483647 : Int32).toInt = 2147483647 := by decide
              have a1 := c_isub ag 1
              have a2 := c_isub yo 1
              have r1 := rng32 ag
              have r2 := rng32 yo
              have r3 := rng32 (ag - 1)
              have r4 := rng32 (yo - 1)
              have r5 := own_raised pa d1
              have r6 := own_raised py d2
              simp only [Int32.lt_iff_toInt_lt, ← Int32.toInt_inj] at hc95_41 ⊢
              omega)
        refine own_st (fun zt zk => XS.ifNo X42.here hx rfl (hb hby at_107) rfl ((if0 _ _).trans (feq (own_bn hc107_43)).1) zk) ?_
        show own_G p e below s _ _ _ (T42.setTop (mkF m 110 #[.val (.int ag), .val (.int yo), .val (.int pa), .val (.int py), .val (.int d1), .val (.int d2), .val (.ref b1), .val (.int (own_b (¬ (ag < ag) ∧ ¬ (yo < yo)))), .val (.int (1 : Int32)), .val (.int (1 : Int32)), .val (.int (own_raise pa d1)), .val (.int (own_raise py d2)), .unset] []))
        refine own_st (fun zt zk => XS.iconst X42.here hx rfl (hb hby at_110) zk) ?_
        show own_G p e below s _ _ _ (T42.setTop (mkF m 111 #[.val (.int ag), .val (.int yo), .val (.int pa), .val (.int py), .val (.int d1), .val (.int d2), .val (.ref b1), .val (.int (own_b (¬ (ag < ag) ∧ ¬ (yo < yo)))), .val (.int (1 : Int32)), .val (.int (1 : Int32)), .val (.int (own_raise pa d1)), .val (.int (own_raise py d2)), .unset] [(.int (1 : Int32))]))
        refine own_st (fun zt zk => XS.goto X42.here hx rfl (pc0 := 111) (pc' := 115) rfl (hb hby at_111) (by decide) (by decide) zk) ?_
        show own_G p e below s _ _ _ (T42.setTop (mkF m 115 #[.val (.int ag), .val (.int yo), .val (.int pa), .val (.int py), .val (.int d1), .val (.int d2), .val (.ref b1), .val (.int (own_b (¬ (ag < ag) ∧ ¬ (yo < yo)))), .val (.int (1 : Int32)), .val (.int (1 : Int32)), .val (.int (own_raise pa d1)), .val (.int (own_raise py d2)), .unset] [(.int (1 : Int32))]))
        refine own_st (fun zt zk => XS.istore X42.here hx rfl (hb hby at_115) rfl (l' := #[.val (.int ag), .val (.int yo), .val (.int pa), .val (.int py), .val (.int d1), .val (.int d2), .val (.ref b1), .val (.int (own_b (¬ (ag < ag) ∧ ¬ (yo < yo)))), .val (.int (1 : Int32)), .val (.int (1 : Int32)), .val (.int (own_raise pa d1)), .val (.int (own_raise py d2)), .val (.int (1 : Int32))]) rfl zk) ?_
        show own_G p e below s _ _ _ (T42.setTop (mkF m 117 #[.val (.int ag), .val (.int yo), .val (.int pa), .val (.int py), .val (.int d1), .val (.int d2), .val (.ref b1), .val (.int (own_b (¬ (ag < ag) ∧ ¬ (yo < yo)))), .val (.int (1 : Int32)), .val (.int (1 : Int32)), .val (.int (own_raise pa d1)), .val (.int (own_raise py d2)), .val (.int (1 : Int32))] []))
        refine own_st (fun zt zk => XS.iload X42.here hx rfl (hb hby at_117) rfl zk) ?_
        show own_G p e below s _ _ _ (T42.setTop (mkF m 119 #[.val (.int ag), .val (.int yo), .val (.int pa), .val (.int py), .val (.int d1), .val (.int d2), .val (.ref b1), .val (.int (own_b (¬ (ag < ag) ∧ ¬ (yo < yo)))), .val (.int (1 : Int32)), .val (.int (1 : Int32)), .val (.int (own_raise pa d1)), .val (.int (own_raise py d2)), .val (.int (1 : Int32))] [(.int (own_b (¬ (ag < ag) ∧ ¬ (yo < yo))))]))
        have hc119_44 : (¬ (ag < ag) ∧ ¬ (yo < yo)) := ⟨Int32.lt_irrefl, Int32.lt_irrefl⟩
        refine own_st (fun zt zk => XS.ifNo X42.here hx rfl (hb hby at_119) rfl ((if0 _ _).trans (feq (own_bn hc119_44)).1) zk) ?_
        show own_G p e below s _ _ _ (T42.setTop (mkF m 122 #[.val (.int ag), .val (.int yo), .val (.int pa), .val (.int py), .val (.int d1), .val (.int d2), .val (.ref b1), .val (.int (own_b (¬ (ag < ag) ∧ ¬ (yo < yo)))), .val (.int (1 : Int32)), .val (.int (1 : Int32)), .val (.int (own_raise pa d1)), .val (.int (own_raise py d2)), .val (.int (1 : Int32))] []))
        refine own_st (fun zt zk => XS.iload X42.here hx rfl (hb hby at_122) rfl zk) ?_
        show own_G p e below s _ _ _ (T42.setTop (mkF m 124 #[.val (.int ag), .val (.int yo), .val (.int pa), .val (.int py), .val (.int d1), .val (.int d2), .val (.ref b1), .val (.int (own_b (¬ (ag < ag) ∧ ¬ (yo < yo)))), .val (.int (1 : Int32)), .val (.int (1 : Int32)), .val (.int (own_raise pa d1)), .val (.int (own_raise py d2)), .val (.int (1 : Int32))] [(.int (1 : Int32))]))
        refine own_st (fun zt zk => XS.ifNo X42.here hx rfl (hb hby at_124) rfl ((if0 _ _).trans (feq (by decide : ¬ ((1 : Int32) = (0 : Int32)))).1) zk) ?_
        show own_G p e below s _ _ _ (T42.setTop (mkF m 127 #[.val (.int ag), .val (.int yo), .val (.int pa), .val (.int py), .val (.int d1), .val (.int d2), .val (.ref b1), .val (.int (own_b (¬ (ag < ag) ∧ ¬ (yo < yo)))), .val (.int (1 : Int32)), .val (.int (1 : Int32)), .val (.int (own_raise pa d1)), .val (.int (own_raise py d2)), .val (.int (1 : Int32))] []))
        refine own_st (fun zt zk => XS.iload X42.here hx rfl (hb hby at_127) rfl zk) ?_
        show own_G p e below s _ _ _ (T42.setTop (mkF m 129 #[.val (.int ag), .val (.int yo), .val (.int pa), .val (.int py), .val (.int d1), .val (.int d2), .val (.ref b1), .val (.int (own_b (¬ (ag < ag) ∧ ¬ (yo < yo)))), .val (.int (1 : Int32)), .val (.int (1 : Int32)), .val (.int (own_raise pa d1)), .val (.int (own_raise py d2)), .val (.int (1 : Int32))] [(.int (1 : Int32))]))
        refine own_st (fun zt zk => XS.ifNo X42.here hx rfl (hb hby at_129) rfl ((if0 _ _).trans (feq (by decide : ¬ ((1 : Int32) = (0 : Int32)))).1) zk) ?_
        show own_G p e below s _ _ _ (T42.setTop (mkF m 132 #[.val (.int ag), .val (.int yo), .val (.int pa), .val (.int py), .val (.int d1), .val (.int d2), .val (.ref b1), .val (.int (own_b (¬ (ag < ag) ∧ ¬ (yo < yo)))), .val (.int (1 : Int32)), .val (.int (1 : Int32)), .val (.int (own_raise pa d1)), .val (.int (own_raise py d2)), .val (.int (1 : Int32))] []))
        refine own_st (fun zt zk => XS.iload X42.here hx rfl (hb hby at_132) rfl zk) ?_
        show own_G p e below s _ _ _ (T42.setTop (mkF m 134 #[.val (.int ag), .val (.int yo), .val (.int pa), .val (.int py), .val (.int d1), .val (.int d2), .val (.ref b1), .val (.int (own_b (¬ (ag < ag) ∧ ¬ (yo < yo)))), .val (.int (1 : Int32)), .val (.int (1 : Int32)), .val (.int (own_raise pa d1)), .val (.int (own_raise py d2)), .val (.int (1 : Int32))] [(.int (1 : Int32))]))
        refine own_st (fun zt zk => XS.ifNo X42.here hx rfl (hb hby at_134) rfl ((if0 _ _).trans (feq (by decide : ¬ ((1 : Int32) = (0 : Int32)))).1) zk) ?_
        show own_G p e below s _ _ _ (T42.setTop (mkF m 137 #[.val (.int ag), .val (.int yo), .val (.int pa), .val (.int py), .val (.int d1), .val (.int d2), .val (.ref b1), .val (.int (own_b (¬ (ag < ag) ∧ ¬ (yo < yo)))), .val (.int (1 : Int32)), .val (.int (1 : Int32)), .val (.int (own_raise pa d1)), .val (.int (own_raise py d2)), .val (.int (1 : Int32))] []))
        refine own_st (fun zt zk => XS.iconst X42.here hx rfl (hb hby at_137) zk) ?_
        show own_G p e below s _ _ _ (T42.setTop (mkF m 138 #[.val (.int ag), .val (.int yo), .val (.int pa), .val (.int py), .val (.int d1), .val (.int d2), .val (.ref b1), .val (.int (own_b (¬ (ag < ag) ∧ ¬ (yo < yo)))), .val (.int (1 : Int32)), .val (.int (1 : Int32)), .val (.int (own_raise pa d1)), .val (.int (own_raise py d2)), .val (.int (1 : Int32))] [(.int (1 : Int32))]))
        refine own_st (fun zt zk => XS.goto X42.here hx rfl (pc0 := 138) (pc' := 142) rfl (hb hby at_138) (by decide) (by decide) zk) ?_
        show own_G p e below s _ _ _ (T42.setTop (mkF m 142 #[.val (.int ag), .val (.int yo), .val (.int pa), .val (.int py), .val (.int d1), .val (.int d2), .val (.ref b1), .val (.int (own_b (¬ (ag < ag) ∧ ¬ (yo < yo)))), .val (.int (1 : Int32)), .val (.int (1 : Int32)), .val (.int (own_raise pa d1)), .val (.int (own_raise py d2)), .val (.int (1 : Int32))] [(.int (1 : Int32))]))
        refine own_retZ X42 hx hlk hret (by decide) (hb hby at_142) (by decide) (by decide) ?_
        show Q_own_law Z ag yo pa py d1 d2 h0 n0 (some (.int (1 : Int32))) T42.heap _
        rw [e42]
        exact ⟨rfl, N42⟩
      · refine own_st (fun zt zk => XS.ifYes X40.here hx rfl (pc0 := 95) (pc' := 110) rfl (hb hby at_95) rfl ((if0 _ _).trans (teq (own_b0 hc95_41)).1) (by decide) (by decide) zk) ?_
        show own_G p e below s _ _ _ (T40.setTop (mkF m 110 #[.val (.int ag), .val (.int yo), .val (.int pa), .val (.int py), .val (.int d1), .val (.int d2), .val (.ref b1), .val (.int (own_b (¬ (ag < ag) ∧ ¬ (yo < yo)))), .val (.int (1 : Int32)), .val (.int (1 : Int32)), .val (.int (own_raise pa d1)), .val (.int (own_raise py d2)), .unset] []))
        refine own_st (fun zt zk => XS.iconst X40.here hx rfl (hb hby at_110) zk) ?_
        show own_G p e below s _ _ _ (T40.setTop (mkF m 111 #[.val (.int ag), .val (.int yo), .val (.int pa), .val (.int py), .val (.int d1), .val (.int d2), .val (.ref b1), .val (.int (own_b (¬ (ag < ag) ∧ ¬ (yo < yo)))), .val (.int (1 : Int32)), .val (.int (1 : Int32)), .val (.int (own_raise pa d1)), .val (.int (own_raise py d2)), .unset] [(.int (1 : Int32))]))
        refine own_st (fun zt zk => XS.goto X40.here hx rfl (pc0 := 111) (pc' := 115) rfl (hb hby at_111) (by decide) (by decide) zk) ?_
        show own_G p e below s _ _ _ (T40.setTop (mkF m 115 #[.val (.int ag), .val (.int yo), .val (.int pa), .val (.int py), .val (.int d1), .val (.int d2), .val (.ref b1), .val (.int (own_b (¬ (ag < ag) ∧ ¬ (yo < yo)))), .val (.int (1 : Int32)), .val (.int (1 : Int32)), .val (.int (own_raise pa d1)), .val (.int (own_raise py d2)), .unset] [(.int (1 : Int32))]))
        refine own_st (fun zt zk => XS.istore X40.here hx rfl (hb hby at_115) rfl (l' := #[.val (.int ag), .val (.int yo), .val (.int pa), .val (.int py), .val (.int d1), .val (.int d2), .val (.ref b1), .val (.int (own_b (¬ (ag < ag) ∧ ¬ (yo < yo)))), .val (.int (1 : Int32)), .val (.int (1 : Int32)), .val (.int (own_raise pa d1)), .val (.int (own_raise py d2)), .val (.int (1 : Int32))]) rfl zk) ?_
        show own_G p e below s _ _ _ (T40.setTop (mkF m 117 #[.val (.int ag), .val (.int yo), .val (.int pa), .val (.int py), .val (.int d1), .val (.int d2), .val (.ref b1), .val (.int (own_b (¬ (ag < ag) ∧ ¬ (yo < yo)))), .val (.int (1 : Int32)), .val (.int (1 : Int32)), .val (.int (own_raise pa d1)), .val (.int (own_raise py d2)), .val (.int (1 : Int32))] []))
        refine own_st (fun zt zk => XS.iload X40.here hx rfl (hb hby at_117) rfl zk) ?_
        show own_G p e below s _ _ _ (T40.setTop (mkF m 119 #[.val (.int ag), .val (.int yo), .val (.int pa), .val (.int py), .val (.int d1), .val (.int d2), .val (.ref b1), .val (.int (own_b (¬ (ag < ag) ∧ ¬ (yo < yo)))), .val (.int (1 : Int32)), .val (.int (1 : Int32)), .val (.int (own_raise pa d1)), .val (.int (own_raise py d2)), .val (.int (1 : Int32))] [(.int (own_b (¬ (ag < ag) ∧ ¬ (yo < yo))))]))
        have hc119_45 : (¬ (ag < ag) ∧ ¬ (yo < yo)) := ⟨Int32.lt_irrefl, Int32.lt_irrefl⟩
        refine own_st (fun zt zk => XS.ifNo X40.here hx rfl (hb hby at_119) rfl ((if0 _ _).trans (feq (own_bn hc119_45)).1) zk) ?_
        show own_G p e below s _ _ _ (T40.setTop (mkF m 122 #[.val (.int ag), .val (.int yo), .val (.int pa), .val (.int py), .val (.int d1), .val (.int d2), .val (.ref b1), .val (.int (own_b (¬ (ag < ag) ∧ ¬ (yo < yo)))), .val (.int (1 : Int32)), .val (.int (1 : Int32)), .val (.int (own_raise pa d1)), .val (.int (own_raise py d2)), .val (.int (1 : Int32))] []))
        refine own_st (fun zt zk => XS.iload X40.here hx rfl (hb hby at_122) rfl zk) ?_
        show own_G p e below s _ _ _ (T40.setTop (mkF m 124 #[.val (.int ag), .val (.int yo), .val (.int pa), .val (.int py), .val (.int d1), .val (.int d2), .val (.ref b1), .val (.int (own_b (¬ (ag < ag) ∧ ¬ (yo < yo)))), .val (.int (1 : Int32)), .val (.int (1 : Int32)), .val (.int (own_raise pa d1)), .val (.int (own_raise py d2)), .val (.int (1 : Int32))] [(.int (1 : Int32))]))
        refine own_st (fun zt zk => XS.ifNo X40.here hx rfl (hb hby at_124) rfl ((if0 _ _).trans (feq (by decide : ¬ ((1 : Int32) = (0 : Int32)))).1) zk) ?_
        show own_G p e below s _ _ _ (T40.setTop (mkF m 127 #[.val (.int ag), .val (.int yo), .val (.int pa), .val (.int py), .val (.int d1), .val (.int d2), .val (.ref b1), .val (.int (own_b (¬ (ag < ag) ∧ ¬ (yo < yo)))), .val (.int (1 : Int32)), .val (.int (1 : Int32)), .val (.int (own_raise pa d1)), .val (.int (own_raise py d2)), .val (.int (1 : Int32))] []))
        refine own_st (fun zt zk => XS.iload X40.here hx rfl (hb hby at_127) rfl zk) ?_
        show own_G p e below s _ _ _ (T40.setTop (mkF m 129 #[.val (.int ag), .val (.int yo), .val (.int pa), .val (.int py), .val (.int d1), .val (.int d2), .val (.ref b1), .val (.int (own_b (¬ (ag < ag) ∧ ¬ (yo < yo)))), .val (.int (1 : Int32)), .val (.int (1 : Int32)), .val (.int (own_raise pa d1)), .val (.int (own_raise py d2)), .val (.int (1 : Int32))] [(.int (1 : Int32))]))
        refine own_st (fun zt zk => XS.ifNo X40.here hx rfl (hb hby at_129) rfl ((if0 _ _).trans (feq (by decide : ¬ ((1 : Int32) = (0 : Int32)))).1) zk) ?_
        show own_G p e below s _ _ _ (T40.setTop (mkF m 132 #[.val (.int ag), .val (.int yo), .val (.int pa), .val (.int py), .val (.int d1), .val (.int d2), .val (.ref b1), .val (.int (own_b (¬ (ag < ag) ∧ ¬ (yo < yo)))), .val (.int (1 : Int32)), .val (.int (1 : Int32)), .val (.int (own_raise pa d1)), .val (.int (own_raise py d2)), .val (.int (1 : Int32))] []))
        refine own_st (fun zt zk => XS.iload X40.here hx rfl (hb hby at_132) rfl zk) ?_
        show own_G p e below s _ _ _ (T40.setTop (mkF m 134 #[.val (.int ag), .val (.int yo), .val (.int pa), .val (.int py), .val (.int d1), .val (.int d2), .val (.ref b1), .val (.int (own_b (¬ (ag < ag) ∧ ¬ (yo < yo)))), .val (.int (1 : Int32)), .val (.int (1 : Int32)), .val (.int (own_raise pa d1)), .val (.int (own_raise py d2)), .val (.int (1 : Int32))] [(.int (1 : Int32))]))
        refine own_st (fun zt zk => XS.ifNo X40.here hx rfl (hb hby at_134) rfl ((if0 _ _).trans (feq (by decide : ¬ ((1 : Int32) = (0 : Int32)))).1) zk) ?_
        show own_G p e below s _ _ _ (T40.setTop (mkF m 137 #[.val (.int ag), .val (.int yo), .val (.int pa), .val (.int py), .val (.int d1), .val (.int d2), .val (.ref b1), .val (.int (own_b (¬ (ag < ag) ∧ ¬ (yo < yo)))), .val (.int (1 : Int32)), .val (.int (1 : Int32)), .val (.int (own_raise pa d1)), .val (.int (own_raise py d2)), .val (.int (1 : Int32))] []))
        refine own_st (fun zt zk => XS.iconst X40.here hx rfl (hb hby at_137) zk) ?_
        show own_G p e below s _ _ _ (T40.setTop (mkF m 138 #[.val (.int ag), .val (.int yo), .val (.int pa), .val (.int py), .val (.int d1), .val (.int d2), .val (.ref b1), .val (.int (own_b (¬ (ag < ag) ∧ ¬ (yo < yo)))), .val (.int (1 : Int32)), .val (.int (1 : Int32)), .val (.int (own_raise pa d1)), .val (.int (own_raise py d2)), .val (.int (1 : Int32))] [(.int (1 : Int32))]))
        refine own_st (fun zt zk => XS.goto X40.here hx rfl (pc0 := 138) (pc' := 142) rfl (hb hby at_138) (by decide) (by decide) zk) ?_
        show own_G p e below s _ _ _ (T40.setTop (mkF m 142 #[.val (.int ag), .val (.int yo), .val (.int pa), .val (.int py), .val (.int d1), .val (.int d2), .val (.ref b1), .val (.int (own_b (¬ (ag < ag) ∧ ¬ (yo < yo)))), .val (.int (1 : Int32)), .val (.int (1 : Int32)), .val (.int (own_raise pa d1)), .val (.int (own_raise py d2)), .val (.int (1 : Int32))] [(.int (1 : Int32))]))
        refine own_retZ X40 hx hlk hret (by decide) (hb hby at_142) (by decide) (by decide) ?_
        show Q_own_law Z ag yo pa py d1 d2 h0 n0 (some (.int (1 : Int32))) T40.heap _
        rw [e40]
        exact ⟨rfl, N40⟩
set_option maxRecDepth 65536 in
set_option maxHeartbeats 40000000 in
theorem comes_1 {Post : Tables → Env → Array Value → State → Outcome → State → Prop} (hpost : ∀ tb e args s v u, (limb_1_1.after args s (.returned v) u = true ∧ limb_1_2.after args s (.returned v) u = true ∧ True) → FrameEnd s (.returned v) u (Jvm.fieldLocs frame_1_writes args s ++ Jvm.arrayLocs frame_1_arrays args s ++ Jvm.staticLocs frame_1_statics s) 16 128 → Post tb e args s (.returned v) u) :
    ArmFor flags0 classFile x code maxLocals ret World_1 tables_1 room_1 Calls_1 rest_1 Pre_1 Post := by
  intro l hfl _ _ p e ha hc hk s m args below hf hA hF happ hP
  obtain ⟨hcalls, hrest, hpre⟩ := hP
  obtain ⟨-, -, -, hnamed, -, -, -, hat⟩ := (Spec.applies_iff hf).mp happ
  obtain ⟨hg, hn⟩ := and_e (Cond.before_iff.mp (show (Jvm.Cond.and given_1 narrow_1).before args s = true from hpre))
  obtain ⟨k1, k2⟩ := and_e hg
  obtain ⟨j0, i0⟩ := and_e k2
  obtain ⟨j1, i1⟩ := and_e i0
  obtain ⟨j2, i2⟩ := and_e i1
  obtain ⟨j3, i3⟩ := and_e i2
  obtain ⟨j4, i4⟩ := and_e i3
  obtain ⟨w0, w1, w2, w3, w4, w5, rfl⟩ : ∃ w0 w1 w2 w3 w4 w5 : Value, args = #[w0, w1, w2, w3, w4, w5] := by
    have hs : args.size = 6 := by simpa [Cond.value, given_1] using k1
    obtain ⟨L⟩ := args
    match L, hs with
    | [w0, w1, w2, w3, w4, w5], _ => exact ⟨w0, w1, w2, w3, w4, w5, rfl⟩
  have hw := fun d (hd : d ∈ tables_1) => atoms_spec (ws := Jvm.Cond.code x code maxLocals ret :: tables_1) hat d (List.mem_cons_of_mem _ hd)
  have hfit : Fit s := fun {y c} hc i hi => by
    obtain ⟨ha, rfl⟩ := Array.getElem?_eq_some_iff.mp hc
    have q := List.all_eq_true.mp ((Array.all_eq_true_iff_forall_mem.mp hF) _ (Array.getElem_mem ha)) i (List.mem_range.mpr hi)
    simpa [Array.getElem?_eq_getElem hi] using q
  obtain ⟨y0, z0⟩ := is_v j0
  obtain rfl : w0 = (.int y0) := Option.some.inj z0
  obtain ⟨y1, z1⟩ := is_v j1
  obtain rfl : w1 = (.int y1) := Option.some.inj z1
  obtain ⟨y2, z2⟩ := is_v j2
  obtain rfl : w2 = (.int y2) := Option.some.inj z2
  obtain ⟨y3, z3⟩ := is_v j3
  obtain rfl : w3 = (.int y3) := Option.some.inj z3
  obtain ⟨y4, z4⟩ := is_v j4
  obtain rfl : w4 = (.int y4) := Option.some.inj z4
  obtain ⟨y5, z5⟩ := is_v i4
  obtain rfl : w5 = (.int y5) := Option.some.inj z5
  obtain ⟨n, o, h1, h2, h3, _, L, rfl, ⟨rfl, N⟩, hq⟩ := own_law l s _ hw tables_1 y0 y1 y2 y3 y4 y5 s.heap s.heap.size (Nat.le_refl _)  p e ha hc hk s m _ below hf ((Spec.applies_iff_loose hf).mp happ).1 ⟨rfl, State.Warmed39.refl s, rfl⟩ trivial
  refine ⟨n, _, h1, h2, h3, hpost _ _ _ _ _ _ ⟨Cond.after_iff.mpr rfl, Cond.after_iff.mpr (eq_i res_at (Term.int_eval (1)) rfl), trivial⟩ ⟨hq.1, hq.2.1, (hq.2.2.sift fun y hy => Or.inr (N y hy)).mono (by decide) (by decide)⟩⟩
theorem main_1_1 : Claimed_1_1 := comes_1 fun _ _ _ _ _ _ h hF => ⟨h.1, hF⟩
theorem main_1_2 : Claimed_1_2 := comes_1 fun _ _ _ _ _ _ h hF => ⟨h.2.1, hF⟩
end Jvm.Pilot.@@N@@
namespace Jvm.Pilot.@@N@@
open Jvm Jvm.ClassFile Sem Op Lib Jvm.Free Jvm.Stand Jvm.Pilot.@@N@@.Jvm.D
/-! MADE BY PROGRAM (witnessworld.py) out of the Statement's table words and the real class files: 10 classes; the members and pool entries that the words name. The judged class is class 1, her method 1. -/
namespace start1
open Jvm.ClassFile
def u (s : String) : CpInfo := .utf8 (stringToUtf16 s)
/-- a pool by its gaps: so many unusable entries, then the entry; so many at the end -/
def gap : Nat → List CpInfo → List CpInfo
  | 0, r => r
  | n + 1, r => .unusable :: gap n r
def poolList (es : List (Nat × CpInfo)) (last : Nat) : List CpInfo := es.foldr (fun e r => gap e.1 (e.2 :: r)) (gap last [])
def pool (es : List (Nat × CpInfo)) (last : Nat) : Array CpInfo := ⟨poolList es last⟩
def fileOf (pool : Array CpInfo) (this : Nat) (attrs : Array Attribute := #[]) (ms : Array MethodInfo := #[]) (fl : Nat := 33) (sup : Nat := 0) (ifs : Array Nat := #[]) (fds : Array FieldInfo := #[]) : ClassFile where
  minorVersion := 0
  majorVersion := 65
  constantPool := pool
  accessFlags := fl
  thisClass := this
  superClass := sup
  interfaces := ifs
  fields := fds
  methods := ms
  attributes := attrs
def plain (name : String) (sup : Option ClassId) : Class where
  name := name
  kind := .ordinary
  loader := none
  accessFlags := 33
  super := sup
  interfaces := #[]
  cf := none
  fields := #[]
  methods := #[]
  instanceTypes := #[]
  staticTypes := #[]
  resolved := #[]
  callSites := []
  init := .initialized
  statics := none
  mirror := none

def pool0 : Array CpInfo := pool [(5, u "<init>"), (0, u "()V"), (1, .class_ 10), (1, u "java/lang/Object")] 113

def k0c0 : Code := { maxStack := 0, maxLocals := 1, code := object_method_1_code, exceptionTable := #[], attributes := #[] }
def k0m0 : Method := { name := "<init>", desc := "()V", sig := { parameters := [], returnType := none }, accessFlags := 1, code := some k0c0 }
/-- java/lang/Object -/
def k0 : Class := { plain "java/lang/Object" none with
  accessFlags := 33
  interfaces := #[]
  cf := some (fileOf pool0 8 #[] #[{ accessFlags := 1, nameIndex := 5, descriptorIndex := 6, attributes := #[] }] 33 0 #[] #[])
  fields := #[]
  methods := #[k0m0]
  instanceTypes := #[]
  staticTypes := #[]
  resolved := Array.replicate 124 none
  statics := none }

def pool1 : Array CpInfo := pool [(2, .class_ 4), (1, u "java/lang/Object"), (0, u "<init>"), (0, u "()V"), (0, .class_ 8), (0, u "com/example/deferral_ledger/deferralledger/model/RetirementAge"), (0, .methodref 7 10), (0, .nameAndType 5 11), (0, u "(II)V"), (0, .methodref 7 13), (0, .nameAndType 14 15), (0, u "isMetBy"), (0, u "(II)Z"), (2, .integer 2147483648), (0, .integer 2147483647), (0, .methodref 21 22), (0, .class_ 23), (0, .nameAndType 24 25), (0, u "com/example/deferral_ledger/deferralledger/model/RetirementAgeIsMetByPinLaw"), (0, u "raise"), (0, u "(II)I"), (0, .long 2147483647), (1, .methodref 29 30), (0, .class_ 31), (0, .nameAndType 32 33), (0, u "java/lang/Math"), (0, u "min"), (0, u "(JJ)J"), (2, u "law"), (0, u "(IIIIII)Z")] 3

def k1m0 : Method := { name := "<init>", desc := "()V", sig := { parameters := [], returnType := none }, accessFlags := 1, code := none }
def k1c1 : Code := { maxStack := 4, maxLocals := 13, code := code, exceptionTable := #[], attributes := #[] }
def k1m1 : Method := { name := "law", desc := "(IIIIII)Z", sig := { parameters := [.int, .int, .int, .int, .int, .int], returnType := some .boolean }, accessFlags := 9, code := some k1c1 }
def k1c2 : Code := { maxStack := 4, maxLocals := 4, code := method_3_code, exceptionTable := #[], attributes := #[] }
def k1m2 : Method := { name := "raise", desc := "(II)I", sig := { parameters := [.int, .int], returnType := some .int }, accessFlags := 10, code := some k1c2 }
/-- com/example/deferral_ledger/deferralledger/model/RetirementAgeIsMetByPinLaw -/
def k1 : Class := { plain "com/example/deferral_ledger/deferralledger/model/RetirementAgeIsMetByPinLaw" (some 0) with
  accessFlags := 49
  interfaces := #[]
  cf := some (fileOf pool1 21 #[] #[{ accessFlags := 1, nameIndex := 5, descriptorIndex := 6, attributes := #[] }, { accessFlags := 9, nameIndex := 36, descriptorIndex := 37, attributes := #[] }, { accessFlags := 10, nameIndex := 24, descriptorIndex := 25, attributes := #[] }] 49 2 #[] #[])
  fields := #[]
  methods := #[k1m0, k1m1, k1m2]
  instanceTypes := #[]
  staticTypes := #[]
  resolved := Array.replicate 41 none
  statics := none }

def pool2 : Array CpInfo := pool [(1, .methodref 2 3), (0, .class_ 4), (0, .nameAndType 5 6), (0, u "java/lang/Object"), (0, u "<init>"), (0, u "()V"), (0, .fieldref 8 9), (0, .class_ 10), (0, .nameAndType 11 12), (0, u "com/example/deferral_ledger/deferralledger/model/RetirementAge"), (0, u "age"), (0, u "I"), (0, .fieldref 8 14), (0, .nameAndType 15 12), (0, u "yearsOfService"), (0, u "(II)V"), (2, u "isMetBy"), (0, u "(II)Z")] 3

def k2c0 : Code := { maxStack := 2, maxLocals := 3, code := prog_78_method_1_code, exceptionTable := #[], attributes := #[] }
def k2m0 : Method := { name := "<init>", desc := "(II)V", sig := { parameters := [.int, .int], returnType := none }, accessFlags := 1, code := some k2c0 }
def k2c1 : Code := { maxStack := 2, maxLocals := 3, code := prog_78_method_2_code, exceptionTable := #[], attributes := #[] }
def k2m1 : Method := { name := "isMetBy", desc := "(II)Z", sig := { parameters := [.int, .int], returnType := some .boolean }, accessFlags := 1, code := some k2c1 }
/-- com/example/deferral_ledger/deferralledger/model/RetirementAge -/
def k2 : Class := { plain "com/example/deferral_ledger/deferralledger/model/RetirementAge" (some 0) with
  accessFlags := 33
  interfaces := #[]
  cf := some (fileOf pool2 8 #[] #[{ accessFlags := 1, nameIndex := 5, descriptorIndex := 16, attributes := #[] }, { accessFlags := 1, nameIndex := 19, descriptorIndex := 20, attributes := #[] }] 33 2 #[] #[{ accessFlags := 18, nameIndex := 11, descriptorIndex := 12, attributes := #[] }, { accessFlags := 18, nameIndex := 15, descriptorIndex := 12, attributes := #[] }])
  fields := #[{ name := "age", type := .int, accessFlags := 18, slot := 0, constantValue := 0 }, { name := "yearsOfService", type := .int, accessFlags := 18, slot := 1, constantValue := 0 }]
  methods := #[k2m0, k2m1]
  instanceTypes := #[.int, .int]
  staticTypes := #[]
  resolved := Array.replicate 24 none
  statics := none }

def pool3 : Array CpInfo := pool [(1, .class_ 2), (0, u "java/lang/Math"), (1, .class_ 6), (1, u "java/lang/Object"), (0, u "<init>"), (0, u "()V"), (89, .class_ 100), (1, u "java/lang/Math$RandomNumberGeneratorHolder"), (20, u "(JJ)J"), (50, u "negativeZeroFloatBits"), (0, u "J"), (2, u "negativeZeroDoubleBits"), (24, u "min"), (43, u "$assertionsDisabled"), (0, u "Z"), (91, u "twoToTheDoubleScaleDown"), (0, u "D"), (4, u "twoToTheDoubleScaleUp"), (9, u "E"), (3, u "PI"), (2, u "TAU"), (2, u "DEGREES_TO_RADIANS"), (0, u "RADIANS_TO_DEGREES")] 94

def k3m0 : Method := { name := "<init>", desc := "()V", sig := { parameters := [], returnType := none }, accessFlags := 2, code := none }
def k3c1 : Code := { maxStack := 4, maxLocals := 4, code := jdk_29_method_70_code, exceptionTable := #[], attributes := #[] }
def k3m1 : Method := { name := "min", desc := "(JJ)J", sig := { parameters := [.long, .long], returnType := some .long }, accessFlags := 9, code := some k3c1 }
/-- java/lang/Math -/
def k3 : Class := { plain "java/lang/Math" (some 0) with
  accessFlags := 49
  interfaces := #[]
  cf := some (fileOf pool3 1 #[.nestMembers #[98]] #[{ accessFlags := 2, nameIndex := 7, descriptorIndex := 8, attributes := #[] }, { accessFlags := 9, nameIndex := 201, descriptorIndex := 121, attributes := #[] }] 49 4 #[] #[{ accessFlags := 25, nameIndex := 354, descriptorIndex := 339, attributes := #[] }, { accessFlags := 25, nameIndex := 358, descriptorIndex := 339, attributes := #[] }, { accessFlags := 25, nameIndex := 361, descriptorIndex := 339, attributes := #[] }, { accessFlags := 26, nameIndex := 364, descriptorIndex := 339, attributes := #[] }, { accessFlags := 26, nameIndex := 365, descriptorIndex := 339, attributes := #[] }, { accessFlags := 26, nameIndex := 172, descriptorIndex := 173, attributes := #[] }, { accessFlags := 26, nameIndex := 176, descriptorIndex := 173, attributes := #[] }, { accessFlags := 8, nameIndex := 344, descriptorIndex := 339, attributes := #[] }, { accessFlags := 8, nameIndex := 338, descriptorIndex := 339, attributes := #[] }, { accessFlags := 4120, nameIndex := 245, descriptorIndex := 246, attributes := #[] }])
  fields := #[{ name := "E", type := .double, accessFlags := 25, slot := 0, constantValue := 0 }, { name := "PI", type := .double, accessFlags := 25, slot := 1, constantValue := 0 }, { name := "TAU", type := .double, accessFlags := 25, slot := 2, constantValue := 0 }, { name := "DEGREES_TO_RADIANS", type := .double, accessFlags := 26, slot := 3, constantValue := 0 }, { name := "RADIANS_TO_DEGREES", type := .double, accessFlags := 26, slot := 4, constantValue := 0 }, { name := "negativeZeroFloatBits", type := .long, accessFlags := 26, slot := 5, constantValue := 0 }, { name := "negativeZeroDoubleBits", type := .long, accessFlags := 26, slot := 6, constantValue := 0 }, { name := "twoToTheDoubleScaleUp", type := .double, accessFlags := 8, slot := 7, constantValue := 0 }, { name := "twoToTheDoubleScaleDown", type := .double, accessFlags := 8, slot := 8, constantValue := 0 }, { name := "$assertionsDisabled", type := .boolean, accessFlags := 4120, slot := 9, constantValue := 0 }]
  methods := #[k3m0, k3m1]
  instanceTypes := #[]
  staticTypes := #[.double, .double, .double, .double, .double, .long, .long, .double, .double, .boolean]
  resolved := Array.replicate 460 none
  statics := none }

def pool4 : Array CpInfo := pool [(1, u "java/lang/Cloneable"), (0, .class_ 1), (0, u "java/lang/Object"), (0, .class_ 3)] 3

/-- java/lang/Cloneable -/
def k4 : Class := { plain "java/lang/Cloneable" (some 0) with
  accessFlags := 1537
  interfaces := #[]
  cf := some (fileOf pool4 2 #[] #[] 1537 4 #[] #[])
  fields := #[]
  methods := #[]
  instanceTypes := #[]
  staticTypes := #[]
  resolved := Array.replicate 8 none
  statics := none }

def pool5 : Array CpInfo := pool [(1, u "java/io/Serializable"), (0, .class_ 1), (0, u "java/lang/Object"), (0, .class_ 3)] 3

/-- java/io/Serializable -/
def k5 : Class := { plain "java/io/Serializable" (some 0) with
  accessFlags := 1537
  interfaces := #[]
  cf := some (fileOf pool5 2 #[] #[] 1537 4 #[] #[])
  fields := #[]
  methods := #[]
  instanceTypes := #[]
  staticTypes := #[]
  resolved := Array.replicate 8 none
  statics := none }

/-- the primitive byte -/
def k6 : Class := { plain "byte" none with kind := .primitive 'B', accessFlags := 0x411 }
/-- [B -/
def k7 : Class := { plain "[B" (some 0) with kind := .array 6 .byte, interfaces := #[4, 5], accessFlags := 1041 }

/-- the primitive int -/
def k8 : Class := { plain "int" none with kind := .primitive 'I', accessFlags := 0x411 }
/-- [I -/
def k9 : Class := { plain "[I" (some 0) with kind := .array 8 .int, interfaces := #[4, 5], accessFlags := 1041 }

def heap : Heap := #[]
def classes : Array Class := #[k0, k1, k2, k3, k4, k5, k6, k7, k8, k9]
def interned : List (Array UInt16 × Addr) := []
def slotsUsed : Nat := 0
def theMethod : MethodId := ⟨1, 1⟩
def args0 : Array Value := #[.int 65, .int 7, .int 60, .int 4, .int 5, .int 6]
def aboutOver (below : List Frame) : State where
  vm := { classes := classes, interned := interned.toArray }
  heap := heap
  slotsUsed := slotsUsed
  threads := #[{ frames := .invoking theMethod args0 :: below }]
def below0 : List Frame := [.native { method := ⟨0, 0⟩, args := #[] }]
def about1 : State := aboutOver below0
def p0 : Program := .bare "" "" ""
def e0 : Env := launch0.env 0 0 0
theorem w_frames : about1.frames = Frame.invoking theMethod args0 :: below0 := rfl
set_option maxRecDepth 65536 in
theorem w_args : argsFit about1.vm theMethod args0 = true := by decide +kernel
set_option maxRecDepth 65536 in
theorem w_heap : heapFits about1 = true := by decide +kernel
set_option maxRecDepth 65536 in
theorem w_runnable : about1.curStatus? = some .runnable := by decide +kernel
set_option maxRecDepth 65536 in
theorem w_alone : about1.alone = true := by decide +kernel
set_option maxRecDepth 65536 in
theorem w_named : about1.methodNamed? x = some theMethod := by decide +kernel
set_option maxRecDepth 65536 in
theorem w_hears : about1.hears theMethod below0 = true := by decide +kernel
set_option maxRecDepth 65536 in
theorem w_ripe : about1.ripe theMethod args0 below0 = true := by decide +kernel
theorem w_running : about1.status = .running := rfl
set_option maxRecDepth 65536 in
theorem w_room : about1.hasRoom e0.platform room_1 = true :=
  launch0.hasRoom_least _ room_1 (by decide +kernel) (by decide +kernel) (by decide +kernel) (by decide +kernel) (by decide +kernel) (by decide +kernel)
theorem allAtoms_all (ts : List Jvm.Cond) (a : Array Jvm.Value) (st : Jvm.State) : (allAtoms ts).before a st = ts.all (fun c => c.before a st) := by
  induction ts with
  | nil => rfl
  | cons c t ih =>
    show (Jvm.Cond.and c (allAtoms t)).before a st = _
    rw [Jvm.Cond.before_and, ih, List.all_cons]
def words1 : List Jvm.Cond := Jvm.Cond.code x code maxLocals ret :: tables_1
/-- a 'code' word, met by the world's own term for the bytes: nothing is compared byte by byte -/
theorem code_word {y : MethodName} {bytes : ByteArray} {mx : Nat} {rt : Option FieldType} {a : Array Value} {s : State} {m : MethodId} {meth : Method} {c : Code} (h1 : s.methodNamed? y = some m) (h2 : s.vm.method? m = some meth) (h3 : meth.code = some c) (h4 : c.code = bytes)
    (h5 : (c.maxLocals == mx && c.exceptionTable.isEmpty && decide (c.maxStack ≤ mostOperands) && decide (meth.sig.returnType = rt) && !meth.locks && decide (parseMethodDescriptor y.desc = some meth.sig)) = true) : (Jvm.Cond.code y bytes mx rt).before a s = true := by
  simp only [Bool.and_eq_true, beq_iff_eq, Bool.not_eq_true', decide_eq_true_eq] at h5
  obtain ⟨⟨⟨⟨⟨g1, g2⟩, g3⟩, g4⟩, g5⟩, g6⟩ := h5
  simp [Cond.before, Cond.holds, Cond.value, h1, h2, h3, h4, g1, g2, g3, g4, g5, g6]
def isCode : Jvm.Cond → Bool
  | .code _ _ _ _ => true
  | _ => false
theorem all_split {L : List Jvm.Cond} {P : Jvm.Cond → Bool} (h1 : L.all (fun c => isCode c || P c) = true) (h2 : ∀ c ∈ L.filter isCode, P c = true) : L.all P = true := by
  refine List.all_eq_true.mpr fun c hc => ?_
  have h := List.all_eq_true.mp h1 c hc
  rcases Bool.eq_false_or_eq_true (isCode c) with hi | hi
  · exact h2 c (List.mem_filter.mpr ⟨hc, hi⟩)
  · simpa [hi] using h
set_option maxRecDepth 65536 in
theorem w_c0 : (Jvm.Cond.code x code maxLocals ret).before args0 about1 = true := code_word (m := ⟨1, 1⟩) (meth := k1m1) (c := k1c1) (by decide +kernel) rfl rfl rfl (by decide +kernel)
set_option maxRecDepth 65536 in
theorem w_c1 : (Jvm.Cond.code ({ cls := "com/example/deferral_ledger/deferralledger/model/RetirementAge", name := "<init>", desc := "(II)V" } : Jvm.MethodName) prog_78_method_1_code (3 : Nat) (Option.none : Option Jvm.ClassFile.FieldType)).before args0 about1 = true := code_word (m := ⟨2, 0⟩) (meth := k2m0) (c := k2c0) (by decide +kernel) rfl rfl rfl (by decide +kernel)
set_option maxRecDepth 65536 in
theorem w_c2 : (Jvm.Cond.code ({ cls := "java/lang/Object", name := "<init>", desc := "()V" } : Jvm.MethodName) object_method_1_code (1 : Nat) (Option.none : Option Jvm.ClassFile.FieldType)).before args0 about1 = true := code_word (m := ⟨0, 0⟩) (meth := k0m0) (c := k0c0) (by decide +kernel) rfl rfl rfl (by decide +kernel)
set_option maxRecDepth 65536 in
theorem w_c3 : (Jvm.Cond.code ({ cls := "com/example/deferral_ledger/deferralledger/model/RetirementAge", name := "isMetBy", desc := "(II)Z" } : Jvm.MethodName) prog_78_method_2_code (3 : Nat) (Option.some Jvm.ClassFile.FieldType.boolean)).before args0 about1 = true := code_word (m := ⟨2, 1⟩) (meth := k2m1) (c := k2c1) (by decide +kernel) rfl rfl rfl (by decide +kernel)
set_option maxRecDepth 65536 in
theorem w_c4 : (Jvm.Cond.code ({ cls := "com/example/deferral_ledger/deferralledger/model/RetirementAgeIsMetByPinLaw", name := "raise", desc := "(II)I" } : Jvm.MethodName) method_3_code (4 : Nat) (Option.some Jvm.ClassFile.FieldType.int)).before args0 about1 = true := code_word (m := ⟨1, 2⟩) (meth := k1m2) (c := k1c2) (by decide +kernel) rfl rfl rfl (by decide +kernel)
set_option maxRecDepth 65536 in
theorem w_c5 : (Jvm.Cond.code ({ cls := "java/lang/Math", name := "min", desc := "(JJ)J" } : Jvm.MethodName) jdk_29_method_70_code (4 : Nat) (Option.some Jvm.ClassFile.FieldType.long)).before args0 about1 = true := code_word (m := ⟨3, 1⟩) (meth := k3m1) (c := k3c1) (by decide +kernel) rfl rfl rfl (by decide +kernel)
def codes1 : List Jvm.Cond := [Jvm.Cond.code x code maxLocals ret, Jvm.Cond.code ({ cls := "com/example/deferral_ledger/deferralledger/model/RetirementAge", name := "<init>", desc := "(II)V" } : Jvm.MethodName) prog_78_method_1_code (3 : Nat) (Option.none : Option Jvm.ClassFile.FieldType), Jvm.Cond.code ({ cls := "java/lang/Object", name := "<init>", desc := "()V" } : Jvm.MethodName) object_method_1_code (1 : Nat) (Option.none : Option Jvm.ClassFile.FieldType), Jvm.Cond.code ({ cls := "com/example/deferral_ledger/deferralledger/model/RetirementAge", name := "isMetBy", desc := "(II)Z" } : Jvm.MethodName) prog_78_method_2_code (3 : Nat) (Option.some Jvm.ClassFile.FieldType.boolean), Jvm.Cond.code ({ cls := "com/example/deferral_ledger/deferralledger/model/RetirementAgeIsMetByPinLaw", name := "raise", desc := "(II)I" } : Jvm.MethodName) method_3_code (4 : Nat) (Option.some Jvm.ClassFile.FieldType.int), Jvm.Cond.code ({ cls := "java/lang/Math", name := "min", desc := "(JJ)J" } : Jvm.MethodName) jdk_29_method_70_code (4 : Nat) (Option.some Jvm.ClassFile.FieldType.long)]
set_option maxRecDepth 65536 in
theorem codes_eq : words1.filter isCode = codes1 := rfl
theorem w_codes : ∀ c ∈ words1.filter isCode, c.before args0 about1 = true := by
  rw [codes_eq]
  intro c hc
  simp only [codes1, List.mem_cons, List.not_mem_nil, or_false] at hc
  rcases hc with rfl | rfl | rfl | rfl | rfl | rfl
  · exact w_c0
  · exact w_c1
  · exact w_c2
  · exact w_c3
  · exact w_c4
  · exact w_c5
set_option maxRecDepth 65536 in
theorem w_t1 : (words1.take 24).all (fun c => isCode c || c.before args0 about1) = true := by decide +kernel
set_option maxRecDepth 65536 in
theorem w_t2 : (words1.drop 24).all (fun c => isCode c || c.before args0 about1) = true := by decide +kernel
theorem w_tables : (allAtoms (Jvm.Cond.code x code maxLocals ret :: tables_1)).before args0 about1 = true := by
  rw [allAtoms_all]
  show words1.all (fun c => c.before args0 about1) = true
  refine all_split ?_ w_codes
  rw [← List.take_append_drop 24 words1, List.all_append, w_t1, w_t2]
  rfl
set_option maxRecDepth 65536 in
theorem w_case : (Jvm.Cond.and given_1 narrow_1).before args0 about1 = true := by decide +kernel
theorem w_applies : (headSpec (Jvm.Cond.code x code maxLocals ret :: tables_1) room_1).applies x e0.platform about1 = true :=
  (Spec.applies_iff w_frames).mpr ⟨w_running, w_runnable, w_alone, w_named, w_hears, w_ripe, w_room, w_tables⟩
theorem atStart : AtStart classFile x code maxLocals ret World_1 tables_1 room_1 Calls_1 rest_1 Pre_1 launch0 p0 e0 about1 theMethod args0 below0 :=
  ⟨lists_1, trivial, launch0.admits_env _ _ _, launch0.least_env, fairChoices_fair.cas, fairChoices_fair.clock, w_frames, w_args, w_heap, w_applies, trivial, trivial, w_case⟩
end start1
theorem witness_1 : WitnessClaimed_1 := ⟨start1.p0, start1.e0, start1.about1, start1.theMethod, start1.args0, start1.below0, start1.atStart⟩
end Jvm.Pilot.@@N@@
