import JvmDerived
import JvmDerived.Pilot.@@N@@Statement
import JvmDerived.Pilot.@@N@@Code
set_option linter.unusedVariables false
set_option linter.unusedSimpArgs false
namespace Jvm.Pilot.@@N@@
open Jvm Jvm.ClassFile Sem Op Lib Jvm.Free Jvm.Stand Jvm.LawKit Jvm.RoadKit Bundle Jvm.Pilot.@@N@@.Jvm.D
section OwnKit
variable {p : Program} {l : Launch} {e : Env} {R : Room} {s : State} {m : MethodId} {args : Array Value} {below : List Frame} {meth : Method} {c : Code} {T : State} {locs : List Loc} {cells slots : Nat} {Z : State} {a0 : Array Value} {h : Heap}
/-- the walk from A ends well: it returns, what it returns and leaves is as Q says -/
def own_G (p : Program) (e : Env) (below : List Frame) (s : State) (Q : Option Value → Heap → List Loc → Prop) (ce sl : Nat) (A : State) : Prop :=
  ∃ s₂ o, Steps p.tables e below A s₂ ∧ s₂.status = .running ∧ Ended s₂ below o ∧ ∃ v L, o = .returned v ∧ Q v s₂.heap L ∧ FrameEnd s o s₂ L ce sl
theorem own_st {Q : Option Value → Heap → List Loc → Prop} {ce sl : Nat} {A B : State} (k : ∀ t, Steps p.tables e below B t → Steps p.tables e below A t) (g : own_G p e below s Q ce sl B) : own_G p e below s Q ce sl A := by
  obtain ⟨s₂, o, h1, h2⟩ := g
  exact ⟨s₂, o, k _ h1, h2⟩
theorem own_ret {Q : Option Value → Heap → List Loc → Prop} {ce sl : Nat} (X : Stand p l e R s m args below meth c T locs cells slots) (hx : p.tables.exec = Jvm.exec) (hlk : meth.locks = false) {pc : Nat} {Ls : Array Slot} {w : Value} {t : FieldType} {i : Instr} {rest : List Value} (hret : meth.sig.returnType = some t) (hn : narrow t w = w)
    (hi : (i = .ireturn ∧ (t = .int ∨ t = .boolean ∨ t = .byte ∨ t = .char ∨ t = .short) ∧ ∃ z, w = .int z) ∨ (i = .lreturn ∧ t = .long ∧ ∃ z, w = .long z) ∨ (i = .dreturn ∧ t = .double ∧ ∃ z, w = .double z) ∨ (i = .freturn ∧ t = .float ∧ ∃ z, w = .float z) ∨ (i = .areturn ∧ t.isReference = true ∧ w.isRef = true))
    (hd : decode c.code pc = .ok (i, 1)) (hc : cells ≤ ce) (hs : slots ≤ sl) (hQ : Q (some w) T.heap locs) : own_G p e below s Q ce sl (T.setTop (mkF m pc Ls (w :: rest))) := by
  obtain ⟨fs, hr, hrun, hended, hW, hsame⟩ := X.leave (v := some w) (fun q => by rw [hret] at q; cases q) hlk
  exact ⟨_, _, retOut X hx hret hn hi hd hr, hrun, hended, _, _, rfl, hQ, ⟨_, rfl⟩, hW, hsame.mono hc hs⟩
theorem own_retI {Q : Option Value → Heap → List Loc → Prop} {ce sl : Nat} (X : Stand p l e R s m args below meth c T locs cells slots) (hx : p.tables.exec = Jvm.exec) (hlk : meth.locks = false) {pc : Nat} {Ls : Array Slot} {z : Int32} {rest : List Value} (hret : meth.sig.returnType = some .int)
    (hd : decode c.code pc = .ok (.ireturn, 1)) (hc : cells ≤ ce) (hs : slots ≤ sl) (hQ : Q (some (.int z)) T.heap locs) : own_G p e below s Q ce sl (T.setTop (mkF m pc Ls (.int z :: rest))) :=
  own_ret X hx hlk hret rfl (Or.inl ⟨rfl, Or.inl rfl, z, rfl⟩) hd hc hs hQ
theorem own_retZ {Q : Option Value → Heap → List Loc → Prop} {ce sl : Nat} (X : Stand p l e R s m args below meth c T locs cells slots) (hx : p.tables.exec = Jvm.exec) (hlk : meth.locks = false) {pc : Nat} {Ls : Array Slot} {z : Int32} {rest : List Value} (hret : meth.sig.returnType = some .boolean) (hn : z = 0 ∨ z = 1)
    (hd : decode c.code pc = .ok (.ireturn, 1)) (hc : cells ≤ ce) (hs : slots ≤ sl) (hQ : Q (some (.int z)) T.heap locs) : own_G p e below s Q ce sl (T.setTop (mkF m pc Ls (.int z :: rest))) :=
  own_ret X hx hlk hret (by rcases hn with rfl | rfl <;> rfl) (Or.inl ⟨rfl, Or.inr (Or.inl rfl), z, rfl⟩) hd hc hs hQ
theorem own_retJ {Q : Option Value → Heap → List Loc → Prop} {ce sl : Nat} (X : Stand p l e R s m args below meth c T locs cells slots) (hx : p.tables.exec = Jvm.exec) (hlk : meth.locks = false) {pc : Nat} {Ls : Array Slot} {z : Int64} {rest : List Value} (hret : meth.sig.returnType = some .long)
    (hd : decode c.code pc = .ok (.lreturn, 1)) (hc : cells ≤ ce) (hs : slots ≤ sl) (hQ : Q (some (.long z)) T.heap locs) : own_G p e below s Q ce sl (T.setTop (mkF m pc Ls (.long z :: rest))) :=
  own_ret X hx hlk hret rfl (Or.inr (Or.inl ⟨rfl, rfl, z, rfl⟩)) hd hc hs hQ
theorem own_retA {Q : Option Value → Heap → List Loc → Prop} {ce sl : Nat} (X : Stand p l e R s m args below meth c T locs cells slots) (hx : p.tables.exec = Jvm.exec) (hlk : meth.locks = false) {pc : Nat} {Ls : Array Slot} {w : Value} {t : FieldType} {rest : List Value} (hret : meth.sig.returnType = some t) (ht : t.isReference = true) (hw : w.isRef = true)
    (hd : decode c.code pc = .ok (.areturn, 1)) (hc : cells ≤ ce) (hs : slots ≤ sl) (hQ : Q (some w) T.heap locs) : own_G p e below s Q ce sl (T.setTop (mkF m pc Ls (w :: rest))) :=
  own_ret X hx hlk hret (by cases w <;> first | rfl | (cases t <;> first | rfl | cases ht)) (Or.inr (Or.inr (Or.inr (Or.inr ⟨rfl, ht, hw⟩)))) hd hc hs hQ
theorem own_retV {Q : Option Value → Heap → List Loc → Prop} {ce sl : Nat} (X : Stand p l e R s m args below meth c T locs cells slots) (hx : p.tables.exec = Jvm.exec) (hlk : meth.locks = false) {pc : Nat} {Ls : Array Slot} (hret : meth.sig.returnType = none)
    (hd : decode c.code pc = .ok (.return_, 1)) (hc : cells ≤ ce) (hs : slots ≤ sl) (hQ : Q none T.heap locs) : own_G p e below s Q ce sl (T.setTop (mkF m pc Ls [])) := by
  obtain ⟨fs, hr, hrun, hended, hW, hsame⟩ := X.leave (v := none) (fun _ => rfl) hlk
  exact ⟨_, _, X.returnOut hx hret hd hr, hrun, hended, _, _, rfl, hQ, ⟨_, rfl⟩, hW, hsame.mono hc hs⟩
/-- a contract out of the walk of its body -/
theorem own_met {y : MethodName} {bytes : ByteArray} {maxL : Nat} {ret : Option FieldType} {ws : List Jvm.Cond} {rm : Room} {as' : Array Value} {h0 : Heap} {Q : Option Value → Heap → List Loc → Prop} {ce sl : Nat} (hp : plainFor y = true)
    (body : ∀ (p : Program) (e : Env) (s : State) (m : MethodId) (below : List Frame) (meth : Method) (c : Code) (T : State), p.tables.exec = Jvm.exec → c.code = bytes → c.maxLocals = maxL → s.vm.findClass y.cls = some m.cls → meth.name = y.name → meth.sig.returnType = ret → meth.locks = false → Z.Warmed39 s.vm → T.heap = h0 →
      Stand p l e rm s m as' below meth c T [] 0 0 → own_G p e below s Q ce sl (T.setTop (entryFrame m as' maxL))) :
    MetFree l y (head1 (Jvm.Cond.code y bytes maxL ret :: ws) rm) (fun a U => a = as' ∧ Z.Warmed39 U.vm ∧ U.heap = h0) (fun _ _ _ _ _ => True) (fun _ U o U' => ∃ v L, o = .returned v ∧ Q v U'.heap L ∧ FrameEnd U o U' L ce sl) := by
  refine MetFree.of_bodySF hp hisR ?_
  intro p e s m args below meth c s₁ Bd hml0 hP hK
  obtain ⟨rfl, hZ, hh⟩ := hP
  exact body p e s m below meth c s₁ Bd.exec Bd.bytes hml0 (findClass_of_methodNamed Bd.named) (name_of_methodNamed Bd.named Bd.method).1 Bd.returns Bd.notSynchronized hZ (by rw [← hh, Bd.state]; rfl) (Stand.of_body Bd)
theorem own_callS (X : Stand p l e R s m args below meth c T locs cells slots) (hx : p.tables.exec = Jvm.exec) (hZ : Z.Warmed39 s.vm) {own : String} {index : Nat} {y : MethodName} {bytes : ByteArray} {maxL : Nat} {ret : Option FieldType} {rm : Room} {Q : Option Value → Heap → List Loc → Prop} {argsL rest : List Value} (W : Nat)
    (hown : s.vm.findClass own = some m.cls) (wl : (Jvm.Cond.methodLink own index y).before a0 Z = true) (wst : (Jvm.Cond.static y).before a0 Z = true) (wz : (Jvm.Cond.initialized y.cls).before a0 Z = true) (wc : (Jvm.Cond.code y bytes maxL ret).before a0 Z = true) (hy : y.cls ≠ "java/lang/invoke/MethodHandle" ∧ y.cls ≠ "java/lang/invoke/VarHandle")
    (hM : MetFree l y (head1 [Jvm.Cond.code y bytes maxL ret] rm) (fun a U => a = argsL.toArray ∧ Z.Warmed39 U.vm ∧ U.heap = h) (fun _ _ _ _ _ => True) (fun _ U o U' => ∃ v L, o = .returned v ∧ Q v U'.heap L ∧ FrameEnd U o U' L rm.cells rm.slots))
    (hf : rm.frames + 1 ≤ R.frames) (hl : W + (maxL + 11) + rm.locals ≤ R.locals) (eT : T.heap = h) {g : JFrame} (hg : g.method = m) (hsize : g.locals.size = c.maxLocals) {ps : List FieldType} {r : Option FieldType} (hpd : parseMethodDescriptor y.desc = some ⟨ps, r⟩) (hlen : argsL.length = ps.length)
    (hstack : g.stack = argsL.reverse ++ rest) (hW : 2 * g.monitorRoom + (rest.map fun v => v.category).sum ≤ W) (hdg : decode c.code g.pc = .ok (.invokestatic index, 3)) (hc : cells + rm.cells ≤ R.cells) (hs : slots + rm.slots ≤ R.slots) :
    ∃ v T' L, Stand p l e R s m args below meth c T' (locs ++ L) (cells + rm.cells) (slots + rm.slots) ∧ Q v T'.heap L ∧ ∀ t, Steps p.tables e below (T'.setTop { g with pc := g.pc + 3, stack := v.toList ++ rest }) t → Steps p.tables e below (T.setTop g) t := by
  obtain ⟨v, _, ⟨T', L', k', n'⟩, -, X', ⟨L, hQ, l1, y1, z1⟩, st⟩ := Jvm.LawKit.callS X hx (y := y) hown (mvT hZ wl) (mvT hZ wst) (mvT hZ wz) (mvT hZ wc) hy (backOf (W := W) hM hZ wc wz hf hl) hg hsize (lenOf hpd hlen) hstack hW hdg (fun _ _ => ⟨rfl, eT, hc, hs⟩)
  dsimp only [Pt.U, Pt.locs, Pt.cells, Pt.slots] at X' l1 y1 z1 st hQ
  subst l1 y1 z1
  exact ⟨v, T', L, X', hQ, st⟩
theorem own_callI (X : Stand p l e R s m args below meth c T locs cells slots) (hx : p.tables.exec = Jvm.exec) (hZ : Z.Warmed39 s.vm) {own : String} {index : Nat} {y : MethodName} {bytes : ByteArray} {maxL : Nat} {rm : Room} {Q : Option Value → Heap → List Loc → Prop} {a : Addr} {argsL rest : List Value} (W : Nat)
    (hy1 : y.name = "<init>") (hown : s.vm.findClass own = some m.cls) (wl : (Jvm.Cond.methodLink own index y).before a0 Z = true) (wi : (Jvm.Cond.instanceMethod y).before a0 Z = true) (wz : (Jvm.Cond.initialized y.cls).before a0 Z = true) (wc : (Jvm.Cond.code y bytes maxL none).before a0 Z = true) (hy : y.cls ≠ "java/lang/invoke/MethodHandle" ∧ y.cls ≠ "java/lang/invoke/VarHandle")
    (hM : MetFree l y (head1 [Jvm.Cond.code y bytes maxL none] rm) (fun b U => b = (Value.ref a :: argsL).toArray ∧ Z.Warmed39 U.vm ∧ U.heap = h) (fun _ _ _ _ _ => True) (fun _ U o U' => ∃ v L, o = .returned v ∧ Q v U'.heap L ∧ FrameEnd U o U' L rm.cells rm.slots))
    (hf : rm.frames + 1 ≤ R.frames) (hl : W + (maxL + 11) + rm.locals ≤ R.locals) (eT : T.heap = h) {g : JFrame} (hg : g.method = m) (hsize : g.locals.size = c.maxLocals) {ps : List FieldType} {r : Option FieldType} (hpd : parseMethodDescriptor y.desc = some ⟨ps, r⟩) (hlen : argsL.length = ps.length)
    (hstack : g.stack = argsL.reverse ++ .ref a :: rest) (hW : 2 * g.monitorRoom + (rest.map fun v => v.category).sum ≤ W) (hdg : decode c.code g.pc = .ok (.invokespecial index, 3)) (hc : cells + rm.cells ≤ R.cells) (hs : slots + rm.slots ≤ R.slots) :
    ∃ v T' L, Stand p l e R s m args below meth c T' (locs ++ L) (cells + rm.cells) (slots + rm.slots) ∧ Q v T'.heap L ∧ ∀ t, Steps p.tables e below (T'.setTop { g with pc := g.pc + 3, stack := v.toList ++ rest }) t → Steps p.tables e below (T.setTop g) t := by
  obtain ⟨v, _, ⟨T', L', k', n'⟩, -, X', ⟨L, hQ, l1, y1, z1⟩, st⟩ := X.specialBack hx (y := y) hy1 hown (mvT hZ wl) (mvT hZ wi) (mvT hZ wc) hy (backOf (W := W) hM hZ wc wz hf hl) hg hsize (Steps.refl _) (a := a) (lenOf hpd hlen) hstack hW hdg (fun _ _ => ⟨rfl, eT, hc, hs⟩)
  dsimp only [Pt.U, Pt.locs, Pt.cells, Pt.slots] at X' l1 y1 z1 st hQ
  subst l1 y1 z1
  exact ⟨v, T', L, X', hQ, fun t k => st.trans k⟩
theorem own_callV (X : Stand p l e R s m args below meth c T locs cells slots) (hx : p.tables.exec = Jvm.exec) (hZ : Z.Warmed39 s.vm) {own C : String} {index : Nat} {y z : MethodName} {bytes : ByteArray} {maxL : Nat} {ret : Option FieldType} {rm : Room} {Q : Option Value → Heap → List Loc → Prop} {a : Addr} {argsL rest : List Value} (W : Nat)
    (hown : s.vm.findClass own = some m.cls) (wl : (Jvm.Cond.methodLink own index y).before a0 Z = true) (wd : (Jvm.Cond.declares y).before a0 Z = true) (hnf : NotFace s y) (wsel : (Jvm.Cond.selects C y z).before a0 Z = true) (wi : (Jvm.Cond.instanceMethod z).before a0 Z = true) (wz : (Jvm.Cond.initialized z.cls).before a0 Z = true) (wc : (Jvm.Cond.code z bytes maxL ret).before a0 Z = true) (hy : y.cls ≠ "java/lang/invoke/MethodHandle" ∧ y.cls ≠ "java/lang/invoke/VarHandle")
    (hM : MetFree l z (head1 [Jvm.Cond.code z bytes maxL ret] rm) (fun b U => b = (Value.ref a :: argsL).toArray ∧ Z.Warmed39 U.vm ∧ U.heap = h) (fun _ _ _ _ _ => True) (fun _ U o U' => ∃ v L, o = .returned v ∧ Q v U'.heap L ∧ FrameEnd U o U' L rm.cells rm.slots))
    (hf : rm.frames + 1 ≤ R.frames) (hl : W + (maxL + 11) + rm.locals ≤ R.locals) (eT : T.heap = h) (E : Exa Z h a C) {g : JFrame} (hg : g.method = m) (hsize : g.locals.size = c.maxLocals) {ps : List FieldType} {r : Option FieldType} (hpd : parseMethodDescriptor y.desc = some ⟨ps, r⟩) (hlen : argsL.length = ps.length)
    (hstack : g.stack = argsL.reverse ++ .ref a :: rest) (hW : 2 * g.monitorRoom + (rest.map fun v => v.category).sum ≤ W) (hdg : decode c.code g.pc = .ok (.invokevirtual index, 3)) (hc : cells + rm.cells ≤ R.cells) (hs : slots + rm.slots ≤ R.slots) :
    ∃ v T' L, Stand p l e R s m args below meth c T' (locs ++ L) (cells + rm.cells) (slots + rm.slots) ∧ Q v T'.heap L ∧ ∀ t, Steps p.tables e below (T'.setTop { g with pc := g.pc + 3, stack := v.toList ++ rest }) t → Steps p.tables e below (T.setTop g) t := by
  obtain ⟨cq, kq, qa, qb, qc⟩ := isOf hZ eT E
  obtain ⟨v, _, ⟨T', L', k', n'⟩, -, X', ⟨L, hQ, l1, y1, z1⟩, st⟩ := X.virtualBack hx (y := y) (z := z) hown (mvT hZ wl) (mvT hZ wd) hnf (mvT hZ wsel) (mvT hZ wi) hy (backOf (W := W) hM hZ wc wz hf hl) qa qc hg hsize (Steps.refl _) (lenOf hpd hlen) hstack hW hdg (fun _ _ => ⟨rfl, eT, hc, hs⟩)
  dsimp only [Pt.U, Pt.locs, Pt.cells, Pt.slots] at X' l1 y1 z1 st hQ
  subst l1 y1 z1
  exact ⟨v, T', L, X', hQ, fun t k => st.trans k⟩
theorem own_nf {y : MethodName} {C : String} (hZ : Z.Warmed39 s.vm) (w : (Jvm.Cond.selects C y y).before a0 Z = true) : NotFace s y := notFace_of_selects (args := #[]) (mvT hZ w)
theorem own_selP {y y0 : MethodName} {C : String} (hZ : Z.Warmed39 s.vm) (w0 : (Jvm.Cond.selects C y0 y0).before a0 Z = true) (hc : y0.cls = y.cls) (wp : (Jvm.Cond.privateMethod y).before a0 Z = true) (wi : (Jvm.Cond.instanceMethod y).before a0 Z = true) (hy : y.cls ≠ "java/lang/invoke/MethodHandle" ∧ y.cls ≠ "java/lang/invoke/VarHandle") :
    (Jvm.Cond.selects y.cls y y).before args s = true := by
  obtain ⟨c2, r2, m2, q1, q2, q3, q4, kP, hkP, hkPi⟩ := Cond.selects_spec (mvT (args := args) hZ w0)
  exact selects_self_of_private (hc ▸ findClass_of_methodNamed q3) hkP hkPi (Cond.privateMethod_at (mvP hZ wp (args := #[]))) (mvT hZ wi) hy
theorem own_callP (X : Stand p l e R s m args below meth c T locs cells slots) (hx : p.tables.exec = Jvm.exec) (hZ : Z.Warmed39 s.vm) {own C C0 : String} {index : Nat} {y y0 : MethodName} {bytes : ByteArray} {maxL : Nat} {ret : Option FieldType} {rm : Room} {Q : Option Value → Heap → List Loc → Prop} {a : Addr} {argsL rest : List Value} (W : Nat)
    (hown : s.vm.findClass own = some m.cls) (wl : (Jvm.Cond.methodLink own index y).before a0 Z = true) (w0 : (Jvm.Cond.selects C0 y0 y0).before a0 Z = true) (hc0 : y0.cls = y.cls) (wp : (Jvm.Cond.privateMethod y).before a0 Z = true) (wi : (Jvm.Cond.instanceMethod y).before a0 Z = true) (wz : (Jvm.Cond.initialized y.cls).before a0 Z = true) (wc : (Jvm.Cond.code y bytes maxL ret).before a0 Z = true) (hy : y.cls ≠ "java/lang/invoke/MethodHandle" ∧ y.cls ≠ "java/lang/invoke/VarHandle")
    (hM : MetFree l y (head1 [Jvm.Cond.code y bytes maxL ret] rm) (fun b U => b = (Value.ref a :: argsL).toArray ∧ Z.Warmed39 U.vm ∧ U.heap = h) (fun _ _ _ _ _ => True) (fun _ U o U' => ∃ v L, o = .returned v ∧ Q v U'.heap L ∧ FrameEnd U o U' L rm.cells rm.slots))
    (hf : rm.frames + 1 ≤ R.frames) (hl : W + (maxL + 11) + rm.locals ≤ R.locals) (eT : T.heap = h) (E : Exa Z h a C) {g : JFrame} (hg : g.method = m) (hsize : g.locals.size = c.maxLocals) {ps : List FieldType} {r : Option FieldType} (hpd : parseMethodDescriptor y.desc = some ⟨ps, r⟩) (hlen : argsL.length = ps.length)
    (hstack : g.stack = argsL.reverse ++ .ref a :: rest) (hW : 2 * g.monitorRoom + (rest.map fun v => v.category).sum ≤ W) (hdg : decode c.code g.pc = .ok (.invokevirtual index, 3)) (hc : cells + rm.cells ≤ R.cells) (hs : slots + rm.slots ≤ R.slots) :
    ∃ v T' L, Stand p l e R s m args below meth c T' (locs ++ L) (cells + rm.cells) (slots + rm.slots) ∧ Q v T'.heap L ∧ ∀ t, Steps p.tables e below (T'.setTop { g with pc := g.pc + 3, stack := v.toList ++ rest }) t → Steps p.tables e below (T.setTop g) t := by
  obtain ⟨cq, q1, q2⟩ := E.cell
  obtain ⟨v, _, ⟨T', L', k', n'⟩, -, X', ⟨L, hQ, l1, y1, z1⟩, st⟩ := X.privateBack hx (y := y) hown (mvT hZ wl) (mvT hZ wi) (own_selP hZ w0 hc0 wp wi hy) (Cond.privateMethod_at (mvP hZ wp (args := #[]))) (mvT hZ wc) hy (backOf (W := W) hM hZ wc wz hf hl) hg hsize (Steps.refl _) (a := a) (by rw [eT]; exact q1) q2 (lenOf hpd hlen) hstack hW hdg (fun _ _ => ⟨rfl, eT, hc, hs⟩)
  dsimp only [Pt.U, Pt.locs, Pt.cells, Pt.slots] at X' l1 y1 z1 st hQ
  subst l1 y1 z1
  exact ⟨v, T', L, X', hQ, fun t k => st.trans k⟩
theorem own_callF (X : Stand p l e R s m args below meth c T locs cells slots) (hx : p.tables.exec = Jvm.exec) (hZ : Z.Warmed39 s.vm) {own C : String} {index count : Nat} {xi y : MethodName} {bytes : ByteArray} {maxL : Nat} {ret : Option FieldType} {rm : Room} {Q : Option Value → Heap → List Loc → Prop} {a : Addr} {argsL rest : List Value} (W : Nat)
    (hown : s.vm.findClass own = some m.cls) (wl : (Jvm.Cond.methodLink own index xi).before a0 Z = true) (wd : (Jvm.Cond.declares xi).before a0 Z = true) (wf : (Jvm.Cond.interfaceMethod xi.cls xi.cls xi.name xi.desc).before args s = true) (wsel : (Jvm.Cond.selects C xi y).before a0 Z = true) (wi : (Jvm.Cond.instanceMethod y).before a0 Z = true) (wp : (Jvm.Cond.publicMethod y).before a0 Z = true) (wu : (Jvm.Cond.unhidden C xi.name xi.desc).before a0 Z = true) (wk : (Jvm.Cond.castable C xi.cls).before a0 Z = true) (wz : (Jvm.Cond.initialized y.cls).before a0 Z = true) (wc : (Jvm.Cond.code y bytes maxL ret).before a0 Z = true) (hy : xi.cls ≠ "java/lang/invoke/MethodHandle" ∧ xi.cls ≠ "java/lang/invoke/VarHandle")
    (hM : MetFree l y (head1 [Jvm.Cond.code y bytes maxL ret] rm) (fun b U => b = (Value.ref a :: argsL).toArray ∧ Z.Warmed39 U.vm ∧ U.heap = h) (fun _ _ _ _ _ => True) (fun _ U o U' => ∃ v L, o = .returned v ∧ Q v U'.heap L ∧ FrameEnd U o U' L rm.cells rm.slots))
    (hf : rm.frames + 1 ≤ R.frames) (hl : W + (maxL + 11) + rm.locals ≤ R.locals) (eT : T.heap = h) (E : Exa Z h a C) {g : JFrame} (hg : g.method = m) (hsize : g.locals.size = c.maxLocals) {ps : List FieldType} {r : Option FieldType} (hpd : parseMethodDescriptor xi.desc = some ⟨ps, r⟩) (hlen : argsL.length = ps.length)
    (hstack : g.stack = argsL.reverse ++ .ref a :: rest) (hW : 2 * g.monitorRoom + (rest.map fun v => v.category).sum ≤ W) (hdg : decode c.code g.pc = .ok (.invokeinterface index count, 5)) (hc : cells + rm.cells ≤ R.cells) (hs : slots + rm.slots ≤ R.slots) :
    ∃ v T' L, Stand p l e R s m args below meth c T' (locs ++ L) (cells + rm.cells) (slots + rm.slots) ∧ Q v T'.heap L ∧ ∀ t, Steps p.tables e below (T'.setTop { g with pc := g.pc + 5, stack := v.toList ++ rest }) t → Steps p.tables e below (T.setTop g) t := by
  obtain ⟨cq, kq, qa, qb, qc⟩ := isOf hZ eT E
  obtain ⟨v, _, ⟨T', L', k', n'⟩, -, X', ⟨L, hQ, l1, y1, z1⟩, st⟩ := X.interfaceBack hx (xi := xi) (y := y) hown (mvT hZ wl) (mvT hZ wd) wf (mvT hZ wsel) (mvT hZ wi) (mvT hZ wp) (mvT hZ wu) (mvT hZ wk) hy (backOf (W := W) hM hZ wc wz hf hl) qa qb qc hg hsize (Steps.refl _) (lenOf hpd hlen) hstack hW hdg (fun _ _ => ⟨rfl, eT, hc, hs⟩)
  dsimp only [Pt.U, Pt.locs, Pt.cells, Pt.slots] at X' l1 y1 z1 st hQ
  subst l1 y1 z1
  exact ⟨v, T', L, X', hQ, fun t k => st.trans k⟩
/-- a truth as Java's int -/
def own_b (P : Prop) [Decidable P] : Int32 := if P then 1 else 0
theorem own_b1 {P : Prop} [Decidable P] (h : P) : own_b P = 1 := if_pos h
theorem own_b0 {P : Prop} [Decidable P] (h : ¬ P) : own_b P = 0 := if_neg h
theorem own_b01 (P : Prop) [Decidable P] : own_b P = 0 ∨ own_b P = 1 := by
  by_cases h : P
  · exact Or.inr (own_b1 h)
  · exact Or.inl (own_b0 h)
theorem own_bn {P : Prop} [Decidable P] (h : P) : ¬ own_b P = 0 := by rw [own_b1 h]; decide
theorem own_narZ {z : Int32} (h : z = 0 ∨ z = 1) : narrow .boolean (.int z) = .int z := by rcases h with rfl | rfl <;> rfl
theorem own_fitZ {z : Int32} (h : z = 0 ∨ z = 1) : fits .boolean (.int z) = true := by rcases h with rfl | rfl <;> rfl
end OwnKit
def own_remJ (x y : Int64) : Int64 := x - (x / y) * y
def own_line (l : Int64) : Int64 := (2 : Int64) + own_remJ (l &&& (9223372036854775807 : Int64)) (9223372036854775804 : Int64)
def own_batch (n d : Int64) : Int64 := n + own_remJ (d &&& (9223372036854775807 : Int64)) ((9223372036854775806 : Int64) - n)
theorem own_remR (x y : Int64) (hx : 0 ≤ x.toInt) (hy : 0 < y.toInt) : 0 ≤ (own_remJ x y).toInt ∧ (own_remJ x y).toInt < y.toInt := by
  have h := (c_lrem x y y.toInt rfl).1 hx
  unfold own_remJ
  rw [h]
  exact ⟨Int.emod_nonneg _ (by omega), Int.emod_lt_of_pos _ hy⟩
theorem own_msk (x : Int64) : 0 ≤ (x &&& (9223372036854775807 : Int64)).toInt := by
  have h := c_maskL x 9223372036854775807 63 (by decide) (by decide)
  omega
theorem own_lineR (l : Int64) : 2 ≤ (own_line l).toInt ∧ (own_line l).toInt ≤ 9223372036854775805 := by
  have h := own_remR (l &&& 9223372036854775807) 9223372036854775804 (own_msk l) (by decide)
  unfold own_line
  have h2 := c_ladd 2 (own_remJ (l &&& 9223372036854775807) 9223372036854775804)
  have i2 : (2 : Int64).toInt = 2 := by decide
  have i3 : (9223372036854775804 : Int64).toInt = 9223372036854775804 := by decide
  have r := rng64 (2 + own_remJ (l &&& 9223372036854775807) 9223372036854775804)
  omega
theorem own_div (n : Int64) (h : 2 ≤ n.toInt ∧ n.toInt ≤ 9223372036854775805) : ((9223372036854775806 : Int64) - n).toInt = 9223372036854775806 - n.toInt := by
  have h2 := c_lsub 9223372036854775806 n
  have i3 : (9223372036854775806 : Int64).toInt = 9223372036854775806 := by decide
  have r := rng64 ((9223372036854775806 : Int64) - n)
  omega
theorem own_nz {x : Int64} (h : 0 < x.toInt) : ¬ (x = (0 : Int64)) := fun q => by
  rw [q] at h; exact absurd h (by decide)
theorem own_batchR (n d : Int64) (h : 2 ≤ n.toInt ∧ n.toInt ≤ 9223372036854775805) : n.toInt ≤ (own_batch n d).toInt ∧ (own_batch n d).toInt ≤ 9223372036854775805 := by
  have h1 := own_div n h
  have h2 := own_remR (d &&& 9223372036854775807) ((9223372036854775806 : Int64) - n) (own_msk d) (by omega)
  unfold own_batch
  have h3 := c_ladd n (own_remJ (d &&& 9223372036854775807) ((9223372036854775806 : Int64) - n))
  have r := rng64 (n + own_remJ (d &&& 9223372036854775807) ((9223372036854775806 : Int64) - n))
  omega
theorem own_in (b l : Int64) (h : 2 ≤ b.toInt) : ¬ ((b - (1 : Int64)) = (0 : Int64)) ∧ 2 ≤ ((2 : Int64) + own_remJ (l &&& (9223372036854775807 : Int64)) (b - (1 : Int64))).toInt ∧ ((2 : Int64) + own_remJ (l &&& (9223372036854775807 : Int64)) (b - (1 : Int64))).toInt ≤ b.toInt := by
  have h2 := c_lsub b 1
  have i1 : (1 : Int64).toInt = 1 := by decide
  have i2 : (2 : Int64).toInt = 2 := by decide
  have r := rng64 (b - 1)
  have r2 := rng64 b
  have h3 := own_remR (l &&& 9223372036854775807) (b - 1) (own_msk l) (by omega)
  have h4 := c_ladd 2 (own_remJ (l &&& 9223372036854775807) (b - 1))
  have r3 := rng64 (2 + own_remJ (l &&& 9223372036854775807) (b - 1))
  exact ⟨own_nz (by omega), by omega, by omega⟩
theorem own_pn0 : plainFor (⟨"com/example/deferral_ledger/deferralledger/model/JournalEndMoveToPinLaw", "lineOf", "(J)J"⟩ : MethodName) = true := plainFor_of_name (by first | (simp [plainName, overriddenIn]; done) | decide +kernel)
theorem dd_method_2_0 : decode method_2_code 0 = .ok (.ldc2_w 7, 3) := by decide +kernel
theorem dd_method_2_3 : decode method_2_code 3 = .ok (.lload_n 0, 1) := by decide +kernel
theorem dd_method_2_4 : decode method_2_code 4 = .ok (.ldc2_w 11, 3) := by decide +kernel
theorem dd_method_2_7 : decode method_2_code 7 = .ok (.land, 1) := by decide +kernel
theorem dd_method_2_8 : decode method_2_code 8 = .ok (.ldc2_w 13, 3) := by decide +kernel
theorem dd_method_2_11 : decode method_2_code 11 = .ok (.lrem, 1) := by decide +kernel
theorem dd_method_2_12 : decode method_2_code 12 = .ok (.ladd, 1) := by decide +kernel
theorem dd_method_2_13 : decode method_2_code 13 = .ok (.lreturn, 1) := by decide +kernel
theorem ef_own_clin (m : MethodId) (z0 : Int64) : entryFrame m #[(.long z0)] 2 = mkF m 0 #[.val (.long z0), .second] [] := by first | (simp [entryFrame, mkF, argsToLocals, Value.category]; done) | rfl
def Q_own_clin (Z : State) (x : Int64) (h0 : Heap) (n0 : Nat) (zv : Option Value) (zh : Heap) (zL : List Loc) : Prop := zv = some (.long (own_line x)) ∧ Fr n0 zL ∧ zh = h0
set_option maxRecDepth 65536 in
set_option maxHeartbeats 40000000 in
theorem own_clin (l : Launch) (Z : State) (a0 : Array Value) (hw : ∀ d ∈ tables_1, d.before a0 Z = true) (ws : List Jvm.Cond) (x : Int64) (h0 : Heap) (n0 : Nat) (Z0 : n0 ≤ h0.size)  :
    MetFree l (⟨"com/example/deferral_ledger/deferralledger/model/JournalEndMoveToPinLaw", "lineOf", "(J)J"⟩ : MethodName) (head1 (Jvm.Cond.code (⟨"com/example/deferral_ledger/deferralledger/model/JournalEndMoveToPinLaw", "lineOf", "(J)J"⟩ : MethodName) method_2_code 2 (some .long) :: ws) ({ frames := 0, cells := 0, slots := 0, locals := 0 } : Room)) (fun za zU => za = #[(.long x)] ∧ Z.Warmed39 zU.vm ∧ zU.heap = h0) (fun _ _ _ _ _ => True) (fun _ zU zo zU' => ∃ zv zL, zo = .returned zv ∧ Q_own_clin Z x h0 n0 zv zU'.heap zL ∧ FrameEnd zU zo zU' zL ({ frames := 0, cells := 0, slots := 0, locals := 0 } : Room).cells ({ frames := 0, cells := 0, slots := 0, locals := 0 } : Room).slots) := by
  refine own_met (y := (⟨"com/example/deferral_ledger/deferralledger/model/JournalEndMoveToPinLaw", "lineOf", "(J)J"⟩ : MethodName)) own_pn0 ?_
  intro p e s m below meth c T0 hx hby hml hown hnm hret hlk hZ e0 X0
  have N0 := Fr.nil n0
  refine own_st (fun zt zk => castTop (ef_own_clin m x) zk) ?_
  show own_G p e below s _ _ _ (T0.setTop (mkF m 0 #[.val (.long x), .second] []))
  refine own_st (X0.ldc2Long hx hown (mvT hZ (hw _ (List.mem_of_getElem? (i := 4) rfl))) (g := (mkF m 0 #[.val (.long x), .second] [])) rfl (hb hby dd_method_2_0)) ?_
  show own_G p e below s _ _ _ (T0.setTop (mkF m 3 #[.val (.long x), .second] [(.long (2 : Int64))]))
  refine own_st (fun zt zk => XS.lloadN X0.here hx rfl (hb hby dd_method_2_3) rfl zk) ?_
  show own_G p e below s _ _ _ (T0.setTop (mkF m 4 #[.val (.long x), .second] [(.long x), (.long (2 : Int64))]))
  refine own_st (X0.ldc2Long hx hown (mvT hZ (hw _ (List.mem_of_getElem? (i := 5) rfl))) (g := (mkF m 4 #[.val (.long x), .second] [(.long x), (.long (2 : Int64))])) rfl (hb hby dd_method_2_4)) ?_
  show own_G p e below s _ _ _ (T0.setTop (mkF m 7 #[.val (.long x), .second] [(.long (9223372036854775807 : Int64)), (.long x), (.long (2 : Int64))]))
  refine own_st (fun zt zk => XS.land X0.here hx rfl (hb hby dd_method_2_7) rfl zk) ?_
  show own_G p e below s _ _ _ (T0.setTop (mkF m 8 #[.val (.long x), .second] [(.long (x &&& (9223372036854775807 : Int64))), (.long (2 : Int64))]))
  refine own_st (X0.ldc2Long hx hown (mvT hZ (hw _ (List.mem_of_getElem? (i := 6) rfl))) (g := (mkF m 8 #[.val (.long x), .second] [(.long (x &&& (9223372036854775807 : Int64))), (.long (2 : Int64))])) rfl (hb hby dd_method_2_8)) ?_
  show own_G p e below s _ _ _ (T0.setTop (mkF m 11 #[.val (.long x), .second] [(.long (9223372036854775804 : Int64)), (.long (x &&& (9223372036854775807 : Int64))), (.long (2 : Int64))]))
  refine own_st (fun zt zk => XS.lrem X0.here hx rfl (hb hby dd_method_2_11) rfl (by decide) zk) ?_
  show own_G p e below s _ _ _ (T0.setTop (mkF m 12 #[.val (.long x), .second] [(.long ((x &&& (9223372036854775807 : Int64)) - ((x &&& (9223372036854775807 : Int64)) / (9223372036854775804 : Int64)) * (9223372036854775804 : Int64))), (.long (2 : Int64))]))
  refine own_st (fun zt zk => XS.ladd X0.here hx rfl (hb hby dd_method_2_12) rfl zk) ?_
  show own_G p e below s _ _ _ (T0.setTop (mkF m 13 #[.val (.long x), .second] [(.long ((2 : Int64) + ((x &&& (9223372036854775807 : Int64)) - ((x &&& (9223372036854775807 : Int64)) / (9223372036854775804 : Int64)) * (9223372036854775804 : Int64))))]))
  refine own_retJ X0 hx hlk hret (hb hby dd_method_2_13) (by decide) (by decide) ?_
  show Q_own_clin Z x h0 n0 (some (.long ((2 : Int64) + ((x &&& (9223372036854775807 : Int64)) - ((x &&& (9223372036854775807 : Int64)) / (9223372036854775804 : Int64)) * (9223372036854775804 : Int64))))) T0.heap _
  rw [e0]
  exact ⟨rfl, N0, rfl⟩
theorem own_pn1 : plainFor (⟨"com/example/deferral_ledger/deferralledger/model/JournalEndMoveToPinLaw", "batchOf", "(JJ)J"⟩ : MethodName) = true := plainFor_of_name (by first | (simp [plainName, overriddenIn]; done) | decide +kernel)
theorem dd_method_3_0 : decode method_3_code 0 = .ok (.lload_n 0, 1) := by decide +kernel
theorem dd_method_3_1 : decode method_3_code 1 = .ok (.lload_n 2, 1) := by decide +kernel
theorem dd_method_3_2 : decode method_3_code 2 = .ok (.ldc2_w 11, 3) := by decide +kernel
theorem dd_method_3_5 : decode method_3_code 5 = .ok (.land, 1) := by decide +kernel
theorem dd_method_3_6 : decode method_3_code 6 = .ok (.ldc2_w 15, 3) := by decide +kernel
theorem dd_method_3_9 : decode method_3_code 9 = .ok (.lload_n 0, 1) := by decide +kernel
theorem dd_method_3_10 : decode method_3_code 10 = .ok (.lsub, 1) := by decide +kernel
theorem dd_method_3_11 : decode method_3_code 11 = .ok (.lrem, 1) := by decide +kernel
theorem dd_method_3_12 : decode method_3_code 12 = .ok (.ladd, 1) := by decide +kernel
theorem dd_method_3_13 : decode method_3_code 13 = .ok (.lreturn, 1) := by decide +kernel
theorem ef_own_cbat (m : MethodId) (z0 : Int64) (z1 : Int64) : entryFrame m #[(.long z0), (.long z1)] 4 = mkF m 0 #[.val (.long z0), .second, .val (.long z1), .second] [] := by first | (simp [entryFrame, mkF, argsToLocals, Value.category]; done) | rfl
def Q_own_cbat (Z : State) (x : Int64) (d : Int64) (h0 : Heap) (n0 : Nat) (zv : Option Value) (zh : Heap) (zL : List Loc) : Prop := zv = some (.long (own_batch x d)) ∧ Fr n0 zL ∧ zh = h0
set_option maxRecDepth 65536 in
set_option maxHeartbeats 40000000 in
theorem own_cbat (l : Launch) (Z : State) (a0 : Array Value) (hw : ∀ d ∈ tables_1, d.before a0 Z = true) (ws : List Jvm.Cond) (x : Int64) (d : Int64) (h0 : Heap) (n0 : Nat) (Z0 : n0 ≤ h0.size) (p0_ : ¬ (((9223372036854775806 : Int64) - x) = (0 : Int64))) :
    MetFree l (⟨"com/example/deferral_ledger/deferralledger/model/JournalEndMoveToPinLaw", "batchOf", "(JJ)J"⟩ : MethodName) (head1 (Jvm.Cond.code (⟨"com/example/deferral_ledger/deferralledger/model/JournalEndMoveToPinLaw", "batchOf", "(JJ)J"⟩ : MethodName) method_3_code 4 (some .long) :: ws) ({ frames := 0, cells := 0, slots := 0, locals := 0 } : Room)) (fun za zU => za = #[(.long x), (.long d)] ∧ Z.Warmed39 zU.vm ∧ zU.heap = h0) (fun _ _ _ _ _ => True) (fun _ zU zo zU' => ∃ zv zL, zo = .returned zv ∧ Q_own_cbat Z x d h0 n0 zv zU'.heap zL ∧ FrameEnd zU zo zU' zL ({ frames := 0, cells := 0, slots := 0, locals := 0 } : Room).cells ({ frames := 0, cells := 0, slots := 0, locals := 0 } : Room).slots) := by
  refine own_met (y := (⟨"com/example/deferral_ledger/deferralledger/model/JournalEndMoveToPinLaw", "batchOf", "(JJ)J"⟩ : MethodName)) own_pn1 ?_
  intro p e s m below meth c T0 hx hby hml hown hnm hret hlk hZ e0 X0
  have N0 := Fr.nil n0
  refine own_st (fun zt zk => castTop (ef_own_cbat m x d) zk) ?_
  show own_G p e below s _ _ _ (T0.setTop (mkF m 0 #[.val (.long x), .second, .val (.long d), .second] []))
  refine own_st (fun zt zk => XS.lloadN X0.here hx rfl (hb hby dd_method_3_0) rfl zk) ?_
  show own_G p e below s _ _ _ (T0.setTop (mkF m 1 #[.val (.long x), .second, .val (.long d), .second] [(.long x)]))
  refine own_st (fun zt zk => XS.lloadN X0.here hx rfl (hb hby dd_method_3_1) rfl zk) ?_
  show own_G p e below s _ _ _ (T0.setTop (mkF m 2 #[.val (.long x), .second, .val (.long d), .second] [(.long d), (.long x)]))
  refine own_st (X0.ldc2Long hx hown (mvT hZ (hw _ (List.mem_of_getElem? (i := 5) rfl))) (g := (mkF m 2 #[.val (.long x), .second, .val (.long d), .second] [(.long d), (.long x)])) rfl (hb hby dd_method_3_2)) ?_
  show own_G p e below s _ _ _ (T0.setTop (mkF m 5 #[.val (.long x), .second, .val (.long d), .second] [(.long (9223372036854775807 : Int64)), (.long d), (.long x)]))
  refine own_st (fun zt zk => XS.land X0.here hx rfl (hb hby dd_method_3_5) rfl zk) ?_
  show own_G p e below s _ _ _ (T0.setTop (mkF m 6 #[.val (.long x), .second, .val (.long d), .second] [(.long (d &&& (9223372036854775807 : Int64))), (.long x)]))
  refine own_st (X0.ldc2Long hx hown (mvT hZ (hw _ (List.mem_of_getElem? (i := 10) rfl))) (g := (mkF m 6 #[.val (.long x), .second, .val (.long d), .second] [(.long (d &&& (9223372036854775807 : Int64))), (.long x)])) rfl (hb hby dd_method_3_6)) ?_
  show own_G p e below s _ _ _ (T0.setTop (mkF m 9 #[.val (.long x), .second, .val (.long d), .second] [(.long (9223372036854775806 : Int64)), (.long (d &&& (9223372036854775807 : Int64))), (.long x)]))
  refine own_st (fun zt zk => XS.lloadN X0.here hx rfl (hb hby dd_method_3_9) rfl zk) ?_
  show own_G p e below s _ _ _ (T0.setTop (mkF m 10 #[.val (.long x), .second, .val (.long d), .second] [(.long x), (.long (9223372036854775806 : Int64)), (.long (d &&& (9223372036854775807 : Int64))), (.long x)]))
  refine own_st (fun zt zk => XS.lsub X0.here hx rfl (hb hby dd_method_3_10) rfl zk) ?_
  show own_G p e below s _ _ _ (T0.setTop (mkF m 11 #[.val (.long x), .second, .val (.long d), .second] [(.long ((9223372036854775806 : Int64) - x)), (.long (d &&& (9223372036854775807 : Int64))), (.long x)]))
  refine own_st (fun zt zk => XS.lrem X0.here hx rfl (hb hby dd_method_3_11) rfl p0_ zk) ?_
  show own_G p e below s _ _ _ (T0.setTop (mkF m 12 #[.val (.long x), .second, .val (.long d), .second] [(.long ((d &&& (9223372036854775807 : Int64)) - ((d &&& (9223372036854775807 : Int64)) / ((9223372036854775806 : Int64) - x)) * ((9223372036854775806 : Int64) - x))), (.long x)]))
  refine own_st (fun zt zk => XS.ladd X0.here hx rfl (hb hby dd_method_3_12) rfl zk) ?_
  show own_G p e below s _ _ _ (T0.setTop (mkF m 13 #[.val (.long x), .second, .val (.long d), .second] [(.long (x + ((d &&& (9223372036854775807 : Int64)) - ((d &&& (9223372036854775807 : Int64)) / ((9223372036854775806 : Int64) - x)) * ((9223372036854775806 : Int64) - x))))]))
  refine own_retJ X0 hx hlk hret (hb hby dd_method_3_13) (by decide) (by decide) ?_
  show Q_own_cbat Z x d h0 n0 (some (.long (x + ((d &&& (9223372036854775807 : Int64)) - ((d &&& (9223372036854775807 : Int64)) / ((9223372036854775806 : Int64) - x)) * ((9223372036854775806 : Int64) - x))))) T0.heap _
  rw [e0]
  exact ⟨rfl, N0, rfl⟩
theorem own_pn2 : plainFor (⟨"com/example/deferral_ledger/deferralledger/model/JournalEnd", "<init>", "()V"⟩ : MethodName) = true := plainFor_of_name (by first | (simp [plainName, overriddenIn]; done) | decide +kernel)
theorem dd_prog_44m1_0 : decode prog_44_method_1_code 0 = .ok (.aload_n 0, 1) := by decide +kernel
theorem dd_prog_44m1_1 : decode prog_44_method_1_code 1 = .ok (.invokespecial 1, 3) := by decide +kernel
theorem dd_prog_44m1_4 : decode prog_44_method_1_code 4 = .ok (.aload_n 0, 1) := by decide +kernel
theorem dd_prog_44m1_5 : decode prog_44_method_1_code 5 = .ok (.lconst 1, 1) := by decide +kernel
theorem dd_prog_44m1_6 : decode prog_44_method_1_code 6 = .ok (.putfield 7, 3) := by decide +kernel
theorem dd_prog_44m1_9 : decode prog_44_method_1_code 9 = .ok (.aload_n 0, 1) := by decide +kernel
theorem dd_prog_44m1_10 : decode prog_44_method_1_code 10 = .ok (.lconst 1, 1) := by decide +kernel
theorem dd_prog_44m1_11 : decode prog_44_method_1_code 11 = .ok (.putfield 13, 3) := by decide +kernel
theorem dd_prog_44m1_14 : decode prog_44_method_1_code 14 = .ok (.return_, 1) := by decide +kernel
theorem ef_own_jei (m : MethodId) (z0 : Addr) : entryFrame m #[(.ref z0)] 1 = mkF m 0 #[.val (.ref z0)] [] := by first | (simp [entryFrame, mkF, argsToLocals, Value.category]; done) | rfl
def Q_own_jei (Z : State) (a : Addr) (h0 : Heap) (n0 : Nat) (zv : Option Value) (zh : Heap) (zL : List Loc) : Prop := zv = none ∧ Fr n0 zL ∧ Keep h0 zh [a] ∧ Fld Z zh a "com/example/deferral_ledger/deferralledger/model/JournalEnd" "lastEntry" "J" (.long (1 : Int64)) ∧ Fld Z zh a "com/example/deferral_ledger/deferralledger/model/JournalEnd" "batch" "J" (.long (1 : Int64))
set_option maxRecDepth 65536 in
set_option maxHeartbeats 40000000 in
theorem own_jei (l : Launch) (Z : State) (a0 : Array Value) (hw : ∀ d ∈ tables_1, d.before a0 Z = true) (ws : List Jvm.Cond) (a : Addr) (h0 : Heap) (n0 : Nat) (Z0 : n0 ≤ h0.size) (p0_ : Exa Z h0 a "com/example/deferral_ledger/deferralledger/model/JournalEnd") (p1_ : Fld Z h0 a "com/example/deferral_ledger/deferralledger/model/JournalEnd" "lastEntry" "J" (.long (0 : Int64))) (p2_ : Fld Z h0 a "com/example/deferral_ledger/deferralledger/model/JournalEnd" "batch" "J" (.long (0 : Int64))) (p3_ : n0 ≤ a) :
    MetFree l (⟨"com/example/deferral_ledger/deferralledger/model/JournalEnd", "<init>", "()V"⟩ : MethodName) (head1 (Jvm.Cond.code (⟨"com/example/deferral_ledger/deferralledger/model/JournalEnd", "<init>", "()V"⟩ : MethodName) prog_44_method_1_code 1 none :: ws) ({ frames := 1, cells := 0, slots := 0, locals := 12 } : Room)) (fun za zU => za = #[(.ref a)] ∧ Z.Warmed39 zU.vm ∧ zU.heap = h0) (fun _ _ _ _ _ => True) (fun _ zU zo zU' => ∃ zv zL, zo = .returned zv ∧ Q_own_jei Z a h0 n0 zv zU'.heap zL ∧ FrameEnd zU zo zU' zL ({ frames := 1, cells := 0, slots := 0, locals := 12 } : Room).cells ({ frames := 1, cells := 0, slots := 0, locals := 12 } : Room).slots) := by
  refine own_met (y := (⟨"com/example/deferral_ledger/deferralledger/model/JournalEnd", "<init>", "()V"⟩ : MethodName)) own_pn2 ?_
  intro p e s m below meth c T0 hx hby hml hown hnm hret hlk hZ e0 X0
  have N0 := Fr.nil n0
  refine own_st (fun zt zk => castTop (ef_own_jei m a) zk) ?_
  show own_G p e below s _ _ _ (T0.setTop (mkF m 0 #[.val (.ref a)] []))
  refine own_st (fun zt zk => XS.aloadN X0.here hx rfl (hb hby dd_prog_44m1_0) rfl rfl zk) ?_
  show own_G p e below s _ _ _ (T0.setTop (mkF m 1 #[.val (.ref a)] [(.ref a)]))
  obtain ⟨T1, X1, e1, st1⟩ := initO X0 hx hZ hown (hw _ (List.mem_of_getElem? (i := 17) rfl)) (hw _ (List.mem_of_getElem? (i := 18) rfl)) (hw _ (List.mem_of_getElem? (i := 19) rfl)) e0 (g := (mkF m 1 #[.val (.ref a)] [(.ref a)])) rfl (by rw [hml]; rfl) rfl (hb hby dd_prog_44m1_1) (by decide) (W := 0) (by show 2 * 0 + _ ≤ _; exact Nat.le_of_eq rfl) (by decide)
  refine own_st st1 ?_
  show own_G p e below s _ _ _ (T1.setTop (mkF m 4 #[.val (.ref a)] []))
  refine own_st (fun zt zk => XS.aloadN X1.here hx rfl (hb hby dd_prog_44m1_4) rfl rfl zk) ?_
  show own_G p e below s _ _ _ (T1.setTop (mkF m 5 #[.val (.ref a)] [(.ref a)]))
  refine own_st (fun zt zk => XS.lconst X1.here hx rfl (hb hby dd_prog_44m1_5) zk) ?_
  show own_G p e below s _ _ _ (T1.setTop (mkF m 6 #[.val (.ref a)] [(.long (1 : Int64)), (.ref a)]))
  obtain ⟨T2, h2, X2, e2, W2, st2⟩ := putF X1 hx hZ hown (host := "") (Or.inl (hw _ (List.mem_of_getElem? (i := 20) rfl))) Via.refl e1 p1_ p0_ (Or.inl (hw _ (List.mem_of_getElem? (i := 21) rfl))) (hw _ (List.mem_of_getElem? (i := 12) rfl)) (ty := .long) (by decide) rfl rfl (g := (mkF m 6 #[.val (.ref a)] [(.long (1 : Int64)), (.ref a)])) rfl rfl (hb hby dd_prog_44m1_6)
  refine own_st st2 ?_
  have N2 := Fr.snoc X2 N0 p3_
  show own_G p e below s _ _ _ (T2.setTop (mkF m 9 #[.val (.ref a)] []))
  refine own_st (fun zt zk => XS.aloadN X2.here hx rfl (hb hby dd_prog_44m1_9) rfl rfl zk) ?_
  show own_G p e below s _ _ _ (T2.setTop (mkF m 10 #[.val (.ref a)] [(.ref a)]))
  refine own_st (fun zt zk => XS.lconst X2.here hx rfl (hb hby dd_prog_44m1_10) zk) ?_
  show own_G p e below s _ _ _ (T2.setTop (mkF m 11 #[.val (.ref a)] [(.long (1 : Int64)), (.ref a)]))
  have F3 : Fld Z h2 a "com/example/deferral_ledger/deferralledger/model/JournalEnd" "batch" "J" (.long (0 : Int64)) := (Fld.other W2 p2_ (Or.inr (slot_ne (Or.inl (hw _ (List.mem_of_getElem? (i := 23) rfl))) (Or.inl (hw _ (List.mem_of_getElem? (i := 21) rfl))) (by decide) (t := .long) (t' := .long) (by decide) (by decide))))
  have E4 : Exa Z h2 a "com/example/deferral_ledger/deferralledger/model/JournalEnd" := (p0_.wr W2)
  obtain ⟨T5, h5, X5, e5, W5, st5⟩ := putF X2 hx hZ hown (host := "") (Or.inl (hw _ (List.mem_of_getElem? (i := 22) rfl))) Via.refl e2 F3 E4 (Or.inl (hw _ (List.mem_of_getElem? (i := 23) rfl))) (hw _ (List.mem_of_getElem? (i := 12) rfl)) (ty := .long) (by decide) rfl rfl (g := (mkF m 11 #[.val (.ref a)] [(.long (1 : Int64)), (.ref a)])) rfl rfl (hb hby dd_prog_44m1_11)
  refine own_st st5 ?_
  have N5 := Fr.snoc X5 N2 p3_
  show own_G p e below s _ _ _ (T5.setTop (mkF m 14 #[.val (.ref a)] []))
  have F6 : Fld Z h5 a "com/example/deferral_ledger/deferralledger/model/JournalEnd" "lastEntry" "J" (.long (1 : Int64)) := (Fld.other W5 (Fld.same W2 p1_) (Or.inr (slot_ne (Or.inl (hw _ (List.mem_of_getElem? (i := 21) rfl))) (Or.inl (hw _ (List.mem_of_getElem? (i := 23) rfl))) (by decide) (t := .long) (t' := .long) (by decide) (by decide))))
  have F7 : Fld Z h5 a "com/example/deferral_ledger/deferralledger/model/JournalEnd" "batch" "J" (.long (1 : Int64)) := (Fld.same W5 F3)
  refine own_retV X5 hx hlk hret (hb hby dd_prog_44m1_14) (by decide) (by decide) ?_
  show Q_own_jei Z a h0 n0 none T5.heap _
  rw [e5]
  exact ⟨rfl, N5, (((Keep.refl _ _).wr W2 (Or.inl (List.mem_of_getElem? (i := 0) rfl))).wr W5 (Or.inl (List.mem_of_getElem? (i := 0) rfl))), F6, F7⟩
theorem own_pn3 : plainFor (⟨"com/example/deferral_ledger/deferralledger/model/JournalPlace", "<init>", "(JJ)V"⟩ : MethodName) = true := plainFor_of_name (by first | (simp [plainName, overriddenIn]; done) | decide +kernel)
theorem dd_prog_46m1_0 : decode prog_46_method_1_code 0 = .ok (.aload_n 0, 1) := by decide +kernel
theorem dd_prog_46m1_1 : decode prog_46_method_1_code 1 = .ok (.invokespecial 1, 3) := by decide +kernel
theorem dd_prog_46m1_4 : decode prog_46_method_1_code 4 = .ok (.lload_n 1, 1) := by decide +kernel
theorem dd_prog_46m1_5 : decode prog_46_method_1_code 5 = .ok (.ldc2_w 7, 3) := by decide +kernel
theorem dd_prog_46m1_8 : decode prog_46_method_1_code 8 = .ok (.lcmp, 1) := by decide +kernel
theorem dd_prog_46m1_9 : decode prog_46_method_1_code 9 = .ok (.ifCond .lt 9, 3) := by decide +kernel
theorem dd_prog_46m1_12 : decode prog_46_method_1_code 12 = .ok (.lload_n 3, 1) := by decide +kernel
theorem dd_prog_46m1_13 : decode prog_46_method_1_code 13 = .ok (.lload_n 1, 1) := by decide +kernel
theorem dd_prog_46m1_14 : decode prog_46_method_1_code 14 = .ok (.lcmp, 1) := by decide +kernel
theorem dd_prog_46m1_15 : decode prog_46_method_1_code 15 = .ok (.ifCond .ge 18, 3) := by decide +kernel
theorem dd_prog_46m1_33 : decode prog_46_method_1_code 33 = .ok (.aload_n 0, 1) := by decide +kernel
theorem dd_prog_46m1_34 : decode prog_46_method_1_code 34 = .ok (.lload_n 1, 1) := by decide +kernel
theorem dd_prog_46m1_35 : decode prog_46_method_1_code 35 = .ok (.putfield 18, 3) := by decide +kernel
theorem dd_prog_46m1_38 : decode prog_46_method_1_code 38 = .ok (.aload_n 0, 1) := by decide +kernel
theorem dd_prog_46m1_39 : decode prog_46_method_1_code 39 = .ok (.lload_n 3, 1) := by decide +kernel
theorem dd_prog_46m1_40 : decode prog_46_method_1_code 40 = .ok (.putfield 24, 3) := by decide +kernel
theorem dd_prog_46m1_43 : decode prog_46_method_1_code 43 = .ok (.return_, 1) := by decide +kernel
theorem ef_own_jpi (m : MethodId) (z0 : Addr) (z1 : Int64) (z2 : Int64) : entryFrame m #[(.ref z0), (.long z1), (.long z2)] 5 = mkF m 0 #[.val (.ref z0), .val (.long z1), .second, .val (.long z2), .second] [] := by first | (simp [entryFrame, mkF, argsToLocals, Value.category]; done) | rfl
def Q_own_jpi (Z : State) (a : Addr) (ln : Int64) (bt : Int64) (h0 : Heap) (n0 : Nat) (zv : Option Value) (zh : Heap) (zL : List Loc) : Prop := zv = none ∧ Fr n0 zL ∧ Keep h0 zh [a] ∧ Fld Z zh a "com/example/deferral_ledger/deferralledger/model/JournalPlace" "line" "J" (.long ln) ∧ Fld Z zh a "com/example/deferral_ledger/deferralledger/model/JournalPlace" "batch" "J" (.long bt)
set_option maxRecDepth 65536 in
set_option maxHeartbeats 40000000 in
theorem own_jpi (l : Launch) (Z : State) (a0 : Array Value) (hw : ∀ d ∈ tables_1, d.before a0 Z = true) (ws : List Jvm.Cond) (a : Addr) (ln : Int64) (bt : Int64) (h0 : Heap) (n0 : Nat) (Z0 : n0 ≤ h0.size) (p0_ : Exa Z h0 a "com/example/deferral_ledger/deferralledger/model/JournalPlace") (p1_ : Fld Z h0 a "com/example/deferral_ledger/deferralledger/model/JournalPlace" "line" "J" (.long (0 : Int64))) (p2_ : Fld Z h0 a "com/example/deferral_ledger/deferralledger/model/JournalPlace" "batch" "J" (.long (0 : Int64))) (p3_ : n0 ≤ a) (p4_ : ¬ (ln < (2 : Int64))) (p5_ : ¬ (bt < ln)) :
    MetFree l (⟨"com/example/deferral_ledger/deferralledger/model/JournalPlace", "<init>", "(JJ)V"⟩ : MethodName) (head1 (Jvm.Cond.code (⟨"com/example/deferral_ledger/deferralledger/model/JournalPlace", "<init>", "(JJ)V"⟩ : MethodName) prog_46_method_1_code 5 none :: ws) ({ frames := 1, cells := 0, slots := 0, locals := 12 } : Room)) (fun za zU => za = #[(.ref a), (.long ln), (.long bt)] ∧ Z.Warmed39 zU.vm ∧ zU.heap = h0) (fun _ _ _ _ _ => True) (fun _ zU zo zU' => ∃ zv zL, zo = .returned zv ∧ Q_own_jpi Z a ln bt h0 n0 zv zU'.heap zL ∧ FrameEnd zU zo zU' zL ({ frames := 1, cells := 0, slots := 0, locals := 12 } : Room).cells ({ frames := 1, cells := 0, slots := 0, locals := 12 } : Room).slots) := by
  refine own_met (y := (⟨"com/example/deferral_ledger/deferralledger/model/JournalPlace", "<init>", "(JJ)V"⟩ : MethodName)) own_pn3 ?_
  intro p e s m below meth c T0 hx hby hml hown hnm hret hlk hZ e0 X0
  have N0 := Fr.nil n0
  refine own_st (fun zt zk => castTop (ef_own_jpi m a ln bt) zk) ?_
  show own_G p e below s _ _ _ (T0.setTop (mkF m 0 #[.val (.ref a), .val (.long ln), .second, .val (.long bt), .second] []))
  refine own_st (fun zt zk => XS.aloadN X0.here hx rfl (hb hby dd_prog_46m1_0) rfl rfl zk) ?_
  show own_G p e below s _ _ _ (T0.setTop (mkF m 1 #[.val (.ref a), .val (.long ln), .second, .val (.long bt), .second] [(.ref a)]))
  obtain ⟨T1, X1, e1, st1⟩ := initO X0 hx hZ hown (hw _ (List.mem_of_getElem? (i := 30) rfl)) (hw _ (List.mem_of_getElem? (i := 18) rfl)) (hw _ (List.mem_of_getElem? (i := 19) rfl)) e0 (g := (mkF m 1 #[.val (.ref a), .val (.long ln), .second, .val (.long bt), .second] [(.ref a)])) rfl (by rw [hml]; rfl) rfl (hb hby dd_prog_46m1_1) (by decide) (W := 0) (by show 2 * 0 + _ ≤ _; exact Nat.le_of_eq rfl) (by decide)
  refine own_st st1 ?_
  show own_G p e below s _ _ _ (T1.setTop (mkF m 4 #[.val (.ref a), .val (.long ln), .second, .val (.long bt), .second] []))
  refine own_st (fun zt zk => XS.lloadN X1.here hx rfl (hb hby dd_prog_46m1_4) rfl zk) ?_
  show own_G p e below s _ _ _ (T1.setTop (mkF m 5 #[.val (.ref a), .val (.long ln), .second, .val (.long bt), .second] [(.long ln)]))
  refine own_st (X1.ldc2Long hx hown (mvT hZ (hw _ (List.mem_of_getElem? (i := 31) rfl))) (g := (mkF m 5 #[.val (.ref a), .val (.long ln), .second, .val (.long bt), .second] [(.long ln)])) rfl (hb hby dd_prog_46m1_5)) ?_
  show own_G p e below s _ _ _ (T1.setTop (mkF m 8 #[.val (.ref a), .val (.long ln), .second, .val (.long bt), .second] [(.long (2 : Int64)), (.long ln)]))
  refine own_st (fun zt zk => XS.lcmp X1.here hx rfl (hb hby dd_prog_46m1_8) rfl zk) ?_
  show own_G p e below s _ _ _ (T1.setTop (mkF m 9 #[.val (.ref a), .val (.long ln), .second, .val (.long bt), .second] [(.int (lcmpW ln (2 : Int64)))]))
  refine own_st (fun zt zk => XS.ifNo X1.here hx rfl (hb hby dd_prog_46m1_9) rfl ((if0 _ _).trans (flt (mt (lw_lt ln (2 : Int64)).mp p4_)).1) zk) ?_
  show own_G p e below s _ _ _ (T1.setTop (mkF m 12 #[.val (.ref a), .val (.long ln), .second, .val (.long bt), .second] []))
  refine own_st (fun zt zk => XS.lloadN X1.here hx rfl (hb hby dd_prog_46m1_12) rfl zk) ?_
  show own_G p e below s _ _ _ (T1.setTop (mkF m 13 #[.val (.ref a), .val (.long ln), .second, .val (.long bt), .second] [(.long bt)]))
  refine own_st (fun zt zk => XS.lloadN X1.here hx rfl (hb hby dd_prog_46m1_13) rfl zk) ?_
  show own_G p e below s _ _ _ (T1.setTop (mkF m 14 #[.val (.ref a), .val (.long ln), .second, .val (.long bt), .second] [(.long ln), (.long bt)]))
  refine own_st (fun zt zk => XS.lcmp X1.here hx rfl (hb hby dd_prog_46m1_14) rfl zk) ?_
  show own_G p e below s _ _ _ (T1.setTop (mkF m 15 #[.val (.ref a), .val (.long ln), .second, .val (.long bt), .second] [(.int (lcmpW bt ln))]))
  refine own_st (fun zt zk => XS.ifYes X1.here hx rfl (pc0 := 15) (pc' := 33) rfl (hb hby dd_prog_46m1_15) rfl ((if0 _ _).trans (flt (mt (lw_lt bt ln).mp p5_)).2.1) (by decide) (by decide) zk) ?_
  show own_G p e below s _ _ _ (T1.setTop (mkF m 33 #[.val (.ref a), .val (.long ln), .second, .val (.long bt), .second] []))
  refine own_st (fun zt zk => XS.aloadN X1.here hx rfl (hb hby dd_prog_46m1_33) rfl rfl zk) ?_
  show own_G p e below s _ _ _ (T1.setTop (mkF m 34 #[.val (.ref a), .val (.long ln), .second, .val (.long bt), .second] [(.ref a)]))
  refine own_st (fun zt zk => XS.lloadN X1.here hx rfl (hb hby dd_prog_46m1_34) rfl zk) ?_
  show own_G p e below s _ _ _ (T1.setTop (mkF m 35 #[.val (.ref a), .val (.long ln), .second, .val (.long bt), .second] [(.long ln), (.ref a)]))
  obtain ⟨T2, h2, X2, e2, W2, st2⟩ := putF X1 hx hZ hown (host := "") (Or.inl (hw _ (List.mem_of_getElem? (i := 32) rfl))) Via.refl e1 p1_ p0_ (Or.inr ⟨(hw _ (List.mem_of_getElem? (i := 33) rfl)), rfl, hnm⟩) (hw _ (List.mem_of_getElem? (i := 25) rfl)) (ty := .long) (by decide) rfl rfl (g := (mkF m 35 #[.val (.ref a), .val (.long ln), .second, .val (.long bt), .second] [(.long ln), (.ref a)])) rfl rfl (hb hby dd_prog_46m1_35)
  refine own_st st2 ?_
  have N2 := Fr.snoc X2 N0 p3_
  show own_G p e below s _ _ _ (T2.setTop (mkF m 38 #[.val (.ref a), .val (.long ln), .second, .val (.long bt), .second] []))
  refine own_st (fun zt zk => XS.aloadN X2.here hx rfl (hb hby dd_prog_46m1_38) rfl rfl zk) ?_
  show own_G p e below s _ _ _ (T2.setTop (mkF m 39 #[.val (.ref a), .val (.long ln), .second, .val (.long bt), .second] [(.ref a)]))
  refine own_st (fun zt zk => XS.lloadN X2.here hx rfl (hb hby dd_prog_46m1_39) rfl zk) ?_
  show own_G p e below s _ _ _ (T2.setTop (mkF m 40 #[.val (.ref a), .val (.long ln), .second, .val (.long bt), .second] [(.long bt), (.ref a)]))
  have F3 : Fld Z h2 a "com/example/deferral_ledger/deferralledger/model/JournalPlace" "batch" "J" (.long (0 : Int64)) := (Fld.other W2 p2_ (Or.inr (slot_ne (Or.inr (hw _ (List.mem_of_getElem? (i := 35) rfl))) (Or.inr (hw _ (List.mem_of_getElem? (i := 33) rfl))) (by decide) (t := .long) (t' := .long) (by decide) (by decide))))
  have E4 : Exa Z h2 a "com/example/deferral_ledger/deferralledger/model/JournalPlace" := (p0_.wr W2)
  obtain ⟨T5, h5, X5, e5, W5, st5⟩ := putF X2 hx hZ hown (host := "") (Or.inl (hw _ (List.mem_of_getElem? (i := 34) rfl))) Via.refl e2 F3 E4 (Or.inr ⟨(hw _ (List.mem_of_getElem? (i := 35) rfl)), rfl, hnm⟩) (hw _ (List.mem_of_getElem? (i := 25) rfl)) (ty := .long) (by decide) rfl rfl (g := (mkF m 40 #[.val (.ref a), .val (.long ln), .second, .val (.long bt), .second] [(.long bt), (.ref a)])) rfl rfl (hb hby dd_prog_46m1_40)
  refine own_st st5 ?_
  have N5 := Fr.snoc X5 N2 p3_
  show own_G p e below s _ _ _ (T5.setTop (mkF m 43 #[.val (.ref a), .val (.long ln), .second, .val (.long bt), .second] []))
  have F6 : Fld Z h5 a "com/example/deferral_ledger/deferralledger/model/JournalPlace" "line" "J" (.long ln) := (Fld.other W5 (Fld.same W2 p1_) (Or.inr (slot_ne (Or.inr (hw _ (List.mem_of_getElem? (i := 33) rfl))) (Or.inr (hw _ (List.mem_of_getElem? (i := 35) rfl))) (by decide) (t := .long) (t' := .long) (by decide) (by decide))))
  have F7 : Fld Z h5 a "com/example/deferral_ledger/deferralledger/model/JournalPlace" "batch" "J" (.long bt) := (Fld.same W5 F3)
  refine own_retV X5 hx hlk hret (hb hby dd_prog_46m1_43) (by decide) (by decide) ?_
  show Q_own_jpi Z a ln bt h0 n0 none T5.heap _
  rw [e5]
  exact ⟨rfl, N5, (((Keep.refl _ _).wr W2 (Or.inl (List.mem_of_getElem? (i := 0) rfl))).wr W5 (Or.inl (List.mem_of_getElem? (i := 0) rfl))), F6, F7⟩
theorem own_pn4 : plainFor (⟨"com/example/deferral_ledger/deferralledger/model/JournalPlace", "line", "()J"⟩ : MethodName) = true := plainFor_of_name (by first | (simp [plainName, overriddenIn]; done) | decide +kernel)
theorem dd_prog_46m2_0 : decode prog_46_method_2_code 0 = .ok (.aload_n 0, 1) := by decide +kernel
theorem dd_prog_46m2_1 : decode prog_46_method_2_code 1 = .ok (.getfield 18, 3) := by decide +kernel
theorem dd_prog_46m2_4 : decode prog_46_method_2_code 4 = .ok (.lreturn, 1) := by decide +kernel
theorem ef_own_gl (m : MethodId) (z0 : Addr) : entryFrame m #[(.ref z0)] 1 = mkF m 0 #[.val (.ref z0)] [] := by first | (simp [entryFrame, mkF, argsToLocals, Value.category]; done) | rfl
def Q_own_gl (Z : State) (a : Addr) (v1 : Int64) (h0 : Heap) (n0 : Nat) (zv : Option Value) (zh : Heap) (zL : List Loc) : Prop := zv = some (.long v1) ∧ Fr n0 zL ∧ zh = h0
set_option maxRecDepth 65536 in
set_option maxHeartbeats 40000000 in
theorem own_gl (l : Launch) (Z : State) (a0 : Array Value) (hw : ∀ d ∈ tables_1, d.before a0 Z = true) (ws : List Jvm.Cond) (a : Addr) (v1 : Int64) (h0 : Heap) (n0 : Nat) (Z0 : n0 ≤ h0.size) (p0_ : Fld Z h0 a "com/example/deferral_ledger/deferralledger/model/JournalPlace" "line" "J" (.long v1)) :
    MetFree l (⟨"com/example/deferral_ledger/deferralledger/model/JournalPlace", "line", "()J"⟩ : MethodName) (head1 (Jvm.Cond.code (⟨"com/example/deferral_ledger/deferralledger/model/JournalPlace", "line", "()J"⟩ : MethodName) prog_46_method_2_code 1 (some .long) :: ws) ({ frames := 0, cells := 0, slots := 0, locals := 0 } : Room)) (fun za zU => za = #[(.ref a)] ∧ Z.Warmed39 zU.vm ∧ zU.heap = h0) (fun _ _ _ _ _ => True) (fun _ zU zo zU' => ∃ zv zL, zo = .returned zv ∧ Q_own_gl Z a v1 h0 n0 zv zU'.heap zL ∧ FrameEnd zU zo zU' zL ({ frames := 0, cells := 0, slots := 0, locals := 0 } : Room).cells ({ frames := 0, cells := 0, slots := 0, locals := 0 } : Room).slots) := by
  refine own_met (y := (⟨"com/example/deferral_ledger/deferralledger/model/JournalPlace", "line", "()J"⟩ : MethodName)) own_pn4 ?_
  intro p e s m below meth c T0 hx hby hml hown hnm hret hlk hZ e0 X0
  have N0 := Fr.nil n0
  refine own_st (fun zt zk => castTop (ef_own_gl m a) zk) ?_
  show own_G p e below s _ _ _ (T0.setTop (mkF m 0 #[.val (.ref a)] []))
  refine own_st (fun zt zk => XS.aloadN X0.here hx rfl (hb hby dd_prog_46m2_0) rfl rfl zk) ?_
  show own_G p e below s _ _ _ (T0.setTop (mkF m 1 #[.val (.ref a)] [(.ref a)]))
  obtain ⟨T1, X1, e1, st1⟩ := getF X0 hx hZ hown (host := "") (Or.inl (hw _ (List.mem_of_getElem? (i := 32) rfl))) Via.refl e0 p0_ (g := (mkF m 1 #[.val (.ref a)] [(.ref a)])) rfl rfl (hb hby dd_prog_46m2_1)
  refine own_st st1 ?_
  show own_G p e below s _ _ _ (T1.setTop (mkF m 4 #[.val (.ref a)] [(.long v1)]))
  refine own_retJ X1 hx hlk hret (hb hby dd_prog_46m2_4) (by decide) (by decide) ?_
  show Q_own_gl Z a v1 h0 n0 (some (.long v1)) T1.heap _
  rw [e1]
  exact ⟨rfl, N0, rfl⟩
theorem own_pn5 : plainFor (⟨"com/example/deferral_ledger/deferralledger/model/JournalPlace", "batch", "()J"⟩ : MethodName) = true := plainFor_of_name (by first | (simp [plainName, overriddenIn]; done) | decide +kernel)
theorem dd_prog_46m3_0 : decode prog_46_method_3_code 0 = .ok (.aload_n 0, 1) := by decide +kernel
theorem dd_prog_46m3_1 : decode prog_46_method_3_code 1 = .ok (.getfield 24, 3) := by decide +kernel
theorem dd_prog_46m3_4 : decode prog_46_method_3_code 4 = .ok (.lreturn, 1) := by decide +kernel
theorem ef_own_gb (m : MethodId) (z0 : Addr) : entryFrame m #[(.ref z0)] 1 = mkF m 0 #[.val (.ref z0)] [] := by first | (simp [entryFrame, mkF, argsToLocals, Value.category]; done) | rfl
def Q_own_gb (Z : State) (a : Addr) (v1 : Int64) (h0 : Heap) (n0 : Nat) (zv : Option Value) (zh : Heap) (zL : List Loc) : Prop := zv = some (.long v1) ∧ Fr n0 zL ∧ zh = h0
set_option maxRecDepth 65536 in
set_option maxHeartbeats 40000000 in
theorem own_gb (l : Launch) (Z : State) (a0 : Array Value) (hw : ∀ d ∈ tables_1, d.before a0 Z = true) (ws : List Jvm.Cond) (a : Addr) (v1 : Int64) (h0 : Heap) (n0 : Nat) (Z0 : n0 ≤ h0.size) (p0_ : Fld Z h0 a "com/example/deferral_ledger/deferralledger/model/JournalPlace" "batch" "J" (.long v1)) :
    MetFree l (⟨"com/example/deferral_ledger/deferralledger/model/JournalPlace", "batch", "()J"⟩ : MethodName) (head1 (Jvm.Cond.code (⟨"com/example/deferral_ledger/deferralledger/model/JournalPlace", "batch", "()J"⟩ : MethodName) prog_46_method_3_code 1 (some .long) :: ws) ({ frames := 0, cells := 0, slots := 0, locals := 0 } : Room)) (fun za zU => za = #[(.ref a)] ∧ Z.Warmed39 zU.vm ∧ zU.heap = h0) (fun _ _ _ _ _ => True) (fun _ zU zo zU' => ∃ zv zL, zo = .returned zv ∧ Q_own_gb Z a v1 h0 n0 zv zU'.heap zL ∧ FrameEnd zU zo zU' zL ({ frames := 0, cells := 0, slots := 0, locals := 0 } : Room).cells ({ frames := 0, cells := 0, slots := 0, locals := 0 } : Room).slots) := by
  refine own_met (y := (⟨"com/example/deferral_ledger/deferralledger/model/JournalPlace", "batch", "()J"⟩ : MethodName)) own_pn5 ?_
  intro p e s m below meth c T0 hx hby hml hown hnm hret hlk hZ e0 X0
  have N0 := Fr.nil n0
  refine own_st (fun zt zk => castTop (ef_own_gb m a) zk) ?_
  show own_G p e below s _ _ _ (T0.setTop (mkF m 0 #[.val (.ref a)] []))
  refine own_st (fun zt zk => XS.aloadN X0.here hx rfl (hb hby dd_prog_46m3_0) rfl rfl zk) ?_
  show own_G p e below s _ _ _ (T0.setTop (mkF m 1 #[.val (.ref a)] [(.ref a)]))
  obtain ⟨T1, X1, e1, st1⟩ := getF X0 hx hZ hown (host := "") (Or.inl (hw _ (List.mem_of_getElem? (i := 34) rfl))) Via.refl e0 p0_ (g := (mkF m 1 #[.val (.ref a)] [(.ref a)])) rfl rfl (hb hby dd_prog_46m3_1)
  refine own_st st1 ?_
  show own_G p e below s _ _ _ (T1.setTop (mkF m 4 #[.val (.ref a)] [(.long v1)]))
  refine own_retJ X1 hx hlk hret (hb hby dd_prog_46m3_4) (by decide) (by decide) ?_
  show Q_own_gb Z a v1 h0 n0 (some (.long v1)) T1.heap _
  rw [e1]
  exact ⟨rfl, N0, rfl⟩
theorem own_pn6 : plainFor (⟨"com/example/deferral_ledger/deferralledger/model/JournalEnd", "moveTo", "(Lcom/example/deferral_ledger/deferralledger/model/JournalPlace;)V"⟩ : MethodName) = true := plainFor_of_name (by first | (simp [plainName, overriddenIn]; done) | decide +kernel)
theorem dd_prog_44m4_0 : decode prog_44_method_4_code 0 = .ok (.aload_n 0, 1) := by decide +kernel
theorem dd_prog_44m4_1 : decode prog_44_method_4_code 1 = .ok (.aload_n 1, 1) := by decide +kernel
theorem dd_prog_44m4_2 : decode prog_44_method_4_code 2 = .ok (.invokevirtual 26, 3) := by decide +kernel
theorem own_pd0 : parseMethodDescriptor "()J" = some ⟨[], some .long⟩ := by decide +kernel
theorem dd_prog_44m4_5 : decode prog_44_method_4_code 5 = .ok (.putfield 7, 3) := by decide +kernel
theorem dd_prog_44m4_8 : decode prog_44_method_4_code 8 = .ok (.aload_n 0, 1) := by decide +kernel
theorem dd_prog_44m4_9 : decode prog_44_method_4_code 9 = .ok (.aload_n 1, 1) := by decide +kernel
theorem dd_prog_44m4_10 : decode prog_44_method_4_code 10 = .ok (.invokevirtual 23, 3) := by decide +kernel
theorem dd_prog_44m4_13 : decode prog_44_method_4_code 13 = .ok (.putfield 13, 3) := by decide +kernel
theorem dd_prog_44m4_16 : decode prog_44_method_4_code 16 = .ok (.return_, 1) := by decide +kernel
theorem ef_own_mov (m : MethodId) (z0 : Addr) (z1 : Addr) : entryFrame m #[(.ref z0), (.ref z1)] 2 = mkF m 0 #[.val (.ref z0), .val (.ref z1)] [] := by first | (simp [entryFrame, mkF, argsToLocals, Value.category]; done) | rfl
def Q_own_mov (Z : State) (a : Addr) (pl : Addr) (le : Int64) (ob : Int64) (ln : Int64) (bt : Int64) (h0 : Heap) (n0 : Nat) (zv : Option Value) (zh : Heap) (zL : List Loc) : Prop := zv = none ∧ Fr n0 zL ∧ Keep h0 zh [a] ∧ Fld Z zh a "com/example/deferral_ledger/deferralledger/model/JournalEnd" "lastEntry" "J" (.long ln) ∧ Fld Z zh a "com/example/deferral_ledger/deferralledger/model/JournalEnd" "batch" "J" (.long bt)
set_option maxRecDepth 65536 in
set_option maxHeartbeats 40000000 in
theorem own_mov (l : Launch) (Z : State) (a0 : Array Value) (hw : ∀ d ∈ tables_1, d.before a0 Z = true) (ws : List Jvm.Cond) (a : Addr) (pl : Addr) (le : Int64) (ob : Int64) (ln : Int64) (bt : Int64) (h0 : Heap) (n0 : Nat) (Z0 : n0 ≤ h0.size) (p0_ : Exa Z h0 a "com/example/deferral_ledger/deferralledger/model/JournalEnd") (p1_ : Exa Z h0 pl "com/example/deferral_ledger/deferralledger/model/JournalPlace") (p2_ : Fld Z h0 a "com/example/deferral_ledger/deferralledger/model/JournalEnd" "lastEntry" "J" (.long le)) (p3_ : Fld Z h0 a "com/example/deferral_ledger/deferralledger/model/JournalEnd" "batch" "J" (.long ob)) (p4_ : Fld Z h0 pl "com/example/deferral_ledger/deferralledger/model/JournalPlace" "line" "J" (.long ln)) (p5_ : Fld Z h0 pl "com/example/deferral_ledger/deferralledger/model/JournalPlace" "batch" "J" (.long bt)) (p6_ : n0 ≤ a) (p7_ : a ≠ pl) :
    MetFree l (⟨"com/example/deferral_ledger/deferralledger/model/JournalEnd", "moveTo", "(Lcom/example/deferral_ledger/deferralledger/model/JournalPlace;)V"⟩ : MethodName) (head1 (Jvm.Cond.code (⟨"com/example/deferral_ledger/deferralledger/model/JournalEnd", "moveTo", "(Lcom/example/deferral_ledger/deferralledger/model/JournalPlace;)V"⟩ : MethodName) prog_44_method_4_code 2 none :: ws) ({ frames := 1, cells := 0, slots := 0, locals := 13 } : Room)) (fun za zU => za = #[(.ref a), (.ref pl)] ∧ Z.Warmed39 zU.vm ∧ zU.heap = h0) (fun _ _ _ _ _ => True) (fun _ zU zo zU' => ∃ zv zL, zo = .returned zv ∧ Q_own_mov Z a pl le ob ln bt h0 n0 zv zU'.heap zL ∧ FrameEnd zU zo zU' zL ({ frames := 1, cells := 0, slots := 0, locals := 13 } : Room).cells ({ frames := 1, cells := 0, slots := 0, locals := 13 } : Room).slots) := by
  refine own_met (y := (⟨"com/example/deferral_ledger/deferralledger/model/JournalEnd", "moveTo", "(Lcom/example/deferral_ledger/deferralledger/model/JournalPlace;)V"⟩ : MethodName)) own_pn6 ?_
  intro p e s m below meth c T0 hx hby hml hown hnm hret hlk hZ e0 X0
  have N0 := Fr.nil n0
  refine own_st (fun zt zk => castTop (ef_own_mov m a pl) zk) ?_
  show own_G p e below s _ _ _ (T0.setTop (mkF m 0 #[.val (.ref a), .val (.ref pl)] []))
  refine own_st (fun zt zk => XS.aloadN X0.here hx rfl (hb hby dd_prog_44m4_0) rfl rfl zk) ?_
  show own_G p e below s _ _ _ (T0.setTop (mkF m 1 #[.val (.ref a), .val (.ref pl)] [(.ref a)]))
  refine own_st (fun zt zk => XS.aloadN X0.here hx rfl (hb hby dd_prog_44m4_1) rfl rfl zk) ?_
  show own_G p e below s _ _ _ (T0.setTop (mkF m 2 #[.val (.ref a), .val (.ref pl)] [(.ref pl), (.ref a)]))
  obtain ⟨_, T1, L1, X1, hQ1, st1⟩ := own_callV X0 hx hZ (C := "com/example/deferral_ledger/deferralledger/model/JournalPlace") (y := (⟨"com/example/deferral_ledger/deferralledger/model/JournalPlace", "line", "()J"⟩ : MethodName)) (z := (⟨"com/example/deferral_ledger/deferralledger/model/JournalPlace", "line", "()J"⟩ : MethodName)) (a := pl) (argsL := []) (rest := [(.ref a)]) 1 hown (hw _ (List.mem_of_getElem? (i := 41) rfl)) (hw _ (List.mem_of_getElem? (i := 42) rfl)) (own_nf hZ (hw _ (List.mem_of_getElem? (i := 44) rfl))) (hw _ (List.mem_of_getElem? (i := 44) rfl)) (hw _ (List.mem_of_getElem? (i := 43) rfl)) (hw _ (List.mem_of_getElem? (i := 26) rfl)) (hw _ (List.mem_of_getElem? (i := 45) rfl)) (by decide) (own_gl l Z a0 hw [] pl ln h0 n0 Z0 p4_) (by decide) (by decide) e0 p1_ (g := (mkF m 2 #[.val (.ref a), .val (.ref pl)] [(.ref pl), (.ref a)])) rfl (by rw [hml]; rfl) own_pd0 rfl rfl (by show 2 * 0 + _ ≤ _; exact Nat.le_of_eq rfl) (hb hby dd_prog_44m4_2) (by decide) (by decide)
  obtain ⟨rfl, N1q, e1⟩ := hQ1
  have N1 := Fr.app N0 N1q
  refine own_st st1 ?_
  show own_G p e below s _ _ _ (T1.setTop (mkF m 5 #[.val (.ref a), .val (.ref pl)] [(.long ln), (.ref a)]))
  obtain ⟨T2, h2, X2, e2, W2, st2⟩ := putF X1 hx hZ hown (host := "") (Or.inl (hw _ (List.mem_of_getElem? (i := 20) rfl))) Via.refl e1 p2_ p0_ (Or.inl (hw _ (List.mem_of_getElem? (i := 21) rfl))) (hw _ (List.mem_of_getElem? (i := 12) rfl)) (ty := .long) (by decide) rfl rfl (g := (mkF m 5 #[.val (.ref a), .val (.ref pl)] [(.long ln), (.ref a)])) rfl rfl (hb hby dd_prog_44m4_5)
  refine own_st st2 ?_
  have N2 := Fr.snoc X2 N1 p6_
  show own_G p e below s _ _ _ (T2.setTop (mkF m 8 #[.val (.ref a), .val (.ref pl)] []))
  refine own_st (fun zt zk => XS.aloadN X2.here hx rfl (hb hby dd_prog_44m4_8) rfl rfl zk) ?_
  show own_G p e below s _ _ _ (T2.setTop (mkF m 9 #[.val (.ref a), .val (.ref pl)] [(.ref a)]))
  refine own_st (fun zt zk => XS.aloadN X2.here hx rfl (hb hby dd_prog_44m4_9) rfl rfl zk) ?_
  show own_G p e below s _ _ _ (T2.setTop (mkF m 10 #[.val (.ref a), .val (.ref pl)] [(.ref pl), (.ref a)]))
  have F4 : Fld Z h2 pl "com/example/deferral_ledger/deferralledger/model/JournalPlace" "batch" "J" (.long bt) := (Fld.other W2 p5_ (Or.inl (Ne.symm p7_)))
  have E5 : Exa Z h2 pl "com/example/deferral_ledger/deferralledger/model/JournalPlace" := (p1_.wr W2)
  obtain ⟨_, T3, L3, X3, hQ3, st3⟩ := own_callV X2 hx hZ (C := "com/example/deferral_ledger/deferralledger/model/JournalPlace") (y := (⟨"com/example/deferral_ledger/deferralledger/model/JournalPlace", "batch", "()J"⟩ : MethodName)) (z := (⟨"com/example/deferral_ledger/deferralledger/model/JournalPlace", "batch", "()J"⟩ : MethodName)) (a := pl) (argsL := []) (rest := [(.ref a)]) 1 hown (hw _ (List.mem_of_getElem? (i := 46) rfl)) (hw _ (List.mem_of_getElem? (i := 47) rfl)) (own_nf hZ (hw _ (List.mem_of_getElem? (i := 49) rfl))) (hw _ (List.mem_of_getElem? (i := 49) rfl)) (hw _ (List.mem_of_getElem? (i := 48) rfl)) (hw _ (List.mem_of_getElem? (i := 26) rfl)) (hw _ (List.mem_of_getElem? (i := 50) rfl)) (by decide) (own_gb l Z a0 hw [] pl bt h2 n0 (Nat.le_trans Z0 (Nat.le_of_eq W2.size.symm)) F4) (by decide) (by decide) e2 E5 (g := (mkF m 10 #[.val (.ref a), .val (.ref pl)] [(.ref pl), (.ref a)])) rfl (by rw [hml]; rfl) own_pd0 rfl rfl (by show 2 * 0 + _ ≤ _; exact Nat.le_of_eq rfl) (hb hby dd_prog_44m4_10) (by decide) (by decide)
  obtain ⟨rfl, N3q, e3⟩ := hQ3
  have N3 := Fr.app N2 N3q
  refine own_st st3 ?_
  show own_G p e below s _ _ _ (T3.setTop (mkF m 13 #[.val (.ref a), .val (.ref pl)] [(.long bt), (.ref a)]))
  have F6 : Fld Z h2 a "com/example/deferral_ledger/deferralledger/model/JournalEnd" "batch" "J" (.long ob) := (Fld.other W2 p3_ (Or.inr (slot_ne (Or.inl (hw _ (List.mem_of_getElem? (i := 23) rfl))) (Or.inl (hw _ (List.mem_of_getElem? (i := 21) rfl))) (by decide) (t := .long) (t' := .long) (by decide) (by decide))))
  have E7 : Exa Z h2 a "com/example/deferral_ledger/deferralledger/model/JournalEnd" := (p0_.wr W2)
  obtain ⟨T8, h8, X8, e8, W8, st8⟩ := putF X3 hx hZ hown (host := "") (Or.inl (hw _ (List.mem_of_getElem? (i := 22) rfl))) Via.refl e3 F6 E7 (Or.inl (hw _ (List.mem_of_getElem? (i := 23) rfl))) (hw _ (List.mem_of_getElem? (i := 12) rfl)) (ty := .long) (by decide) rfl rfl (g := (mkF m 13 #[.val (.ref a), .val (.ref pl)] [(.long bt), (.ref a)])) rfl rfl (hb hby dd_prog_44m4_13)
  refine own_st st8 ?_
  have N8 := Fr.snoc X8 N3 p6_
  show own_G p e below s _ _ _ (T8.setTop (mkF m 16 #[.val (.ref a), .val (.ref pl)] []))
  have F9 : Fld Z h8 a "com/example/deferral_ledger/deferralledger/model/JournalEnd" "lastEntry" "J" (.long ln) := (Fld.other W8 (Fld.same W2 p2_) (Or.inr (slot_ne (Or.inl (hw _ (List.mem_of_getElem? (i := 21) rfl))) (Or.inl (hw _ (List.mem_of_getElem? (i := 23) rfl))) (by decide) (t := .long) (t' := .long) (by decide) (by decide))))
  have F10 : Fld Z h8 a "com/example/deferral_ledger/deferralledger/model/JournalEnd" "batch" "J" (.long bt) := (Fld.same W8 F6)
  refine own_retV X8 hx hlk hret (hb hby dd_prog_44m4_16) (by decide) (by decide) ?_
  show Q_own_mov Z a pl le ob ln bt h0 n0 none T8.heap _
  rw [e8]
  exact ⟨rfl, N8, (((Keep.refl _ _).wr W2 (Or.inl (List.mem_of_getElem? (i := 0) rfl))).wr W8 (Or.inl (List.mem_of_getElem? (i := 0) rfl))), F9, F10⟩
theorem own_pn7 : plainFor (⟨"com/example/deferral_ledger/deferralledger/model/JournalEnd", "next", "()Lcom/example/deferral_ledger/deferralledger/model/JournalPlace;"⟩ : MethodName) = true := plainFor_of_name (by first | (simp [plainName, overriddenIn]; done) | decide +kernel)
theorem dd_prog_44m2_0 : decode prog_44_method_2_code 0 = .ok (.new 16, 3) := by decide +kernel
theorem dd_prog_44m2_3 : decode prog_44_method_2_code 3 = .ok (.dup, 1) := by decide +kernel
theorem dd_prog_44m2_4 : decode prog_44_method_2_code 4 = .ok (.aload_n 0, 1) := by decide +kernel
theorem dd_prog_44m2_5 : decode prog_44_method_2_code 5 = .ok (.getfield 13, 3) := by decide +kernel
theorem dd_prog_44m2_8 : decode prog_44_method_2_code 8 = .ok (.lconst 1, 1) := by decide +kernel
theorem dd_prog_44m2_9 : decode prog_44_method_2_code 9 = .ok (.ladd, 1) := by decide +kernel
theorem dd_prog_44m2_10 : decode prog_44_method_2_code 10 = .ok (.aload_n 0, 1) := by decide +kernel
theorem dd_prog_44m2_11 : decode prog_44_method_2_code 11 = .ok (.getfield 13, 3) := by decide +kernel
theorem dd_prog_44m2_14 : decode prog_44_method_2_code 14 = .ok (.ldc2_w 18, 3) := by decide +kernel
theorem dd_prog_44m2_17 : decode prog_44_method_2_code 17 = .ok (.ladd, 1) := by decide +kernel
theorem dd_prog_44m2_18 : decode prog_44_method_2_code 18 = .ok (.invokespecial 20, 3) := by decide +kernel
theorem own_pd1 : parseMethodDescriptor "(JJ)V" = some ⟨[.long, .long], none⟩ := by decide +kernel
theorem dd_prog_44m2_21 : decode prog_44_method_2_code 21 = .ok (.areturn, 1) := by decide +kernel
theorem ef_own_nxt (m : MethodId) (z0 : Addr) : entryFrame m #[(.ref z0)] 1 = mkF m 0 #[.val (.ref z0)] [] := by first | (simp [entryFrame, mkF, argsToLocals, Value.category]; done) | rfl
def Q_own_nxt (Z : State) (a : Addr) (bt : Int64) (h0 : Heap) (n0 : Nat) (zv : Option Value) (zh : Heap) (zL : List Loc) : Prop := ∃ nb : Addr, zv = some (.ref nb) ∧ Fr n0 zL ∧ Keep h0 zh [] ∧ h0.size ≤ nb ∧ Exa Z zh nb "com/example/deferral_ledger/deferralledger/model/JournalPlace" ∧ Fld Z zh nb "com/example/deferral_ledger/deferralledger/model/JournalPlace" "line" "J" (.long (bt + (1 : Int64))) ∧ Fld Z zh nb "com/example/deferral_ledger/deferralledger/model/JournalPlace" "batch" "J" (.long (bt + (2 : Int64)))
set_option maxRecDepth 65536 in
set_option maxHeartbeats 40000000 in
theorem own_nxt (l : Launch) (Z : State) (a0 : Array Value) (hw : ∀ d ∈ tables_1, d.before a0 Z = true) (ws : List Jvm.Cond) (a : Addr) (bt : Int64) (h0 : Heap) (n0 : Nat) (Z0 : n0 ≤ h0.size) (p0_ : Exa Z h0 a "com/example/deferral_ledger/deferralledger/model/JournalEnd") (p1_ : Fld Z h0 a "com/example/deferral_ledger/deferralledger/model/JournalEnd" "batch" "J" (.long bt)) (p2_ : ¬ ((bt + (1 : Int64)) < (2 : Int64))) (p3_ : ¬ ((bt + (2 : Int64)) < (bt + (1 : Int64)))) :
    MetFree l (⟨"com/example/deferral_ledger/deferralledger/model/JournalEnd", "next", "()Lcom/example/deferral_ledger/deferralledger/model/JournalPlace;"⟩ : MethodName) (head1 (Jvm.Cond.code (⟨"com/example/deferral_ledger/deferralledger/model/JournalEnd", "next", "()Lcom/example/deferral_ledger/deferralledger/model/JournalPlace;"⟩ : MethodName) prog_44_method_2_code 1 (some (.object "com/example/deferral_ledger/deferralledger/model/JournalPlace")) :: ws) ({ frames := 2, cells := 1, slots := 2, locals := 29 } : Room)) (fun za zU => za = #[(.ref a)] ∧ Z.Warmed39 zU.vm ∧ zU.heap = h0) (fun _ _ _ _ _ => True) (fun _ zU zo zU' => ∃ zv zL, zo = .returned zv ∧ Q_own_nxt Z a bt h0 n0 zv zU'.heap zL ∧ FrameEnd zU zo zU' zL ({ frames := 2, cells := 1, slots := 2, locals := 29 } : Room).cells ({ frames := 2, cells := 1, slots := 2, locals := 29 } : Room).slots) := by
  refine own_met (y := (⟨"com/example/deferral_ledger/deferralledger/model/JournalEnd", "next", "()Lcom/example/deferral_ledger/deferralledger/model/JournalPlace;"⟩ : MethodName)) own_pn7 ?_
  intro p e s m below meth c T0 hx hby hml hown hnm hret hlk hZ e0 X0
  have N0 := Fr.nil n0
  refine own_st (fun zt zk => castTop (ef_own_nxt m a) zk) ?_
  show own_G p e below s _ _ _ (T0.setTop (mkF m 0 #[.val (.ref a)] []))
  obtain ⟨T1, h1, X1, e1, E1, A1, D1, -, st1⟩ := newO X0 hx hZ hown (hw _ (List.mem_of_getElem? (i := 56) rfl)) (hw _ (List.mem_of_getElem? (i := 25) rfl)) (hw _ (List.mem_of_getElem? (i := 26) rfl)) e0 (g := (mkF m 0 #[.val (.ref a)] [])) rfl (hb hby dd_prog_44m2_0) (by decide) (by decide)
  obtain ⟨b1, g1⟩ : ∃ z, z = h0.size := ⟨_, rfl⟩
  rw [← g1] at A1 D1 st1
  have ne1_a : a ≠ b1 := by rw [g1]; exact Nat.ne_of_lt p0_.lt
  have ge1 : n0 ≤ b1 := Nat.le_trans Z0 (Nat.le_of_eq g1.symm)
  have sz1 : h0.size ≤ b1 := Nat.le_trans (Nat.le_refl h0.size) (Nat.le_of_eq g1.symm)
  refine own_st st1 ?_
  show own_G p e below s _ _ _ (T1.setTop (mkF m 3 #[.val (.ref a)] [(.ref b1)]))
  refine own_st (fun zt zk => XS.dup X1.here hx rfl (hb hby dd_prog_44m2_3) rfl rfl zk) ?_
  show own_G p e below s _ _ _ (T1.setTop (mkF m 4 #[.val (.ref a)] [(.ref b1), (.ref b1)]))
  refine own_st (fun zt zk => XS.aloadN X1.here hx rfl (hb hby dd_prog_44m2_4) rfl rfl zk) ?_
  show own_G p e below s _ _ _ (T1.setTop (mkF m 5 #[.val (.ref a)] [(.ref a), (.ref b1), (.ref b1)]))
  have F2 : Fld Z h1 a "com/example/deferral_ledger/deferralledger/model/JournalEnd" "batch" "J" (.long bt) := (p1_.ext E1)
  obtain ⟨T3, X3, e3, st3⟩ := getF X1 hx hZ hown (host := "") (Or.inl (hw _ (List.mem_of_getElem? (i := 22) rfl))) Via.refl e1 F2 (g := (mkF m 5 #[.val (.ref a)] [(.ref a), (.ref b1), (.ref b1)])) rfl rfl (hb hby dd_prog_44m2_5)
  refine own_st st3 ?_
  show own_G p e below s _ _ _ (T3.setTop (mkF m 8 #[.val (.ref a)] [(.long bt), (.ref b1), (.ref b1)]))
  refine own_st (fun zt zk => XS.lconst X3.here hx rfl (hb hby dd_prog_44m2_8) zk) ?_
  show own_G p e below s _ _ _ (T3.setTop (mkF m 9 #[.val (.ref a)] [(.long (1 : Int64)), (.long bt), (.ref b1), (.ref b1)]))
  refine own_st (fun zt zk => XS.ladd X3.here hx rfl (hb hby dd_prog_44m2_9) rfl zk) ?_
  show own_G p e below s _ _ _ (T3.setTop (mkF m 10 #[.val (.ref a)] [(.long (bt + (1 : Int64))), (.ref b1), (.ref b1)]))
  refine own_st (fun zt zk => XS.aloadN X3.here hx rfl (hb hby dd_prog_44m2_10) rfl rfl zk) ?_
  show own_G p e below s _ _ _ (T3.setTop (mkF m 11 #[.val (.ref a)] [(.ref a), (.long (bt + (1 : Int64))), (.ref b1), (.ref b1)]))
  obtain ⟨T4, X4, e4, st4⟩ := getF X3 hx hZ hown (host := "") (Or.inl (hw _ (List.mem_of_getElem? (i := 22) rfl))) Via.refl e3 F2 (g := (mkF m 11 #[.val (.ref a)] [(.ref a), (.long (bt + (1 : Int64))), (.ref b1), (.ref b1)])) rfl rfl (hb hby dd_prog_44m2_11)
  refine own_st st4 ?_
  show own_G p e below s _ _ _ (T4.setTop (mkF m 14 #[.val (.ref a)] [(.long bt), (.long (bt + (1 : Int64))), (.ref b1), (.ref b1)]))
  refine own_st (X4.ldc2Long hx hown (mvT hZ (hw _ (List.mem_of_getElem? (i := 57) rfl))) (g := (mkF m 14 #[.val (.ref a)] [(.long bt), (.long (bt + (1 : Int64))), (.ref b1), (.ref b1)])) rfl (hb hby dd_prog_44m2_14)) ?_
  show own_G p e below s _ _ _ (T4.setTop (mkF m 17 #[.val (.ref a)] [(.long (2 : Int64)), (.long bt), (.long (bt + (1 : Int64))), (.ref b1), (.ref b1)]))
  refine own_st (fun zt zk => XS.ladd X4.here hx rfl (hb hby dd_prog_44m2_17) rfl zk) ?_
  show own_G p e below s _ _ _ (T4.setTop (mkF m 18 #[.val (.ref a)] [(.long (bt + (2 : Int64))), (.long (bt + (1 : Int64))), (.ref b1), (.ref b1)]))
  obtain ⟨_, T5, L5, X5, hQ5, st5⟩ := own_callI X4 hx hZ (y := (⟨"com/example/deferral_ledger/deferralledger/model/JournalPlace", "<init>", "(JJ)V"⟩ : MethodName)) (a := b1) (argsL := [(.long (bt + (1 : Int64))), (.long (bt + (2 : Int64)))]) (rest := [(.ref b1)]) 1 rfl hown (hw _ (List.mem_of_getElem? (i := 58) rfl)) (hw _ (List.mem_of_getElem? (i := 28) rfl)) (hw _ (List.mem_of_getElem? (i := 26) rfl)) (hw _ (List.mem_of_getElem? (i := 29) rfl)) (by decide) (own_jpi l Z a0 hw [] b1 (bt + (1 : Int64)) (bt + (2 : Int64)) h1 n0 (Nat.le_trans Z0 E1.1) A1 (D1 (Or.inr (hw _ (List.mem_of_getElem? (i := 33) rfl))) (ty := .long) (by decide)) (D1 (Or.inr (hw _ (List.mem_of_getElem? (i := 35) rfl))) (ty := .long) (by decide)) ge1 p2_ p3_) (by decide) (by decide) e4 (g := (mkF m 18 #[.val (.ref a)] [(.long (bt + (2 : Int64))), (.long (bt + (1 : Int64))), (.ref b1), (.ref b1)])) rfl (by rw [hml]; rfl) own_pd1 rfl rfl (by show 2 * 0 + _ ≤ _; exact Nat.le_of_eq rfl) (hb hby dd_prog_44m2_18) (by decide) (by decide)
  obtain ⟨rfl, N5q, K5, q5_0, q5_1⟩ := hQ5
  have N5 := Fr.app N0 N5q
  refine own_st st5 ?_
  show own_G p e below s _ _ _ (T5.setTop (mkF m 21 #[.val (.ref a)] [(.ref b1)]))
  have E6 : Exa Z T5.heap b1 "com/example/deferral_ledger/deferralledger/model/JournalPlace" := (A1.keep K5)
  refine own_retA X5 hx hlk hret rfl rfl (hb hby dd_prog_44m2_21) (by decide) (by decide) ?_
  show Q_own_nxt Z a bt h0 n0 (some (.ref b1)) T5.heap _
  exact ⟨b1, rfl, N5, (((Keep.refl _ _).ext E1).trans K5 (allS (Or.inr sz1) all0)), sz1, E6, q5_0, q5_1⟩
theorem own_pn8 : plainFor (⟨"com/example/deferral_ledger/deferralledger/model/JournalEnd", "requireBefore", "(Lcom/example/deferral_ledger/deferralledger/model/JournalPlace;)V"⟩ : MethodName) = true := plainFor_of_name (by first | (simp [plainName, overriddenIn]; done) | decide +kernel)
theorem dd_prog_44m3_0 : decode prog_44_method_3_code 0 = .ok (.aload_n 1, 1) := by decide +kernel
theorem dd_prog_44m3_1 : decode prog_44_method_3_code 1 = .ok (.invokevirtual 23, 3) := by decide +kernel
theorem dd_prog_44m3_4 : decode prog_44_method_3_code 4 = .ok (.aload_n 0, 1) := by decide +kernel
theorem dd_prog_44m3_5 : decode prog_44_method_3_code 5 = .ok (.getfield 13, 3) := by decide +kernel
theorem dd_prog_44m3_8 : decode prog_44_method_3_code 8 = .ok (.lcmp, 1) := by decide +kernel
theorem dd_prog_44m3_9 : decode prog_44_method_3_code 9 = .ok (.ifCond .ne 10, 3) := by decide +kernel
theorem dd_prog_44m3_12 : decode prog_44_method_3_code 12 = .ok (.aload_n 0, 1) := by decide +kernel
theorem dd_prog_44m3_13 : decode prog_44_method_3_code 13 = .ok (.getfield 7, 3) := by decide +kernel
theorem dd_prog_44m3_16 : decode prog_44_method_3_code 16 = .ok (.goto 7, 3) := by decide +kernel
theorem dd_prog_44m3_23 : decode prog_44_method_3_code 23 = .ok (.lstore_n 2, 1) := by decide +kernel
theorem dd_prog_44m3_24 : decode prog_44_method_3_code 24 = .ok (.aload_n 1, 1) := by decide +kernel
theorem dd_prog_44m3_25 : decode prog_44_method_3_code 25 = .ok (.invokevirtual 26, 3) := by decide +kernel
theorem dd_prog_44m3_28 : decode prog_44_method_3_code 28 = .ok (.lload_n 2, 1) := by decide +kernel
theorem dd_prog_44m3_29 : decode prog_44_method_3_code 29 = .ok (.lcmp, 1) := by decide +kernel
theorem dd_prog_44m3_30 : decode prog_44_method_3_code 30 = .ok (.ifCond .gt 25, 3) := by decide +kernel
theorem dd_prog_44m3_55 : decode prog_44_method_3_code 55 = .ok (.return_, 1) := by decide +kernel
theorem ef_own_rqb (m : MethodId) (z0 : Addr) (z1 : Addr) : entryFrame m #[(.ref z0), (.ref z1)] 4 = mkF m 0 #[.val (.ref z0), .val (.ref z1), .unset, .unset] [] := by first | (simp [entryFrame, mkF, argsToLocals, Value.category]; done) | rfl
def Q_own_rqb (Z : State) (a : Addr) (pl : Addr) (le : Int64) (bt : Int64) (ln : Int64) (h0 : Heap) (n0 : Nat) (zv : Option Value) (zh : Heap) (zL : List Loc) : Prop := zv = none ∧ Fr n0 zL ∧ zh = h0
set_option maxRecDepth 65536 in
set_option maxHeartbeats 40000000 in
theorem own_rqb (l : Launch) (Z : State) (a0 : Array Value) (hw : ∀ d ∈ tables_1, d.before a0 Z = true) (ws : List Jvm.Cond) (a : Addr) (pl : Addr) (le : Int64) (bt : Int64) (ln : Int64) (h0 : Heap) (n0 : Nat) (Z0 : n0 ≤ h0.size) (p0_ : Exa Z h0 pl "com/example/deferral_ledger/deferralledger/model/JournalPlace") (p1_ : Fld Z h0 a "com/example/deferral_ledger/deferralledger/model/JournalEnd" "lastEntry" "J" (.long le)) (p2_ : Fld Z h0 a "com/example/deferral_ledger/deferralledger/model/JournalEnd" "batch" "J" (.long bt)) (p3_ : Fld Z h0 pl "com/example/deferral_ledger/deferralledger/model/JournalPlace" "line" "J" (.long ln)) (p4_ : Fld Z h0 pl "com/example/deferral_ledger/deferralledger/model/JournalPlace" "batch" "J" (.long bt)) (p5_ : le < ln) :
    MetFree l (⟨"com/example/deferral_ledger/deferralledger/model/JournalEnd", "requireBefore", "(Lcom/example/deferral_ledger/deferralledger/model/JournalPlace;)V"⟩ : MethodName) (head1 (Jvm.Cond.code (⟨"com/example/deferral_ledger/deferralledger/model/JournalEnd", "requireBefore", "(Lcom/example/deferral_ledger/deferralledger/model/JournalPlace;)V"⟩ : MethodName) prog_44_method_3_code 4 none :: ws) ({ frames := 1, cells := 0, slots := 0, locals := 12 } : Room)) (fun za zU => za = #[(.ref a), (.ref pl)] ∧ Z.Warmed39 zU.vm ∧ zU.heap = h0) (fun _ _ _ _ _ => True) (fun _ zU zo zU' => ∃ zv zL, zo = .returned zv ∧ Q_own_rqb Z a pl le bt ln h0 n0 zv zU'.heap zL ∧ FrameEnd zU zo zU' zL ({ frames := 1, cells := 0, slots := 0, locals := 12 } : Room).cells ({ frames := 1, cells := 0, slots := 0, locals := 12 } : Room).slots) := by
  refine own_met (y := (⟨"com/example/deferral_ledger/deferralledger/model/JournalEnd", "requireBefore", "(Lcom/example/deferral_ledger/deferralledger/model/JournalPlace;)V"⟩ : MethodName)) own_pn8 ?_
  intro p e s m below meth c T0 hx hby hml hown hnm hret hlk hZ e0 X0
  have N0 := Fr.nil n0
  refine own_st (fun zt zk => castTop (ef_own_rqb m a pl) zk) ?_
  show own_G p e below s _ _ _ (T0.setTop (mkF m 0 #[.val (.ref a), .val (.ref pl), .unset, .unset] []))
  refine own_st (fun zt zk => XS.aloadN X0.here hx rfl (hb hby dd_prog_44m3_0) rfl rfl zk) ?_
  show own_G p e below s _ _ _ (T0.setTop (mkF m 1 #[.val (.ref a), .val (.ref pl), .unset, .unset] [(.ref pl)]))
  obtain ⟨_, T1, L1, X1, hQ1, st1⟩ := own_callV X0 hx hZ (C := "com/example/deferral_ledger/deferralledger/model/JournalPlace") (y := (⟨"com/example/deferral_ledger/deferralledger/model/JournalPlace", "batch", "()J"⟩ : MethodName)) (z := (⟨"com/example/deferral_ledger/deferralledger/model/JournalPlace", "batch", "()J"⟩ : MethodName)) (a := pl) (argsL := []) (rest := []) 0 hown (hw _ (List.mem_of_getElem? (i := 46) rfl)) (hw _ (List.mem_of_getElem? (i := 47) rfl)) (own_nf hZ (hw _ (List.mem_of_getElem? (i := 49) rfl))) (hw _ (List.mem_of_getElem? (i := 49) rfl)) (hw _ (List.mem_of_getElem? (i := 48) rfl)) (hw _ (List.mem_of_getElem? (i := 26) rfl)) (hw _ (List.mem_of_getElem? (i := 50) rfl)) (by decide) (own_gb l Z a0 hw [] pl bt h0 n0 Z0 p4_) (by decide) (by decide) e0 p0_ (g := (mkF m 1 #[.val (.ref a), .val (.ref pl), .unset, .unset] [(.ref pl)])) rfl (by rw [hml]; rfl) own_pd0 rfl rfl (by show 2 * 0 + _ ≤ _; exact Nat.le_of_eq rfl) (hb hby dd_prog_44m3_1) (by decide) (by decide)
  obtain ⟨rfl, N1q, e1⟩ := hQ1
  have N1 := Fr.app N0 N1q
  refine own_st st1 ?_
  show own_G p e below s _ _ _ (T1.setTop (mkF m 4 #[.val (.ref a), .val (.ref pl), .unset, .unset] [(.long bt)]))
  refine own_st (fun zt zk => XS.aloadN X1.here hx rfl (hb hby dd_prog_44m3_4) rfl rfl zk) ?_
  show own_G p e below s _ _ _ (T1.setTop (mkF m 5 #[.val (.ref a), .val (.ref pl), .unset, .unset] [(.ref a), (.long bt)]))
  obtain ⟨T2, X2, e2, st2⟩ := getF X1 hx hZ hown (host := "") (Or.inl (hw _ (List.mem_of_getElem? (i := 22) rfl))) Via.refl e1 p2_ (g := (mkF m 5 #[.val (.ref a), .val (.ref pl), .unset, .unset] [(.ref a), (.long bt)])) rfl rfl (hb hby dd_prog_44m3_5)
  refine own_st st2 ?_
  show own_G p e below s _ _ _ (T2.setTop (mkF m 8 #[.val (.ref a), .val (.ref pl), .unset, .unset] [(.long bt), (.long bt)]))
  refine own_st (fun zt zk => XS.lcmp X2.here hx rfl (hb hby dd_prog_44m3_8) rfl zk) ?_
  show own_G p e below s _ _ _ (T2.setTop (mkF m 9 #[.val (.ref a), .val (.ref pl), .unset, .unset] [(.int (lcmpW bt bt))]))
  refine own_st (fun zt zk => XS.ifNo X2.here hx rfl (hb hby dd_prog_44m3_9) rfl ((if0 _ _).trans (teq ((lw_eq bt bt).mpr (rfl : bt = bt))).2) zk) ?_
  show own_G p e below s _ _ _ (T2.setTop (mkF m 12 #[.val (.ref a), .val (.ref pl), .unset, .unset] []))
  refine own_st (fun zt zk => XS.aloadN X2.here hx rfl (hb hby dd_prog_44m3_12) rfl rfl zk) ?_
  show own_G p e below s _ _ _ (T2.setTop (mkF m 13 #[.val (.ref a), .val (.ref pl), .unset, .unset] [(.ref a)]))
  obtain ⟨T3, X3, e3, st3⟩ := getF X2 hx hZ hown (host := "") (Or.inl (hw _ (List.mem_of_getElem? (i := 20) rfl))) Via.refl e2 p1_ (g := (mkF m 13 #[.val (.ref a), .val (.ref pl), .unset, .unset] [(.ref a)])) rfl rfl (hb hby dd_prog_44m3_13)
  refine own_st st3 ?_
  show own_G p e below s _ _ _ (T3.setTop (mkF m 16 #[.val (.ref a), .val (.ref pl), .unset, .unset] [(.long le)]))
  refine own_st (fun zt zk => XS.goto X3.here hx rfl (pc0 := 16) (pc' := 23) rfl (hb hby dd_prog_44m3_16) (by decide) (by decide) zk) ?_
  show own_G p e below s _ _ _ (T3.setTop (mkF m 23 #[.val (.ref a), .val (.ref pl), .unset, .unset] [(.long le)]))
  refine own_st (fun zt zk => XS.lstoreN X3.here hx rfl (hb hby dd_prog_44m3_23) rfl (l' := #[.val (.ref a), .val (.ref pl), .val (.long le), .second]) rfl zk) ?_
  show own_G p e below s _ _ _ (T3.setTop (mkF m 24 #[.val (.ref a), .val (.ref pl), .val (.long le), .second] []))
  refine own_st (fun zt zk => XS.aloadN X3.here hx rfl (hb hby dd_prog_44m3_24) rfl rfl zk) ?_
  show own_G p e below s _ _ _ (T3.setTop (mkF m 25 #[.val (.ref a), .val (.ref pl), .val (.long le), .second] [(.ref pl)]))
  obtain ⟨_, T4, L4, X4, hQ4, st4⟩ := own_callV X3 hx hZ (C := "com/example/deferral_ledger/deferralledger/model/JournalPlace") (y := (⟨"com/example/deferral_ledger/deferralledger/model/JournalPlace", "line", "()J"⟩ : MethodName)) (z := (⟨"com/example/deferral_ledger/deferralledger/model/JournalPlace", "line", "()J"⟩ : MethodName)) (a := pl) (argsL := []) (rest := []) 0 hown (hw _ (List.mem_of_getElem? (i := 41) rfl)) (hw _ (List.mem_of_getElem? (i := 42) rfl)) (own_nf hZ (hw _ (List.mem_of_getElem? (i := 44) rfl))) (hw _ (List.mem_of_getElem? (i := 44) rfl)) (hw _ (List.mem_of_getElem? (i := 43) rfl)) (hw _ (List.mem_of_getElem? (i := 26) rfl)) (hw _ (List.mem_of_getElem? (i := 45) rfl)) (by decide) (own_gl l Z a0 hw [] pl ln h0 n0 Z0 p3_) (by decide) (by decide) e3 p0_ (g := (mkF m 25 #[.val (.ref a), .val (.ref pl), .val (.long le), .second] [(.ref pl)])) rfl (by rw [hml]; rfl) own_pd0 rfl rfl (by show 2 * 0 + _ ≤ _; exact Nat.le_of_eq rfl) (hb hby dd_prog_44m3_25) (by decide) (by decide)
  obtain ⟨rfl, N4q, e4⟩ := hQ4
  have N4 := Fr.app N1 N4q
  refine own_st st4 ?_
  show own_G p e below s _ _ _ (T4.setTop (mkF m 28 #[.val (.ref a), .val (.ref pl), .val (.long le), .second] [(.long ln)]))
  refine own_st (fun zt zk => XS.lloadN X4.here hx rfl (hb hby dd_prog_44m3_28) rfl zk) ?_
  show own_G p e below s _ _ _ (T4.setTop (mkF m 29 #[.val (.ref a), .val (.ref pl), .val (.long le), .second] [(.long le), (.long ln)]))
  refine own_st (fun zt zk => XS.lcmp X4.here hx rfl (hb hby dd_prog_44m3_29) rfl zk) ?_
  show own_G p e below s _ _ _ (T4.setTop (mkF m 30 #[.val (.ref a), .val (.ref pl), .val (.long le), .second] [(.int (lcmpW ln le))]))
  refine own_st (fun zt zk => XS.ifYes X4.here hx rfl (pc0 := 30) (pc' := 55) rfl (hb hby dd_prog_44m3_30) rfl ((if0 _ _).trans (tlt ((lw_gt ln le).mpr p5_)).2.2.1) (by decide) (by decide) zk) ?_
  show own_G p e below s _ _ _ (T4.setTop (mkF m 55 #[.val (.ref a), .val (.ref pl), .val (.long le), .second] []))
  refine own_retV X4 hx hlk hret (hb hby dd_prog_44m3_55) (by decide) (by decide) ?_
  show Q_own_rqb Z a pl le bt ln h0 n0 none T4.heap _
  rw [e4]
  exact ⟨rfl, N4, rfl⟩
theorem own_pn9 : plainFor (⟨"com/example/deferral_ledger/deferralledger/model/JournalEndMoveToPinLaw", "law", "(JJJJI)Z"⟩ : MethodName) = true := plainFor_of_name (by first | (simp [plainName, overriddenIn]; done) | decide +kernel)
theorem own_pd2 : parseMethodDescriptor "(J)J" = some ⟨[.long], some .long⟩ := by decide +kernel
theorem own_pd3 : parseMethodDescriptor "(JJ)J" = some ⟨[.long, .long], some .long⟩ := by decide +kernel
theorem own_pd4 : parseMethodDescriptor "()V" = some ⟨[], none⟩ := by decide +kernel
theorem own_pd5 : parseMethodDescriptor "(Lcom/example/deferral_ledger/deferralledger/model/JournalPlace;)V" = some ⟨[(.object "com/example/deferral_ledger/deferralledger/model/JournalPlace")], none⟩ := by decide +kernel
theorem own_pd6 : parseMethodDescriptor "()Lcom/example/deferral_ledger/deferralledger/model/JournalPlace;" = some ⟨[], some (.object "com/example/deferral_ledger/deferralledger/model/JournalPlace")⟩ := by decide +kernel
theorem ef_own_law (m : MethodId) (z0 : Int64) (z1 : Int64) (z2 : Int64) (z3 : Int64) (z4 : Int32) : entryFrame m #[(.long z0), (.long z1), (.long z2), (.long z3), (.int z4)] maxLocals = mkF m 0 #[.val (.long z0), .second, .val (.long z1), .second, .val (.long z2), .second, .val (.long z3), .second, .val (.int z4), .unset, .unset, .unset, .unset, .unset, .unset, .unset, .unset, .unset, .unset, .unset, .unset, .unset] [] := by first | (simp [entryFrame, mkF, argsToLocals, Value.category, maxLocals]; done) | rfl
def Q_own_law (Z : State) (l1 : Int64) (d1 : Int64) (l2 : Int64) (d2 : Int64) (fl : Int32) (h0 : Heap) (n0 : Nat) (zv : Option Value) (zh : Heap) (zL : List Loc) : Prop := zv = some (.int (1 : Int32)) ∧ Fr n0 zL
set_option maxRecDepth 65536 in
set_option maxHeartbeats 40000000 in
theorem own_law (l : Launch) (Z : State) (a0 : Array Value) (hw : ∀ d ∈ tables_1, d.before a0 Z = true) (ws : List Jvm.Cond) (l1 : Int64) (d1 : Int64) (l2 : Int64) (d2 : Int64) (fl : Int32) (h0 : Heap) (n0 : Nat) (Z0 : n0 ≤ h0.size)  :
    MetFree l x (head1 (Jvm.Cond.code x code maxLocals ret :: ws) room_1) (fun za zU => za = #[(.long l1), (.long d1), (.long l2), (.long d2), (.int fl)] ∧ Z.Warmed39 zU.vm ∧ zU.heap = h0) (fun _ _ _ _ _ => True) (fun _ zU zo zU' => ∃ zv zL, zo = .returned zv ∧ Q_own_law Z l1 d1 l2 d2 fl h0 n0 zv zU'.heap zL ∧ FrameEnd zU zo zU' zL 5 10) := by
  refine own_met (y := x) own_pn9 ?_
  intro p e s m below meth c T0 hx hby hml hown hnm hret hlk hZ e0 X0
  have N0 := Fr.nil n0
  refine own_st (fun zt zk => castTop (ef_own_law m l1 d1 l2 d2 fl) zk) ?_
  show own_G p e below s _ _ _ (T0.setTop (mkF m 0 #[.val (.long l1), .second, .val (.long d1), .second, .val (.long l2), .second, .val (.long d2), .second, .val (.int fl), .unset, .unset, .unset, .unset, .unset, .unset, .unset, .unset, .unset, .unset, .unset, .unset, .unset] []))
  refine own_st (fun zt zk => XS.lloadN X0.here hx rfl (hb hby at_0) rfl zk) ?_
  show own_G p e below s _ _ _ (T0.setTop (mkF m 1 #[.val (.long l1), .second, .val (.long d1), .second, .val (.long l2), .second, .val (.long d2), .second, .val (.int fl), .unset, .unset, .unset, .unset, .unset, .unset, .unset, .unset, .unset, .unset, .unset, .unset, .unset] [(.long l1)]))
  obtain ⟨_, T1, L1, X1, hQ1, st1⟩ := own_callS X0 hx hZ (y := (⟨"com/example/deferral_ledger/deferralledger/model/JournalEndMoveToPinLaw", "lineOf", "(J)J"⟩ : MethodName)) (argsL := [(.long l1)]) (rest := []) 0 hown (hw _ (List.mem_of_getElem? (i := 0) rfl)) (hw _ (List.mem_of_getElem? (i := 1) rfl)) (hw _ (List.mem_of_getElem? (i := 2) rfl)) (hw _ (List.mem_of_getElem? (i := 3) rfl)) (by decide) (own_clin l Z a0 hw [] l1 h0 n0 Z0 ) (by decide) (by decide) e0 (g := (mkF m 1 #[.val (.long l1), .second, .val (.long d1), .second, .val (.long l2), .second, .val (.long d2), .second, .val (.int fl), .unset, .unset, .unset, .unset, .unset, .unset, .unset, .unset, .unset, .unset, .unset, .unset, .unset] [(.long l1)])) rfl (by rw [hml]; rfl) own_pd2 rfl rfl (by show 2 * 0 + _ ≤ _; exact Nat.le_of_eq rfl) (hb hby at_1) (by decide) (by decide)
  obtain ⟨rfl, N1q, e1⟩ := hQ1
  have N1 := Fr.app N0 N1q
  refine own_st st1 ?_
  show own_G p e below s _ _ _ (T1.setTop (mkF m 4 #[.val (.long l1), .second, .val (.long d1), .second, .val (.long l2), .second, .val (.long d2), .second, .val (.int fl), .unset, .unset, .unset, .unset, .unset, .unset, .unset, .unset, .unset, .unset, .unset, .unset, .unset] [(.long (own_line l1))]))
  refine own_st (fun zt zk => XS.lstore X1.here hx rfl (hb hby at_4) rfl (l' := #[.val (.long l1), .second, .val (.long d1), .second, .val (.long l2), .second, .val (.long d2), .second, .val (.int fl), .val (.long (own_line l1)), .second, .unset, .unset, .unset, .unset, .unset, .unset, .unset, .unset, .unset, .unset, .unset]) rfl zk) ?_
  show own_G p e below s _ _ _ (T1.setTop (mkF m 6 #[.val (.long l1), .second, .val (.long d1), .second, .val (.long l2), .second, .val (.long d2), .second, .val (.int fl), .val (.long (own_line l1)), .second, .unset, .unset, .unset, .unset, .unset, .unset, .unset, .unset, .unset, .unset, .unset] []))
  have i1 : (1 : Int64).toInt = 1 := by decide
  have i2 : (2 : Int64).toInt = 2 := by decide
  have f1 := own_lineR l1
  obtain ⟨ln1, q_ln1⟩ : ∃ z, z = (own_line l1) := ⟨_, rfl⟩
  rw [← q_ln1]
  show own_G p e below s _ _ _ (T1.setTop (mkF m 6 #[.val (.long l1), .second, .val (.long d1), .second, .val (.long l2), .second, .val (.long d2), .second, .val (.int fl), .val (.long ln1), .second, .unset, .unset, .unset, .unset, .unset, .unset, .unset, .unset, .unset, .unset, .unset] []))
  rw [← q_ln1] at f1
  refine own_st (fun zt zk => XS.lload X1.here hx rfl (hb hby at_6) rfl zk) ?_
  show own_G p e below s _ _ _ (T1.setTop (mkF m 8 #[.val (.long l1), .second, .val (.long d1), .second, .val (.long l2), .second, .val (.long d2), .second, .val (.int fl), .val (.long ln1), .second, .unset, .unset, .unset, .unset, .unset, .unset, .unset, .unset, .unset, .unset, .unset] [(.long ln1)]))
  refine own_st (fun zt zk => XS.lloadN X1.here hx rfl (hb hby at_8) rfl zk) ?_
  show own_G p e below s _ _ _ (T1.setTop (mkF m 9 #[.val (.long l1), .second, .val (.long d1), .second, .val (.long l2), .second, .val (.long d2), .second, .val (.int fl), .val (.long ln1), .second, .unset, .unset, .unset, .unset, .unset, .unset, .unset, .unset, .unset, .unset, .unset] [(.long d1), (.long ln1)]))
  obtain ⟨_, T2, L2, X2, hQ2, st2⟩ := own_callS X1 hx hZ (y := (⟨"com/example/deferral_ledger/deferralledger/model/JournalEndMoveToPinLaw", "batchOf", "(JJ)J"⟩ : MethodName)) (argsL := [(.long ln1), (.long d1)]) (rest := []) 0 hown (hw _ (List.mem_of_getElem? (i := 7) rfl)) (hw _ (List.mem_of_getElem? (i := 8) rfl)) (hw _ (List.mem_of_getElem? (i := 2) rfl)) (hw _ (List.mem_of_getElem? (i := 9) rfl)) (by decide) (own_cbat l Z a0 hw [] ln1 d1 h0 n0 Z0 (own_nz (by rw [own_div _ (by omega)]; omega))) (by decide) (by decide) e1 (g := (mkF m 9 #[.val (.long l1), .second, .val (.long d1), .second, .val (.long l2), .second, .val (.long d2), .second, .val (.int fl), .val (.long ln1), .second, .unset, .unset, .unset, .unset, .unset, .unset, .unset, .unset, .unset, .unset, .unset] [(.long d1), (.long ln1)])) rfl (by rw [hml]; rfl) own_pd3 rfl rfl (by show 2 * 0 + _ ≤ _; exact Nat.le_of_eq rfl) (hb hby at_9) (by decide) (by decide)
  obtain ⟨rfl, N2q, e2⟩ := hQ2
  have N2 := Fr.app N1 N2q
  refine own_st st2 ?_
  show own_G p e below s _ _ _ (T2.setTop (mkF m 12 #[.val (.long l1), .second, .val (.long d1), .second, .val (.long l2), .second, .val (.long d2), .second, .val (.int fl), .val (.long ln1), .second, .unset, .unset, .unset, .unset, .unset, .unset, .unset, .unset, .unset, .unset, .unset] [(.long (own_batch ln1 d1))]))
  refine own_st (fun zt zk => XS.lstore X2.here hx rfl (hb hby at_12) rfl (l' := #[.val (.long l1), .second, .val (.long d1), .second, .val (.long l2), .second, .val (.long d2), .second, .val (.int fl), .val (.long ln1), .second, .val (.long (own_batch ln1 d1)), .second, .unset, .unset, .unset, .unset, .unset, .unset, .unset, .unset, .unset]) rfl zk) ?_
  show own_G p e below s _ _ _ (T2.setTop (mkF m 14 #[.val (.long l1), .second, .val (.long d1), .second, .val (.long l2), .second, .val (.long d2), .second, .val (.int fl), .val (.long ln1), .second, .val (.long (own_batch ln1 d1)), .second, .unset, .unset, .unset, .unset, .unset, .unset, .unset, .unset, .unset] []))
  have f2 := own_batchR ln1 d1 f1
  obtain ⟨bt1, q_bt1⟩ : ∃ z, z = (own_batch ln1 d1) := ⟨_, rfl⟩
  rw [← q_bt1]
  show own_G p e below s _ _ _ (T2.setTop (mkF m 14 #[.val (.long l1), .second, .val (.long d1), .second, .val (.long l2), .second, .val (.long d2), .second, .val (.int fl), .val (.long ln1), .second, .val (.long bt1), .second, .unset, .unset, .unset, .unset, .unset, .unset, .unset, .unset, .unset] []))
  rw [← q_bt1] at f2
  obtain ⟨T3, h3, X3, e3, E3, A3, D3, -, st3⟩ := newO X2 hx hZ hown (hw _ (List.mem_of_getElem? (i := 11) rfl)) (hw _ (List.mem_of_getElem? (i := 12) rfl)) (hw _ (List.mem_of_getElem? (i := 13) rfl)) e2 (g := (mkF m 14 #[.val (.long l1), .second, .val (.long d1), .second, .val (.long l2), .second, .val (.long d2), .second, .val (.int fl), .val (.long ln1), .second, .val (.long bt1), .second, .unset, .unset, .unset, .unset, .unset, .unset, .unset, .unset, .unset] [])) rfl (hb hby at_14) (by decide) (by decide)
  obtain ⟨b3, g3⟩ : ∃ z, z = h0.size := ⟨_, rfl⟩
  rw [← g3] at A3 D3 st3
  have ge3 : n0 ≤ b3 := Nat.le_trans Z0 (Nat.le_of_eq g3.symm)
  have sz3 : h0.size ≤ b3 := Nat.le_trans (Nat.le_refl h0.size) (Nat.le_of_eq g3.symm)
  refine own_st st3 ?_
  show own_G p e below s _ _ _ (T3.setTop (mkF m 17 #[.val (.long l1), .second, .val (.long d1), .second, .val (.long l2), .second, .val (.long d2), .second, .val (.int fl), .val (.long ln1), .second, .val (.long bt1), .second, .unset, .unset, .unset, .unset, .unset, .unset, .unset, .unset, .unset] [(.ref b3)]))
  refine own_st (fun zt zk => XS.dup X3.here hx rfl (hb hby at_17) rfl rfl zk) ?_
  show own_G p e below s _ _ _ (T3.setTop (mkF m 18 #[.val (.long l1), .second, .val (.long d1), .second, .val (.long l2), .second, .val (.long d2), .second, .val (.int fl), .val (.long ln1), .second, .val (.long bt1), .second, .unset, .unset, .unset, .unset, .unset, .unset, .unset, .unset, .unset] [(.ref b3), (.ref b3)]))
  obtain ⟨_, T4, L4, X4, hQ4, st4⟩ := own_callI X3 hx hZ (y := (⟨"com/example/deferral_ledger/deferralledger/model/JournalEnd", "<init>", "()V"⟩ : MethodName)) (a := b3) (argsL := []) (rest := [(.ref b3)]) 1 rfl hown (hw _ (List.mem_of_getElem? (i := 14) rfl)) (hw _ (List.mem_of_getElem? (i := 15) rfl)) (hw _ (List.mem_of_getElem? (i := 13) rfl)) (hw _ (List.mem_of_getElem? (i := 16) rfl)) (by decide) (own_jei l Z a0 hw [] b3 h3 n0 (Nat.le_trans Z0 E3.1) A3 (D3 (Or.inl (hw _ (List.mem_of_getElem? (i := 21) rfl))) (ty := .long) (by decide)) (D3 (Or.inl (hw _ (List.mem_of_getElem? (i := 23) rfl))) (ty := .long) (by decide)) ge3) (by decide) (by decide) e3 (g := (mkF m 18 #[.val (.long l1), .second, .val (.long d1), .second, .val (.long l2), .second, .val (.long d2), .second, .val (.int fl), .val (.long ln1), .second, .val (.long bt1), .second, .unset, .unset, .unset, .unset, .unset, .unset, .unset, .unset, .unset] [(.ref b3), (.ref b3)])) rfl (by rw [hml]; rfl) own_pd4 rfl rfl (by show 2 * 0 + _ ≤ _; exact Nat.le_of_eq rfl) (hb hby at_18) (by decide) (by decide)
  obtain ⟨rfl, N4q, K4, q4_0, q4_1⟩ := hQ4
  have N4 := Fr.app N2 N4q
  refine own_st st4 ?_
  show own_G p e below s _ _ _ (T4.setTop (mkF m 21 #[.val (.long l1), .second, .val (.long d1), .second, .val (.long l2), .second, .val (.long d2), .second, .val (.int fl), .val (.long ln1), .second, .val (.long bt1), .second, .unset, .unset, .unset, .unset, .unset, .unset, .unset, .unset, .unset] [(.ref b3)]))
  refine own_st (fun zt zk => XS.astore X4.here hx rfl (hb hby at_21) rfl rfl (l' := #[.val (.long l1), .second, .val (.long d1), .second, .val (.long l2), .second, .val (.long d2), .second, .val (.int fl), .val (.long ln1), .second, .val (.long bt1), .second, .val (.ref b3), .unset, .unset, .unset, .unset, .unset, .unset, .unset, .unset]) rfl zk) ?_
  show own_G p e below s _ _ _ (T4.setTop (mkF m 23 #[.val (.long l1), .second, .val (.long d1), .second, .val (.long l2), .second, .val (.long d2), .second, .val (.int fl), .val (.long ln1), .second, .val (.long bt1), .second, .val (.ref b3), .unset, .unset, .unset, .unset, .unset, .unset, .unset, .unset] []))
  refine own_st (fun zt zk => XS.aload X4.here hx rfl (hb hby at_23) rfl rfl zk) ?_
  show own_G p e below s _ _ _ (T4.setTop (mkF m 25 #[.val (.long l1), .second, .val (.long d1), .second, .val (.long l2), .second, .val (.long d2), .second, .val (.int fl), .val (.long ln1), .second, .val (.long bt1), .second, .val (.ref b3), .unset, .unset, .unset, .unset, .unset, .unset, .unset, .unset] [(.ref b3)]))
  have E6 : Exa Z T4.heap b3 "com/example/deferral_ledger/deferralledger/model/JournalEnd" := (A3.keep K4)
  obtain ⟨T5, h5, X5, e5, E5, A5, D5, -, st5⟩ := newO X4 hx hZ hown (hw _ (List.mem_of_getElem? (i := 24) rfl)) (hw _ (List.mem_of_getElem? (i := 25) rfl)) (hw _ (List.mem_of_getElem? (i := 26) rfl)) rfl (g := (mkF m 25 #[.val (.long l1), .second, .val (.long d1), .second, .val (.long l2), .second, .val (.long d2), .second, .val (.int fl), .val (.long ln1), .second, .val (.long bt1), .second, .val (.ref b3), .unset, .unset, .unset, .unset, .unset, .unset, .unset, .unset] [(.ref b3)])) rfl (hb hby at_25) (by decide) (by decide)
  obtain ⟨b5, g5⟩ : ∃ z, z = T4.heap.size := ⟨_, rfl⟩
  rw [← g5] at A5 D5 st5
  have ne5_b3 : b3 ≠ b5 := by rw [g5]; exact Nat.ne_of_lt E6.lt
  have ge5 : n0 ≤ b5 := Nat.le_trans (Nat.le_trans (Nat.le_trans Z0 E3.1) K4.1) (Nat.le_of_eq g5.symm)
  have sz5 : h0.size ≤ b5 := Nat.le_trans (Nat.le_trans (Nat.le_trans (Nat.le_refl h0.size) E3.1) K4.1) (Nat.le_of_eq g5.symm)
  refine own_st st5 ?_
  show own_G p e below s _ _ _ (T5.setTop (mkF m 28 #[.val (.long l1), .second, .val (.long d1), .second, .val (.long l2), .second, .val (.long d2), .second, .val (.int fl), .val (.long ln1), .second, .val (.long bt1), .second, .val (.ref b3), .unset, .unset, .unset, .unset, .unset, .unset, .unset, .unset] [(.ref b5), (.ref b3)]))
  refine own_st (fun zt zk => XS.dup X5.here hx rfl (hb hby at_28) rfl rfl zk) ?_
  show own_G p e below s _ _ _ (T5.setTop (mkF m 29 #[.val (.long l1), .second, .val (.long d1), .second, .val (.long l2), .second, .val (.long d2), .second, .val (.int fl), .val (.long ln1), .second, .val (.long bt1), .second, .val (.ref b3), .unset, .unset, .unset, .unset, .unset, .unset, .unset, .unset] [(.ref b5), (.ref b5), (.ref b3)]))
  refine own_st (fun zt zk => XS.lload X5.here hx rfl (hb hby at_29) rfl zk) ?_
  show own_G p e below s _ _ _ (T5.setTop (mkF m 31 #[.val (.long l1), .second, .val (.long d1), .second, .val (.long l2), .second, .val (.long d2), .second, .val (.int fl), .val (.long ln1), .second, .val (.long bt1), .second, .val (.ref b3), .unset, .unset, .unset, .unset, .unset, .unset, .unset, .unset] [(.long ln1), (.ref b5), (.ref b5), (.ref b3)]))
  refine own_st (fun zt zk => XS.lload X5.here hx rfl (hb hby at_31) rfl zk) ?_
  show own_G p e below s _ _ _ (T5.setTop (mkF m 33 #[.val (.long l1), .second, .val (.long d1), .second, .val (.long l2), .second, .val (.long d2), .second, .val (.int fl), .val (.long ln1), .second, .val (.long bt1), .second, .val (.ref b3), .unset, .unset, .unset, .unset, .unset, .unset, .unset, .unset] [(.long bt1), (.long ln1), (.ref b5), (.ref b5), (.ref b3)]))
  obtain ⟨_, T7, L7, X7, hQ7, st7⟩ := own_callI X5 hx hZ (y := (⟨"com/example/deferral_ledger/deferralledger/model/JournalPlace", "<init>", "(JJ)V"⟩ : MethodName)) (a := b5) (argsL := [(.long ln1), (.long bt1)]) (rest := [(.ref b5), (.ref b3)]) 2 rfl hown (hw _ (List.mem_of_getElem? (i := 27) rfl)) (hw _ (List.mem_of_getElem? (i := 28) rfl)) (hw _ (List.mem_of_getElem? (i := 26) rfl)) (hw _ (List.mem_of_getElem? (i := 29) rfl)) (by decide) (own_jpi l Z a0 hw [] b5 ln1 bt1 h5 n0 (Nat.le_trans (Nat.le_trans (Nat.le_trans Z0 E3.1) K4.1) E5.1) A5 (D5 (Or.inr (hw _ (List.mem_of_getElem? (i := 33) rfl))) (ty := .long) (by decide)) (D5 (Or.inr (hw _ (List.mem_of_getElem? (i := 35) rfl))) (ty := .long) (by decide)) ge5 (by rw [Int64.lt_iff_toInt_lt]; omega) (by rw [Int64.lt_iff_toInt_lt]; omega)) (by decide) (by decide) e5 (g := (mkF m 33 #[.val (.long l1), .second, .val (.long d1), .second, .val (.long l2), .second, .val (.long d2), .second, .val (.int fl), .val (.long ln1), .second, .val (.long bt1), .second, .val (.ref b3), .unset, .unset, .unset, .unset, .unset, .unset, .unset, .unset] [(.long bt1), (.long ln1), (.ref b5), (.ref b5), (.ref b3)])) rfl (by rw [hml]; rfl) own_pd1 rfl rfl (by show 2 * 0 + _ ≤ _; exact Nat.le_of_eq rfl) (hb hby at_33) (by decide) (by decide)
  obtain ⟨rfl, N7q, K7, q7_0, q7_1⟩ := hQ7
  have N7 := Fr.app N4 N7q
  refine own_st st7 ?_
  show own_G p e below s _ _ _ (T7.setTop (mkF m 36 #[.val (.long l1), .second, .val (.long d1), .second, .val (.long l2), .second, .val (.long d2), .second, .val (.int fl), .val (.long ln1), .second, .val (.long bt1), .second, .val (.ref b3), .unset, .unset, .unset, .unset, .unset, .unset, .unset, .unset] [(.ref b5), (.ref b3)]))
  have F9 : Fld Z T7.heap b3 "com/example/deferral_ledger/deferralledger/model/JournalEnd" "lastEntry" "J" (.long (1 : Int64)) := ((q4_0.ext E5).keep K7 (ninS ne5_b3 nin0))
  have F10 : Fld Z T7.heap b3 "com/example/deferral_ledger/deferralledger/model/JournalEnd" "batch" "J" (.long (1 : Int64)) := ((q4_1.ext E5).keep K7 (ninS ne5_b3 nin0))
  have E11 : Exa Z T7.heap b3 "com/example/deferral_ledger/deferralledger/model/JournalEnd" := ((E6.ext E5).keep K7)
  have E12 : Exa Z T7.heap b5 "com/example/deferral_ledger/deferralledger/model/JournalPlace" := (A5.keep K7)
  obtain ⟨_, T8, L8, X8, hQ8, st8⟩ := own_callV X7 hx hZ (C := "com/example/deferral_ledger/deferralledger/model/JournalEnd") (y := (⟨"com/example/deferral_ledger/deferralledger/model/JournalEnd", "moveTo", "(Lcom/example/deferral_ledger/deferralledger/model/JournalPlace;)V"⟩ : MethodName)) (z := (⟨"com/example/deferral_ledger/deferralledger/model/JournalEnd", "moveTo", "(Lcom/example/deferral_ledger/deferralledger/model/JournalPlace;)V"⟩ : MethodName)) (a := b3) (argsL := [(.ref b5)]) (rest := []) 0 hown (hw _ (List.mem_of_getElem? (i := 36) rfl)) (hw _ (List.mem_of_getElem? (i := 37) rfl)) (own_nf hZ (hw _ (List.mem_of_getElem? (i := 39) rfl))) (hw _ (List.mem_of_getElem? (i := 39) rfl)) (hw _ (List.mem_of_getElem? (i := 38) rfl)) (hw _ (List.mem_of_getElem? (i := 13) rfl)) (hw _ (List.mem_of_getElem? (i := 40) rfl)) (by decide) (own_mov l Z a0 hw [] b3 b5 (1 : Int64) (1 : Int64) ln1 bt1 T7.heap n0 (Nat.le_trans (Nat.le_trans (Nat.le_trans (Nat.le_trans Z0 E3.1) K4.1) E5.1) K7.1) E11 E12 F9 F10 q7_0 q7_1 ge3 ne5_b3) (by decide) (by decide) rfl E11 (g := (mkF m 36 #[.val (.long l1), .second, .val (.long d1), .second, .val (.long l2), .second, .val (.long d2), .second, .val (.int fl), .val (.long ln1), .second, .val (.long bt1), .second, .val (.ref b3), .unset, .unset, .unset, .unset, .unset, .unset, .unset, .unset] [(.ref b5), (.ref b3)])) rfl (by rw [hml]; rfl) own_pd5 rfl rfl (by show 2 * 0 + _ ≤ _; exact Nat.le_of_eq rfl) (hb hby at_36) (by decide) (by decide)
  obtain ⟨rfl, N8q, K8, q8_0, q8_1⟩ := hQ8
  have N8 := Fr.app N7 N8q
  refine own_st st8 ?_
  show own_G p e below s _ _ _ (T8.setTop (mkF m 39 #[.val (.long l1), .second, .val (.long d1), .second, .val (.long l2), .second, .val (.long d2), .second, .val (.int fl), .val (.long ln1), .second, .val (.long bt1), .second, .val (.ref b3), .unset, .unset, .unset, .unset, .unset, .unset, .unset, .unset] []))
  refine own_st (fun zt zk => XS.lload X8.here hx rfl (hb hby at_39) rfl zk) ?_
  show own_G p e below s _ _ _ (T8.setTop (mkF m 41 #[.val (.long l1), .second, .val (.long d1), .second, .val (.long l2), .second, .val (.long d2), .second, .val (.int fl), .val (.long ln1), .second, .val (.long bt1), .second, .val (.ref b3), .unset, .unset, .unset, .unset, .unset, .unset, .unset, .unset] [(.long ln1)]))
  refine own_st (fun zt zk => XS.lstore X8.here hx rfl (hb hby at_41) rfl (l' := #[.val (.long l1), .second, .val (.long d1), .second, .val (.long l2), .second, .val (.long d2), .second, .val (.int fl), .val (.long ln1), .second, .val (.long bt1), .second, .val (.ref b3), .val (.long ln1), .second, .unset, .unset, .unset, .unset, .unset, .unset]) rfl zk) ?_
  show own_G p e below s _ _ _ (T8.setTop (mkF m 43 #[.val (.long l1), .second, .val (.long d1), .second, .val (.long l2), .second, .val (.long d2), .second, .val (.int fl), .val (.long ln1), .second, .val (.long bt1), .second, .val (.ref b3), .val (.long ln1), .second, .unset, .unset, .unset, .unset, .unset, .unset] []))
  refine own_st (fun zt zk => XS.lload X8.here hx rfl (hb hby at_43) rfl zk) ?_
  show own_G p e below s _ _ _ (T8.setTop (mkF m 45 #[.val (.long l1), .second, .val (.long d1), .second, .val (.long l2), .second, .val (.long d2), .second, .val (.int fl), .val (.long ln1), .second, .val (.long bt1), .second, .val (.ref b3), .val (.long ln1), .second, .unset, .unset, .unset, .unset, .unset, .unset] [(.long bt1)]))
  refine own_st (fun zt zk => XS.lstore X8.here hx rfl (hb hby at_45) rfl (l' := #[.val (.long l1), .second, .val (.long d1), .second, .val (.long l2), .second, .val (.long d2), .second, .val (.int fl), .val (.long ln1), .second, .val (.long bt1), .second, .val (.ref b3), .val (.long ln1), .second, .val (.long bt1), .second, .unset, .unset, .unset, .unset]) rfl zk) ?_
  show own_G p e below s _ _ _ (T8.setTop (mkF m 47 #[.val (.long l1), .second, .val (.long d1), .second, .val (.long l2), .second, .val (.long d2), .second, .val (.int fl), .val (.long ln1), .second, .val (.long bt1), .second, .val (.ref b3), .val (.long ln1), .second, .val (.long bt1), .second, .unset, .unset, .unset, .unset] []))
  refine own_st (fun zt zk => XS.iload X8.here hx rfl (hb hby at_47) rfl zk) ?_
  show own_G p e below s _ _ _ (T8.setTop (mkF m 49 #[.val (.long l1), .second, .val (.long d1), .second, .val (.long l2), .second, .val (.long d2), .second, .val (.int fl), .val (.long ln1), .second, .val (.long bt1), .second, .val (.ref b3), .val (.long ln1), .second, .val (.long bt1), .second, .unset, .unset, .unset, .unset] [(.int fl)]))
  refine own_st (fun zt zk => XS.iconst X8.here hx rfl (hb hby at_49) zk) ?_
  show own_G p e below s _ _ _ (T8.setTop (mkF m 50 #[.val (.long l1), .second, .val (.long d1), .second, .val (.long l2), .second, .val (.long d2), .second, .val (.int fl), .val (.long ln1), .second, .val (.long bt1), .second, .val (.ref b3), .val (.long ln1), .second, .val (.long bt1), .second, .unset, .unset, .unset, .unset] [(.int (1 : Int32)), (.int fl)]))
  refine own_st (fun zt zk => XS.iand X8.here hx rfl (hb hby at_50) rfl zk) ?_
  show own_G p e below s _ _ _ (T8.setTop (mkF m 51 #[.val (.long l1), .second, .val (.long d1), .second, .val (.long l2), .second, .val (.long d2), .second, .val (.int fl), .val (.long ln1), .second, .val (.long bt1), .second, .val (.ref b3), .val (.long ln1), .second, .val (.long bt1), .second, .unset, .unset, .unset, .unset] [(.int (fl &&& (1 : Int32)))]))
  by_cases hc51_13 : (fl &&& (1 : Int32)) = (0 : Int32)
  · refine own_st (fun zt zk => XS.ifYes X8.here hx rfl (pc0 := 51) (pc' := 125) rfl (hb hby at_51) rfl ((if0 _ _).trans (teq hc51_13).1) (by decide) (by decide) zk) ?_
    show own_G p e below s _ _ _ (T8.setTop (mkF m 125 #[.val (.long l1), .second, .val (.long d1), .second, .val (.long l2), .second, .val (.long d2), .second, .val (.int fl), .val (.long ln1), .second, .val (.long bt1), .second, .val (.ref b3), .val (.long ln1), .second, .val (.long bt1), .second, .unset, .unset, .unset, .unset] []))
    have g1 := c_ladd bt1 1
    have g2 := c_ladd bt1 2
    have g3 := c_ladd ln1 1
    have s1 := rng64 (bt1 + 1)
    have s2 := rng64 (bt1 + 2)
    have s3 := rng64 (ln1 + 1)
    have s4 := rng64 bt1
    have s5 := rng64 ln1
    refine own_st (fun zt zk => XS.aload X8.here hx rfl (hb hby at_125) rfl rfl zk) ?_
    show own_G p e below s _ _ _ (T8.setTop (mkF m 127 #[.val (.long l1), .second, .val (.long d1), .second, .val (.long l2), .second, .val (.long d2), .second, .val (.int fl), .val (.long ln1), .second, .val (.long bt1), .second, .val (.ref b3), .val (.long ln1), .second, .val (.long bt1), .second, .unset, .unset, .unset, .unset] [(.ref b3)]))
    have E15 : Exa Z T8.heap b3 "com/example/deferral_ledger/deferralledger/model/JournalEnd" := (E11.keep K8)
    obtain ⟨_, T14, L14, X14, hQ14, st14⟩ := own_callV X8 hx hZ (C := "com/example/deferral_ledger/deferralledger/model/JournalEnd") (y := (⟨"com/example/deferral_ledger/deferralledger/model/JournalEnd", "next", "()Lcom/example/deferral_ledger/deferralledger/model/JournalPlace;"⟩ : MethodName)) (z := (⟨"com/example/deferral_ledger/deferralledger/model/JournalEnd", "next", "()Lcom/example/deferral_ledger/deferralledger/model/JournalPlace;"⟩ : MethodName)) (a := b3) (argsL := []) (rest := []) 0 hown (hw _ (List.mem_of_getElem? (i := 51) rfl)) (hw _ (List.mem_of_getElem? (i := 52) rfl)) (own_nf hZ (hw _ (List.mem_of_getElem? (i := 54) rfl))) (hw _ (List.mem_of_getElem? (i := 54) rfl)) (hw _ (List.mem_of_getElem? (i := 53) rfl)) (hw _ (List.mem_of_getElem? (i := 13) rfl)) (hw _ (List.mem_of_getElem? (i := 55) rfl)) (by decide) (own_nxt l Z a0 hw [] b3 bt1 T8.heap n0 (Nat.le_trans (Nat.le_trans (Nat.le_trans (Nat.le_trans (Nat.le_trans Z0 E3.1) K4.1) E5.1) K7.1) K8.1) E15 q8_1 (by rw [Int64.lt_iff_toInt_lt]; omega) (by rw [Int64.lt_iff_toInt_lt]; omega)) (by decide) (by decide) rfl E15 (g := (mkF m 127 #[.val (.long l1), .second, .val (.long d1), .second, .val (.long l2), .second, .val (.long d2), .second, .val (.int fl), .val (.long ln1), .second, .val (.long bt1), .second, .val (.ref b3), .val (.long ln1), .second, .val (.long bt1), .second, .unset, .unset, .unset, .unset] [(.ref b3)])) rfl (by rw [hml]; rfl) own_pd6 rfl rfl (by show 2 * 0 + _ ≤ _; exact Nat.le_of_eq rfl) (hb hby at_127) (by decide) (by decide)
    obtain ⟨nb14, rfl, N14q, K14, snb14, q14_0, q14_1, q14_2⟩ := hQ14
    have N14 := Fr.app N8 N14q
    refine own_st st14 ?_
    have ne14_nb_b3 : b3 ≠ nb14 := Nat.ne_of_lt (Nat.lt_of_lt_of_le E15.lt snb14)
    have ne14_nb_b5 : b5 ≠ nb14 := Nat.ne_of_lt (Nat.lt_of_lt_of_le (E12.keep K8).lt snb14)
    have ge14_nb : n0 ≤ nb14 := Nat.le_trans (Nat.le_trans (Nat.le_trans (Nat.le_trans (Nat.le_trans (Nat.le_trans Z0 E3.1) K4.1) E5.1) K7.1) K8.1) snb14
    have sz14_nb : h0.size ≤ nb14 := Nat.le_trans (Nat.le_trans (Nat.le_trans (Nat.le_trans (Nat.le_trans (Nat.le_trans (Nat.le_refl h0.size) E3.1) K4.1) E5.1) K7.1) K8.1) snb14
    show own_G p e below s _ _ _ (T14.setTop (mkF m 130 #[.val (.long l1), .second, .val (.long d1), .second, .val (.long l2), .second, .val (.long d2), .second, .val (.int fl), .val (.long ln1), .second, .val (.long bt1), .second, .val (.ref b3), .val (.long ln1), .second, .val (.long bt1), .second, .unset, .unset, .unset, .unset] [(.ref nb14)]))
    refine own_st (fun zt zk => XS.astore X14.here hx rfl (hb hby at_130) rfl rfl (l' := #[.val (.long l1), .second, .val (.long d1), .second, .val (.long l2), .second, .val (.long d2), .second, .val (.int fl), .val (.long ln1), .second, .val (.long bt1), .second, .val (.ref b3), .val (.long ln1), .second, .val (.long bt1), .second, .val (.ref nb14), .unset, .unset, .unset]) rfl zk) ?_
    show own_G p e below s _ _ _ (T14.setTop (mkF m 132 #[.val (.long l1), .second, .val (.long d1), .second, .val (.long l2), .second, .val (.long d2), .second, .val (.int fl), .val (.long ln1), .second, .val (.long bt1), .second, .val (.ref b3), .val (.long ln1), .second, .val (.long bt1), .second, .val (.ref nb14), .unset, .unset, .unset] []))
    refine own_st (fun zt zk => XS.aload X14.here hx rfl (hb hby at_132) rfl rfl zk) ?_
    show own_G p e below s _ _ _ (T14.setTop (mkF m 134 #[.val (.long l1), .second, .val (.long d1), .second, .val (.long l2), .second, .val (.long d2), .second, .val (.int fl), .val (.long ln1), .second, .val (.long bt1), .second, .val (.ref b3), .val (.long ln1), .second, .val (.long bt1), .second, .val (.ref nb14), .unset, .unset, .unset] [(.ref nb14)]))
    obtain ⟨_, T16, L16, X16, hQ16, st16⟩ := own_callV X14 hx hZ (C := "com/example/deferral_ledger/deferralledger/model/JournalPlace") (y := (⟨"com/example/deferral_ledger/deferralledger/model/JournalPlace", "line", "()J"⟩ : MethodName)) (z := (⟨"com/example/deferral_ledger/deferralledger/model/JournalPlace", "line", "()J"⟩ : MethodName)) (a := nb14) (argsL := []) (rest := []) 0 hown (hw _ (List.mem_of_getElem? (i := 59) rfl)) (hw _ (List.mem_of_getElem? (i := 42) rfl)) (own_nf hZ (hw _ (List.mem_of_getElem? (i := 44) rfl))) (hw _ (List.mem_of_getElem? (i := 44) rfl)) (hw _ (List.mem_of_getElem? (i := 43) rfl)) (hw _ (List.mem_of_getElem? (i := 26) rfl)) (hw _ (List.mem_of_getElem? (i := 45) rfl)) (by decide) (own_gl l Z a0 hw [] nb14 (bt1 + (1 : Int64)) T14.heap n0 (Nat.le_trans (Nat.le_trans (Nat.le_trans (Nat.le_trans (Nat.le_trans (Nat.le_trans Z0 E3.1) K4.1) E5.1) K7.1) K8.1) K14.1) q14_1) (by decide) (by decide) rfl q14_0 (g := (mkF m 134 #[.val (.long l1), .second, .val (.long d1), .second, .val (.long l2), .second, .val (.long d2), .second, .val (.int fl), .val (.long ln1), .second, .val (.long bt1), .second, .val (.ref b3), .val (.long ln1), .second, .val (.long bt1), .second, .val (.ref nb14), .unset, .unset, .unset] [(.ref nb14)])) rfl (by rw [hml]; rfl) own_pd0 rfl rfl (by show 2 * 0 + _ ≤ _; exact Nat.le_of_eq rfl) (hb hby at_134) (by decide) (by decide)
    obtain ⟨rfl, N16q, e16⟩ := hQ16
    have N16 := Fr.app N14 N16q
    refine own_st st16 ?_
    show own_G p e below s _ _ _ (T16.setTop (mkF m 137 #[.val (.long l1), .second, .val (.long d1), .second, .val (.long l2), .second, .val (.long d2), .second, .val (.int fl), .val (.long ln1), .second, .val (.long bt1), .second, .val (.ref b3), .val (.long ln1), .second, .val (.long bt1), .second, .val (.ref nb14), .unset, .unset, .unset] [(.long (bt1 + (1 : Int64)))]))
    refine own_st (fun zt zk => XS.lload X16.here hx rfl (hb hby at_137) rfl zk) ?_
    show own_G p e below s _ _ _ (T16.setTop (mkF m 139 #[.val (.long l1), .second, .val (.long d1), .second, .val (.long l2), .second, .val (.long d2), .second, .val (.int fl), .val (.long ln1), .second, .val (.long bt1), .second, .val (.ref b3), .val (.long ln1), .second, .val (.long bt1), .second, .val (.ref nb14), .unset, .unset, .unset] [(.long bt1), (.long (bt1 + (1 : Int64)))]))
    refine own_st (fun zt zk => XS.lconst X16.here hx rfl (hb hby at_139) zk) ?_
    show own_G p e below s _ _ _ (T16.setTop (mkF m 140 #[.val (.long l1), .second, .val (.long d1), .second, .val (.long l2), .second, .val (.long d2), .second, .val (.int fl), .val (.long ln1), .second, .val (.long bt1), .second, .val (.ref b3), .val (.long ln1), .second, .val (.long bt1), .second, .val (.ref nb14), .unset, .unset, .unset] [(.long (1 : Int64)), (.long bt1), (.long (bt1 + (1 : Int64)))]))
    refine own_st (fun zt zk => XS.ladd X16.here hx rfl (hb hby at_140) rfl zk) ?_
    show own_G p e below s _ _ _ (T16.setTop (mkF m 141 #[.val (.long l1), .second, .val (.long d1), .second, .val (.long l2), .second, .val (.long d2), .second, .val (.int fl), .val (.long ln1), .second, .val (.long bt1), .second, .val (.ref b3), .val (.long ln1), .second, .val (.long bt1), .second, .val (.ref nb14), .unset, .unset, .unset] [(.long (bt1 + (1 : Int64))), (.long (bt1 + (1 : Int64)))]))
    refine own_st (fun zt zk => XS.lcmp X16.here hx rfl (hb hby at_141) rfl zk) ?_
    show own_G p e below s _ _ _ (T16.setTop (mkF m 142 #[.val (.long l1), .second, .val (.long d1), .second, .val (.long l2), .second, .val (.long d2), .second, .val (.int fl), .val (.long ln1), .second, .val (.long bt1), .second, .val (.ref b3), .val (.long ln1), .second, .val (.long bt1), .second, .val (.ref nb14), .unset, .unset, .unset] [(.int (lcmpW (bt1 + (1 : Int64)) (bt1 + (1 : Int64))))]))
    refine own_st (fun zt zk => XS.ifNo X16.here hx rfl (hb hby at_142) rfl ((if0 _ _).trans (teq ((lw_eq (bt1 + (1 : Int64)) (bt1 + (1 : Int64))).mpr (rfl : (bt1 + (1 : Int64)) = (bt1 + (1 : Int64))))).2) zk) ?_
    show own_G p e below s _ _ _ (T16.setTop (mkF m 145 #[.val (.long l1), .second, .val (.long d1), .second, .val (.long l2), .second, .val (.long d2), .second, .val (.int fl), .val (.long ln1), .second, .val (.long bt1), .second, .val (.ref b3), .val (.long ln1), .second, .val (.long bt1), .second, .val (.ref nb14), .unset, .unset, .unset] []))
    refine own_st (fun zt zk => XS.aload X16.here hx rfl (hb hby at_145) rfl rfl zk) ?_
    show own_G p e below s _ _ _ (T16.setTop (mkF m 147 #[.val (.long l1), .second, .val (.long d1), .second, .val (.long l2), .second, .val (.long d2), .second, .val (.int fl), .val (.long ln1), .second, .val (.long bt1), .second, .val (.ref b3), .val (.long ln1), .second, .val (.long bt1), .second, .val (.ref nb14), .unset, .unset, .unset] [(.ref nb14)]))
    obtain ⟨_, T17, L17, X17, hQ17, st17⟩ := own_callV X16 hx hZ (C := "com/example/deferral_ledger/deferralledger/model/JournalPlace") (y := (⟨"com/example/deferral_ledger/deferralledger/model/JournalPlace", "batch", "()J"⟩ : MethodName)) (z := (⟨"com/example/deferral_ledger/deferralledger/model/JournalPlace", "batch", "()J"⟩ : MethodName)) (a := nb14) (argsL := []) (rest := []) 0 hown (hw _ (List.mem_of_getElem? (i := 60) rfl)) (hw _ (List.mem_of_getElem? (i := 47) rfl)) (own_nf hZ (hw _ (List.mem_of_getElem? (i := 49) rfl))) (hw _ (List.mem_of_getElem? (i := 49) rfl)) (hw _ (List.mem_of_getElem? (i := 48) rfl)) (hw _ (List.mem_of_getElem? (i := 26) rfl)) (hw _ (List.mem_of_getElem? (i := 50) rfl)) (by decide) (own_gb l Z a0 hw [] nb14 (bt1 + (2 : Int64)) T14.heap n0 (Nat.le_trans (Nat.le_trans (Nat.le_trans (Nat.le_trans (Nat.le_trans (Nat.le_trans Z0 E3.1) K4.1) E5.1) K7.1) K8.1) K14.1) q14_2) (by decide) (by decide) e16 q14_0 (g := (mkF m 147 #[.val (.long l1), .second, .val (.long d1), .second, .val (.long l2), .second, .val (.long d2), .second, .val (.int fl), .val (.long ln1), .second, .val (.long bt1), .second, .val (.ref b3), .val (.long ln1), .second, .val (.long bt1), .second, .val (.ref nb14), .unset, .unset, .unset] [(.ref nb14)])) rfl (by rw [hml]; rfl) own_pd0 rfl rfl (by show 2 * 0 + _ ≤ _; exact Nat.le_of_eq rfl) (hb hby at_147) (by decide) (by decide)
    obtain ⟨rfl, N17q, e17⟩ := hQ17
    have N17 := Fr.app N16 N17q
    refine own_st st17 ?_
    show own_G p e below s _ _ _ (T17.setTop (mkF m 150 #[.val (.long l1), .second, .val (.long d1), .second, .val (.long l2), .second, .val (.long d2), .second, .val (.int fl), .val (.long ln1), .second, .val (.long bt1), .second, .val (.ref b3), .val (.long ln1), .second, .val (.long bt1), .second, .val (.ref nb14), .unset, .unset, .unset] [(.long (bt1 + (2 : Int64)))]))
    refine own_st (fun zt zk => XS.lload X17.here hx rfl (hb hby at_150) rfl zk) ?_
    show own_G p e below s _ _ _ (T17.setTop (mkF m 152 #[.val (.long l1), .second, .val (.long d1), .second, .val (.long l2), .second, .val (.long d2), .second, .val (.int fl), .val (.long ln1), .second, .val (.long bt1), .second, .val (.ref b3), .val (.long ln1), .second, .val (.long bt1), .second, .val (.ref nb14), .unset, .unset, .unset] [(.long bt1), (.long (bt1 + (2 : Int64)))]))
    refine own_st (X17.ldc2Long hx hown (mvT hZ (hw _ (List.mem_of_getElem? (i := 4) rfl))) (g := (mkF m 152 #[.val (.long l1), .second, .val (.long d1), .second, .val (.long l2), .second, .val (.long d2), .second, .val (.int fl), .val (.long ln1), .second, .val (.long bt1), .second, .val (.ref b3), .val (.long ln1), .second, .val (.long bt1), .second, .val (.ref nb14), .unset, .unset, .unset] [(.long bt1), (.long (bt1 + (2 : Int64)))])) rfl (hb hby at_152)) ?_
    show own_G p e below s _ _ _ (T17.setTop (mkF m 155 #[.val (.long l1), .second, .val (.long d1), .second, .val (.long l2), .second, .val (.long d2), .second, .val (.int fl), .val (.long ln1), .second, .val (.long bt1), .second, .val (.ref b3), .val (.long ln1), .second, .val (.long bt1), .second, .val (.ref nb14), .unset, .unset, .unset] [(.long (2 : Int64)), (.long bt1), (.long (bt1 + (2 : Int64)))]))
    refine own_st (fun zt zk => XS.ladd X17.here hx rfl (hb hby at_155) rfl zk) ?_
    show own_G p e below s _ _ _ (T17.setTop (mkF m 156 #[.val (.long l1), .second, .val (.long d1), .second, .val (.long l2), .second, .val (.long d2), .second, .val (.int fl), .val (.long ln1), .second, .val (.long bt1), .second, .val (.ref b3), .val (.long ln1), .second, .val (.long bt1), .second, .val (.ref nb14), .unset, .unset, .unset] [(.long (bt1 + (2 : Int64))), (.long (bt1 + (2 : Int64)))]))
    refine own_st (fun zt zk => XS.lcmp X17.here hx rfl (hb hby at_156) rfl zk) ?_
    show own_G p e below s _ _ _ (T17.setTop (mkF m 157 #[.val (.long l1), .second, .val (.long d1), .second, .val (.long l2), .second, .val (.long d2), .second, .val (.int fl), .val (.long ln1), .second, .val (.long bt1), .second, .val (.ref b3), .val (.long ln1), .second, .val (.long bt1), .second, .val (.ref nb14), .unset, .unset, .unset] [(.int (lcmpW (bt1 + (2 : Int64)) (bt1 + (2 : Int64))))]))
    refine own_st (fun zt zk => XS.ifNo X17.here hx rfl (hb hby at_157) rfl ((if0 _ _).trans (teq ((lw_eq (bt1 + (2 : Int64)) (bt1 + (2 : Int64))).mpr (rfl : (bt1 + (2 : Int64)) = (bt1 + (2 : Int64))))).2) zk) ?_
    show own_G p e below s _ _ _ (T17.setTop (mkF m 160 #[.val (.long l1), .second, .val (.long d1), .second, .val (.long l2), .second, .val (.long d2), .second, .val (.int fl), .val (.long ln1), .second, .val (.long bt1), .second, .val (.ref b3), .val (.long ln1), .second, .val (.long bt1), .second, .val (.ref nb14), .unset, .unset, .unset] []))
    refine own_st (fun zt zk => XS.iconst X17.here hx rfl (hb hby at_160) zk) ?_
    show own_G p e below s _ _ _ (T17.setTop (mkF m 161 #[.val (.long l1), .second, .val (.long d1), .second, .val (.long l2), .second, .val (.long d2), .second, .val (.int fl), .val (.long ln1), .second, .val (.long bt1), .second, .val (.ref b3), .val (.long ln1), .second, .val (.long bt1), .second, .val (.ref nb14), .unset, .unset, .unset] [(.int (1 : Int32))]))
    refine own_st (fun zt zk => XS.goto X17.here hx rfl (pc0 := 161) (pc' := 165) rfl (hb hby at_161) (by decide) (by decide) zk) ?_
    show own_G p e below s _ _ _ (T17.setTop (mkF m 165 #[.val (.long l1), .second, .val (.long d1), .second, .val (.long l2), .second, .val (.long d2), .second, .val (.int fl), .val (.long ln1), .second, .val (.long bt1), .second, .val (.ref b3), .val (.long ln1), .second, .val (.long bt1), .second, .val (.ref nb14), .unset, .unset, .unset] [(.int (1 : Int32))]))
    refine own_st (fun zt zk => XS.istore X17.here hx rfl (hb hby at_165) rfl (l' := #[.val (.long l1), .second, .val (.long d1), .second, .val (.long l2), .second, .val (.long d2), .second, .val (.int fl), .val (.long ln1), .second, .val (.long bt1), .second, .val (.ref b3), .val (.long ln1), .second, .val (.long bt1), .second, .val (.ref nb14), .val (.int (1 : Int32)), .unset, .unset]) rfl zk) ?_
    show own_G p e below s _ _ _ (T17.setTop (mkF m 167 #[.val (.long l1), .second, .val (.long d1), .second, .val (.long l2), .second, .val (.long d2), .second, .val (.int fl), .val (.long ln1), .second, .val (.long bt1), .second, .val (.ref b3), .val (.long ln1), .second, .val (.long bt1), .second, .val (.ref nb14), .val (.int (1 : Int32)), .unset, .unset] []))
    refine own_st (fun zt zk => XS.lload X17.here hx rfl (hb hby at_167) rfl zk) ?_
    show own_G p e below s _ _ _ (T17.setTop (mkF m 169 #[.val (.long l1), .second, .val (.long d1), .second, .val (.long l2), .second, .val (.long d2), .second, .val (.int fl), .val (.long ln1), .second, .val (.long bt1), .second, .val (.ref b3), .val (.long ln1), .second, .val (.long bt1), .second, .val (.ref nb14), .val (.int (1 : Int32)), .unset, .unset] [(.long ln1)]))
    refine own_st (fun zt zk => XS.lload X17.here hx rfl (hb hby at_169) rfl zk) ?_
    show own_G p e below s _ _ _ (T17.setTop (mkF m 171 #[.val (.long l1), .second, .val (.long d1), .second, .val (.long l2), .second, .val (.long d2), .second, .val (.int fl), .val (.long ln1), .second, .val (.long bt1), .second, .val (.ref b3), .val (.long ln1), .second, .val (.long bt1), .second, .val (.ref nb14), .val (.int (1 : Int32)), .unset, .unset] [(.long bt1), (.long ln1)]))
    refine own_st (fun zt zk => XS.lcmp X17.here hx rfl (hb hby at_171) rfl zk) ?_
    show own_G p e below s _ _ _ (T17.setTop (mkF m 172 #[.val (.long l1), .second, .val (.long d1), .second, .val (.long l2), .second, .val (.long d2), .second, .val (.int fl), .val (.long ln1), .second, .val (.long bt1), .second, .val (.ref b3), .val (.long ln1), .second, .val (.long bt1), .second, .val (.ref nb14), .val (.int (1 : Int32)), .unset, .unset] [(.int (lcmpW ln1 bt1))]))
    by_cases hc172_18 : ln1 < bt1
    · refine own_st (fun zt zk => XS.ifNo X17.here hx rfl (hb hby at_172) rfl ((if0 _ _).trans (tlt ((lw_lt ln1 bt1).mpr hc172_18)).2.1) zk) ?_
      show own_G p e below s _ _ _ (T17.setTop (mkF m 175 #[.val (.long l1), .second, .val (.long d1), .second, .val (.long l2), .second, .val (.long d2), .second, .val (.int fl), .val (.long ln1), .second, .val (.long bt1), .second, .val (.ref b3), .val (.long ln1), .second, .val (.long bt1), .second, .val (.ref nb14), .val (.int (1 : Int32)), .unset, .unset] []))
      refine own_st (fun zt zk => XS.aload X17.here hx rfl (hb hby at_175) rfl rfl zk) ?_
      show own_G p e below s _ _ _ (T17.setTop (mkF m 177 #[.val (.long l1), .second, .val (.long d1), .second, .val (.long l2), .second, .val (.long d2), .second, .val (.int fl), .val (.long ln1), .second, .val (.long bt1), .second, .val (.ref b3), .val (.long ln1), .second, .val (.long bt1), .second, .val (.ref nb14), .val (.int (1 : Int32)), .unset, .unset] [(.ref b3)]))
      have E20 : Exa Z T14.heap b3 "com/example/deferral_ledger/deferralledger/model/JournalEnd" := (E15.keep K14)
      have E21 : Exa Z T14.heap b5 "com/example/deferral_ledger/deferralledger/model/JournalPlace" := ((E12.keep K8).keep K14)
      obtain ⟨T19, h19, X19, e19, E19, A19, D19, -, st19⟩ := newO X17 hx hZ hown (hw _ (List.mem_of_getElem? (i := 24) rfl)) (hw _ (List.mem_of_getElem? (i := 25) rfl)) (hw _ (List.mem_of_getElem? (i := 26) rfl)) e17 (g := (mkF m 177 #[.val (.long l1), .second, .val (.long d1), .second, .val (.long l2), .second, .val (.long d2), .second, .val (.int fl), .val (.long ln1), .second, .val (.long bt1), .second, .val (.ref b3), .val (.long ln1), .second, .val (.long bt1), .second, .val (.ref nb14), .val (.int (1 : Int32)), .unset, .unset] [(.ref b3)])) rfl (hb hby at_177) (by decide) (by decide)
      obtain ⟨b19, g19⟩ : ∃ z, z = T14.heap.size := ⟨_, rfl⟩
      rw [← g19] at A19 D19 st19
      have ne19_b3 : b3 ≠ b19 := by rw [g19]; exact Nat.ne_of_lt E20.lt
      have ne19_b5 : b5 ≠ b19 := by rw [g19]; exact Nat.ne_of_lt E21.lt
      have ne19_nb14 : nb14 ≠ b19 := by rw [g19]; exact Nat.ne_of_lt q14_0.lt
      have ge19 : n0 ≤ b19 := Nat.le_trans (Nat.le_trans (Nat.le_trans (Nat.le_trans (Nat.le_trans (Nat.le_trans (Nat.le_trans Z0 E3.1) K4.1) E5.1) K7.1) K8.1) K14.1) (Nat.le_of_eq g19.symm)
      have sz19 : h0.size ≤ b19 := Nat.le_trans (Nat.le_trans (Nat.le_trans (Nat.le_trans (Nat.le_trans (Nat.le_trans (Nat.le_trans (Nat.le_refl h0.size) E3.1) K4.1) E5.1) K7.1) K8.1) K14.1) (Nat.le_of_eq g19.symm)
      refine own_st st19 ?_
      show own_G p e below s _ _ _ (T19.setTop (mkF m 180 #[.val (.long l1), .second, .val (.long d1), .second, .val (.long l2), .second, .val (.long d2), .second, .val (.int fl), .val (.long ln1), .second, .val (.long bt1), .second, .val (.ref b3), .val (.long ln1), .second, .val (.long bt1), .second, .val (.ref nb14), .val (.int (1 : Int32)), .unset, .unset] [(.ref b19), (.ref b3)]))
      refine own_st (fun zt zk => XS.dup X19.here hx rfl (hb hby at_180) rfl rfl zk) ?_
      show own_G p e below s _ _ _ (T19.setTop (mkF m 181 #[.val (.long l1), .second, .val (.long d1), .second, .val (.long l2), .second, .val (.long d2), .second, .val (.int fl), .val (.long ln1), .second, .val (.long bt1), .second, .val (.ref b3), .val (.long ln1), .second, .val (.long bt1), .second, .val (.ref nb14), .val (.int (1 : Int32)), .unset, .unset] [(.ref b19), (.ref b19), (.ref b3)]))
      refine own_st (fun zt zk => XS.lload X19.here hx rfl (hb hby at_181) rfl zk) ?_
      show own_G p e below s _ _ _ (T19.setTop (mkF m 183 #[.val (.long l1), .second, .val (.long d1), .second, .val (.long l2), .second, .val (.long d2), .second, .val (.int fl), .val (.long ln1), .second, .val (.long bt1), .second, .val (.ref b3), .val (.long ln1), .second, .val (.long bt1), .second, .val (.ref nb14), .val (.int (1 : Int32)), .unset, .unset] [(.long ln1), (.ref b19), (.ref b19), (.ref b3)]))
      refine own_st (fun zt zk => XS.lconst X19.here hx rfl (hb hby at_183) zk) ?_
      show own_G p e below s _ _ _ (T19.setTop (mkF m 184 #[.val (.long l1), .second, .val (.long d1), .second, .val (.long l2), .second, .val (.long d2), .second, .val (.int fl), .val (.long ln1), .second, .val (.long bt1), .second, .val (.ref b3), .val (.long ln1), .second, .val (.long bt1), .second, .val (.ref nb14), .val (.int (1 : Int32)), .unset, .unset] [(.long (1 : Int64)), (.long ln1), (.ref b19), (.ref b19), (.ref b3)]))
      refine own_st (fun zt zk => XS.ladd X19.here hx rfl (hb hby at_184) rfl zk) ?_
      show own_G p e below s _ _ _ (T19.setTop (mkF m 185 #[.val (.long l1), .second, .val (.long d1), .second, .val (.long l2), .second, .val (.long d2), .second, .val (.int fl), .val (.long ln1), .second, .val (.long bt1), .second, .val (.ref b3), .val (.long ln1), .second, .val (.long bt1), .second, .val (.ref nb14), .val (.int (1 : Int32)), .unset, .unset] [(.long (ln1 + (1 : Int64))), (.ref b19), (.ref b19), (.ref b3)]))
      refine own_st (fun zt zk => XS.lload X19.here hx rfl (hb hby at_185) rfl zk) ?_
      show own_G p e below s _ _ _ (T19.setTop (mkF m 187 #[.val (.long l1), .second, .val (.long d1), .second, .val (.long l2), .second, .val (.long d2), .second, .val (.int fl), .val (.long ln1), .second, .val (.long bt1), .second, .val (.ref b3), .val (.long ln1), .second, .val (.long bt1), .second, .val (.ref nb14), .val (.int (1 : Int32)), .unset, .unset] [(.long bt1), (.long (ln1 + (1 : Int64))), (.ref b19), (.ref b19), (.ref b3)]))
      obtain ⟨_, T22, L22, X22, hQ22, st22⟩ := own_callI X19 hx hZ (y := (⟨"com/example/deferral_ledger/deferralledger/model/JournalPlace", "<init>", "(JJ)V"⟩ : MethodName)) (a := b19) (argsL := [(.long (ln1 + (1 : Int64))), (.long bt1)]) (rest := [(.ref b19), (.ref b3)]) 2 rfl hown (hw _ (List.mem_of_getElem? (i := 27) rfl)) (hw _ (List.mem_of_getElem? (i := 28) rfl)) (hw _ (List.mem_of_getElem? (i := 26) rfl)) (hw _ (List.mem_of_getElem? (i := 29) rfl)) (by decide) (own_jpi l Z a0 hw [] b19 (ln1 + (1 : Int64)) bt1 h19 n0 (Nat.le_trans (Nat.le_trans (Nat.le_trans (Nat.le_trans (Nat.le_trans (Nat.le_trans (Nat.le_trans Z0 E3.1) K4.1) E5.1) K7.1) K8.1) K14.1) E19.1) A19 (D19 (Or.inr (hw _ (List.mem_of_getElem? (i := 33) rfl))) (ty := .long) (by decide)) (D19 (Or.inr (hw _ (List.mem_of_getElem? (i := 35) rfl))) (ty := .long) (by decide)) ge19 (by have q := hc172_18; rw [Int64.lt_iff_toInt_lt] at q; rw [Int64.lt_iff_toInt_lt]; omega) (by have q := hc172_18; rw [Int64.lt_iff_toInt_lt] at q; rw [Int64.lt_iff_toInt_lt]; omega)) (by decide) (by decide) e19 (g := (mkF m 187 #[.val (.long l1), .second, .val (.long d1), .second, .val (.long l2), .second, .val (.long d2), .second, .val (.int fl), .val (.long ln1), .second, .val (.long bt1), .second, .val (.ref b3), .val (.long ln1), .second, .val (.long bt1), .second, .val (.ref nb14), .val (.int (1 : Int32)), .unset, .unset] [(.long bt1), (.long (ln1 + (1 : Int64))), (.ref b19), (.ref b19), (.ref b3)])) rfl (by rw [hml]; rfl) own_pd1 rfl rfl (by show 2 * 0 + _ ≤ _; exact Nat.le_of_eq rfl) (hb hby at_187) (by decide) (by decide)
      obtain ⟨rfl, N22q, K22, q22_0, q22_1⟩ := hQ22
      have N22 := Fr.app N17 N22q
      refine own_st st22 ?_
      show own_G p e below s _ _ _ (T22.setTop (mkF m 190 #[.val (.long l1), .second, .val (.long d1), .second, .val (.long l2), .second, .val (.long d2), .second, .val (.int fl), .val (.long ln1), .second, .val (.long bt1), .second, .val (.ref b3), .val (.long ln1), .second, .val (.long bt1), .second, .val (.ref nb14), .val (.int (1 : Int32)), .unset, .unset] [(.ref b19), (.ref b3)]))
      have F24 : Fld Z T22.heap b3 "com/example/deferral_ledger/deferralledger/model/JournalEnd" "lastEntry" "J" (.long ln1) := (((q8_0.keep K14 nin0).ext E19).keep K22 (ninS ne19_b3 nin0))
      have F25 : Fld Z T22.heap b3 "com/example/deferral_ledger/deferralledger/model/JournalEnd" "batch" "J" (.long bt1) := (((q8_1.keep K14 nin0).ext E19).keep K22 (ninS ne19_b3 nin0))
      have E26 : Exa Z T22.heap b19 "com/example/deferral_ledger/deferralledger/model/JournalPlace" := (A19.keep K22)
      have E27 : Exa Z T22.heap b3 "com/example/deferral_ledger/deferralledger/model/JournalEnd" := ((E20.ext E19).keep K22)
      obtain ⟨_, T23, L23, X23, hQ23, st23⟩ := own_callV X22 hx hZ (C := "com/example/deferral_ledger/deferralledger/model/JournalEnd") (y := (⟨"com/example/deferral_ledger/deferralledger/model/JournalEnd", "requireBefore", "(Lcom/example/deferral_ledger/deferralledger/model/JournalPlace;)V"⟩ : MethodName)) (z := (⟨"com/example/deferral_ledger/deferralledger/model/JournalEnd", "requireBefore", "(Lcom/example/deferral_ledger/deferralledger/model/JournalPlace;)V"⟩ : MethodName)) (a := b3) (argsL := [(.ref b19)]) (rest := []) 0 hown (hw _ (List.mem_of_getElem? (i := 61) rfl)) (hw _ (List.mem_of_getElem? (i := 62) rfl)) (own_nf hZ (hw _ (List.mem_of_getElem? (i := 64) rfl))) (hw _ (List.mem_of_getElem? (i := 64) rfl)) (hw _ (List.mem_of_getElem? (i := 63) rfl)) (hw _ (List.mem_of_getElem? (i := 13) rfl)) (hw _ (List.mem_of_getElem? (i := 65) rfl)) (by decide) (own_rqb l Z a0 hw [] b3 b19 ln1 bt1 (ln1 + (1 : Int64)) T22.heap n0 (Nat.le_trans (Nat.le_trans (Nat.le_trans (Nat.le_trans (Nat.le_trans (Nat.le_trans (Nat.le_trans (Nat.le_trans Z0 E3.1) K4.1) E5.1) K7.1) K8.1) K14.1) E19.1) K22.1) E26 F24 F25 q22_0 q22_1 (by have q := hc172_18; rw [Int64.lt_iff_toInt_lt] at q; rw [Int64.lt_iff_toInt_lt]; omega)) (by decide) (by decide) rfl E27 (g := (mkF m 190 #[.val (.long l1), .second, .val (.long d1), .second, .val (.long l2), .second, .val (.long d2), .second, .val (.int fl), .val (.long ln1), .second, .val (.long bt1), .second, .val (.ref b3), .val (.long ln1), .second, .val (.long bt1), .second, .val (.ref nb14), .val (.int (1 : Int32)), .unset, .unset] [(.ref b19), (.ref b3)])) rfl (by rw [hml]; rfl) own_pd5 rfl rfl (by show 2 * 0 + _ ≤ _; exact Nat.le_of_eq rfl) (hb hby at_190) (by decide) (by decide)
      obtain ⟨rfl, N23q, e23⟩ := hQ23
      have N23 := Fr.app N22 N23q
      refine own_st st23 ?_
      show own_G p e below s _ _ _ (T23.setTop (mkF m 193 #[.val (.long l1), .second, .val (.long d1), .second, .val (.long l2), .second, .val (.long d2), .second, .val (.int fl), .val (.long ln1), .second, .val (.long bt1), .second, .val (.ref b3), .val (.long ln1), .second, .val (.long bt1), .second, .val (.ref nb14), .val (.int (1 : Int32)), .unset, .unset] []))
      refine own_st (fun zt zk => XS.iload X23.here hx rfl (hb hby at_193) rfl zk) ?_
      show own_G p e below s _ _ _ (T23.setTop (mkF m 195 #[.val (.long l1), .second, .val (.long d1), .second, .val (.long l2), .second, .val (.long d2), .second, .val (.int fl), .val (.long ln1), .second, .val (.long bt1), .second, .val (.ref b3), .val (.long ln1), .second, .val (.long bt1), .second, .val (.ref nb14), .val (.int (1 : Int32)), .unset, .unset] [(.int (1 : Int32))]))
      refine own_retZ X23 hx hlk hret (by decide) (hb hby at_195) (by decide) (by decide) ?_
      show Q_own_law Z l1 d1 l2 d2 fl h0 n0 (some (.int (1 : Int32))) T23.heap _
      rw [e23]
      exact ⟨rfl, N23⟩
    · refine own_st (fun zt zk => XS.ifYes X17.here hx rfl (pc0 := 172) (pc' := 193) rfl (hb hby at_172) rfl ((if0 _ _).trans (flt (mt (lw_lt ln1 bt1).mp hc172_18)).2.1) (by decide) (by decide) zk) ?_
      show own_G p e below s _ _ _ (T17.setTop (mkF m 193 #[.val (.long l1), .second, .val (.long d1), .second, .val (.long l2), .second, .val (.long d2), .second, .val (.int fl), .val (.long ln1), .second, .val (.long bt1), .second, .val (.ref b3), .val (.long ln1), .second, .val (.long bt1), .second, .val (.ref nb14), .val (.int (1 : Int32)), .unset, .unset] []))
      refine own_st (fun zt zk => XS.iload X17.here hx rfl (hb hby at_193) rfl zk) ?_
      show own_G p e below s _ _ _ (T17.setTop (mkF m 195 #[.val (.long l1), .second, .val (.long d1), .second, .val (.long l2), .second, .val (.long d2), .second, .val (.int fl), .val (.long ln1), .second, .val (.long bt1), .second, .val (.ref b3), .val (.long ln1), .second, .val (.long bt1), .second, .val (.ref nb14), .val (.int (1 : Int32)), .unset, .unset] [(.int (1 : Int32))]))
      refine own_retZ X17 hx hlk hret (by decide) (hb hby at_195) (by decide) (by decide) ?_
      show Q_own_law Z l1 d1 l2 d2 fl h0 n0 (some (.int (1 : Int32))) T17.heap _
      rw [e17]
      exact ⟨rfl, N17⟩
  · refine own_st (fun zt zk => XS.ifNo X8.here hx rfl (hb hby at_51) rfl ((if0 _ _).trans (feq hc51_13).1) zk) ?_
    show own_G p e below s _ _ _ (T8.setTop (mkF m 54 #[.val (.long l1), .second, .val (.long d1), .second, .val (.long l2), .second, .val (.long d2), .second, .val (.int fl), .val (.long ln1), .second, .val (.long bt1), .second, .val (.ref b3), .val (.long ln1), .second, .val (.long bt1), .second, .unset, .unset, .unset, .unset] []))
    refine own_st (fun zt zk => XS.iload X8.here hx rfl (hb hby at_54) rfl zk) ?_
    show own_G p e below s _ _ _ (T8.setTop (mkF m 56 #[.val (.long l1), .second, .val (.long d1), .second, .val (.long l2), .second, .val (.long d2), .second, .val (.int fl), .val (.long ln1), .second, .val (.long bt1), .second, .val (.ref b3), .val (.long ln1), .second, .val (.long bt1), .second, .unset, .unset, .unset, .unset] [(.int fl)]))
    refine own_st (fun zt zk => XS.iconst X8.here hx rfl (hb hby at_56) zk) ?_
    show own_G p e below s _ _ _ (T8.setTop (mkF m 57 #[.val (.long l1), .second, .val (.long d1), .second, .val (.long l2), .second, .val (.long d2), .second, .val (.int fl), .val (.long ln1), .second, .val (.long bt1), .second, .val (.ref b3), .val (.long ln1), .second, .val (.long bt1), .second, .unset, .unset, .unset, .unset] [(.int (2 : Int32)), (.int fl)]))
    refine own_st (fun zt zk => XS.iand X8.here hx rfl (hb hby at_57) rfl zk) ?_
    show own_G p e below s _ _ _ (T8.setTop (mkF m 58 #[.val (.long l1), .second, .val (.long d1), .second, .val (.long l2), .second, .val (.long d2), .second, .val (.int fl), .val (.long ln1), .second, .val (.long bt1), .second, .val (.ref b3), .val (.long ln1), .second, .val (.long bt1), .second, .unset, .unset, .unset, .unset] [(.int (fl &&& (2 : Int32)))]))
    by_cases hc58_28 : (fl &&& (2 : Int32)) = (0 : Int32)
    · refine own_st (fun zt zk => XS.ifYes X8.here hx rfl (pc0 := 58) (pc' := 85) rfl (hb hby at_58) rfl ((if0 _ _).trans (teq hc58_28).1) (by decide) (by decide) zk) ?_
      show own_G p e below s _ _ _ (T8.setTop (mkF m 85 #[.val (.long l1), .second, .val (.long d1), .second, .val (.long l2), .second, .val (.long d2), .second, .val (.int fl), .val (.long ln1), .second, .val (.long bt1), .second, .val (.ref b3), .val (.long ln1), .second, .val (.long bt1), .second, .unset, .unset, .unset, .unset] []))
      refine own_st (fun zt zk => XS.lload X8.here hx rfl (hb hby at_85) rfl zk) ?_
      show own_G p e below s _ _ _ (T8.setTop (mkF m 87 #[.val (.long l1), .second, .val (.long d1), .second, .val (.long l2), .second, .val (.long d2), .second, .val (.int fl), .val (.long ln1), .second, .val (.long bt1), .second, .val (.ref b3), .val (.long ln1), .second, .val (.long bt1), .second, .unset, .unset, .unset, .unset] [(.long l2)]))
      obtain ⟨_, T29, L29, X29, hQ29, st29⟩ := own_callS X8 hx hZ (y := (⟨"com/example/deferral_ledger/deferralledger/model/JournalEndMoveToPinLaw", "lineOf", "(J)J"⟩ : MethodName)) (argsL := [(.long l2)]) (rest := []) 0 hown (hw _ (List.mem_of_getElem? (i := 0) rfl)) (hw _ (List.mem_of_getElem? (i := 1) rfl)) (hw _ (List.mem_of_getElem? (i := 2) rfl)) (hw _ (List.mem_of_getElem? (i := 3) rfl)) (by decide) (own_clin l Z a0 hw [] l2 T8.heap n0 (Nat.le_trans (Nat.le_trans (Nat.le_trans (Nat.le_trans (Nat.le_trans Z0 E3.1) K4.1) E5.1) K7.1) K8.1) ) (by decide) (by decide) rfl (g := (mkF m 87 #[.val (.long l1), .second, .val (.long d1), .second, .val (.long l2), .second, .val (.long d2), .second, .val (.int fl), .val (.long ln1), .second, .val (.long bt1), .second, .val (.ref b3), .val (.long ln1), .second, .val (.long bt1), .second, .unset, .unset, .unset, .unset] [(.long l2)])) rfl (by rw [hml]; rfl) own_pd2 rfl rfl (by show 2 * 0 + _ ≤ _; exact Nat.le_of_eq rfl) (hb hby at_87) (by decide) (by decide)
      obtain ⟨rfl, N29q, e29⟩ := hQ29
      have N29 := Fr.app N8 N29q
      refine own_st st29 ?_
      show own_G p e below s _ _ _ (T29.setTop (mkF m 90 #[.val (.long l1), .second, .val (.long d1), .second, .val (.long l2), .second, .val (.long d2), .second, .val (.int fl), .val (.long ln1), .second, .val (.long bt1), .second, .val (.ref b3), .val (.long ln1), .second, .val (.long bt1), .second, .unset, .unset, .unset, .unset] [(.long (own_line l2))]))
      refine own_st (fun zt zk => XS.lstore X29.here hx rfl (hb hby at_90) rfl (l' := #[.val (.long l1), .second, .val (.long d1), .second, .val (.long l2), .second, .val (.long d2), .second, .val (.int fl), .val (.long ln1), .second, .val (.long bt1), .second, .val (.ref b3), .val (.long ln1), .second, .val (.long bt1), .second, .val (.long (own_line l2)), .second, .unset, .unset]) rfl zk) ?_
      show own_G p e below s _ _ _ (T29.setTop (mkF m 92 #[.val (.long l1), .second, .val (.long d1), .second, .val (.long l2), .second, .val (.long d2), .second, .val (.int fl), .val (.long ln1), .second, .val (.long bt1), .second, .val (.ref b3), .val (.long ln1), .second, .val (.long bt1), .second, .val (.long (own_line l2)), .second, .unset, .unset] []))
      have f3 := own_lineR l2
      obtain ⟨ln2, q_ln2⟩ : ∃ z, z = (own_line l2) := ⟨_, rfl⟩
      rw [← q_ln2]
      show own_G p e below s _ _ _ (T29.setTop (mkF m 92 #[.val (.long l1), .second, .val (.long d1), .second, .val (.long l2), .second, .val (.long d2), .second, .val (.int fl), .val (.long ln1), .second, .val (.long bt1), .second, .val (.ref b3), .val (.long ln1), .second, .val (.long bt1), .second, .val (.long ln2), .second, .unset, .unset] []))
      rw [← q_ln2] at f3
      refine own_st (fun zt zk => XS.lload X29.here hx rfl (hb hby at_92) rfl zk) ?_
      show own_G p e below s _ _ _ (T29.setTop (mkF m 94 #[.val (.long l1), .second, .val (.long d1), .second, .val (.long l2), .second, .val (.long d2), .second, .val (.int fl), .val (.long ln1), .second, .val (.long bt1), .second, .val (.ref b3), .val (.long ln1), .second, .val (.long bt1), .second, .val (.long ln2), .second, .unset, .unset] [(.long ln2)]))
      refine own_st (fun zt zk => XS.lload X29.here hx rfl (hb hby at_94) rfl zk) ?_
      show own_G p e below s _ _ _ (T29.setTop (mkF m 96 #[.val (.long l1), .second, .val (.long d1), .second, .val (.long l2), .second, .val (.long d2), .second, .val (.int fl), .val (.long ln1), .second, .val (.long bt1), .second, .val (.ref b3), .val (.long ln1), .second, .val (.long bt1), .second, .val (.long ln2), .second, .unset, .unset] [(.long d2), (.long ln2)]))
      obtain ⟨_, T30, L30, X30, hQ30, st30⟩ := own_callS X29 hx hZ (y := (⟨"com/example/deferral_ledger/deferralledger/model/JournalEndMoveToPinLaw", "batchOf", "(JJ)J"⟩ : MethodName)) (argsL := [(.long ln2), (.long d2)]) (rest := []) 0 hown (hw _ (List.mem_of_getElem? (i := 7) rfl)) (hw _ (List.mem_of_getElem? (i := 8) rfl)) (hw _ (List.mem_of_getElem? (i := 2) rfl)) (hw _ (List.mem_of_getElem? (i := 9) rfl)) (by decide) (own_cbat l Z a0 hw [] ln2 d2 T8.heap n0 (Nat.le_trans (Nat.le_trans (Nat.le_trans (Nat.le_trans (Nat.le_trans Z0 E3.1) K4.1) E5.1) K7.1) K8.1) (own_nz (by rw [own_div _ (by omega)]; omega))) (by decide) (by decide) e29 (g := (mkF m 96 #[.val (.long l1), .second, .val (.long d1), .second, .val (.long l2), .second, .val (.long d2), .second, .val (.int fl), .val (.long ln1), .second, .val (.long bt1), .second, .val (.ref b3), .val (.long ln1), .second, .val (.long bt1), .second, .val (.long ln2), .second, .unset, .unset] [(.long d2), (.long ln2)])) rfl (by rw [hml]; rfl) own_pd3 rfl rfl (by show 2 * 0 + _ ≤ _; exact Nat.le_of_eq rfl) (hb hby at_96) (by decide) (by decide)
      obtain ⟨rfl, N30q, e30⟩ := hQ30
      have N30 := Fr.app N29 N30q
      refine own_st st30 ?_
      show own_G p e below s _ _ _ (T30.setTop (mkF m 99 #[.val (.long l1), .second, .val (.long d1), .second, .val (.long l2), .second, .val (.long d2), .second, .val (.int fl), .val (.long ln1), .second, .val (.long bt1), .second, .val (.ref b3), .val (.long ln1), .second, .val (.long bt1), .second, .val (.long ln2), .second, .unset, .unset] [(.long (own_batch ln2 d2))]))
      refine own_st (fun zt zk => XS.lstore X30.here hx rfl (hb hby at_99) rfl (l' := #[.val (.long l1), .second, .val (.long d1), .second, .val (.long l2), .second, .val (.long d2), .second, .val (.int fl), .val (.long ln1), .second, .val (.long bt1), .second, .val (.ref b3), .val (.long ln1), .second, .val (.long bt1), .second, .val (.long ln2), .second, .val (.long (own_batch ln2 d2)), .second]) rfl zk) ?_
      show own_G p e below s _ _ _ (T30.setTop (mkF m 101 #[.val (.long l1), .second, .val (.long d1), .second, .val (.long l2), .second, .val (.long d2), .second, .val (.int fl), .val (.long ln1), .second, .val (.long bt1), .second, .val (.ref b3), .val (.long ln1), .second, .val (.long bt1), .second, .val (.long ln2), .second, .val (.long (own_batch ln2 d2)), .second] []))
      have f4 := own_batchR ln2 d2 f3
      obtain ⟨bt2, q_bt2⟩ : ∃ z, z = (own_batch ln2 d2) := ⟨_, rfl⟩
      rw [← q_bt2]
      show own_G p e below s _ _ _ (T30.setTop (mkF m 101 #[.val (.long l1), .second, .val (.long d1), .second, .val (.long l2), .second, .val (.long d2), .second, .val (.int fl), .val (.long ln1), .second, .val (.long bt1), .second, .val (.ref b3), .val (.long ln1), .second, .val (.long bt1), .second, .val (.long ln2), .second, .val (.long bt2), .second] []))
      rw [← q_bt2] at f4
      refine own_st (fun zt zk => XS.aload X30.here hx rfl (hb hby at_101) rfl rfl zk) ?_
      show own_G p e below s _ _ _ (T30.setTop (mkF m 103 #[.val (.long l1), .second, .val (.long d1), .second, .val (.long l2), .second, .val (.long d2), .second, .val (.int fl), .val (.long ln1), .second, .val (.long bt1), .second, .val (.ref b3), .val (.long ln1), .second, .val (.long bt1), .second, .val (.long ln2), .second, .val (.long bt2), .second] [(.ref b3)]))
      have E32 : Exa Z T8.heap b3 "com/example/deferral_ledger/deferralledger/model/JournalEnd" := (E11.keep K8)
      have E33 : Exa Z T8.heap b5 "com/example/deferral_ledger/deferralledger/model/JournalPlace" := (E12.keep K8)
      obtain ⟨T31, h31, X31, e31, E31, A31, D31, -, st31⟩ := newO X30 hx hZ hown (hw _ (List.mem_of_getElem? (i := 24) rfl)) (hw _ (List.mem_of_getElem? (i := 25) rfl)) (hw _ (List.mem_of_getElem? (i := 26) rfl)) e30 (g := (mkF m 103 #[.val (.long l1), .second, .val (.long d1), .second, .val (.long l2), .second, .val (.long d2), .second, .val (.int fl), .val (.long ln1), .second, .val (.long bt1), .second, .val (.ref b3), .val (.long ln1), .second, .val (.long bt1), .second, .val (.long ln2), .second, .val (.long bt2), .second] [(.ref b3)])) rfl (hb hby at_103) (by decide) (by decide)
      obtain ⟨b31, g31⟩ : ∃ z, z = T8.heap.size := ⟨_, rfl⟩
      rw [← g31] at A31 D31 st31
      have ne31_b3 : b3 ≠ b31 := by rw [g31]; exact Nat.ne_of_lt E32.lt
      have ne31_b5 : b5 ≠ b31 := by rw [g31]; exact Nat.ne_of_lt E33.lt
      have ge31 : n0 ≤ b31 := Nat.le_trans (Nat.le_trans (Nat.le_trans (Nat.le_trans (Nat.le_trans (Nat.le_trans Z0 E3.1) K4.1) E5.1) K7.1) K8.1) (Nat.le_of_eq g31.symm)
      have sz31 : h0.size ≤ b31 := Nat.le_trans (Nat.le_trans (Nat.le_trans (Nat.le_trans (Nat.le_trans (Nat.le_trans (Nat.le_refl h0.size) E3.1) K4.1) E5.1) K7.1) K8.1) (Nat.le_of_eq g31.symm)
      refine own_st st31 ?_
      show own_G p e below s _ _ _ (T31.setTop (mkF m 106 #[.val (.long l1), .second, .val (.long d1), .second, .val (.long l2), .second, .val (.long d2), .second, .val (.int fl), .val (.long ln1), .second, .val (.long bt1), .second, .val (.ref b3), .val (.long ln1), .second, .val (.long bt1), .second, .val (.long ln2), .second, .val (.long bt2), .second] [(.ref b31), (.ref b3)]))
      refine own_st (fun zt zk => XS.dup X31.here hx rfl (hb hby at_106) rfl rfl zk) ?_
      show own_G p e below s _ _ _ (T31.setTop (mkF m 107 #[.val (.long l1), .second, .val (.long d1), .second, .val (.long l2), .second, .val (.long d2), .second, .val (.int fl), .val (.long ln1), .second, .val (.long bt1), .second, .val (.ref b3), .val (.long ln1), .second, .val (.long bt1), .second, .val (.long ln2), .second, .val (.long bt2), .second] [(.ref b31), (.ref b31), (.ref b3)]))
      refine own_st (fun zt zk => XS.lload X31.here hx rfl (hb hby at_107) rfl zk) ?_
      show own_G p e below s _ _ _ (T31.setTop (mkF m 109 #[.val (.long l1), .second, .val (.long d1), .second, .val (.long l2), .second, .val (.long d2), .second, .val (.int fl), .val (.long ln1), .second, .val (.long bt1), .second, .val (.ref b3), .val (.long ln1), .second, .val (.long bt1), .second, .val (.long ln2), .second, .val (.long bt2), .second] [(.long ln2), (.ref b31), (.ref b31), (.ref b3)]))
      refine own_st (fun zt zk => XS.lload X31.here hx rfl (hb hby at_109) rfl zk) ?_
      show own_G p e below s _ _ _ (T31.setTop (mkF m 111 #[.val (.long l1), .second, .val (.long d1), .second, .val (.long l2), .second, .val (.long d2), .second, .val (.int fl), .val (.long ln1), .second, .val (.long bt1), .second, .val (.ref b3), .val (.long ln1), .second, .val (.long bt1), .second, .val (.long ln2), .second, .val (.long bt2), .second] [(.long bt2), (.long ln2), (.ref b31), (.ref b31), (.ref b3)]))
      obtain ⟨_, T34, L34, X34, hQ34, st34⟩ := own_callI X31 hx hZ (y := (⟨"com/example/deferral_ledger/deferralledger/model/JournalPlace", "<init>", "(JJ)V"⟩ : MethodName)) (a := b31) (argsL := [(.long ln2), (.long bt2)]) (rest := [(.ref b31), (.ref b3)]) 2 rfl hown (hw _ (List.mem_of_getElem? (i := 27) rfl)) (hw _ (List.mem_of_getElem? (i := 28) rfl)) (hw _ (List.mem_of_getElem? (i := 26) rfl)) (hw _ (List.mem_of_getElem? (i := 29) rfl)) (by decide) (own_jpi l Z a0 hw [] b31 ln2 bt2 h31 n0 (Nat.le_trans (Nat.le_trans (Nat.le_trans (Nat.le_trans (Nat.le_trans (Nat.le_trans Z0 E3.1) K4.1) E5.1) K7.1) K8.1) E31.1) A31 (D31 (Or.inr (hw _ (List.mem_of_getElem? (i := 33) rfl))) (ty := .long) (by decide)) (D31 (Or.inr (hw _ (List.mem_of_getElem? (i := 35) rfl))) (ty := .long) (by decide)) ge31 (by rw [Int64.lt_iff_toInt_lt]; omega) (by rw [Int64.lt_iff_toInt_lt]; omega)) (by decide) (by decide) e31 (g := (mkF m 111 #[.val (.long l1), .second, .val (.long d1), .second, .val (.long l2), .second, .val (.long d2), .second, .val (.int fl), .val (.long ln1), .second, .val (.long bt1), .second, .val (.ref b3), .val (.long ln1), .second, .val (.long bt1), .second, .val (.long ln2), .second, .val (.long bt2), .second] [(.long bt2), (.long ln2), (.ref b31), (.ref b31), (.ref b3)])) rfl (by rw [hml]; rfl) own_pd1 rfl rfl (by show 2 * 0 + _ ≤ _; exact Nat.le_of_eq rfl) (hb hby at_111) (by decide) (by decide)
      obtain ⟨rfl, N34q, K34, q34_0, q34_1⟩ := hQ34
      have N34 := Fr.app N30 N34q
      refine own_st st34 ?_
      show own_G p e below s _ _ _ (T34.setTop (mkF m 114 #[.val (.long l1), .second, .val (.long d1), .second, .val (.long l2), .second, .val (.long d2), .second, .val (.int fl), .val (.long ln1), .second, .val (.long bt1), .second, .val (.ref b3), .val (.long ln1), .second, .val (.long bt1), .second, .val (.long ln2), .second, .val (.long bt2), .second] [(.ref b31), (.ref b3)]))
      have F36 : Fld Z T34.heap b3 "com/example/deferral_ledger/deferralledger/model/JournalEnd" "lastEntry" "J" (.long ln1) := ((q8_0.ext E31).keep K34 (ninS ne31_b3 nin0))
      have F37 : Fld Z T34.heap b3 "com/example/deferral_ledger/deferralledger/model/JournalEnd" "batch" "J" (.long bt1) := ((q8_1.ext E31).keep K34 (ninS ne31_b3 nin0))
      have E38 : Exa Z T34.heap b3 "com/example/deferral_ledger/deferralledger/model/JournalEnd" := ((E32.ext E31).keep K34)
      have E39 : Exa Z T34.heap b31 "com/example/deferral_ledger/deferralledger/model/JournalPlace" := (A31.keep K34)
      obtain ⟨_, T35, L35, X35, hQ35, st35⟩ := own_callV X34 hx hZ (C := "com/example/deferral_ledger/deferralledger/model/JournalEnd") (y := (⟨"com/example/deferral_ledger/deferralledger/model/JournalEnd", "moveTo", "(Lcom/example/deferral_ledger/deferralledger/model/JournalPlace;)V"⟩ : MethodName)) (z := (⟨"com/example/deferral_ledger/deferralledger/model/JournalEnd", "moveTo", "(Lcom/example/deferral_ledger/deferralledger/model/JournalPlace;)V"⟩ : MethodName)) (a := b3) (argsL := [(.ref b31)]) (rest := []) 0 hown (hw _ (List.mem_of_getElem? (i := 36) rfl)) (hw _ (List.mem_of_getElem? (i := 37) rfl)) (own_nf hZ (hw _ (List.mem_of_getElem? (i := 39) rfl))) (hw _ (List.mem_of_getElem? (i := 39) rfl)) (hw _ (List.mem_of_getElem? (i := 38) rfl)) (hw _ (List.mem_of_getElem? (i := 13) rfl)) (hw _ (List.mem_of_getElem? (i := 40) rfl)) (by decide) (own_mov l Z a0 hw [] b3 b31 ln1 bt1 ln2 bt2 T34.heap n0 (Nat.le_trans (Nat.le_trans (Nat.le_trans (Nat.le_trans (Nat.le_trans (Nat.le_trans (Nat.le_trans Z0 E3.1) K4.1) E5.1) K7.1) K8.1) E31.1) K34.1) E38 E39 F36 F37 q34_0 q34_1 ge3 ne31_b3) (by decide) (by decide) rfl E38 (g := (mkF m 114 #[.val (.long l1), .second, .val (.long d1), .second, .val (.long l2), .second, .val (.long d2), .second, .val (.int fl), .val (.long ln1), .second, .val (.long bt1), .second, .val (.ref b3), .val (.long ln1), .second, .val (.long bt1), .second, .val (.long ln2), .second, .val (.long bt2), .second] [(.ref b31), (.ref b3)])) rfl (by rw [hml]; rfl) own_pd5 rfl rfl (by show 2 * 0 + _ ≤ _; exact Nat.le_of_eq rfl) (hb hby at_114) (by decide) (by decide)
      obtain ⟨rfl, N35q, K35, q35_0, q35_1⟩ := hQ35
      have N35 := Fr.app N34 N35q
      refine own_st st35 ?_
      show own_G p e below s _ _ _ (T35.setTop (mkF m 117 #[.val (.long l1), .second, .val (.long d1), .second, .val (.long l2), .second, .val (.long d2), .second, .val (.int fl), .val (.long ln1), .second, .val (.long bt1), .second, .val (.ref b3), .val (.long ln1), .second, .val (.long bt1), .second, .val (.long ln2), .second, .val (.long bt2), .second] []))
      refine own_st (fun zt zk => XS.lload X35.here hx rfl (hb hby at_117) rfl zk) ?_
      show own_G p e below s _ _ _ (T35.setTop (mkF m 119 #[.val (.long l1), .second, .val (.long d1), .second, .val (.long l2), .second, .val (.long d2), .second, .val (.int fl), .val (.long ln1), .second, .val (.long bt1), .second, .val (.ref b3), .val (.long ln1), .second, .val (.long bt1), .second, .val (.long ln2), .second, .val (.long bt2), .second] [(.long ln2)]))
      refine own_st (fun zt zk => XS.lstore X35.here hx rfl (hb hby at_119) rfl (l' := #[.val (.long l1), .second, .val (.long d1), .second, .val (.long l2), .second, .val (.long d2), .second, .val (.int fl), .val (.long ln1), .second, .val (.long bt1), .second, .val (.ref b3), .val (.long ln2), .second, .val (.long bt1), .second, .val (.long ln2), .second, .val (.long bt2), .second]) rfl zk) ?_
      show own_G p e below s _ _ _ (T35.setTop (mkF m 121 #[.val (.long l1), .second, .val (.long d1), .second, .val (.long l2), .second, .val (.long d2), .second, .val (.int fl), .val (.long ln1), .second, .val (.long bt1), .second, .val (.ref b3), .val (.long ln2), .second, .val (.long bt1), .second, .val (.long ln2), .second, .val (.long bt2), .second] []))
      refine own_st (fun zt zk => XS.lload X35.here hx rfl (hb hby at_121) rfl zk) ?_
      show own_G p e below s _ _ _ (T35.setTop (mkF m 123 #[.val (.long l1), .second, .val (.long d1), .second, .val (.long l2), .second, .val (.long d2), .second, .val (.int fl), .val (.long ln1), .second, .val (.long bt1), .second, .val (.ref b3), .val (.long ln2), .second, .val (.long bt1), .second, .val (.long ln2), .second, .val (.long bt2), .second] [(.long bt2)]))
      refine own_st (fun zt zk => XS.lstore X35.here hx rfl (hb hby at_123) rfl (l' := #[.val (.long l1), .second, .val (.long d1), .second, .val (.long l2), .second, .val (.long d2), .second, .val (.int fl), .val (.long ln1), .second, .val (.long bt1), .second, .val (.ref b3), .val (.long ln2), .second, .val (.long bt2), .second, .val (.long ln2), .second, .val (.long bt2), .second]) rfl zk) ?_
      show own_G p e below s _ _ _ (T35.setTop (mkF m 125 #[.val (.long l1), .second, .val (.long d1), .second, .val (.long l2), .second, .val (.long d2), .second, .val (.int fl), .val (.long ln1), .second, .val (.long bt1), .second, .val (.ref b3), .val (.long ln2), .second, .val (.long bt2), .second, .val (.long ln2), .second, .val (.long bt2), .second] []))
      have g1 := c_ladd bt2 1
      have g2 := c_ladd bt2 2
      have g3 := c_ladd ln2 1
      have s1 := rng64 (bt2 + 1)
      have s2 := rng64 (bt2 + 2)
      have s3 := rng64 (ln2 + 1)
      have s4 := rng64 bt2
      have s5 := rng64 ln2
      refine own_st (fun zt zk => XS.aload X35.here hx rfl (hb hby at_125) rfl rfl zk) ?_
      show own_G p e below s _ _ _ (T35.setTop (mkF m 127 #[.val (.long l1), .second, .val (.long d1), .second, .val (.long l2), .second, .val (.long d2), .second, .val (.int fl), .val (.long ln1), .second, .val (.long bt1), .second, .val (.ref b3), .val (.long ln2), .second, .val (.long bt2), .second, .val (.long ln2), .second, .val (.long bt2), .second] [(.ref b3)]))
      have E41 : Exa Z T35.heap b3 "com/example/deferral_ledger/deferralledger/model/JournalEnd" := (E38.keep K35)
      obtain ⟨_, T40, L40, X40, hQ40, st40⟩ := own_callV X35 hx hZ (C := "com/example/deferral_ledger/deferralledger/model/JournalEnd") (y := (⟨"com/example/deferral_ledger/deferralledger/model/JournalEnd", "next", "()Lcom/example/deferral_ledger/deferralledger/model/JournalPlace;"⟩ : MethodName)) (z := (⟨"com/example/deferral_ledger/deferralledger/model/JournalEnd", "next", "()Lcom/example/deferral_ledger/deferralledger/model/JournalPlace;"⟩ : MethodName)) (a := b3) (argsL := []) (rest := []) 0 hown (hw _ (List.mem_of_getElem? (i := 51) rfl)) (hw _ (List.mem_of_getElem? (i := 52) rfl)) (own_nf hZ (hw _ (List.mem_of_getElem? (i := 54) rfl))) (hw _ (List.mem_of_getElem? (i := 54) rfl)) (hw _ (List.mem_of_getElem? (i := 53) rfl)) (hw _ (List.mem_of_getElem? (i := 13) rfl)) (hw _ (List.mem_of_getElem? (i := 55) rfl)) (by decide) (own_nxt l Z a0 hw [] b3 bt2 T35.heap n0 (Nat.le_trans (Nat.le_trans (Nat.le_trans (Nat.le_trans (Nat.le_trans (Nat.le_trans (Nat.le_trans (Nat.le_trans Z0 E3.1) K4.1) E5.1) K7.1) K8.1) E31.1) K34.1) K35.1) E41 q35_1 (by rw [Int64.lt_iff_toInt_lt]; omega) (by rw [Int64.lt_iff_toInt_lt]; omega)) (by decide) (by decide) rfl E41 (g := (mkF m 127 #[.val (.long l1), .second, .val (.long d1), .second, .val (.long l2), .second, .val (.long d2), .second, .val (.int fl), .val (.long ln1), .second, .val (.long bt1), .second, .val (.ref b3), .val (.long ln2), .second, .val (.long bt2), .second, .val (.long ln2), .second, .val (.long bt2), .second] [(.ref b3)])) rfl (by rw [hml]; rfl) own_pd6 rfl rfl (by show 2 * 0 + _ ≤ _; exact Nat.le_of_eq rfl) (hb hby at_127) (by decide) (by decide)
      obtain ⟨nb40, rfl, N40q, K40, snb40, q40_0, q40_1, q40_2⟩ := hQ40
      have N40 := Fr.app N35 N40q
      refine own_st st40 ?_
      have ne40_nb_b3 : b3 ≠ nb40 := Nat.ne_of_lt (Nat.lt_of_lt_of_le E41.lt snb40)
      have ne40_nb_b5 : b5 ≠ nb40 := Nat.ne_of_lt (Nat.lt_of_lt_of_le (((E33.ext E31).keep K34).keep K35).lt snb40)
      have ne40_nb_b31 : b31 ≠ nb40 := Nat.ne_of_lt (Nat.lt_of_lt_of_le (E39.keep K35).lt snb40)
      have ge40_nb : n0 ≤ nb40 := Nat.le_trans (Nat.le_trans (Nat.le_trans (Nat.le_trans (Nat.le_trans (Nat.le_trans (Nat.le_trans (Nat.le_trans (Nat.le_trans Z0 E3.1) K4.1) E5.1) K7.1) K8.1) E31.1) K34.1) K35.1) snb40
      have sz40_nb : h0.size ≤ nb40 := Nat.le_trans (Nat.le_trans (Nat.le_trans (Nat.le_trans (Nat.le_trans (Nat.le_trans (Nat.le_trans (Nat.le_trans (Nat.le_trans (Nat.le_refl h0.size) E3.1) K4.1) E5.1) K7.1) K8.1) E31.1) K34.1) K35.1) snb40
      show own_G p e below s _ _ _ (T40.setTop (mkF m 130 #[.val (.long l1), .second, .val (.long d1), .second, .val (.long l2), .second, .val (.long d2), .second, .val (.int fl), .val (.long ln1), .second, .val (.long bt1), .second, .val (.ref b3), .val (.long ln2), .second, .val (.long bt2), .second, .val (.long ln2), .second, .val (.long bt2), .second] [(.ref nb40)]))
      refine own_st (fun zt zk => XS.astore X40.here hx rfl (hb hby at_130) rfl rfl (l' := #[.val (.long l1), .second, .val (.long d1), .second, .val (.long l2), .second, .val (.long d2), .second, .val (.int fl), .val (.long ln1), .second, .val (.long bt1), .second, .val (.ref b3), .val (.long ln2), .second, .val (.long bt2), .second, .val (.ref nb40), .unset, .val (.long bt2), .second]) rfl zk) ?_
      show own_G p e below s _ _ _ (T40.setTop (mkF m 132 #[.val (.long l1), .second, .val (.long d1), .second, .val (.long l2), .second, .val (.long d2), .second, .val (.int fl), .val (.long ln1), .second, .val (.long bt1), .second, .val (.ref b3), .val (.long ln2), .second, .val (.long bt2), .second, .val (.ref nb40), .unset, .val (.long bt2), .second] []))
      refine own_st (fun zt zk => XS.aload X40.here hx rfl (hb hby at_132) rfl rfl zk) ?_
      show own_G p e below s _ _ _ (T40.setTop (mkF m 134 #[.val (.long l1), .second, .val (.long d1), .second, .val (.long l2), .second, .val (.long d2), .second, .val (.int fl), .val (.long ln1), .second, .val (.long bt1), .second, .val (.ref b3), .val (.long ln2), .second, .val (.long bt2), .second, .val (.ref nb40), .unset, .val (.long bt2), .second] [(.ref nb40)]))
      obtain ⟨_, T42, L42, X42, hQ42, st42⟩ := own_callV X40 hx hZ (C := "com/example/deferral_ledger/deferralledger/model/JournalPlace") (y := (⟨"com/example/deferral_ledger/deferralledger/model/JournalPlace", "line", "()J"⟩ : MethodName)) (z := (⟨"com/example/deferral_ledger/deferralledger/model/JournalPlace", "line", "()J"⟩ : MethodName)) (a := nb40) (argsL := []) (rest := []) 0 hown (hw _ (List.mem_of_getElem? (i := 59) rfl)) (hw _ (List.mem_of_getElem? (i := 42) rfl)) (own_nf hZ (hw _ (List.mem_of_getElem? (i := 44) rfl))) (hw _ (List.mem_of_getElem? (i := 44) rfl)) (hw _ (List.mem_of_getElem? (i := 43) rfl)) (hw _ (List.mem_of_getElem? (i := 26) rfl)) (hw _ (List.mem_of_getElem? (i := 45) rfl)) (by decide) (own_gl l Z a0 hw [] nb40 (bt2 + (1 : Int64)) T40.heap n0 (Nat.le_trans (Nat.le_trans (Nat.le_trans (Nat.le_trans (Nat.le_trans (Nat.le_trans (Nat.le_trans (Nat.le_trans (Nat.le_trans Z0 E3.1) K4.1) E5.1) K7.1) K8.1) E31.1) K34.1) K35.1) K40.1) q40_1) (by decide) (by decide) rfl q40_0 (g := (mkF m 134 #[.val (.long l1), .second, .val (.long d1), .second, .val (.long l2), .second, .val (.long d2), .second, .val (.int fl), .val (.long ln1), .second, .val (.long bt1), .second, .val (.ref b3), .val (.long ln2), .second, .val (.long bt2), .second, .val (.ref nb40), .unset, .val (.long bt2), .second] [(.ref nb40)])) rfl (by rw [hml]; rfl) own_pd0 rfl rfl (by show 2 * 0 + _ ≤ _; exact Nat.le_of_eq rfl) (hb hby at_134) (by decide) (by decide)
      obtain ⟨rfl, N42q, e42⟩ := hQ42
      have N42 := Fr.app N40 N42q
      refine own_st st42 ?_
      show own_G p e below s _ _ _ (T42.setTop (mkF m 137 #[.val (.long l1), .second, .val (.long d1), .second, .val (.long l2), .second, .val (.long d2), .second, .val (.int fl), .val (.long ln1), .second, .val (.long bt1), .second, .val (.ref b3), .val (.long ln2), .second, .val (.long bt2), .second, .val (.ref nb40), .unset, .val (.long bt2), .second] [(.long (bt2 + (1 : Int64)))]))
      refine own_st (fun zt zk => XS.lload X42.here hx rfl (hb hby at_137) rfl zk) ?_
      show own_G p e below s _ _ _ (T42.setTop (mkF m 139 #[.val (.long l1), .second, .val (.long d1), .second, .val (.long l2), .second, .val (.long d2), .second, .val (.int fl), .val (.long ln1), .second, .val (.long bt1), .second, .val (.ref b3), .val (.long ln2), .second, .val (.long bt2), .second, .val (.ref nb40), .unset, .val (.long bt2), .second] [(.long bt2), (.long (bt2 + (1 : Int64)))]))
      refine own_st (fun zt zk => XS.lconst X42.here hx rfl (hb hby at_139) zk) ?_
      show own_G p e below s _ _ _ (T42.setTop (mkF m 140 #[.val (.long l1), .second, .val (.long d1), .second, .val (.long l2), .second, .val (.long d2), .second, .val (.int fl), .val (.long ln1), .second, .val (.long bt1), .second, .val (.ref b3), .val (.long ln2), .second, .val (.long bt2), .second, .val (.ref nb40), .unset, .val (.long bt2), .second] [(.long (1 : Int64)), (.long bt2), (.long (bt2 + (1 : Int64)))]))
      refine own_st (fun zt zk => XS.ladd X42.here hx rfl (hb hby at_140) rfl zk) ?_
      show own_G p e below s _ _ _ (T42.setTop (mkF m 141 #[.val (.long l1), .second, .val (.long d1), .second, .val (.long l2), .second, .val (.long d2), .second, .val (.int fl), .val (.long ln1), .second, .val (.long bt1), .second, .val (.ref b3), .val (.long ln2), .second, .val (.long bt2), .second, .val (.ref nb40), .unset, .val (.long bt2), .second] [(.long (bt2 + (1 : Int64))), (.long (bt2 + (1 : Int64)))]))
      refine own_st (fun zt zk => XS.lcmp X42.here hx rfl (hb hby at_141) rfl zk) ?_
      show own_G p e below s _ _ _ (T42.setTop (mkF m 142 #[.val (.long l1), .second, .val (.long d1), .second, .val (.long l2), .second, .val (.long d2), .second, .val (.int fl), .val (.long ln1), .second, .val (.long bt1), .second, .val (.ref b3), .val (.long ln2), .second, .val (.long bt2), .second, .val (.ref nb40), .unset, .val (.long bt2), .second] [(.int (lcmpW (bt2 + (1 : Int64)) (bt2 + (1 : Int64))))]))
      refine own_st (fun zt zk => XS.ifNo X42.here hx rfl (hb hby at_142) rfl ((if0 _ _).trans (teq ((lw_eq (bt2 + (1 : Int64)) (bt2 + (1 : Int64))).mpr (rfl : (bt2 + (1 : Int64)) = (bt2 + (1 : Int64))))).2) zk) ?_
      show own_G p e below s _ _ _ (T42.setTop (mkF m 145 #[.val (.long l1), .second, .val (.long d1), .second, .val (.long l2), .second, .val (.long d2), .second, .val (.int fl), .val (.long ln1), .second, .val (.long bt1), .second, .val (.ref b3), .val (.long ln2), .second, .val (.long bt2), .second, .val (.ref nb40), .unset, .val (.long bt2), .second] []))
      refine own_st (fun zt zk => XS.aload X42.here hx rfl (hb hby at_145) rfl rfl zk) ?_
      show own_G p e below s _ _ _ (T42.setTop (mkF m 147 #[.val (.long l1), .second, .val (.long d1), .second, .val (.long l2), .second, .val (.long d2), .second, .val (.int fl), .val (.long ln1), .second, .val (.long bt1), .second, .val (.ref b3), .val (.long ln2), .second, .val (.long bt2), .second, .val (.ref nb40), .unset, .val (.long bt2), .second] [(.ref nb40)]))
      obtain ⟨_, T43, L43, X43, hQ43, st43⟩ := own_callV X42 hx hZ (C := "com/example/deferral_ledger/deferralledger/model/JournalPlace") (y := (⟨"com/example/deferral_ledger/deferralledger/model/JournalPlace", "batch", "()J"⟩ : MethodName)) (z := (⟨"com/example/deferral_ledger/deferralledger/model/JournalPlace", "batch", "()J"⟩ : MethodName)) (a := nb40) (argsL := []) (rest := []) 0 hown (hw _ (List.mem_of_getElem? (i := 60) rfl)) (hw _ (List.mem_of_getElem? (i := 47) rfl)) (own_nf hZ (hw _ (List.mem_of_getElem? (i := 49) rfl))) (hw _ (List.mem_of_getElem? (i := 49) rfl)) (hw _ (List.mem_of_getElem? (i := 48) rfl)) (hw _ (List.mem_of_getElem? (i := 26) rfl)) (hw _ (List.mem_of_getElem? (i := 50) rfl)) (by decide) (own_gb l Z a0 hw [] nb40 (bt2 + (2 : Int64)) T40.heap n0 (Nat.le_trans (Nat.le_trans (Nat.le_trans (Nat.le_trans (Nat.le_trans (Nat.le_trans (Nat.le_trans (Nat.le_trans (Nat.le_trans Z0 E3.1) K4.1) E5.1) K7.1) K8.1) E31.1) K34.1) K35.1) K40.1) q40_2) (by decide) (by decide) e42 q40_0 (g := (mkF m 147 #[.val (.long l1), .second, .val (.long d1), .second, .val (.long l2), .second, .val (.long d2), .second, .val (.int fl), .val (.long ln1), .second, .val (.long bt1), .second, .val (.ref b3), .val (.long ln2), .second, .val (.long bt2), .second, .val (.ref nb40), .unset, .val (.long bt2), .second] [(.ref nb40)])) rfl (by rw [hml]; rfl) own_pd0 rfl rfl (by show 2 * 0 + _ ≤ _; exact Nat.le_of_eq rfl) (hb hby at_147) (by decide) (by decide)
      obtain ⟨rfl, N43q, e43⟩ := hQ43
      have N43 := Fr.app N42 N43q
      refine own_st st43 ?_
      show own_G p e below s _ _ _ (T43.setTop (mkF m 150 #[.val (.long l1), .second, .val (.long d1), .second, .val (.long l2), .second, .val (.long d2), .second, .val (.int fl), .val (.long ln1), .second, .val (.long bt1), .second, .val (.ref b3), .val (.long ln2), .second, .val (.long bt2), .second, .val (.ref nb40), .unset, .val (.long bt2), .second] [(.long (bt2 + (2 : Int64)))]))
      refine own_st (fun zt zk => XS.lload X43.here hx rfl (hb hby at_150) rfl zk) ?_
      show own_G p e below s _ _ _ (T43.setTop (mkF m 152 #[.val (.long l1), .second, .val (.long d1), .second, .val (.long l2), .second, .val (.long d2), .second, .val (.int fl), .val (.long ln1), .second, .val (.long bt1), .second, .val (.ref b3), .val (.long ln2), .second, .val (.long bt2), .second, .val (.ref nb40), .unset, .val (.long bt2), .second] [(.long bt2), (.long (bt2 + (2 : Int64)))]))
      refine own_st (X43.ldc2Long hx hown (mvT hZ (hw _ (List.mem_of_getElem? (i := 4) rfl))) (g := (mkF m 152 #[.val (.long l1), .second, .val (.long d1), .second, .val (.long l2), .second, .val (.long d2), .second, .val (.int fl), .val (.long ln1), .second, .val (.long bt1), .second, .val (.ref b3), .val (.long ln2), .second, .val (.long bt2), .second, .val (.ref nb40), .unset, .val (.long bt2), .second] [(.long bt2), (.long (bt2 + (2 : Int64)))])) rfl (hb hby at_152)) ?_
      show own_G p e below s _ _ _ (T43.setTop (mkF m 155 #[.val (.long l1), .second, .val (.long d1), .second, .val (.long l2), .second, .val (.long d2), .second, .val (.int fl), .val (.long ln1), .second, .val (.long bt1), .second, .val (.ref b3), .val (.long ln2), .second, .val (.long bt2), .second, .val (.ref nb40), .unset, .val (.long bt2), .second] [(.long (2 : Int64)), (.long bt2), (.long (bt2 + (2 : Int64)))]))
      refine own_st (fun zt zk => XS.ladd X43.here hx rfl (hb hby at_155) rfl zk) ?_
      show own_G p e below s _ _ _ (T43.setTop (mkF m 156 #[.val (.long l1), .second, .val (.long d1), .second, .val (.long l2), .second, .val (.long d2), .second, .val (.int fl), .val (.long ln1), .second, .val (.long bt1), .second, .val (.ref b3), .val (.long ln2), .second, .val (.long bt2), .second, .val (.ref nb40), .unset, .val (.long bt2), .second] [(.long (bt2 + (2 : Int64))), (.long (bt2 + (2 : Int64)))]))
      refine own_st (fun zt zk => XS.lcmp X43.here hx rfl (hb hby at_156) rfl zk) ?_
      show own_G p e below s _ _ _ (T43.setTop (mkF m 157 #[.val (.long l1), .second, .val (.long d1), .second, .val (.long l2), .second, .val (.long d2), .second, .val (.int fl), .val (.long ln1), .second, .val (.long bt1), .second, .val (.ref b3), .val (.long ln2), .second, .val (.long bt2), .second, .val (.ref nb40), .unset, .val (.long bt2), .second] [(.int (lcmpW (bt2 + (2 : Int64)) (bt2 + (2 : Int64))))]))
      refine own_st (fun zt zk => XS.ifNo X43.here hx rfl (hb hby at_157) rfl ((if0 _ _).trans (teq ((lw_eq (bt2 + (2 : Int64)) (bt2 + (2 : Int64))).mpr (rfl : (bt2 + (2 : Int64)) = (bt2 + (2 : Int64))))).2) zk) ?_
      show own_G p e below s _ _ _ (T43.setTop (mkF m 160 #[.val (.long l1), .second, .val (.long d1), .second, .val (.long l2), .second, .val (.long d2), .second, .val (.int fl), .val (.long ln1), .second, .val (.long bt1), .second, .val (.ref b3), .val (.long ln2), .second, .val (.long bt2), .second, .val (.ref nb40), .unset, .val (.long bt2), .second] []))
      refine own_st (fun zt zk => XS.iconst X43.here hx rfl (hb hby at_160) zk) ?_
      show own_G p e below s _ _ _ (T43.setTop (mkF m 161 #[.val (.long l1), .second, .val (.long d1), .second, .val (.long l2), .second, .val (.long d2), .second, .val (.int fl), .val (.long ln1), .second, .val (.long bt1), .second, .val (.ref b3), .val (.long ln2), .second, .val (.long bt2), .second, .val (.ref nb40), .unset, .val (.long bt2), .second] [(.int (1 : Int32))]))
      refine own_st (fun zt zk => XS.goto X43.here hx rfl (pc0 := 161) (pc' := 165) rfl (hb hby at_161) (by decide) (by decide) zk) ?_
      show own_G p e below s _ _ _ (T43.setTop (mkF m 165 #[.val (.long l1), .second, .val (.long d1), .second, .val (.long l2), .second, .val (.long d2), .second, .val (.int fl), .val (.long ln1), .second, .val (.long bt1), .second, .val (.ref b3), .val (.long ln2), .second, .val (.long bt2), .second, .val (.ref nb40), .unset, .val (.long bt2), .second] [(.int (1 : Int32))]))
      refine own_st (fun zt zk => XS.istore X43.here hx rfl (hb hby at_165) rfl (l' := #[.val (.long l1), .second, .val (.long d1), .second, .val (.long l2), .second, .val (.long d2), .second, .val (.int fl), .val (.long ln1), .second, .val (.long bt1), .second, .val (.ref b3), .val (.long ln2), .second, .val (.long bt2), .second, .val (.ref nb40), .val (.int (1 : Int32)), .val (.long bt2), .second]) rfl zk) ?_
      show own_G p e below s _ _ _ (T43.setTop (mkF m 167 #[.val (.long l1), .second, .val (.long d1), .second, .val (.long l2), .second, .val (.long d2), .second, .val (.int fl), .val (.long ln1), .second, .val (.long bt1), .second, .val (.ref b3), .val (.long ln2), .second, .val (.long bt2), .second, .val (.ref nb40), .val (.int (1 : Int32)), .val (.long bt2), .second] []))
      refine own_st (fun zt zk => XS.lload X43.here hx rfl (hb hby at_167) rfl zk) ?_
      show own_G p e below s _ _ _ (T43.setTop (mkF m 169 #[.val (.long l1), .second, .val (.long d1), .second, .val (.long l2), .second, .val (.long d2), .second, .val (.int fl), .val (.long ln1), .second, .val (.long bt1), .second, .val (.ref b3), .val (.long ln2), .second, .val (.long bt2), .second, .val (.ref nb40), .val (.int (1 : Int32)), .val (.long bt2), .second] [(.long ln2)]))
      refine own_st (fun zt zk => XS.lload X43.here hx rfl (hb hby at_169) rfl zk) ?_
      show own_G p e below s _ _ _ (T43.setTop (mkF m 171 #[.val (.long l1), .second, .val (.long d1), .second, .val (.long l2), .second, .val (.long d2), .second, .val (.int fl), .val (.long ln1), .second, .val (.long bt1), .second, .val (.ref b3), .val (.long ln2), .second, .val (.long bt2), .second, .val (.ref nb40), .val (.int (1 : Int32)), .val (.long bt2), .second] [(.long bt2), (.long ln2)]))
      refine own_st (fun zt zk => XS.lcmp X43.here hx rfl (hb hby at_171) rfl zk) ?_
      show own_G p e below s _ _ _ (T43.setTop (mkF m 172 #[.val (.long l1), .second, .val (.long d1), .second, .val (.long l2), .second, .val (.long d2), .second, .val (.int fl), .val (.long ln1), .second, .val (.long bt1), .second, .val (.ref b3), .val (.long ln2), .second, .val (.long bt2), .second, .val (.ref nb40), .val (.int (1 : Int32)), .val (.long bt2), .second] [(.int (lcmpW ln2 bt2))]))
      by_cases hc172_44 : ln2 < bt2
      · refine own_st (fun zt zk => XS.ifNo X43.here hx rfl (hb hby at_172) rfl ((if0 _ _).trans (tlt ((lw_lt ln2 bt2).mpr hc172_44)).2.1) zk) ?_
        show own_G p e below s _ _ _ (T43.setTop (mkF m 175 #[.val (.long l1), .second, .val (.long d1), .second, .val (.long l2), .second, .val (.long d2), .second, .val (.int fl), .val (.long ln1), .second, .val (.long bt1), .second, .val (.ref b3), .val (.long ln2), .second, .val (.long bt2), .second, .val (.ref nb40), .val (.int (1 : Int32)), .val (.long bt2), .second] []))
        refine own_st (fun zt zk => XS.aload X43.here hx rfl (hb hby at_175) rfl rfl zk) ?_
        show own_G p e below s _ _ _ (T43.setTop (mkF m 177 #[.val (.long l1), .second, .val (.long d1), .second, .val (.long l2), .second, .val (.long d2), .second, .val (.int fl), .val (.long ln1), .second, .val (.long bt1), .second, .val (.ref b3), .val (.long ln2), .second, .val (.long bt2), .second, .val (.ref nb40), .val (.int (1 : Int32)), .val (.long bt2), .second] [(.ref b3)]))
        have E46 : Exa Z T40.heap b3 "com/example/deferral_ledger/deferralledger/model/JournalEnd" := (E41.keep K40)
        have E47 : Exa Z T40.heap b5 "com/example/deferral_ledger/deferralledger/model/JournalPlace" := ((((E33.ext E31).keep K34).keep K35).keep K40)
        have E48 : Exa Z T40.heap b31 "com/example/deferral_ledger/deferralledger/model/JournalPlace" := ((E39.keep K35).keep K40)
        obtain ⟨T45, h45, X45, e45, E45, A45, D45, -, st45⟩ := newO X43 hx hZ hown (hw _ (List.mem_of_getElem? (i := 24) rfl)) (hw _ (List.mem_of_getElem? (i := 25) rfl)) (hw _ (List.mem_of_getElem? (i := 26) rfl)) e43 (g := (mkF m 177 #[.val (.long l1), .second, .val (.long d1), .second, .val (.long l2), .second, .val (.long d2), .second, .val (.int fl), .val (.long ln1), .second, .val (.long bt1), .second, .val (.ref b3), .val (.long ln2), .second, .val (.long bt2), .second, .val (.ref nb40), .val (.int (1 : Int32)), .val (.long bt2), .second] [(.ref b3)])) rfl (hb hby at_177) (by decide) (by decide)
        obtain ⟨b45, g45⟩ : ∃ z, z = T40.heap.size := ⟨_, rfl⟩
        rw [← g45] at A45 D45 st45
        have ne45_b3 : b3 ≠ b45 := by rw [g45]; exact Nat.ne_of_lt E46.lt
        have ne45_b5 : b5 ≠ b45 := by rw [g45]; exact Nat.ne_of_lt E47.lt
        have ne45_b31 : b31 ≠ b45 := by rw [g45]; exact Nat.ne_of_lt E48.lt
        have ne45_nb40 : nb40 ≠ b45 := by rw [g45]; exact Nat.ne_of_lt q40_0.lt
        have ge45 : n0 ≤ b45 := Nat.le_trans (Nat.le_trans (Nat.le_trans (Nat.le_trans (Nat.le_trans (Nat.le_trans (Nat.le_trans (Nat.le_trans (Nat.le_trans (Nat.le_trans Z0 E3.1) K4.1) E5.1) K7.1) K8.1) E31.1) K34.1) K35.1) K40.1) (Nat.le_of_eq g45.symm)
        have sz45 : h0.size ≤ b45 := Nat.le_trans (Nat.le_trans (Nat.le_trans (Nat.le_trans (Nat.le_trans (Nat.le_trans (Nat.le_trans (Nat.le_trans (Nat.le_trans (Nat.le_trans (Nat.le_refl h0.size) E3.1) K4.1) E5.1) K7.1) K8.1) E31.1) K34.1) K35.1) K40.1) (Nat.le_of_eq g45.symm)
        refine own_st st45 ?_
        show own_G p e below s _ _ _ (T45.setTop (mkF m 180 #[.val (.long l1), .second, .val (.long d1), .second, .val (.long l2), .second, .val (.long d2), .second, .val (.int fl), .val (.long ln1), .second, .val (.long bt1), .second, .val (.ref b3), .val (.long ln2), .second, .val (.long bt2), .second, .val (.ref nb40), .val (.int (1 : Int32)), .val (.long bt2), .second] [(.ref b45), (.ref b3)]))
        refine own_st (fun zt zk => XS.dup X45.here hx rfl (hb hby at_180) rfl rfl zk) ?_
        show own_G p e below s _ _ _ (T45.setTop (mkF m 181 #[.val (.long l1), .second, .val (.long d1), .second, .val (.long l2), .second, .val (.long d2), .second, .val (.int fl), .val (.long ln1), .second, .val (.long bt1), .second, .val (.ref b3), .val (.long ln2), .second, .val (.long bt2), .second, .val (.ref nb40), .val (.int (1 : Int32)), .val (.long bt2), .second] [(.ref b45), (.ref b45), (.ref b3)]))
        refine own_st (fun zt zk => XS.lload X45.here hx rfl (hb hby at_181) rfl zk) ?_
        show own_G p e below s _ _ _ (T45.setTop (mkF m 183 #[.val (.long l1), .second, .val (.long d1), .second, .val (.long l2), .second, .val (.long d2), .second, .val (.int fl), .val (.long ln1), .second, .val (.long bt1), .second, .val (.ref b3), .val (.long ln2), .second, .val (.long bt2), .second, .val (.ref nb40), .val (.int (1 : Int32)), .val (.long bt2), .second] [(.long ln2), (.ref b45), (.ref b45), (.ref b3)]))
        refine own_st (fun zt zk => XS.lconst X45.here hx rfl (hb hby at_183) zk) ?_
        show own_G p e below s _ _ _ (T45.setTop (mkF m 184 #[.val (.long l1), .second, .val (.long d1), .second, .val (.long l2), .second, .val (.long d2), .second, .val (.int fl), .val (.long ln1), .second, .val (.long bt1), .second, .val (.ref b3), .val (.long ln2), .second, .val (.long bt2), .second, .val (.ref nb40), .val (.int (1 : Int32)), .val (.long bt2), .second] [(.long (1 : Int64)), (.long ln2), (.ref b45), (.ref b45), (.ref b3)]))
        refine own_st (fun zt zk => XS.ladd X45.here hx rfl (hb hby at_184) rfl zk) ?_
        show own_G p e below s _ _ _ (T45.setTop (mkF m 185 #[.val (.long l1), .second, .val (.long d1), .second, .val (.long l2), .second, .val (.long d2), .second, .val (.int fl), .val (.long ln1), .second, .val (.long bt1), .second, .val (.ref b3), .val (.long ln2), .second, .val (.long bt2), .second, .val (.ref nb40), .val (.int (1 : Int32)), .val (.long bt2), .second] [(.long (ln2 + (1 : Int64))), (.ref b45), (.ref b45), (.ref b3)]))
        refine own_st (fun zt zk => XS.lload X45.here hx rfl (hb hby at_185) rfl zk) ?_
        show own_G p e below s _ _ _ (T45.setTop (mkF m 187 #[.val (.long l1), .second, .val (.long d1), .second, .val (.long l2), .second, .val (.long d2), .second, .val (.int fl), .val (.long ln1), .second, .val (.long bt1), .second, .val (.ref b3), .val (.long ln2), .second, .val (.long bt2), .second, .val (.ref nb40), .val (.int (1 : Int32)), .val (.long bt2), .second] [(.long bt2), (.long (ln2 + (1 : Int64))), (.ref b45), (.ref b45), (.ref b3)]))
        obtain ⟨_, T49, L49, X49, hQ49, st49⟩ := own_callI X45 hx hZ (y := (⟨"com/example/deferral_ledger/deferralledger/model/JournalPlace", "<init>", "(JJ)V"⟩ : MethodName)) (a := b45) (argsL := [(.long (ln2 + (1 : Int64))), (.long bt2)]) (rest := [(.ref b45), (.ref b3)]) 2 rfl hown (hw _ (List.mem_of_getElem? (i := 27) rfl)) (hw _ (List.mem_of_getElem? (i := 28) rfl)) (hw _ (List.mem_of_getElem? (i := 26) rfl)) (hw _ (List.mem_of_getElem? (i := 29) rfl)) (by decide) (own_jpi l Z a0 hw [] b45 (ln2 + (1 : Int64)) bt2 h45 n0 (Nat.le_trans (Nat.le_trans (Nat.le_trans (Nat.le_trans (Nat.le_trans (Nat.le_trans (Nat.le_trans (Nat.le_trans (Nat.le_trans (Nat.le_trans Z0 E3.1) K4.1) E5.1) K7.1) K8.1) E31.1) K34.1) K35.1) K40.1) E45.1) A45 (D45 (Or.inr (hw _ (List.mem_of_getElem? (i := 33) rfl))) (ty := .long) (by decide)) (D45 (Or.inr (hw _ (List.mem_of_getElem? (i := 35) rfl))) (ty := .long) (by decide)) ge45 (by have q := hc172_44; rw [Int64.lt_iff_toInt_lt] at q; rw [Int64.lt_iff_toInt_lt]; omega) (by have q := hc172_44; rw [Int64.lt_iff_toInt_lt] at q; rw [Int64.lt_iff_toInt_lt]; omega)) (by decide) (by decide) e45 (g := (mkF m 187 #[.val (.long l1), .second, .val (.long d1), .second, .val (.long l2), .second, .val (.long d2), .second, .val (.int fl), .val (.long ln1), .second, .val (.long bt1), .second, .val (.ref b3), .val (.long ln2), .second, .val (.long bt2), .second, .val (.ref nb40), .val (.int (1 : Int32)), .val (.long bt2), .second] [(.long bt2), (.long (ln2 + (1 : Int64))), (.ref b45), (.ref b45), (.ref b3)])) rfl (by rw [hml]; rfl) own_pd1 rfl rfl (by show 2 * 0 + _ ≤ _; exact Nat.le_of_eq rfl) (hb hby at_187) (by decide) (by decide)
        obtain ⟨rfl, N49q, K49, q49_0, q49_1⟩ := hQ49
        have N49 := Fr.app N43 N49q
        refine own_st st49 ?_
        show own_G p e below s _ _ _ (T49.setTop (mkF m 190 #[.val (.long l1), .second, .val (.long d1), .second, .val (.long l2), .second, .val (.long d2), .second, .val (.int fl), .val (.long ln1), .second, .val (.long bt1), .second, .val (.ref b3), .val (.long ln2), .second, .val (.long bt2), .second, .val (.ref nb40), .val (.int (1 : Int32)), .val (.long bt2), .second] [(.ref b45), (.ref b3)]))
        have F51 : Fld Z T49.heap b3 "com/example/deferral_ledger/deferralledger/model/JournalEnd" "lastEntry" "J" (.long ln2) := (((q35_0.keep K40 nin0).ext E45).keep K49 (ninS ne45_b3 nin0))
        have F52 : Fld Z T49.heap b3 "com/example/deferral_ledger/deferralledger/model/JournalEnd" "batch" "J" (.long bt2) := (((q35_1.keep K40 nin0).ext E45).keep K49 (ninS ne45_b3 nin0))
        have E53 : Exa Z T49.heap b45 "com/example/deferral_ledger/deferralledger/model/JournalPlace" := (A45.keep K49)
        have E54 : Exa Z T49.heap b3 "com/example/deferral_ledger/deferralledger/model/JournalEnd" := ((E46.ext E45).keep K49)
        obtain ⟨_, T50, L50, X50, hQ50, st50⟩ := own_callV X49 hx hZ (C := "com/example/deferral_ledger/deferralledger/model/JournalEnd") (y := (⟨"com/example/deferral_ledger/deferralledger/model/JournalEnd", "requireBefore", "(Lcom/example/deferral_ledger/deferralledger/model/JournalPlace;)V"⟩ : MethodName)) (z := (⟨"com/example/deferral_ledger/deferralledger/model/JournalEnd", "requireBefore", "(Lcom/example/deferral_ledger/deferralledger/model/JournalPlace;)V"⟩ : MethodName)) (a := b3) (argsL := [(.ref b45)]) (rest := []) 0 hown (hw _ (List.mem_of_getElem? (i := 61) rfl)) (hw _ (List.mem_of_getElem? (i := 62) rfl)) (own_nf hZ (hw _ (List.mem_of_getElem? (i := 64) rfl))) (hw _ (List.mem_of_getElem? (i := 64) rfl)) (hw _ (List.mem_of_getElem? (i := 63) rfl)) (hw _ (List.mem_of_getElem? (i := 13) rfl)) (hw _ (List.mem_of_getElem? (i := 65) rfl)) (by decide) (own_rqb l Z a0 hw [] b3 b45 ln2 bt2 (ln2 + (1 : Int64)) T49.heap n0 (Nat.le_trans (Nat.le_trans (Nat.le_trans (Nat.le_trans (Nat.le_trans (Nat.le_trans (Nat.le_trans (Nat.le_trans (Nat.le_trans (Nat.le_trans (Nat.le_trans Z0 E3.1) K4.1) E5.1) K7.1) K8.1) E31.1) K34.1) K35.1) K40.1) E45.1) K49.1) E53 F51 F52 q49_0 q49_1 (by have q := hc172_44; rw [Int64.lt_iff_toInt_lt] at q; rw [Int64.lt_iff_toInt_lt]; omega)) (by decide) (by decide) rfl E54 (g := (mkF m 190 #[.val (.long l1), .second, .val (.long d1), .second, .val (.long l2), .second, .val (.long d2), .second, .val (.int fl), .val (.long ln1), .second, .val (.long bt1), .second, .val (.ref b3), .val (.long ln2), .second, .val (.long bt2), .second, .val (.ref nb40), .val (.int (1 : Int32)), .val (.long bt2), .second] [(.ref b45), (.ref b3)])) rfl (by rw [hml]; rfl) own_pd5 rfl rfl (by show 2 * 0 + _ ≤ _; exact Nat.le_of_eq rfl) (hb hby at_190) (by decide) (by decide)
        obtain ⟨rfl, N50q, e50⟩ := hQ50
        have N50 := Fr.app N49 N50q
        refine own_st st50 ?_
        show own_G p e below s _ _ _ (T50.setTop (mkF m 193 #[.val (.long l1), .second, .val (.long d1), .second, .val (.long l2), .second, .val (.long d2), .second, .val (.int fl), .val (.long ln1), .second, .val (.long bt1), .second, .val (.ref b3), .val (.long ln2), .second, .val (.long bt2), .second, .val (.ref nb40), .val (.int (1 : Int32)), .val (.long bt2), .second] []))
        refine own_st (fun zt zk => XS.iload X50.here hx rfl (hb hby at_193) rfl zk) ?_
        show own_G p e below s _ _ _ (T50.setTop (mkF m 195 #[.val (.long l1), .second, .val (.long d1), .second, .val (.long l2), .second, .val (.long d2), .second, .val (.int fl), .val (.long ln1), .second, .val (.long bt1), .second, .val (.ref b3), .val (.long ln2), .second, .val (.long bt2), .second, .val (.ref nb40), .val (.int (1 : Int32)), .val (.long bt2), .second] [(.int (1 : Int32))]))
        refine own_retZ X50 hx hlk hret (by decide) (hb hby at_195) (by decide) (by decide) ?_
        show Q_own_law Z l1 d1 l2 d2 fl h0 n0 (some (.int (1 : Int32))) T50.heap _
        rw [e50]
        exact ⟨rfl, N50⟩
      · refine own_st (fun zt zk => XS.ifYes X43.here hx rfl (pc0 := 172) (pc' := 193) rfl (hb hby at_172) rfl ((if0 _ _).trans (flt (mt (lw_lt ln2 bt2).mp hc172_44)).2.1) (by decide) (by decide) zk) ?_
        show own_G p e below s _ _ _ (T43.setTop (mkF m 193 #[.val (.long l1), .second, .val (.long d1), .second, .val (.long l2), .second, .val (.long d2), .second, .val (.int fl), .val (.long ln1), .second, .val (.long bt1), .second, .val (.ref b3), .val (.long ln2), .second, .val (.long bt2), .second, .val (.ref nb40), .val (.int (1 : Int32)), .val (.long bt2), .second] []))
        refine own_st (fun zt zk => XS.iload X43.here hx rfl (hb hby at_193) rfl zk) ?_
        show own_G p e below s _ _ _ (T43.setTop (mkF m 195 #[.val (.long l1), .second, .val (.long d1), .second, .val (.long l2), .second, .val (.long d2), .second, .val (.int fl), .val (.long ln1), .second, .val (.long bt1), .second, .val (.ref b3), .val (.long ln2), .second, .val (.long bt2), .second, .val (.ref nb40), .val (.int (1 : Int32)), .val (.long bt2), .second] [(.int (1 : Int32))]))
        refine own_retZ X43 hx hlk hret (by decide) (hb hby at_195) (by decide) (by decide) ?_
        show Q_own_law Z l1 d1 l2 d2 fl h0 n0 (some (.int (1 : Int32))) T43.heap _
        rw [e43]
        exact ⟨rfl, N43⟩
    · refine own_st (fun zt zk => XS.ifNo X8.here hx rfl (hb hby at_58) rfl ((if0 _ _).trans (feq hc58_28).1) zk) ?_
      show own_G p e below s _ _ _ (T8.setTop (mkF m 61 #[.val (.long l1), .second, .val (.long d1), .second, .val (.long l2), .second, .val (.long d2), .second, .val (.int fl), .val (.long ln1), .second, .val (.long bt1), .second, .val (.ref b3), .val (.long ln1), .second, .val (.long bt1), .second, .unset, .unset, .unset, .unset] []))
      refine own_st (fun zt zk => XS.lload X8.here hx rfl (hb hby at_61) rfl zk) ?_
      show own_G p e below s _ _ _ (T8.setTop (mkF m 63 #[.val (.long l1), .second, .val (.long d1), .second, .val (.long l2), .second, .val (.long d2), .second, .val (.int fl), .val (.long ln1), .second, .val (.long bt1), .second, .val (.ref b3), .val (.long ln1), .second, .val (.long bt1), .second, .unset, .unset, .unset, .unset] [(.long bt1)]))
      refine own_st (fun zt zk => XS.lstore X8.here hx rfl (hb hby at_63) rfl (l' := #[.val (.long l1), .second, .val (.long d1), .second, .val (.long l2), .second, .val (.long d2), .second, .val (.int fl), .val (.long ln1), .second, .val (.long bt1), .second, .val (.ref b3), .val (.long ln1), .second, .val (.long bt1), .second, .unset, .unset, .val (.long bt1), .second]) rfl zk) ?_
      show own_G p e below s _ _ _ (T8.setTop (mkF m 65 #[.val (.long l1), .second, .val (.long d1), .second, .val (.long l2), .second, .val (.long d2), .second, .val (.int fl), .val (.long ln1), .second, .val (.long bt1), .second, .val (.ref b3), .val (.long ln1), .second, .val (.long bt1), .second, .unset, .unset, .val (.long bt1), .second] []))
      refine own_st (X8.ldc2Long hx hown (mvT hZ (hw _ (List.mem_of_getElem? (i := 4) rfl))) (g := (mkF m 65 #[.val (.long l1), .second, .val (.long d1), .second, .val (.long l2), .second, .val (.long d2), .second, .val (.int fl), .val (.long ln1), .second, .val (.long bt1), .second, .val (.ref b3), .val (.long ln1), .second, .val (.long bt1), .second, .unset, .unset, .val (.long bt1), .second] [])) rfl (hb hby at_65)) ?_
      show own_G p e below s _ _ _ (T8.setTop (mkF m 68 #[.val (.long l1), .second, .val (.long d1), .second, .val (.long l2), .second, .val (.long d2), .second, .val (.int fl), .val (.long ln1), .second, .val (.long bt1), .second, .val (.ref b3), .val (.long ln1), .second, .val (.long bt1), .second, .unset, .unset, .val (.long bt1), .second] [(.long (2 : Int64))]))
      refine own_st (fun zt zk => XS.lload X8.here hx rfl (hb hby at_68) rfl zk) ?_
      show own_G p e below s _ _ _ (T8.setTop (mkF m 70 #[.val (.long l1), .second, .val (.long d1), .second, .val (.long l2), .second, .val (.long d2), .second, .val (.int fl), .val (.long ln1), .second, .val (.long bt1), .second, .val (.ref b3), .val (.long ln1), .second, .val (.long bt1), .second, .unset, .unset, .val (.long bt1), .second] [(.long l2), (.long (2 : Int64))]))
      refine own_st (X8.ldc2Long hx hown (mvT hZ (hw _ (List.mem_of_getElem? (i := 5) rfl))) (g := (mkF m 70 #[.val (.long l1), .second, .val (.long d1), .second, .val (.long l2), .second, .val (.long d2), .second, .val (.int fl), .val (.long ln1), .second, .val (.long bt1), .second, .val (.ref b3), .val (.long ln1), .second, .val (.long bt1), .second, .unset, .unset, .val (.long bt1), .second] [(.long l2), (.long (2 : Int64))])) rfl (hb hby at_70)) ?_
      show own_G p e below s _ _ _ (T8.setTop (mkF m 73 #[.val (.long l1), .second, .val (.long d1), .second, .val (.long l2), .second, .val (.long d2), .second, .val (.int fl), .val (.long ln1), .second, .val (.long bt1), .second, .val (.ref b3), .val (.long ln1), .second, .val (.long bt1), .second, .unset, .unset, .val (.long bt1), .second] [(.long (9223372036854775807 : Int64)), (.long l2), (.long (2 : Int64))]))
      refine own_st (fun zt zk => XS.land X8.here hx rfl (hb hby at_73) rfl zk) ?_
      show own_G p e below s _ _ _ (T8.setTop (mkF m 74 #[.val (.long l1), .second, .val (.long d1), .second, .val (.long l2), .second, .val (.long d2), .second, .val (.int fl), .val (.long ln1), .second, .val (.long bt1), .second, .val (.ref b3), .val (.long ln1), .second, .val (.long bt1), .second, .unset, .unset, .val (.long bt1), .second] [(.long (l2 &&& (9223372036854775807 : Int64))), (.long (2 : Int64))]))
      refine own_st (fun zt zk => XS.lload X8.here hx rfl (hb hby at_74) rfl zk) ?_
      show own_G p e below s _ _ _ (T8.setTop (mkF m 76 #[.val (.long l1), .second, .val (.long d1), .second, .val (.long l2), .second, .val (.long d2), .second, .val (.int fl), .val (.long ln1), .second, .val (.long bt1), .second, .val (.ref b3), .val (.long ln1), .second, .val (.long bt1), .second, .unset, .unset, .val (.long bt1), .second] [(.long bt1), (.long (l2 &&& (9223372036854775807 : Int64))), (.long (2 : Int64))]))
      refine own_st (fun zt zk => XS.lconst X8.here hx rfl (hb hby at_76) zk) ?_
      show own_G p e below s _ _ _ (T8.setTop (mkF m 77 #[.val (.long l1), .second, .val (.long d1), .second, .val (.long l2), .second, .val (.long d2), .second, .val (.int fl), .val (.long ln1), .second, .val (.long bt1), .second, .val (.ref b3), .val (.long ln1), .second, .val (.long bt1), .second, .unset, .unset, .val (.long bt1), .second] [(.long (1 : Int64)), (.long bt1), (.long (l2 &&& (9223372036854775807 : Int64))), (.long (2 : Int64))]))
      refine own_st (fun zt zk => XS.lsub X8.here hx rfl (hb hby at_77) rfl zk) ?_
      show own_G p e below s _ _ _ (T8.setTop (mkF m 78 #[.val (.long l1), .second, .val (.long d1), .second, .val (.long l2), .second, .val (.long d2), .second, .val (.int fl), .val (.long ln1), .second, .val (.long bt1), .second, .val (.ref b3), .val (.long ln1), .second, .val (.long bt1), .second, .unset, .unset, .val (.long bt1), .second] [(.long (bt1 - (1 : Int64))), (.long (l2 &&& (9223372036854775807 : Int64))), (.long (2 : Int64))]))
      refine own_st (fun zt zk => XS.lrem X8.here hx rfl (hb hby at_78) rfl (own_in bt1 l2 (by omega)).1 zk) ?_
      show own_G p e below s _ _ _ (T8.setTop (mkF m 79 #[.val (.long l1), .second, .val (.long d1), .second, .val (.long l2), .second, .val (.long d2), .second, .val (.int fl), .val (.long ln1), .second, .val (.long bt1), .second, .val (.ref b3), .val (.long ln1), .second, .val (.long bt1), .second, .unset, .unset, .val (.long bt1), .second] [(.long ((l2 &&& (9223372036854775807 : Int64)) - ((l2 &&& (9223372036854775807 : Int64)) / (bt1 - (1 : Int64))) * (bt1 - (1 : Int64)))), (.long (2 : Int64))]))
      refine own_st (fun zt zk => XS.ladd X8.here hx rfl (hb hby at_79) rfl zk) ?_
      show own_G p e below s _ _ _ (T8.setTop (mkF m 80 #[.val (.long l1), .second, .val (.long d1), .second, .val (.long l2), .second, .val (.long d2), .second, .val (.int fl), .val (.long ln1), .second, .val (.long bt1), .second, .val (.ref b3), .val (.long ln1), .second, .val (.long bt1), .second, .unset, .unset, .val (.long bt1), .second] [(.long ((2 : Int64) + ((l2 &&& (9223372036854775807 : Int64)) - ((l2 &&& (9223372036854775807 : Int64)) / (bt1 - (1 : Int64))) * (bt1 - (1 : Int64)))))]))
      refine own_st (fun zt zk => XS.lstore X8.here hx rfl (hb hby at_80) rfl (l' := #[.val (.long l1), .second, .val (.long d1), .second, .val (.long l2), .second, .val (.long d2), .second, .val (.int fl), .val (.long ln1), .second, .val (.long bt1), .second, .val (.ref b3), .val (.long ln1), .second, .val (.long bt1), .second, .val (.long ((2 : Int64) + ((l2 &&& (9223372036854775807 : Int64)) - ((l2 &&& (9223372036854775807 : Int64)) / (bt1 - (1 : Int64))) * (bt1 - (1 : Int64))))), .second, .val (.long bt1), .second]) rfl zk) ?_
      show own_G p e below s _ _ _ (T8.setTop (mkF m 82 #[.val (.long l1), .second, .val (.long d1), .second, .val (.long l2), .second, .val (.long d2), .second, .val (.int fl), .val (.long ln1), .second, .val (.long bt1), .second, .val (.ref b3), .val (.long ln1), .second, .val (.long bt1), .second, .val (.long ((2 : Int64) + ((l2 &&& (9223372036854775807 : Int64)) - ((l2 &&& (9223372036854775807 : Int64)) / (bt1 - (1 : Int64))) * (bt1 - (1 : Int64))))), .second, .val (.long bt1), .second] []))
      refine own_st (fun zt zk => XS.goto X8.here hx rfl (pc0 := 82) (pc' := 101) rfl (hb hby at_82) (by decide) (by decide) zk) ?_
      show own_G p e below s _ _ _ (T8.setTop (mkF m 101 #[.val (.long l1), .second, .val (.long d1), .second, .val (.long l2), .second, .val (.long d2), .second, .val (.int fl), .val (.long ln1), .second, .val (.long bt1), .second, .val (.ref b3), .val (.long ln1), .second, .val (.long bt1), .second, .val (.long ((2 : Int64) + ((l2 &&& (9223372036854775807 : Int64)) - ((l2 &&& (9223372036854775807 : Int64)) / (bt1 - (1 : Int64))) * (bt1 - (1 : Int64))))), .second, .val (.long bt1), .second] []))
      have f3 := (own_in bt1 l2 (by omega)).2
      unfold own_remJ at f3
      obtain ⟨ln2, q_ln2⟩ : ∃ z, z = ((2 : Int64) + ((l2 &&& (9223372036854775807 : Int64)) - ((l2 &&& (9223372036854775807 : Int64)) / (bt1 - (1 : Int64))) * (bt1 - (1 : Int64)))) := ⟨_, rfl⟩
      rw [← q_ln2]
      show own_G p e below s _ _ _ (T8.setTop (mkF m 101 #[.val (.long l1), .second, .val (.long d1), .second, .val (.long l2), .second, .val (.long d2), .second, .val (.int fl), .val (.long ln1), .second, .val (.long bt1), .second, .val (.ref b3), .val (.long ln1), .second, .val (.long bt1), .second, .val (.long ln2), .second, .val (.long bt1), .second] []))
      rw [← q_ln2] at f3
      refine own_st (fun zt zk => XS.aload X8.here hx rfl (hb hby at_101) rfl rfl zk) ?_
      show own_G p e below s _ _ _ (T8.setTop (mkF m 103 #[.val (.long l1), .second, .val (.long d1), .second, .val (.long l2), .second, .val (.long d2), .second, .val (.int fl), .val (.long ln1), .second, .val (.long bt1), .second, .val (.ref b3), .val (.long ln1), .second, .val (.long bt1), .second, .val (.long ln2), .second, .val (.long bt1), .second] [(.ref b3)]))
      have E56 : Exa Z T8.heap b3 "com/example/deferral_ledger/deferralledger/model/JournalEnd" := (E11.keep K8)
      have E57 : Exa Z T8.heap b5 "com/example/deferral_ledger/deferralledger/model/JournalPlace" := (E12.keep K8)
      obtain ⟨T55, h55, X55, e55, E55, A55, D55, -, st55⟩ := newO X8 hx hZ hown (hw _ (List.mem_of_getElem? (i := 24) rfl)) (hw _ (List.mem_of_getElem? (i := 25) rfl)) (hw _ (List.mem_of_getElem? (i := 26) rfl)) rfl (g := (mkF m 103 #[.val (.long l1), .second, .val (.long d1), .second, .val (.long l2), .second, .val (.long d2), .second, .val (.int fl), .val (.long ln1), .second, .val (.long bt1), .second, .val (.ref b3), .val (.long ln1), .second, .val (.long bt1), .second, .val (.long ln2), .second, .val (.long bt1), .second] [(.ref b3)])) rfl (hb hby at_103) (by decide) (by decide)
      obtain ⟨b55, g55⟩ : ∃ z, z = T8.heap.size := ⟨_, rfl⟩
      rw [← g55] at A55 D55 st55
      have ne55_b3 : b3 ≠ b55 := by rw [g55]; exact Nat.ne_of_lt E56.lt
      have ne55_b5 : b5 ≠ b55 := by rw [g55]; exact Nat.ne_of_lt E57.lt
      have ge55 : n0 ≤ b55 := Nat.le_trans (Nat.le_trans (Nat.le_trans (Nat.le_trans (Nat.le_trans (Nat.le_trans Z0 E3.1) K4.1) E5.1) K7.1) K8.1) (Nat.le_of_eq g55.symm)
      have sz55 : h0.size ≤ b55 := Nat.le_trans (Nat.le_trans (Nat.le_trans (Nat.le_trans (Nat.le_trans (Nat.le_trans (Nat.le_refl h0.size) E3.1) K4.1) E5.1) K7.1) K8.1) (Nat.le_of_eq g55.symm)
      refine own_st st55 ?_
      show own_G p e below s _ _ _ (T55.setTop (mkF m 106 #[.val (.long l1), .second, .val (.long d1), .second, .val (.long l2), .second, .val (.long d2), .second, .val (.int fl), .val (.long ln1), .second, .val (.long bt1), .second, .val (.ref b3), .val (.long ln1), .second, .val (.long bt1), .second, .val (.long ln2), .second, .val (.long bt1), .second] [(.ref b55), (.ref b3)]))
      refine own_st (fun zt zk => XS.dup X55.here hx rfl (hb hby at_106) rfl rfl zk) ?_
      show own_G p e below s _ _ _ (T55.setTop (mkF m 107 #[.val (.long l1), .second, .val (.long d1), .second, .val (.long l2), .second, .val (.long d2), .second, .val (.int fl), .val (.long ln1), .second, .val (.long bt1), .second, .val (.ref b3), .val (.long ln1), .second, .val (.long bt1), .second, .val (.long ln2), .second, .val (.long bt1), .second] [(.ref b55), (.ref b55), (.ref b3)]))
      refine own_st (fun zt zk => XS.lload X55.here hx rfl (hb hby at_107) rfl zk) ?_
      show own_G p e below s _ _ _ (T55.setTop (mkF m 109 #[.val (.long l1), .second, .val (.long d1), .second, .val (.long l2), .second, .val (.long d2), .second, .val (.int fl), .val (.long ln1), .second, .val (.long bt1), .second, .val (.ref b3), .val (.long ln1), .second, .val (.long bt1), .second, .val (.long ln2), .second, .val (.long bt1), .second] [(.long ln2), (.ref b55), (.ref b55), (.ref b3)]))
      refine own_st (fun zt zk => XS.lload X55.here hx rfl (hb hby at_109) rfl zk) ?_
      show own_G p e below s _ _ _ (T55.setTop (mkF m 111 #[.val (.long l1), .second, .val (.long d1), .second, .val (.long l2), .second, .val (.long d2), .second, .val (.int fl), .val (.long ln1), .second, .val (.long bt1), .second, .val (.ref b3), .val (.long ln1), .second, .val (.long bt1), .second, .val (.long ln2), .second, .val (.long bt1), .second] [(.long bt1), (.long ln2), (.ref b55), (.ref b55), (.ref b3)]))
      obtain ⟨_, T58, L58, X58, hQ58, st58⟩ := own_callI X55 hx hZ (y := (⟨"com/example/deferral_ledger/deferralledger/model/JournalPlace", "<init>", "(JJ)V"⟩ : MethodName)) (a := b55) (argsL := [(.long ln2), (.long bt1)]) (rest := [(.ref b55), (.ref b3)]) 2 rfl hown (hw _ (List.mem_of_getElem? (i := 27) rfl)) (hw _ (List.mem_of_getElem? (i := 28) rfl)) (hw _ (List.mem_of_getElem? (i := 26) rfl)) (hw _ (List.mem_of_getElem? (i := 29) rfl)) (by decide) (own_jpi l Z a0 hw [] b55 ln2 bt1 h55 n0 (Nat.le_trans (Nat.le_trans (Nat.le_trans (Nat.le_trans (Nat.le_trans (Nat.le_trans Z0 E3.1) K4.1) E5.1) K7.1) K8.1) E55.1) A55 (D55 (Or.inr (hw _ (List.mem_of_getElem? (i := 33) rfl))) (ty := .long) (by decide)) (D55 (Or.inr (hw _ (List.mem_of_getElem? (i := 35) rfl))) (ty := .long) (by decide)) ge55 (by rw [Int64.lt_iff_toInt_lt]; omega) (by rw [Int64.lt_iff_toInt_lt]; omega)) (by decide) (by decide) e55 (g := (mkF m 111 #[.val (.long l1), .second, .val (.long d1), .second, .val (.long l2), .second, .val (.long d2), .second, .val (.int fl), .val (.long ln1), .second, .val (.long bt1), .second, .val (.ref b3), .val (.long ln1), .second, .val (.long bt1), .second, .val (.long ln2), .second, .val (.long bt1), .second] [(.long bt1), (.long ln2), (.ref b55), (.ref b55), (.ref b3)])) rfl (by rw [hml]; rfl) own_pd1 rfl rfl (by show 2 * 0 + _ ≤ _; exact Nat.le_of_eq rfl) (hb hby at_111) (by decide) (by decide)
      obtain ⟨rfl, N58q, K58, q58_0, q58_1⟩ := hQ58
      have N58 := Fr.app N8 N58q
      refine own_st st58 ?_
      show own_G p e below s _ _ _ (T58.setTop (mkF m 114 #[.val (.long l1), .second, .val (.long d1), .second, .val (.long l2), .second, .val (.long d2), .second, .val (.int fl), .val (.long ln1), .second, .val (.long bt1), .second, .val (.ref b3), .val (.long ln1), .second, .val (.long bt1), .second, .val (.long ln2), .second, .val (.long bt1), .second] [(.ref b55), (.ref b3)]))
      have F60 : Fld Z T58.heap b3 "com/example/deferral_ledger/deferralledger/model/JournalEnd" "lastEntry" "J" (.long ln1) := ((q8_0.ext E55).keep K58 (ninS ne55_b3 nin0))
      have F61 : Fld Z T58.heap b3 "com/example/deferral_ledger/deferralledger/model/JournalEnd" "batch" "J" (.long bt1) := ((q8_1.ext E55).keep K58 (ninS ne55_b3 nin0))
      have E62 : Exa Z T58.heap b3 "com/example/deferral_ledger/deferralledger/model/JournalEnd" := ((E56.ext E55).keep K58)
      have E63 : Exa Z T58.heap b55 "com/example/deferral_ledger/deferralledger/model/JournalPlace" := (A55.keep K58)
      obtain ⟨_, T59, L59, X59, hQ59, st59⟩ := own_callV X58 hx hZ (C := "com/example/deferral_ledger/deferralledger/model/JournalEnd") (y := (⟨"com/example/deferral_ledger/deferralledger/model/JournalEnd", "moveTo", "(Lcom/example/deferral_ledger/deferralledger/model/JournalPlace;)V"⟩ : MethodName)) (z := (⟨"com/example/deferral_ledger/deferralledger/model/JournalEnd", "moveTo", "(Lcom/example/deferral_ledger/deferralledger/model/JournalPlace;)V"⟩ : MethodName)) (a := b3) (argsL := [(.ref b55)]) (rest := []) 0 hown (hw _ (List.mem_of_getElem? (i := 36) rfl)) (hw _ (List.mem_of_getElem? (i := 37) rfl)) (own_nf hZ (hw _ (List.mem_of_getElem? (i := 39) rfl))) (hw _ (List.mem_of_getElem? (i := 39) rfl)) (hw _ (List.mem_of_getElem? (i := 38) rfl)) (hw _ (List.mem_of_getElem? (i := 13) rfl)) (hw _ (List.mem_of_getElem? (i := 40) rfl)) (by decide) (own_mov l Z a0 hw [] b3 b55 ln1 bt1 ln2 bt1 T58.heap n0 (Nat.le_trans (Nat.le_trans (Nat.le_trans (Nat.le_trans (Nat.le_trans (Nat.le_trans (Nat.le_trans Z0 E3.1) K4.1) E5.1) K7.1) K8.1) E55.1) K58.1) E62 E63 F60 F61 q58_0 q58_1 ge3 ne55_b3) (by decide) (by decide) rfl E62 (g := (mkF m 114 #[.val (.long l1), .second, .val (.long d1), .second, .val (.long l2), .second, .val (.long d2), .second, .val (.int fl), .val (.long ln1), .second, .val (.long bt1), .second, .val (.ref b3), .val (.long ln1), .second, .val (.long bt1), .second, .val (.long ln2), .second, .val (.long bt1), .second] [(.ref b55), (.ref b3)])) rfl (by rw [hml]; rfl) own_pd5 rfl rfl (by show 2 * 0 + _ ≤ _; exact Nat.le_of_eq rfl) (hb hby at_114) (by decide) (by decide)
      obtain ⟨rfl, N59q, K59, q59_0, q59_1⟩ := hQ59
      have N59 := Fr.app N58 N59q
      refine own_st st59 ?_
      show own_G p e below s _ _ _ (T59.setTop (mkF m 117 #[.val (.long l1), .second, .val (.long d1), .second, .val (.long l2), .second, .val (.long d2), .second, .val (.int fl), .val (.long ln1), .second, .val (.long bt1), .second, .val (.ref b3), .val (.long ln1), .second, .val (.long bt1), .second, .val (.long ln2), .second, .val (.long bt1), .second] []))
      refine own_st (fun zt zk => XS.lload X59.here hx rfl (hb hby at_117) rfl zk) ?_
      show own_G p e below s _ _ _ (T59.setTop (mkF m 119 #[.val (.long l1), .second, .val (.long d1), .second, .val (.long l2), .second, .val (.long d2), .second, .val (.int fl), .val (.long ln1), .second, .val (.long bt1), .second, .val (.ref b3), .val (.long ln1), .second, .val (.long bt1), .second, .val (.long ln2), .second, .val (.long bt1), .second] [(.long ln2)]))
      refine own_st (fun zt zk => XS.lstore X59.here hx rfl (hb hby at_119) rfl (l' := #[.val (.long l1), .second, .val (.long d1), .second, .val (.long l2), .second, .val (.long d2), .second, .val (.int fl), .val (.long ln1), .second, .val (.long bt1), .second, .val (.ref b3), .val (.long ln2), .second, .val (.long bt1), .second, .val (.long ln2), .second, .val (.long bt1), .second]) rfl zk) ?_
      show own_G p e below s _ _ _ (T59.setTop (mkF m 121 #[.val (.long l1), .second, .val (.long d1), .second, .val (.long l2), .second, .val (.long d2), .second, .val (.int fl), .val (.long ln1), .second, .val (.long bt1), .second, .val (.ref b3), .val (.long ln2), .second, .val (.long bt1), .second, .val (.long ln2), .second, .val (.long bt1), .second] []))
      refine own_st (fun zt zk => XS.lload X59.here hx rfl (hb hby at_121) rfl zk) ?_
      show own_G p e below s _ _ _ (T59.setTop (mkF m 123 #[.val (.long l1), .second, .val (.long d1), .second, .val (.long l2), .second, .val (.long d2), .second, .val (.int fl), .val (.long ln1), .second, .val (.long bt1), .second, .val (.ref b3), .val (.long ln2), .second, .val (.long bt1), .second, .val (.long ln2), .second, .val (.long bt1), .second] [(.long bt1)]))
      refine own_st (fun zt zk => XS.lstore X59.here hx rfl (hb hby at_123) rfl (l' := #[.val (.long l1), .second, .val (.long d1), .second, .val (.long l2), .second, .val (.long d2), .second, .val (.int fl), .val (.long ln1), .second, .val (.long bt1), .second, .val (.ref b3), .val (.long ln2), .second, .val (.long bt1), .second, .val (.long ln2), .second, .val (.long bt1), .second]) rfl zk) ?_
      show own_G p e below s _ _ _ (T59.setTop (mkF m 125 #[.val (.long l1), .second, .val (.long d1), .second, .val (.long l2), .second, .val (.long d2), .second, .val (.int fl), .val (.long ln1), .second, .val (.long bt1), .second, .val (.ref b3), .val (.long ln2), .second, .val (.long bt1), .second, .val (.long ln2), .second, .val (.long bt1), .second] []))
      have g1 := c_ladd bt1 1
      have g2 := c_ladd bt1 2
      have g3 := c_ladd ln2 1
      have s1 := rng64 (bt1 + 1)
      have s2 := rng64 (bt1 + 2)
      have s3 := rng64 (ln2 + 1)
      have s4 := rng64 bt1
      have s5 := rng64 ln2
      refine own_st (fun zt zk => XS.aload X59.here hx rfl (hb hby at_125) rfl rfl zk) ?_
      show own_G p e below s _ _ _ (T59.setTop (mkF m 127 #[.val (.long l1), .second, .val (.long d1), .second, .val (.long l2), .second, .val (.long d2), .second, .val (.int fl), .val (.long ln1), .second, .val (.long bt1), .second, .val (.ref b3), .val (.long ln2), .second, .val (.long bt1), .second, .val (.long ln2), .second, .val (.long bt1), .second] [(.ref b3)]))
      have E65 : Exa Z T59.heap b3 "com/example/deferral_ledger/deferralledger/model/JournalEnd" := (E62.keep K59)
      obtain ⟨_, T64, L64, X64, hQ64, st64⟩ := own_callV X59 hx hZ (C := "com/example/deferral_ledger/deferralledger/model/JournalEnd") (y := (⟨"com/example/deferral_ledger/deferralledger/model/JournalEnd", "next", "()Lcom/example/deferral_ledger/deferralledger/model/JournalPlace;"⟩ : MethodName)) (z := (⟨"com/example/deferral_ledger/deferralledger/model/JournalEnd", "next", "()Lcom/example/deferral_ledger/deferralledger/model/JournalPlace;"⟩ : MethodName)) (a := b3) (argsL := []) (rest := []) 0 hown (hw _ (List.mem_of_getElem? (i := 51) rfl)) (hw _ (List.mem_of_getElem? (i := 52) rfl)) (own_nf hZ (hw _ (List.mem_of_getElem? (i := 54) rfl))) (hw _ (List.mem_of_getElem? (i := 54) rfl)) (hw _ (List.mem_of_getElem? (i := 53) rfl)) (hw _ (List.mem_of_getElem? (i := 13) rfl)) (hw _ (List.mem_of_getElem? (i := 55) rfl)) (by decide) (own_nxt l Z a0 hw [] b3 bt1 T59.heap n0 (Nat.le_trans (Nat.le_trans (Nat.le_trans (Nat.le_trans (Nat.le_trans (Nat.le_trans (Nat.le_trans (Nat.le_trans Z0 E3.1) K4.1) E5.1) K7.1) K8.1) E55.1) K58.1) K59.1) E65 q59_1 (by rw [Int64.lt_iff_toInt_lt]; omega) (by rw [Int64.lt_iff_toInt_lt]; omega)) (by decide) (by decide) rfl E65 (g := (mkF m 127 #[.val (.long l1), .second, .val (.long d1), .second, .val (.long l2), .second, .val (.long d2), .second, .val (.int fl), .val (.long ln1), .second, .val (.long bt1), .second, .val (.ref b3), .val (.long ln2), .second, .val (.long bt1), .second, .val (.long ln2), .second, .val (.long bt1), .second] [(.ref b3)])) rfl (by rw [hml]; rfl) own_pd6 rfl rfl (by show 2 * 0 + _ ≤ _; exact Nat.le_of_eq rfl) (hb hby at_127) (by decide) (by decide)
      obtain ⟨nb64, rfl, N64q, K64, snb64, q64_0, q64_1, q64_2⟩ := hQ64
      have N64 := Fr.app N59 N64q
      refine own_st st64 ?_
      have ne64_nb_b3 : b3 ≠ nb64 := Nat.ne_of_lt (Nat.lt_of_lt_of_le E65.lt snb64)
      have ne64_nb_b5 : b5 ≠ nb64 := Nat.ne_of_lt (Nat.lt_of_lt_of_le (((E57.ext E55).keep K58).keep K59).lt snb64)
      have ne64_nb_b55 : b55 ≠ nb64 := Nat.ne_of_lt (Nat.lt_of_lt_of_le (E63.keep K59).lt snb64)
      have ge64_nb : n0 ≤ nb64 := Nat.le_trans (Nat.le_trans (Nat.le_trans (Nat.le_trans (Nat.le_trans (Nat.le_trans (Nat.le_trans (Nat.le_trans (Nat.le_trans Z0 E3.1) K4.1) E5.1) K7.1) K8.1) E55.1) K58.1) K59.1) snb64
      have sz64_nb : h0.size ≤ nb64 := Nat.le_trans (Nat.le_trans (Nat.le_trans (Nat.le_trans (Nat.le_trans (Nat.le_trans (Nat.le_trans (Nat.le_trans (Nat.le_trans (Nat.le_refl h0.size) E3.1) K4.1) E5.1) K7.1) K8.1) E55.1) K58.1) K59.1) snb64
      show own_G p e below s _ _ _ (T64.setTop (mkF m 130 #[.val (.long l1), .second, .val (.long d1), .second, .val (.long l2), .second, .val (.long d2), .second, .val (.int fl), .val (.long ln1), .second, .val (.long bt1), .second, .val (.ref b3), .val (.long ln2), .second, .val (.long bt1), .second, .val (.long ln2), .second, .val (.long bt1), .second] [(.ref nb64)]))
      refine own_st (fun zt zk => XS.astore X64.here hx rfl (hb hby at_130) rfl rfl (l' := #[.val (.long l1), .second, .val (.long d1), .second, .val (.long l2), .second, .val (.long d2), .second, .val (.int fl), .val (.long ln1), .second, .val (.long bt1), .second, .val (.ref b3), .val (.long ln2), .second, .val (.long bt1), .second, .val (.ref nb64), .unset, .val (.long bt1), .second]) rfl zk) ?_
      show own_G p e below s _ _ _ (T64.setTop (mkF m 132 #[.val (.long l1), .second, .val (.long d1), .second, .val (.long l2), .second, .val (.long d2), .second, .val (.int fl), .val (.long ln1), .second, .val (.long bt1), .second, .val (.ref b3), .val (.long ln2), .second, .val (.long bt1), .second, .val (.ref nb64), .unset, .val (.long bt1), .second] []))
      refine own_st (fun zt zk => XS.aload X64.here hx rfl (hb hby at_132) rfl rfl zk) ?_
      show own_G p e below s _ _ _ (T64.setTop (mkF m 134 #[.val (.long l1), .second, .val (.long d1), .second, .val (.long l2), .second, .val (.long d2), .second, .val (.int fl), .val (.long ln1), .second, .val (.long bt1), .second, .val (.ref b3), .val (.long ln2), .second, .val (.long bt1), .second, .val (.ref nb64), .unset, .val (.long bt1), .second] [(.ref nb64)]))
      obtain ⟨_, T66, L66, X66, hQ66, st66⟩ := own_callV X64 hx hZ (C := "com/example/deferral_ledger/deferralledger/model/JournalPlace") (y := (⟨"com/example/deferral_ledger/deferralledger/model/JournalPlace", "line", "()J"⟩ : MethodName)) (z := (⟨"com/example/deferral_ledger/deferralledger/model/JournalPlace", "line", "()J"⟩ : MethodName)) (a := nb64) (argsL := []) (rest := []) 0 hown (hw _ (List.mem_of_getElem? (i := 59) rfl)) (hw _ (List.mem_of_getElem? (i := 42) rfl)) (own_nf hZ (hw _ (List.mem_of_getElem? (i := 44) rfl))) (hw _ (List.mem_of_getElem? (i := 44) rfl)) (hw _ (List.mem_of_getElem? (i := 43) rfl)) (hw _ (List.mem_of_getElem? (i := 26) rfl)) (hw _ (List.mem_of_getElem? (i := 45) rfl)) (by decide) (own_gl l Z a0 hw [] nb64 (bt1 + (1 : Int64)) T64.heap n0 (Nat.le_trans (Nat.le_trans (Nat.le_trans (Nat.le_trans (Nat.le_trans (Nat.le_trans (Nat.le_trans (Nat.le_trans (Nat.le_trans Z0 E3.1) K4.1) E5.1) K7.1) K8.1) E55.1) K58.1) K59.1) K64.1) q64_1) (by decide) (by decide) rfl q64_0 (g := (mkF m 134 #[.val (.long l1), .second, .val (.long d1), .second, .val (.long l2), .second, .val (.long d2), .second, .val (.int fl), .val (.long ln1), .second, .val (.long bt1), .second, .val (.ref b3), .val (.long ln2), .second, .val (.long bt1), .second, .val (.ref nb64), .unset, .val (.long bt1), .second] [(.ref nb64)])) rfl (by rw [hml]; rfl) own_pd0 rfl rfl (by show 2 * 0 + _ ≤ _; exact Nat.le_of_eq rfl) (hb hby at_134) (by decide) (by decide)
      obtain ⟨rfl, N66q, e66⟩ := hQ66
      have N66 := Fr.app N64 N66q
      refine own_st st66 ?_
      show own_G p e below s _ _ _ (T66.setTop (mkF m 137 #[.val (.long l1), .second, .val (.long d1), .second, .val (.long l2), .second, .val (.long d2), .second, .val (.int fl), .val (.long ln1), .second, .val (.long bt1), .second, .val (.ref b3), .val (.long ln2), .second, .val (.long bt1), .second, .val (.ref nb64), .unset, .val (.long bt1), .second] [(.long (bt1 + (1 : Int64)))]))
      refine own_st (fun zt zk => XS.lload X66.here hx rfl (hb hby at_137) rfl zk) ?_
      show own_G p e below s _ _ _ (T66.setTop (mkF m 139 #[.val (.long l1), .second, .val (.long d1), .second, .val (.long l2), .second, .val (.long d2), .second, .val (.int fl), .val (.long ln1), .second, .val (.long bt1), .second, .val (.ref b3), .val (.long ln2), .second, .val (.long bt1), .second, .val (.ref nb64), .unset, .val (.long bt1), .second] [(.long bt1), (.long (bt1 + (1 : Int64)))]))
      refine own_st (fun zt zk => XS.lconst X66.here hx rfl (hb hby at_139) zk) ?_
      show own_G p e below s _ _ _ (T66.setTop (mkF m 140 #[.val (.long l1), .second, .val (.long d1), .second, .val (.long l2), .second, .val (.long d2), .second, .val (.int fl), .val (.long ln1), .second, .val (.long bt1), .second, .val (.ref b3), .val (.long ln2), .second, .val (.long bt1), .second, .val (.ref nb64), .unset, .val (.long bt1), .second] [(.long (1 : Int64)), (.long bt1), (.long (bt1 + (1 : Int64)))]))
      refine own_st (fun zt zk => XS.ladd X66.here hx rfl (hb hby at_140) rfl zk) ?_
      show own_G p e below s _ _ _ (T66.setTop (mkF m 141 #[.val (.long l1), .second, .val (.long d1), .second, .val (.long l2), .second, .val (.long d2), .second, .val (.int fl), .val (.long ln1), .second, .val (.long bt1), .second, .val (.ref b3), .val (.long ln2), .second, .val (.long bt1), .second, .val (.ref nb64), .unset, .val (.long bt1), .second] [(.long (bt1 + (1 : Int64))), (.long (bt1 + (1 : Int64)))]))
      refine own_st (fun zt zk => XS.lcmp X66.here hx rfl (hb hby at_141) rfl zk) ?_
      show own_G p e below s _ _ _ (T66.setTop (mkF m 142 #[.val (.long l1), .second, .val (.long d1), .second, .val (.long l2), .second, .val (.long d2), .second, .val (.int fl), .val (.long ln1), .second, .val (.long bt1), .second, .val (.ref b3), .val (.long ln2), .second, .val (.long bt1), .second, .val (.ref nb64), .unset, .val (.long bt1), .second] [(.int (lcmpW (bt1 + (1 : Int64)) (bt1 + (1 : Int64))))]))
      refine own_st (fun zt zk => XS.ifNo X66.here hx rfl (hb hby at_142) rfl ((if0 _ _).trans (teq ((lw_eq (bt1 + (1 : Int64)) (bt1 + (1 : Int64))).mpr (rfl : (bt1 + (1 : Int64)) = (bt1 + (1 : Int64))))).2) zk) ?_
      show own_G p e below s _ _ _ (T66.setTop (mkF m 145 #[.val (.long l1), .second, .val (.long d1), .second, .val (.long l2), .second, .val (.long d2), .second, .val (.int fl), .val (.long ln1), .second, .val (.long bt1), .second, .val (.ref b3), .val (.long ln2), .second, .val (.long bt1), .second, .val (.ref nb64), .unset, .val (.long bt1), .second] []))
      refine own_st (fun zt zk => XS.aload X66.here hx rfl (hb hby at_145) rfl rfl zk) ?_
      show own_G p e below s _ _ _ (T66.setTop (mkF m 147 #[.val (.long l1), .second, .val (.long d1), .second, .val (.long l2), .second, .val (.long d2), .second, .val (.int fl), .val (.long ln1), .second, .val (.long bt1), .second, .val (.ref b3), .val (.long ln2), .second, .val (.long bt1), .second, .val (.ref nb64), .unset, .val (.long bt1), .second] [(.ref nb64)]))
      obtain ⟨_, T67, L67, X67, hQ67, st67⟩ := own_callV X66 hx hZ (C := "com/example/deferral_ledger/deferralledger/model/JournalPlace") (y := (⟨"com/example/deferral_ledger/deferralledger/model/JournalPlace", "batch", "()J"⟩ : MethodName)) (z := (⟨"com/example/deferral_ledger/deferralledger/model/JournalPlace", "batch", "()J"⟩ : MethodName)) (a := nb64) (argsL := []) (rest := []) 0 hown (hw _ (List.mem_of_getElem? (i := 60) rfl)) (hw _ (List.mem_of_getElem? (i := 47) rfl)) (own_nf hZ (hw _ (List.mem_of_getElem? (i := 49) rfl))) (hw _ (List.mem_of_getElem? (i := 49) rfl)) (hw _ (List.mem_of_getElem? (i := 48) rfl)) (hw _ (List.mem_of_getElem? (i := 26) rfl)) (hw _ (List.mem_of_getElem? (i := 50) rfl)) (by decide) (own_gb l Z a0 hw [] nb64 (bt1 + (2 : Int64)) T64.heap n0 (Nat.le_trans (Nat.le_trans (Nat.le_trans (Nat.le_trans (Nat.le_trans (Nat.le_trans (Nat.le_trans (Nat.le_trans (Nat.le_trans Z0 E3.1) K4.1) E5.1) K7.1) K8.1) E55.1) K58.1) K59.1) K64.1) q64_2) (by decide) (by decide) e66 q64_0 (g := (mkF m 147 #[.val (.long l1), .second, .val (.long d1), .second, .val (.long l2), .second, .val (.long d2), .second, .val (.int fl), .val (.long ln1), .second, .val (.long bt1), .second, .val (.ref b3), .val (.long ln2), .second, .val (.long bt1), .second, .val (.ref nb64), .unset, .val (.long bt1), .second] [(.ref nb64)])) rfl (by rw [hml]; rfl) own_pd0 rfl rfl (by show 2 * 0 + _ ≤ _; exact Nat.le_of_eq rfl) (hb hby at_147) (by decide) (by decide)
      obtain ⟨rfl, N67q, e67⟩ := hQ67
      have N67 := Fr.app N66 N67q
      refine own_st st67 ?_
      show own_G p e below s _ _ _ (T67.setTop (mkF m 150 #[.val (.long l1), .second, .val (.long d1), .second, .val (.long l2), .second, .val (.long d2), .second, .val (.int fl), .val (.long ln1), .second, .val (.long bt1), .second, .val (.ref b3), .val (.long ln2), .second, .val (.long bt1), .second, .val (.ref nb64), .unset, .val (.long bt1), .second] [(.long (bt1 + (2 : Int64)))]))
      refine own_st (fun zt zk => XS.lload X67.here hx rfl (hb hby at_150) rfl zk) ?_
      show own_G p e below s _ _ _ (T67.setTop (mkF m 152 #[.val (.long l1), .second, .val (.long d1), .second, .val (.long l2), .second, .val (.long d2), .second, .val (.int fl), .val (.long ln1), .second, .val (.long bt1), .second, .val (.ref b3), .val (.long ln2), .second, .val (.long bt1), .second, .val (.ref nb64), .unset, .val (.long bt1), .second] [(.long bt1), (.long (bt1 + (2 : Int64)))]))
      refine own_st (X67.ldc2Long hx hown (mvT hZ (hw _ (List.mem_of_getElem? (i := 4) rfl))) (g := (mkF m 152 #[.val (.long l1), .second, .val (.long d1), .second, .val (.long l2), .second, .val (.long d2), .second, .val (.int fl), .val (.long ln1), .second, .val (.long bt1), .second, .val (.ref b3), .val (.long ln2), .second, .val (.long bt1), .second, .val (.ref nb64), .unset, .val (.long bt1), .second] [(.long bt1), (.long (bt1 + (2 : Int64)))])) rfl (hb hby at_152)) ?_
      show own_G p e below s _ _ _ (T67.setTop (mkF m 155 #[.val (.long l1), .second, .val (.long d1), .second, .val (.long l2), .second, .val (.long d2), .second, .val (.int fl), .val (.long ln1), .second, .val (.long bt1), .second, .val (.ref b3), .val (.long ln2), .second, .val (.long bt1), .second, .val (.ref nb64), .unset, .val (.long bt1), .second] [(.long (2 : Int64)), (.long bt1), (.long (bt1 + (2 : Int64)))]))
      refine own_st (fun zt zk => XS.ladd X67.here hx rfl (hb hby at_155) rfl zk) ?_
      show own_G p e below s _ _ _ (T67.setTop (mkF m 156 #[.val (.long l1), .second, .val (.long d1), .second, .val (.long l2), .second, .val (.long d2), .second, .val (.int fl), .val (.long ln1), .second, .val (.long bt1), .second, .val (.ref b3), .val (.long ln2), .second, .val (.long bt1), .second, .val (.ref nb64), .unset, .val (.long bt1), .second] [(.long (bt1 + (2 : Int64))), (.long (bt1 + (2 : Int64)))]))
      refine own_st (fun zt zk => XS.lcmp X67.here hx rfl (hb hby at_156) rfl zk) ?_
      show own_G p e below s _ _ _ (T67.setTop (mkF m 157 #[.val (.long l1), .second, .val (.long d1), .second, .val (.long l2), .second, .val (.long d2), .second, .val (.int fl), .val (.long ln1), .second, .val (.long bt1), .second, .val (.ref b3), .val (.long ln2), .second, .val (.long bt1), .second, .val (.ref nb64), .unset, .val (.long bt1), .second] [(.int (lcmpW (bt1 + (2 : Int64)) (bt1 + (2 : Int64))))]))
      refine own_st (fun zt zk => XS.ifNo X67.here hx rfl (hb hby at_157) rfl ((if0 _ _).trans (teq ((lw_eq (bt1 + (2 : Int64)) (bt1 + (2 : Int64))).mpr (rfl : (bt1 + (2 : Int64)) = (bt1 + (2 : Int64))))).2) zk) ?_
      show own_G p e below s _ _ _ (T67.setTop (mkF m 160 #[.val (.long l1), .second, .val (.long d1), .second, .val (.long l2), .second, .val (.long d2), .second, .val (.int fl), .val (.long ln1), .second, .val (.long bt1), .second, .val (.ref b3), .val (.long ln2), .second, .val (.long bt1), .second, .val (.ref nb64), .unset, .val (.long bt1), .second] []))
      refine own_st (fun zt zk => XS.iconst X67.here hx rfl (hb hby at_160) zk) ?_
      show own_G p e below s _ _ _ (T67.setTop (mkF m 161 #[.val (.long l1), .second, .val (.long d1), .second, .val (.long l2), .second, .val (.long d2), .second, .val (.int fl), .val (.long ln1), .second, .val (.long bt1), .second, .val (.ref b3), .val (.long ln2), .second, .val (.long bt1), .second, .val (.ref nb64), .unset, .val (.long bt1), .second] [(.int (1 : Int32))]))
      refine own_st (fun zt zk => XS.goto X67.here hx rfl (pc0 := 161) (pc' := 165) rfl (hb hby at_161) (by decide) (by decide) zk) ?_
      show own_G p e below s _ _ _ (T67.setTop (mkF m 165 #[.val (.long l1), .second, .val (.long d1), .second, .val (.long l2), .second, .val (.long d2), .second, .val (.int fl), .val (.long ln1), .second, .val (.long bt1), .second, .val (.ref b3), .val (.long ln2), .second, .val (.long bt1), .second, .val (.ref nb64), .unset, .val (.long bt1), .second] [(.int (1 : Int32))]))
      refine own_st (fun zt zk => XS.istore X67.here hx rfl (hb hby at_165) rfl (l' := #[.val (.long l1), .second, .val (.long d1), .second, .val (.long l2), .second, .val (.long d2), .second, .val (.int fl), .val (.long ln1), .second, .val (.long bt1), .second, .val (.ref b3), .val (.long ln2), .second, .val (.long bt1), .second, .val (.ref nb64), .val (.int (1 : Int32)), .val (.long bt1), .second]) rfl zk) ?_
      show own_G p e below s _ _ _ (T67.setTop (mkF m 167 #[.val (.long l1), .second, .val (.long d1), .second, .val (.long l2), .second, .val (.long d2), .second, .val (.int fl), .val (.long ln1), .second, .val (.long bt1), .second, .val (.ref b3), .val (.long ln2), .second, .val (.long bt1), .second, .val (.ref nb64), .val (.int (1 : Int32)), .val (.long bt1), .second] []))
      refine own_st (fun zt zk => XS.lload X67.here hx rfl (hb hby at_167) rfl zk) ?_
      show own_G p e below s _ _ _ (T67.setTop (mkF m 169 #[.val (.long l1), .second, .val (.long d1), .second, .val (.long l2), .second, .val (.long d2), .second, .val (.int fl), .val (.long ln1), .second, .val (.long bt1), .second, .val (.ref b3), .val (.long ln2), .second, .val (.long bt1), .second, .val (.ref nb64), .val (.int (1 : Int32)), .val (.long bt1), .second] [(.long ln2)]))
      refine own_st (fun zt zk => XS.lload X67.here hx rfl (hb hby at_169) rfl zk) ?_
      show own_G p e below s _ _ _ (T67.setTop (mkF m 171 #[.val (.long l1), .second, .val (.long d1), .second, .val (.long l2), .second, .val (.long d2), .second, .val (.int fl), .val (.long ln1), .second, .val (.long bt1), .second, .val (.ref b3), .val (.long ln2), .second, .val (.long bt1), .second, .val (.ref nb64), .val (.int (1 : Int32)), .val (.long bt1), .second] [(.long bt1), (.long ln2)]))
      refine own_st (fun zt zk => XS.lcmp X67.here hx rfl (hb hby at_171) rfl zk) ?_
      show own_G p e below s _ _ _ (T67.setTop (mkF m 172 #[.val (.long l1), .second, .val (.long d1), .second, .val (.long l2), .second, .val (.long d2), .second, .val (.int fl), .val (.long ln1), .second, .val (.long bt1), .second, .val (.ref b3), .val (.long ln2), .second, .val (.long bt1), .second, .val (.ref nb64), .val (.int (1 : Int32)), .val (.long bt1), .second] [(.int (lcmpW ln2 bt1))]))
      by_cases hc172_68 : ln2 < bt1
      · refine own_st (fun zt zk => XS.ifNo X67.here hx rfl (hb hby at_172) rfl ((if0 _ _).trans (tlt ((lw_lt ln2 bt1).mpr hc172_68)).2.1) zk) ?_
        show own_G p e below s _ _ _ (T67.setTop (mkF m 175 #[.val (.long l1), .second, .val (.long d1), .second, .val (.long l2), .second, .val (.long d2), .second, .val (.int fl), .val (.long ln1), .second, .val (.long bt1), .second, .val (.ref b3), .val (.long ln2), .second, .val (.long bt1), .second, .val (.ref nb64), .val (.int (1 : Int32)), .val (.long bt1), .second] []))
        refine own_st (fun zt zk => XS.aload X67.here hx rfl (hb hby at_175) rfl rfl zk) ?_
        show own_G p e below s _ _ _ (T67.setTop (mkF m 177 #[.val (.long l1), .second, .val (.long d1), .second, .val (.long l2), .second, .val (.long d2), .second, .val (.int fl), .val (.long ln1), .second, .val (.long bt1), .second, .val (.ref b3), .val (.long ln2), .second, .val (.long bt1), .second, .val (.ref nb64), .val (.int (1 : Int32)), .val (.long bt1), .second] [(.ref b3)]))
        have E70 : Exa Z T64.heap b3 "com/example/deferral_ledger/deferralledger/model/JournalEnd" := (E65.keep K64)
        have E71 : Exa Z T64.heap b5 "com/example/deferral_ledger/deferralledger/model/JournalPlace" := ((((E57.ext E55).keep K58).keep K59).keep K64)
        have E72 : Exa Z T64.heap b55 "com/example/deferral_ledger/deferralledger/model/JournalPlace" := ((E63.keep K59).keep K64)
        obtain ⟨T69, h69, X69, e69, E69, A69, D69, -, st69⟩ := newO X67 hx hZ hown (hw _ (List.mem_of_getElem? (i := 24) rfl)) (hw _ (List.mem_of_getElem? (i := 25) rfl)) (hw _ (List.mem_of_getElem? (i := 26) rfl)) e67 (g := (mkF m 177 #[.val (.long l1), .second, .val (.long d1), .second, .val (.long l2), .second, .val (.long d2), .second, .val (.int fl), .val (.long ln1), .second, .val (.long bt1), .second, .val (.ref b3), .val (.long ln2), .second, .val (.long bt1), .second, .val (.ref nb64), .val (.int (1 : Int32)), .val (.long bt1), .second] [(.ref b3)])) rfl (hb hby at_177) (by decide) (by decide)
        obtain ⟨b69, g69⟩ : ∃ z, z = T64.heap.size := ⟨_, rfl⟩
        rw [← g69] at A69 D69 st69
        have ne69_b3 : b3 ≠ b69 := by rw [g69]; exact Nat.ne_of_lt E70.lt
        have ne69_b5 : b5 ≠ b69 := by rw [g69]; exact Nat.ne_of_lt E71.lt
        have ne69_b55 : b55 ≠ b69 := by rw [g69]; exact Nat.ne_of_lt E72.lt
        have ne69_nb64 : nb64 ≠ b69 := by rw [g69]; exact Nat.ne_of_lt q64_0.lt
        have ge69 : n0 ≤ b69 := Nat.le_trans (Nat.le_trans (Nat.le_trans (Nat.le_trans (Nat.le_trans (Nat.le_trans (Nat.le_trans (Nat.le_trans (Nat.le_trans (Nat.le_trans Z0 E3.1) K4.1) E5.1) K7.1) K8.1) E55.1) K58.1) K59.1) K64.1) (Nat.le_of_eq g69.symm)
        have sz69 : h0.size ≤ b69 := Nat.le_trans (Nat.le_trans (Nat.le_trans (Nat.le_trans (Nat.le_trans (Nat.le_trans (Nat.le_trans (Nat.le_trans (Nat.le_trans (Nat.le_trans (Nat.le_refl h0.size) E3.1) K4.1) E5.1) K7.1) K8.1) E55.1) K58.1) K59.1) K64.1) (Nat.le_of_eq g69.symm)
        refine own_st st69 ?_
        show own_G p e below s _ _ _ (T69.setTop (mkF m 180 #[.val (.long l1), .second, .val (.long d1), .second, .val (.long l2), .second, .val (.long d2), .second, .val (.int fl), .val (.long ln1), .second, .val (.long bt1), .second, .val (.ref b3), .val (.long ln2), .second, .val (.long bt1), .second, .val (.ref nb64), .val (.int (1 : Int32)), .val (.long bt1), .second] [(.ref b69), (.ref b3)]))
        refine own_st (fun zt zk => XS.dup X69.here hx rfl (hb hby at_180) rfl rfl zk) ?_
        show own_G p e below s _ _ _ (T69.setTop (mkF m 181 #[.val (.long l1), .second, .val (.long d1), .second, .val (.long l2), .second, .val (.long d2), .second, .val (.int fl), .val (.long ln1), .second, .val (.long bt1), .second, .val (.ref b3), .val (.long ln2), .second, .val (.long bt1), .second, .val (.ref nb64), .val (.int (1 : Int32)), .val (.long bt1), .second] [(.ref b69), (.ref b69), (.ref b3)]))
        refine own_st (fun zt zk => XS.lload X69.here hx rfl (hb hby at_181) rfl zk) ?_
        show own_G p e below s _ _ _ (T69.setTop (mkF m 183 #[.val (.long l1), .second, .val (.long d1), .second, .val (.long l2), .second, .val (.long d2), .second, .val (.int fl), .val (.long ln1), .second, .val (.long bt1), .second, .val (.ref b3), .val (.long ln2), .second, .val (.long bt1), .second, .val (.ref nb64), .val (.int (1 : Int32)), .val (.long bt1), .second] [(.long ln2), (.ref b69), (.ref b69), (.ref b3)]))
        refine own_st (fun zt zk => XS.lconst X69.here hx rfl (hb hby at_183) zk) ?_
        show own_G p e below s _ _ _ (T69.setTop (mkF m 184 #[.val (.long l1), .second, .val (.long d1), .second, .val (.long l2), .second, .val (.long d2), .second, .val (.int fl), .val (.long ln1), .second, .val (.long bt1), .second, .val (.ref b3), .val (.long ln2), .second, .val (.long bt1), .second, .val (.ref nb64), .val (.int (1 : Int32)), .val (.long bt1), .second] [(.long (1 : Int64)), (.long ln2), (.ref b69), (.ref b69), (.ref b3)]))
        refine own_st (fun zt zk => XS.ladd X69.here hx rfl (hb hby at_184) rfl zk) ?_
        show own_G p e below s _ _ _ (T69.setTop (mkF m 185 #[.val (.long l1), .second, .val (.long d1), .second, .val (.long l2), .second, .val (.long d2), .second, .val (.int fl), .val (.long ln1), .second, .val (.long bt1), .second, .val (.ref b3), .val (.long ln2), .second, .val (.long bt1), .second, .val (.ref nb64), .val (.int (1 : Int32)), .val (.long bt1), .second] [(.long (ln2 + (1 : Int64))), (.ref b69), (.ref b69), (.ref b3)]))
        refine own_st (fun zt zk => XS.lload X69.here hx rfl (hb hby at_185) rfl zk) ?_
        show own_G p e below s _ _ _ (T69.setTop (mkF m 187 #[.val (.long l1), .second, .val (.long d1), .second, .val (.long l2), .second, .val (.long d2), .second, .val (.int fl), .val (.long ln1), .second, .val (.long bt1), .second, .val (.ref b3), .val (.long ln2), .second, .val (.long bt1), .second, .val (.ref nb64), .val (.int (1 : Int32)), .val (.long bt1), .second] [(.long bt1), (.long (ln2 + (1 : Int64))), (.ref b69), (.ref b69), (.ref b3)]))
        obtain ⟨_, T73, L73, X73, hQ73, st73⟩ := own_callI X69 hx hZ (y := (⟨"com/example/deferral_ledger/deferralledger/model/JournalPlace", "<init>", "(JJ)V"⟩ : MethodName)) (a := b69) (argsL := [(.long (ln2 + (1 : Int64))), (.long bt1)]) (rest := [(.ref b69), (.ref b3)]) 2 rfl hown (hw _ (List.mem_of_getElem? (i := 27) rfl)) (hw _ (List.mem_of_getElem? (i := 28) rfl)) (hw _ (List.mem_of_getElem? (i := 26) rfl)) (hw _ (List.mem_of_getElem? (i := 29) rfl)) (by decide) (own_jpi l Z a0 hw [] b69 (ln2 + (1 : Int64)) bt1 h69 n0 (Nat.le_trans (Nat.le_trans (Nat.le_trans (Nat.le_trans (Nat.le_trans (Nat.le_trans (Nat.le_trans (Nat.le_trans (Nat.le_trans (Nat.le_trans Z0 E3.1) K4.1) E5.1) K7.1) K8.1) E55.1) K58.1) K59.1) K64.1) E69.1) A69 (D69 (Or.inr (hw _ (List.mem_of_getElem? (i := 33) rfl))) (ty := .long) (by decide)) (D69 (Or.inr (hw _ (List.mem_of_getElem? (i := 35) rfl))) (ty := .long) (by decide)) ge69 (by have q := hc172_68; rw [Int64.lt_iff_toInt_lt] at q; rw [Int64.lt_iff_toInt_lt]; omega) (by have q := hc172_68; rw [Int64.lt_iff_toInt_lt] at q; rw [Int64.lt_iff_toInt_lt]; omega)) (by decide) (by decide) e69 (g := (mkF m 187 #[.val (.long l1), .second, .val (.long d1), .second, .val (.long l2), .second, .val (.long d2), .second, .val (.int fl), .val (.long ln1), .second, .val (.long bt1), .second, .val (.ref b3), .val (.long ln2), .second, .val (.long bt1), .second, .val (.ref nb64), .val (.int (1 : Int32)), .val (.long bt1), .second] [(.long bt1), (.long (ln2 + (1 : Int64))), (.ref b69), (.ref b69), (.ref b3)])) rfl (by rw [hml]; rfl) own_pd1 rfl rfl (by show 2 * 0 + _ ≤ _; exact Nat.le_of_eq rfl) (hb hby at_187) (by decide) (by decide)
        obtain ⟨rfl, N73q, K73, q73_0, q73_1⟩ := hQ73
        have N73 := Fr.app N67 N73q
        refine own_st st73 ?_
        show own_G p e below s _ _ _ (T73.setTop (mkF m 190 #[.val (.long l1), .second, .val (.long d1), .second, .val (.long l2), .second, .val (.long d2), .second, .val (.int fl), .val (.long ln1), .second, .val (.long bt1), .second, .val (.ref b3), .val (.long ln2), .second, .val (.long bt1), .second, .val (.ref nb64), .val (.int (1 : Int32)), .val (.long bt1), .second] [(.ref b69), (.ref b3)]))
        have F75 : Fld Z T73.heap b3 "com/example/deferral_ledger/deferralledger/model/JournalEnd" "lastEntry" "J" (.long ln2) := (((q59_0.keep K64 nin0).ext E69).keep K73 (ninS ne69_b3 nin0))
        have F76 : Fld Z T73.heap b3 "com/example/deferral_ledger/deferralledger/model/JournalEnd" "batch" "J" (.long bt1) := (((q59_1.keep K64 nin0).ext E69).keep K73 (ninS ne69_b3 nin0))
        have E77 : Exa Z T73.heap b69 "com/example/deferral_ledger/deferralledger/model/JournalPlace" := (A69.keep K73)
        have E78 : Exa Z T73.heap b3 "com/example/deferral_ledger/deferralledger/model/JournalEnd" := ((E70.ext E69).keep K73)
        obtain ⟨_, T74, L74, X74, hQ74, st74⟩ := own_callV X73 hx hZ (C := "com/example/deferral_ledger/deferralledger/model/JournalEnd") (y := (⟨"com/example/deferral_ledger/deferralledger/model/JournalEnd", "requireBefore", "(Lcom/example/deferral_ledger/deferralledger/model/JournalPlace;)V"⟩ : MethodName)) (z := (⟨"com/example/deferral_ledger/deferralledger/model/JournalEnd", "requireBefore", "(Lcom/example/deferral_ledger/deferralledger/model/JournalPlace;)V"⟩ : MethodName)) (a := b3) (argsL := [(.ref b69)]) (rest := []) 0 hown (hw _ (List.mem_of_getElem? (i := 61) rfl)) (hw _ (List.mem_of_getElem? (i := 62) rfl)) (own_nf hZ (hw _ (List.mem_of_getElem? (i := 64) rfl))) (hw _ (List.mem_of_getElem? (i := 64) rfl)) (hw _ (List.mem_of_getElem? (i := 63) rfl)) (hw _ (List.mem_of_getElem? (i := 13) rfl)) (hw _ (List.mem_of_getElem? (i := 65) rfl)) (by decide) (own_rqb l Z a0 hw [] b3 b69 ln2 bt1 (ln2 + (1 : Int64)) T73.heap n0 (Nat.le_trans (Nat.le_trans (Nat.le_trans (Nat.le_trans (Nat.le_trans (Nat.le_trans (Nat.le_trans (Nat.le_trans (Nat.le_trans (Nat.le_trans (Nat.le_trans Z0 E3.1) K4.1) E5.1) K7.1) K8.1) E55.1) K58.1) K59.1) K64.1) E69.1) K73.1) E77 F75 F76 q73_0 q73_1 (by have q := hc172_68; rw [Int64.lt_iff_toInt_lt] at q; rw [Int64.lt_iff_toInt_lt]; omega)) (by decide) (by decide) rfl E78 (g := (mkF m 190 #[.val (.long l1), .second, .val (.long d1), .second, .val (.long l2), .second, .val (.long d2), .second, .val (.int fl), .val (.long ln1), .second, .val (.long bt1), .second, .val (.ref b3), .val (.long ln2), .second, .val (.long bt1), .second, .val (.ref nb64), .val (.int (1 : Int32)), .val (.long bt1), .second] [(.ref b69), (.ref b3)])) rfl (by rw [hml]; rfl) own_pd5 rfl rfl (by show 2 * 0 + _ ≤ _; exact Nat.le_of_eq rfl) (hb hby at_190) (by decide) (by decide)
        obtain ⟨rfl, N74q, e74⟩ := hQ74
        have N74 := Fr.app N73 N74q
        refine own_st st74 ?_
        show own_G p e below s _ _ _ (T74.setTop (mkF m 193 #[.val (.long l1), .second, .val (.long d1), .second, .val (.long l2), .second, .val (.long d2), .second, .val (.int fl), .val (.long ln1), .second, .val (.long bt1), .second, .val (.ref b3), .val (.long ln2), .second, .val (.long bt1), .second, .val (.ref nb64), .val (.int (1 : Int32)), .val (.long bt1), .second] []))
        refine own_st (fun zt zk => XS.iload X74.here hx rfl (hb hby at_193) rfl zk) ?_
        show own_G p e below s _ _ _ (T74.setTop (mkF m 195 #[.val (.long l1), .second, .val (.long d1), .second, .val (.long l2), .second, .val (.long d2), .second, .val (.int fl), .val (.long ln1), .second, .val (.long bt1), .second, .val (.ref b3), .val (.long ln2), .second, .val (.long bt1), .second, .val (.ref nb64), .val (.int (1 : Int32)), .val (.long bt1), .second] [(.int (1 : Int32))]))
        refine own_retZ X74 hx hlk hret (by decide) (hb hby at_195) (by decide) (by decide) ?_
        show Q_own_law Z l1 d1 l2 d2 fl h0 n0 (some (.int (1 : Int32))) T74.heap _
        rw [e74]
        exact ⟨rfl, N74⟩
      · refine own_st (fun zt zk => XS.ifYes X67.here hx rfl (pc0 := 172) (pc' := 193) rfl (hb hby at_172) rfl ((if0 _ _).trans (flt (mt (lw_lt ln2 bt1).mp hc172_68)).2.1) (by decide) (by decide) zk) ?_
        show own_G p e below s _ _ _ (T67.setTop (mkF m 193 #[.val (.long l1), .second, .val (.long d1), .second, .val (.long l2), .second, .val (.long d2), .second, .val (.int fl), .val (.long ln1), .second, .val (.long bt1), .second, .val (.ref b3), .val (.long ln2), .second, .val (.long bt1), .second, .val (.ref nb64), .val (.int (1 : Int32)), .val (.long bt1), .second] []))
        refine own_st (fun zt zk => XS.iload X67.here hx rfl (hb hby at_193) rfl zk) ?_
        show own_G p e below s _ _ _ (T67.setTop (mkF m 195 #[.val (.long l1), .second, .val (.long d1), .second, .val (.long l2), .second, .val (.long d2), .second, .val (.int fl), .val (.long ln1), .second, .val (.long bt1), .second, .val (.ref b3), .val (.long ln2), .second, .val (.long bt1), .second, .val (.ref nb64), .val (.int (1 : Int32)), .val (.long bt1), .second] [(.int (1 : Int32))]))
        refine own_retZ X67 hx hlk hret (by decide) (hb hby at_195) (by decide) (by decide) ?_
        show Q_own_law Z l1 d1 l2 d2 fl h0 n0 (some (.int (1 : Int32))) T67.heap _
        rw [e67]
        exact ⟨rfl, N67⟩
set_option maxRecDepth 65536 in
set_option maxHeartbeats 40000000 in
theorem comes_1 {Post : Tables → Env → Array Value → State → Outcome → State → Prop} (hpost : ∀ tb e args s v u, (limb_1_1.after args s (.returned v) u = true ∧ limb_1_2.after args s (.returned v) u = true ∧ True) → FrameEnd s (.returned v) u (Jvm.fieldLocs frame_1_writes args s ++ Jvm.arrayLocs frame_1_arrays args s ++ Jvm.staticLocs frame_1_statics s) 24 128 → Post tb e args s (.returned v) u) :
    ArmFor flags0 classFile x code maxLocals ret World_1 tables_1 room_1 Calls_1 rest_1 Pre_1 Post := by
  intro l hfl _ _ p e ha hc hk s m args below hf hA hF happ hP
  obtain ⟨hcalls, hrest, hpre⟩ := hP
  obtain ⟨-, -, -, hnamed, -, -, -, hat⟩ := (Spec.applies_iff hf).mp happ
  obtain ⟨hg, hn⟩ := and_e (Cond.before_iff.mp (show (Jvm.Cond.and given_1 narrow_1).before args s = true from hpre))
  obtain ⟨k1, k2⟩ := and_e hg
  obtain ⟨j0, i0⟩ := and_e k2
  obtain ⟨j1, i1⟩ := and_e i0
  obtain ⟨j2, i2⟩ := and_e i1
  obtain ⟨j3, i3⟩ := and_e i2
  obtain ⟨w0, w1, w2, w3, w4, rfl⟩ : ∃ w0 w1 w2 w3 w4 : Value, args = #[w0, w1, w2, w3, w4] := by
    have hs : args.size = 5 := by simpa [Cond.value, given_1] using k1
    obtain ⟨L⟩ := args
    match L, hs with
    | [w0, w1, w2, w3, w4], _ => exact ⟨w0, w1, w2, w3, w4, rfl⟩
  have hw := fun d (hd : d ∈ tables_1) => atoms_spec (ws := Jvm.Cond.code x code maxLocals ret :: tables_1) hat d (List.mem_cons_of_mem _ hd)
  have hfit : Fit s := fun {y c} hc i hi => by
    obtain ⟨ha, rfl⟩ := Array.getElem?_eq_some_iff.mp hc
    have q := List.all_eq_true.mp ((Array.all_eq_true_iff_forall_mem.mp hF) _ (Array.getElem_mem ha)) i (List.mem_range.mpr hi)
    simpa [Array.getElem?_eq_getElem hi] using q
  obtain ⟨y0, z0⟩ := isL_v j0
  obtain rfl : w0 = (.long y0) := Option.some.inj z0
  obtain ⟨y1, z1⟩ := isL_v j1
  obtain rfl : w1 = (.long y1) := Option.some.inj z1
  obtain ⟨y2, z2⟩ := isL_v j2
  obtain rfl : w2 = (.long y2) := Option.some.inj z2
  obtain ⟨y3, z3⟩ := isL_v j3
  obtain rfl : w3 = (.long y3) := Option.some.inj z3
  obtain ⟨y4, z4⟩ := is_v i3
  obtain rfl : w4 = (.int y4) := Option.some.inj z4
  obtain ⟨n, o, h1, h2, h3, _, L, rfl, ⟨rfl, N⟩, hq⟩ := own_law l s _ hw tables_1 y0 y1 y2 y3 y4 s.heap s.heap.size (Nat.le_refl _)  p e ha hc hk s m _ below hf ((Spec.applies_iff_loose hf).mp happ).1 ⟨rfl, State.Warmed39.refl s, rfl⟩ trivial
  refine ⟨n, _, h1, h2, h3, hpost _ _ _ _ _ _ ⟨Cond.after_iff.mpr rfl, Cond.after_iff.mpr (eq_i res_at (Term.int_eval (1)) rfl), trivial⟩ ⟨hq.1, hq.2.1, (hq.2.2.sift fun y hy => Or.inr (N y hy)).mono (by decide) (by decide)⟩⟩
theorem main_1_1 : Claimed_1_1 := comes_1 fun _ _ _ _ _ _ h hF => ⟨h.1, hF⟩
theorem main_1_2 : Claimed_1_2 := comes_1 fun _ _ _ _ _ _ h hF => ⟨h.2.1, hF⟩
end Jvm.Pilot.@@N@@
namespace Jvm.Pilot.@@N@@
open Jvm Jvm.ClassFile Sem Op Lib Jvm.Free Jvm.Stand Jvm.Pilot.@@N@@.Jvm.D
/-! MADE BY PROGRAM (witnessworld.py) out of the Statement's table words and the real class files: 10 classes; the members and pool entries that the words name. The judged class is class 1, her method 3. -/
namespace start1
open Jvm.ClassFile
def u (s : String) : CpInfo := .utf8 (stringToUtf16 s)
/-- a pool by its gaps: so many unusable entries, then the entry; so many at the end -/
def gap : Nat → List CpInfo → List CpInfo
  | 0, r => r
  | n + 1, r => .unusable :: gap n r
def poolList (es : List (Nat × CpInfo)) (last : Nat) : List CpInfo := es.foldr (fun e r => gap e.1 (e.2 :: r)) (gap last [])
def pool (es : List (Nat × CpInfo)) (last : Nat) : Array CpInfo := ⟨poolList es last⟩
def fileOf (pool : Array CpInfo) (this : Nat) (attrs : Array Attribute := #[]) (ms : Array MethodInfo := #[]) (fl : Nat := 33) (sup : Nat := 0) (ifs : Array Nat := #[]) (fds : Array FieldInfo := #[]) : ClassFile where
  minorVersion := 0
  majorVersion := 65
  constantPool := pool
  accessFlags := fl
  thisClass := this
  superClass := sup
  interfaces := ifs
  fields := fds
  methods := ms
  attributes := attrs
def plain (name : String) (sup : Option ClassId) : Class where
  name := name
  kind := .ordinary
  loader := none
  accessFlags := 33
  super := sup
  interfaces := #[]
  cf := none
  fields := #[]
  methods := #[]
  instanceTypes := #[]
  staticTypes := #[]
  resolved := #[]
  callSites := []
  init := .initialized
  statics := none
  mirror := none

def pool0 : Array CpInfo := pool [(5, u "<init>"), (0, u "()V"), (1, .class_ 10), (1, u "java/lang/Object")] 113

def k0c0 : Code := { maxStack := 0, maxLocals := 1, code := object_method_1_code, exceptionTable := #[], attributes := #[] }
def k0m0 : Method := { name := "<init>", desc := "()V", sig := { parameters := [], returnType := none }, accessFlags := 1, code := some k0c0 }
/-- java/lang/Object -/
def k0 : Class := { plain "java/lang/Object" none with
  accessFlags := 33
  interfaces := #[]
  cf := some (fileOf pool0 8 #[] #[{ accessFlags := 1, nameIndex := 5, descriptorIndex := 6, attributes := #[] }] 33 0 #[] #[])
  fields := #[]
  methods := #[k0m0]
  instanceTypes := #[]
  staticTypes := #[]
  resolved := Array.replicate 124 none
  statics := none }

def pool1 : Array CpInfo := pool [(2, .class_ 4), (0, .nameAndType 5 6), (0, u "java/lang/Object"), (0, u "<init>"), (0, u "()V"), (0, .long 2), (3, .long 9223372036854775807), (1, .long 9223372036854775804), (1, .long 9223372036854775806), (1, .methodref 18 19), (0, .class_ 20), (0, .nameAndType 21 22), (0, u "com/example/deferral_ledger/deferralledger/model/JournalEndMoveToPinLaw"), (0, u "lineOf"), (0, u "(J)J"), (0, .methodref 18 24), (0, .nameAndType 25 26), (0, u "batchOf"), (0, u "(JJ)J"), (0, .class_ 28), (0, u "com/example/deferral_ledger/deferralledger/model/JournalEnd"), (0, .methodref 27 3), (0, .class_ 31), (0, u "com/example/deferral_ledger/deferralledger/model/JournalPlace"), (0, .methodref 30 33), (0, .nameAndType 5 34), (0, u "(JJ)V"), (0, .methodref 27 36), (0, .nameAndType 37 38), (0, u "moveTo"), (0, u "(Lcom/example/deferral_ledger/deferralledger/model/JournalPlace;)V"), (0, .methodref 27 40), (0, .nameAndType 41 42), (0, u "next"), (0, u "()Lcom/example/deferral_ledger/deferralledger/model/JournalPlace;"), (0, .methodref 30 44), (0, .nameAndType 45 46), (0, u "line"), (0, u "()J"), (0, .methodref 30 48), (0, .nameAndType 49 46), (0, u "batch"), (0, .methodref 27 51), (0, .nameAndType 52 38), (0, u "requireBefore"), (2, u "law"), (0, u "(JJJJI)Z")] 3

def k1m0 : Method := { name := "<init>", desc := "()V", sig := { parameters := [], returnType := none }, accessFlags := 1, code := none }
def k1c1 : Code := { maxStack := 6, maxLocals := 2, code := method_2_code, exceptionTable := #[], attributes := #[] }
def k1m1 : Method := { name := "lineOf", desc := "(J)J", sig := { parameters := [.long], returnType := some .long }, accessFlags := 10, code := some k1c1 }
def k1c2 : Code := { maxStack := 8, maxLocals := 4, code := method_3_code, exceptionTable := #[], attributes := #[] }
def k1m2 : Method := { name := "batchOf", desc := "(JJ)J", sig := { parameters := [.long, .long], returnType := some .long }, accessFlags := 10, code := some k1c2 }
def k1c3 : Code := { maxStack := 8, maxLocals := 22, code := code, exceptionTable := #[], attributes := #[] }
def k1m3 : Method := { name := "law", desc := "(JJJJI)Z", sig := { parameters := [.long, .long, .long, .long, .int], returnType := some .boolean }, accessFlags := 9, code := some k1c3 }
/-- com/example/deferral_ledger/deferralledger/model/JournalEndMoveToPinLaw -/
def k1 : Class := { plain "com/example/deferral_ledger/deferralledger/model/JournalEndMoveToPinLaw" (some 0) with
  accessFlags := 49
  interfaces := #[]
  cf := some (fileOf pool1 18 #[] #[{ accessFlags := 1, nameIndex := 5, descriptorIndex := 6, attributes := #[] }, { accessFlags := 10, nameIndex := 21, descriptorIndex := 22, attributes := #[] }, { accessFlags := 10, nameIndex := 25, descriptorIndex := 26, attributes := #[] }, { accessFlags := 9, nameIndex := 55, descriptorIndex := 56, attributes := #[] }] 49 2 #[] #[])
  fields := #[]
  methods := #[k1m0, k1m1, k1m2, k1m3]
  instanceTypes := #[]
  staticTypes := #[]
  resolved := Array.replicate 60 none
  statics := none }

def pool2 : Array CpInfo := pool [(1, .methodref 2 3), (0, .class_ 4), (0, .nameAndType 5 6), (0, u "java/lang/Object"), (0, u "<init>"), (0, u "()V"), (0, .fieldref 8 9), (0, .class_ 10), (0, .nameAndType 11 12), (0, u "com/example/deferral_ledger/deferralledger/model/JournalEnd"), (0, u "lastEntry"), (0, u "J"), (0, .fieldref 8 14), (0, .nameAndType 15 12), (0, u "batch"), (0, .class_ 17), (0, u "com/example/deferral_ledger/deferralledger/model/JournalPlace"), (0, .long 2), (1, .methodref 16 21), (0, .nameAndType 5 22), (0, u "(JJ)V"), (0, .methodref 16 24), (0, .nameAndType 15 25), (0, u "()J"), (0, .methodref 16 27), (0, .nameAndType 28 25), (0, u "line"), (11, u "next"), (0, u "()Lcom/example/deferral_ledger/deferralledger/model/JournalPlace;"), (0, u "requireBefore"), (0, u "(Lcom/example/deferral_ledger/deferralledger/model/JournalPlace;)V"), (1, u "moveTo")] 17

def k2c0 : Code := { maxStack := 3, maxLocals := 1, code := prog_44_method_1_code, exceptionTable := #[], attributes := #[] }
def k2m0 : Method := { name := "<init>", desc := "()V", sig := { parameters := [], returnType := none }, accessFlags := 0, code := some k2c0 }
def k2c1 : Code := { maxStack := 8, maxLocals := 1, code := prog_44_method_2_code, exceptionTable := #[], attributes := #[] }
def k2m1 : Method := { name := "next", desc := "()Lcom/example/deferral_ledger/deferralledger/model/JournalPlace;", sig := { parameters := [], returnType := some (.object "com/example/deferral_ledger/deferralledger/model/JournalPlace") }, accessFlags := 0, code := some k2c1 }
def k2c2 : Code := { maxStack := 8, maxLocals := 4, code := prog_44_method_3_code, exceptionTable := #[], attributes := #[] }
def k2m2 : Method := { name := "requireBefore", desc := "(Lcom/example/deferral_ledger/deferralledger/model/JournalPlace;)V", sig := { parameters := [(.object "com/example/deferral_ledger/deferralledger/model/JournalPlace")], returnType := none }, accessFlags := 0, code := some k2c2 }
def k2c3 : Code := { maxStack := 3, maxLocals := 2, code := prog_44_method_4_code, exceptionTable := #[], attributes := #[] }
def k2m3 : Method := { name := "moveTo", desc := "(Lcom/example/deferral_ledger/deferralledger/model/JournalPlace;)V", sig := { parameters := [(.object "com/example/deferral_ledger/deferralledger/model/JournalPlace")], returnType := none }, accessFlags := 0, code := some k2c3 }
/-- com/example/deferral_ledger/deferralledger/model/JournalEnd -/
def k2 : Class := { plain "com/example/deferral_ledger/deferralledger/model/JournalEnd" (some 0) with
  accessFlags := 32
  interfaces := #[]
  cf := some (fileOf pool2 8 #[] #[{ accessFlags := 0, nameIndex := 5, descriptorIndex := 6, attributes := #[] }, { accessFlags := 0, nameIndex := 40, descriptorIndex := 41, attributes := #[] }, { accessFlags := 0, nameIndex := 42, descriptorIndex := 43, attributes := #[] }, { accessFlags := 0, nameIndex := 45, descriptorIndex := 43, attributes := #[] }] 32 2 #[] #[{ accessFlags := 2, nameIndex := 11, descriptorIndex := 12, attributes := #[] }, { accessFlags := 2, nameIndex := 15, descriptorIndex := 12, attributes := #[] }])
  fields := #[{ name := "lastEntry", type := .long, accessFlags := 2, slot := 0, constantValue := 0 }, { name := "batch", type := .long, accessFlags := 2, slot := 1, constantValue := 0 }]
  methods := #[k2m0, k2m1, k2m2, k2m3]
  instanceTypes := #[.long, .long]
  staticTypes := #[]
  resolved := Array.replicate 63 none
  statics := none }

def pool3 : Array CpInfo := pool [(1, .methodref 2 3), (0, .class_ 4), (0, .nameAndType 5 6), (0, u "java/lang/Object"), (0, u "<init>"), (0, u "()V"), (0, .long 2), (10, .fieldref 19 20), (0, .class_ 21), (0, .nameAndType 22 23), (0, u "com/example/deferral_ledger/deferralledger/model/JournalPlace"), (0, u "line"), (0, u "J"), (0, .fieldref 19 25), (0, .nameAndType 26 23), (0, u "batch"), (0, u "(JJ)V"), (3, u "()J")] 17

def k3c0 : Code := { maxStack := 6, maxLocals := 5, code := prog_46_method_1_code, exceptionTable := #[], attributes := #[] }
def k3m0 : Method := { name := "<init>", desc := "(JJ)V", sig := { parameters := [.long, .long], returnType := none }, accessFlags := 1, code := some k3c0 }
def k3c1 : Code := { maxStack := 2, maxLocals := 1, code := prog_46_method_2_code, exceptionTable := #[], attributes := #[] }
def k3m1 : Method := { name := "line", desc := "()J", sig := { parameters := [], returnType := some .long }, accessFlags := 1, code := some k3c1 }
def k3c2 : Code := { maxStack := 2, maxLocals := 1, code := prog_46_method_3_code, exceptionTable := #[], attributes := #[] }
def k3m2 : Method := { name := "batch", desc := "()J", sig := { parameters := [], returnType := some .long }, accessFlags := 1, code := some k3c2 }
/-- com/example/deferral_ledger/deferralledger/model/JournalPlace -/
def k3 : Class := { plain "com/example/deferral_ledger/deferralledger/model/JournalPlace" (some 0) with
  accessFlags := 33
  interfaces := #[]
  cf := some (fileOf pool3 19 #[] #[{ accessFlags := 1, nameIndex := 5, descriptorIndex := 27, attributes := #[] }, { accessFlags := 1, nameIndex := 22, descriptorIndex := 31, attributes := #[] }, { accessFlags := 1, nameIndex := 26, descriptorIndex := 31, attributes := #[] }] 33 2 #[] #[{ accessFlags := 18, nameIndex := 22, descriptorIndex := 23, attributes := #[] }, { accessFlags := 18, nameIndex := 26, descriptorIndex := 23, attributes := #[] }])
  fields := #[{ name := "line", type := .long, accessFlags := 18, slot := 0, constantValue := 0 }, { name := "batch", type := .long, accessFlags := 18, slot := 1, constantValue := 0 }]
  methods := #[k3m0, k3m1, k3m2]
  instanceTypes := #[.long, .long]
  staticTypes := #[]
  resolved := Array.replicate 49 none
  statics := none }

def pool4 : Array CpInfo := pool [(1, u "java/lang/Cloneable"), (0, .class_ 1), (0, u "java/lang/Object"), (0, .class_ 3)] 3

/-- java/lang/Cloneable -/
def k4 : Class := { plain "java/lang/Cloneable" (some 0) with
  accessFlags := 1537
  interfaces := #[]
  cf := some (fileOf pool4 2 #[] #[] 1537 4 #[] #[])
  fields := #[]
  methods := #[]
  instanceTypes := #[]
  staticTypes := #[]
  resolved := Array.replicate 8 none
  statics := none }

def pool5 : Array CpInfo := pool [(1, u "java/io/Serializable"), (0, .class_ 1), (0, u "java/lang/Object"), (0, .class_ 3)] 3

/-- java/io/Serializable -/
def k5 : Class := { plain "java/io/Serializable" (some 0) with
  accessFlags := 1537
  interfaces := #[]
  cf := some (fileOf pool5 2 #[] #[] 1537 4 #[] #[])
  fields := #[]
  methods := #[]
  instanceTypes := #[]
  staticTypes := #[]
  resolved := Array.replicate 8 none
  statics := none }

/-- the primitive byte -/
def k6 : Class := { plain "byte" none with kind := .primitive 'B', accessFlags := 0x411 }
/-- [B -/
def k7 : Class := { plain "[B" (some 0) with kind := .array 6 .byte, interfaces := #[4, 5], accessFlags := 1041 }

/-- the primitive int -/
def k8 : Class := { plain "int" none with kind := .primitive 'I', accessFlags := 0x411 }
/-- [I -/
def k9 : Class := { plain "[I" (some 0) with kind := .array 8 .int, interfaces := #[4, 5], accessFlags := 1041 }

def heap : Heap := #[]
def classes : Array Class := #[k0, k1, k2, k3, k4, k5, k6, k7, k8, k9]
def interned : List (Array UInt16 × Addr) := []
def slotsUsed : Nat := 0
def theMethod : MethodId := ⟨1, 3⟩
def args0 : Array Value := #[.long 5, .long 7, .long 9, .long 4, .int 6]
def aboutOver (below : List Frame) : State where
  vm := { classes := classes, interned := interned.toArray }
  heap := heap
  slotsUsed := slotsUsed
  threads := #[{ frames := .invoking theMethod args0 :: below }]
def below0 : List Frame := [.native { method := ⟨0, 0⟩, args := #[] }]
def about1 : State := aboutOver below0
def p0 : Program := .bare "" "" ""
def e0 : Env := launch0.env 0 0 0
theorem w_frames : about1.frames = Frame.invoking theMethod args0 :: below0 := rfl
set_option maxRecDepth 65536 in
theorem w_args : argsFit about1.vm theMethod args0 = true := by decide +kernel
set_option maxRecDepth 65536 in
theorem w_heap : heapFits about1 = true := by decide +kernel
set_option maxRecDepth 65536 in
theorem w_runnable : about1.curStatus? = some .runnable := by decide +kernel
set_option maxRecDepth 65536 in
theorem w_alone : about1.alone = true := by decide +kernel
set_option maxRecDepth 65536 in
theorem w_named : about1.methodNamed? x = some theMethod := by decide +kernel
set_option maxRecDepth 65536 in
theorem w_hears : about1.hears theMethod below0 = true := by decide +kernel
set_option maxRecDepth 65536 in
theorem w_ripe : about1.ripe theMethod args0 below0 = true := by decide +kernel
theorem w_running : about1.status = .running := rfl
set_option maxRecDepth 65536 in
theorem w_room : about1.hasRoom e0.platform room_1 = true :=
  launch0.hasRoom_least _ room_1 (by decide +kernel) (by decide +kernel) (by decide +kernel) (by decide +kernel) (by decide +kernel) (by decide +kernel)
theorem allAtoms_all (ts : List Jvm.Cond) (a : Array Jvm.Value) (st : Jvm.State) : (allAtoms ts).before a st = ts.all (fun c => c.before a st) := by
  induction ts with
  | nil => rfl
  | cons c t ih =>
    show (Jvm.Cond.and c (allAtoms t)).before a st = _
    rw [Jvm.Cond.before_and, ih, List.all_cons]
def words1 : List Jvm.Cond := Jvm.Cond.code x code maxLocals ret :: tables_1
/-- a 'code' word, met by the world's own term for the bytes: nothing is compared byte by byte -/
theorem code_word {y : MethodName} {bytes : ByteArray} {mx : Nat} {rt : Option FieldType} {a : Array Value} {s : State} {m : MethodId} {meth : Method} {c : Code} (h1 : s.methodNamed? y = some m) (h2 : s.vm.method? m = some meth) (h3 : meth.code = some c) (h4 : c.code = bytes)
    (h5 : (c.maxLocals == mx && c.exceptionTable.isEmpty && decide (c.maxStack ≤ mostOperands) && decide (meth.sig.returnType = rt) && !meth.locks && decide (parseMethodDescriptor y.desc = some meth.sig)) = true) : (Jvm.Cond.code y bytes mx rt).before a s = true := by
  simp only [Bool.and_eq_true, beq_iff_eq, Bool.not_eq_true', decide_eq_true_eq] at h5
  obtain ⟨⟨⟨⟨⟨g1, g2⟩, g3⟩, g4⟩, g5⟩, g6⟩ := h5
  simp [Cond.before, Cond.holds, Cond.value, h1, h2, h3, h4, g1, g2, g3, g4, g5, g6]
def isCode : Jvm.Cond → Bool
  | .code _ _ _ _ => true
  | _ => false
theorem all_split {L : List Jvm.Cond} {P : Jvm.Cond → Bool} (h1 : L.all (fun c => isCode c || P c) = true) (h2 : ∀ c ∈ L.filter isCode, P c = true) : L.all P = true := by
  refine List.all_eq_true.mpr fun c hc => ?_
  have h := List.all_eq_true.mp h1 c hc
  rcases Bool.eq_false_or_eq_true (isCode c) with hi | hi
  · exact h2 c (List.mem_filter.mpr ⟨hc, hi⟩)
  · simpa [hi] using h
set_option maxRecDepth 65536 in
theorem w_c0 : (Jvm.Cond.code x code maxLocals ret).before args0 about1 = true := code_word (m := ⟨1, 3⟩) (meth := k1m3) (c := k1c3) (by decide +kernel) rfl rfl rfl (by decide +kernel)
set_option maxRecDepth 65536 in
theorem w_c1 : (Jvm.Cond.code ({ cls := "com/example/deferral_ledger/deferralledger/model/JournalEndMoveToPinLaw", name := "lineOf", desc := "(J)J" } : Jvm.MethodName) method_2_code (2 : Nat) (Option.some Jvm.ClassFile.FieldType.long)).before args0 about1 = true := code_word (m := ⟨1, 1⟩) (meth := k1m1) (c := k1c1) (by decide +kernel) rfl rfl rfl (by decide +kernel)
set_option maxRecDepth 65536 in
theorem w_c2 : (Jvm.Cond.code ({ cls := "com/example/deferral_ledger/deferralledger/model/JournalEndMoveToPinLaw", name := "batchOf", desc := "(JJ)J" } : Jvm.MethodName) method_3_code (4 : Nat) (Option.some Jvm.ClassFile.FieldType.long)).before args0 about1 = true := code_word (m := ⟨1, 2⟩) (meth := k1m2) (c := k1c2) (by decide +kernel) rfl rfl rfl (by decide +kernel)
set_option maxRecDepth 65536 in
theorem w_c3 : (Jvm.Cond.code ({ cls := "com/example/deferral_ledger/deferralledger/model/JournalEnd", name := "<init>", desc := "()V" } : Jvm.MethodName) prog_44_method_1_code (1 : Nat) (Option.none : Option Jvm.ClassFile.FieldType)).before args0 about1 = true := code_word (m := ⟨2, 0⟩) (meth := k2m0) (c := k2c0) (by decide +kernel) rfl rfl rfl (by decide +kernel)
set_option maxRecDepth 65536 in
theorem w_c4 : (Jvm.Cond.code ({ cls := "java/lang/Object", name := "<init>", desc := "()V" } : Jvm.MethodName) object_method_1_code (1 : Nat) (Option.none : Option Jvm.ClassFile.FieldType)).before args0 about1 = true := code_word (m := ⟨0, 0⟩) (meth := k0m0) (c := k0c0) (by decide +kernel) rfl rfl rfl (by decide +kernel)
set_option maxRecDepth 65536 in
theorem w_c5 : (Jvm.Cond.code ({ cls := "com/example/deferral_ledger/deferralledger/model/JournalPlace", name := "<init>", desc := "(JJ)V" } : Jvm.MethodName) prog_46_method_1_code (5 : Nat) (Option.none : Option Jvm.ClassFile.FieldType)).before args0 about1 = true := code_word (m := ⟨3, 0⟩) (meth := k3m0) (c := k3c0) (by decide +kernel) rfl rfl rfl (by decide +kernel)
set_option maxRecDepth 65536 in
theorem w_c6 : (Jvm.Cond.code ({ cls := "com/example/deferral_ledger/deferralledger/model/JournalEnd", name := "moveTo", desc := "(Lcom/example/deferral_ledger/deferralledger/model/JournalPlace;)V" } : Jvm.MethodName) prog_44_method_4_code (2 : Nat) (Option.none : Option Jvm.ClassFile.FieldType)).before args0 about1 = true := code_word (m := ⟨2, 3⟩) (meth := k2m3) (c := k2c3) (by decide +kernel) rfl rfl rfl (by decide +kernel)
set_option maxRecDepth 65536 in
theorem w_c7 : (Jvm.Cond.code ({ cls := "com/example/deferral_ledger/deferralledger/model/JournalPlace", name := "line", desc := "()J" } : Jvm.MethodName) prog_46_method_2_code (1 : Nat) (Option.some Jvm.ClassFile.FieldType.long)).before args0 about1 = true := code_word (m := ⟨3, 1⟩) (meth := k3m1) (c := k3c1) (by decide +kernel) rfl rfl rfl (by decide +kernel)
set_option maxRecDepth 65536 in
theorem w_c8 : (Jvm.Cond.code ({ cls := "com/example/deferral_ledger/deferralledger/model/JournalPlace", name := "batch", desc := "()J" } : Jvm.MethodName) prog_46_method_3_code (1 : Nat) (Option.some Jvm.ClassFile.FieldType.long)).before args0 about1 = true := code_word (m := ⟨3, 2⟩) (meth := k3m2) (c := k3c2) (by decide +kernel) rfl rfl rfl (by decide +kernel)
set_option maxRecDepth 65536 in
theorem w_c9 : (Jvm.Cond.code ({ cls := "com/example/deferral_ledger/deferralledger/model/JournalEnd", name := "next", desc := "()Lcom/example/deferral_ledger/deferralledger/model/JournalPlace;" } : Jvm.MethodName) prog_44_method_2_code (1 : Nat) (Option.some (Jvm.ClassFile.FieldType.object "com/example/deferral_ledger/deferralledger/model/JournalPlace"))).before args0 about1 = true := code_word (m := ⟨2, 1⟩) (meth := k2m1) (c := k2c1) (by decide +kernel) rfl rfl rfl (by decide +kernel)
set_option maxRecDepth 65536 in
theorem w_c10 : (Jvm.Cond.code ({ cls := "com/example/deferral_ledger/deferralledger/model/JournalEnd", name := "requireBefore", desc := "(Lcom/example/deferral_ledger/deferralledger/model/JournalPlace;)V" } : Jvm.MethodName) prog_44_method_3_code (4 : Nat) (Option.none : Option Jvm.ClassFile.FieldType)).before args0 about1 = true := code_word (m := ⟨2, 2⟩) (meth := k2m2) (c := k2c2) (by decide +kernel) rfl rfl rfl (by decide +kernel)
def codes1 : List Jvm.Cond := [Jvm.Cond.code x code maxLocals ret, Jvm.Cond.code ({ cls := "com/example/deferral_ledger/deferralledger/model/JournalEndMoveToPinLaw", name := "lineOf", desc := "(J)J" } : Jvm.MethodName) method_2_code (2 : Nat) (Option.some Jvm.ClassFile.FieldType.long), Jvm.Cond.code ({ cls := "com/example/deferral_ledger/deferralledger/model/JournalEndMoveToPinLaw", name := "batchOf", desc := "(JJ)J" } : Jvm.MethodName) method_3_code (4 : Nat) (Option.some Jvm.ClassFile.FieldType.long), Jvm.Cond.code ({ cls := "com/example/deferral_ledger/deferralledger/model/JournalEnd", name := "<init>", desc := "()V" } : Jvm.MethodName) prog_44_method_1_code (1 : Nat) (Option.none : Option Jvm.ClassFile.FieldType), Jvm.Cond.code ({ cls := "java/lang/Object", name := "<init>", desc := "()V" } : Jvm.MethodName) object_method_1_code (1 : Nat) (Option.none : Option Jvm.ClassFile.FieldType), Jvm.Cond.code ({ cls := "com/example/deferral_ledger/deferralledger/model/JournalPlace", name := "<init>", desc := "(JJ)V" } : Jvm.MethodName) prog_46_method_1_code (5 : Nat) (Option.none : Option Jvm.ClassFile.FieldType), Jvm.Cond.code ({ cls := "com/example/deferral_ledger/deferralledger/model/JournalEnd", name := "moveTo", desc := "(Lcom/example/deferral_ledger/deferralledger/model/JournalPlace;)V" } : Jvm.MethodName) prog_44_method_4_code (2 : Nat) (Option.none : Option Jvm.ClassFile.FieldType), Jvm.Cond.code ({ cls := "com/example/deferral_ledger/deferralledger/model/JournalPlace", name := "line", desc := "()J" } : Jvm.MethodName) prog_46_method_2_code (1 : Nat) (Option.some Jvm.ClassFile.FieldType.long), Jvm.Cond.code ({ cls := "com/example/deferral_ledger/deferralledger/model/JournalPlace", name := "batch", desc := "()J" } : Jvm.MethodName) prog_46_method_3_code (1 : Nat) (Option.some Jvm.ClassFile.FieldType.long), Jvm.Cond.code ({ cls := "com/example/deferral_ledger/deferralledger/model/JournalEnd", name := "next", desc := "()Lcom/example/deferral_ledger/deferralledger/model/JournalPlace;" } : Jvm.MethodName) prog_44_method_2_code (1 : Nat) (Option.some (Jvm.ClassFile.FieldType.object "com/example/deferral_ledger/deferralledger/model/JournalPlace")), Jvm.Cond.code ({ cls := "com/example/deferral_ledger/deferralledger/model/JournalEnd", name := "requireBefore", desc := "(Lcom/example/deferral_ledger/deferralledger/model/JournalPlace;)V" } : Jvm.MethodName) prog_44_method_3_code (4 : Nat) (Option.none : Option Jvm.ClassFile.FieldType)]
set_option maxRecDepth 65536 in
theorem codes_eq : words1.filter isCode = codes1 := rfl
theorem w_codes : ∀ c ∈ words1.filter isCode, c.before args0 about1 = true := by
  rw [codes_eq]
  intro c hc
  simp only [codes1, List.mem_cons, List.not_mem_nil, or_false] at hc
  rcases hc with rfl | rfl | rfl | rfl | rfl | rfl | rfl | rfl | rfl | rfl | rfl
  · exact w_c0
  · exact w_c1
  · exact w_c2
  · exact w_c3
  · exact w_c4
  · exact w_c5
  · exact w_c6
  · exact w_c7
  · exact w_c8
  · exact w_c9
  · exact w_c10
set_option maxRecDepth 65536 in
theorem w_t1 : (words1.take 24).all (fun c => isCode c || c.before args0 about1) = true := by decide +kernel
set_option maxRecDepth 65536 in
theorem w_t2 : ((words1.drop 24).take 24).all (fun c => isCode c || c.before args0 about1) = true := by decide +kernel
set_option maxRecDepth 65536 in
theorem w_t3 : ((words1.drop 24).drop 24).all (fun c => isCode c || c.before args0 about1) = true := by decide +kernel
theorem w_tables : (allAtoms (Jvm.Cond.code x code maxLocals ret :: tables_1)).before args0 about1 = true := by
  rw [allAtoms_all]
  show words1.all (fun c => c.before args0 about1) = true
  refine all_split ?_ w_codes
  rw [← List.take_append_drop 24 words1, List.all_append, w_t1, ← List.take_append_drop 24 (words1.drop 24), List.all_append, w_t2, w_t3]
  rfl
set_option maxRecDepth 65536 in
theorem w_case : (Jvm.Cond.and given_1 narrow_1).before args0 about1 = true := by decide +kernel
theorem w_applies : (headSpec (Jvm.Cond.code x code maxLocals ret :: tables_1) room_1).applies x e0.platform about1 = true :=
  (Spec.applies_iff w_frames).mpr ⟨w_running, w_runnable, w_alone, w_named, w_hears, w_ripe, w_room, w_tables⟩
theorem atStart : AtStart classFile x code maxLocals ret World_1 tables_1 room_1 Calls_1 rest_1 Pre_1 launch0 p0 e0 about1 theMethod args0 below0 :=
  ⟨lists_1, trivial, launch0.admits_env _ _ _, launch0.least_env, fairChoices_fair.cas, fairChoices_fair.clock, w_frames, w_args, w_heap, w_applies, trivial, trivial, w_case⟩
end start1
theorem witness_1 : WitnessClaimed_1 := ⟨start1.p0, start1.e0, start1.about1, start1.theMethod, start1.args0, start1.below0, start1.atStart⟩
end Jvm.Pilot.@@N@@
