import JvmDerived
import JvmDerived.Pilot.@@N@@Statement
import JvmDerived.Pilot.@@N@@Code
set_option linter.unusedVariables false
set_option linter.unusedSimpArgs false
/- laws to paste: Road.backV, Road.eqW, Road.codOf (cut by pick.py; bodies as the Statement names them) -/
namespace Jvm.Pilot.@@N@@
namespace StrChars
open Jvm Sem ClassFile Op Lib Jvm.Stand Jvm.Free.XT Jvm.Free.ALB Jvm.Free.JM Jvm.Free
open Jvm.Lib.Cold (StaticIs)
/-- a char array whose places are chars -/
def Ch (a : Addr) (A : Cell) (U : State) : Prop := Arr .char a A U ∧ Typed .char A
theorem Ch.mv {a : Addr} {A : Cell} {U U' : State} (h : Ch a A U) (hal : U.vm.Alike U'.vm) (hh : U'.heap = U.heap) : Ch a A U' := ⟨h.1.mv hal hh, h.2⟩
theorem Ch.keep {a : Addr} {A : Cell} {U U' : State} (h : Ch a A U) (hal : U.vm.Alike U'.vm) (hk : U'.heap[a]? = some A) : Ch a A U' := ⟨h.1.keep hal hk, h.2⟩
/-- what place i of a char[]'s cell holds -/
def cv (A : Cell) (i : Nat) : Int32 := match A.slots[i]? with | some (.int x) => x | _ => 0
theorem Ch.get {a : Addr} {A : Cell} {U : State} (h : Ch a A U) {i : Nat} (hi : i < A.slots.size) : A.slots[i]? = some (.int (cv A i)) := by
  have e := Array.getElem?_eq_getElem hi
  have f := h.2 i _ e
  unfold cv; rw [e]
  generalize A.slots[i] = v at f
  cases v <;> simp [fits] at f ⊢
/-- the byte that i2b leaves of a char -/
def lo8 (x : Int32) : Int32 := x.toInt8.toInt32
theorem fits_lo8 (y : Int32) : fits .byte (.int (lo8 y)) = true := by
  have h1 := y.toInt8.le_toInt
  have h2 := y.toInt8.toInt_lt
  simp only [lo8, fits, Bool.and_eq_true, decide_eq_true_eq, Int32.le_iff_toInt_le, Int8.toInt_toInt32, show (-128 : Int32).toInt = -128 from by decide, show (127 : Int32).toInt = 127 from by decide]
  omega
/-- A' is A but that each place j of lo .. hi - 1 holds f j -/
def Laid (A A' : Cell) (lo hi : Nat) (f : Nat → Value) : Prop := A'.cls = A.cls ∧ A'.vm = A.vm ∧ A'.slots.size = A.slots.size ∧ ∀ i, A'.slots[i]? = if lo ≤ i ∧ i < hi then some (f i) else A.slots[i]?
theorem Laid.zero (A : Cell) (lo : Nat) (f : Nat → Value) : Laid A A lo (lo + 0) f := ⟨rfl, rfl, rfl, fun i => by rw [if_neg (by omega)]⟩
theorem Laid.step {A Ak : Cell} {lo k : Nat} {f : Nat → Value} {v : Value} (h : Laid A Ak lo k f) (hlo : lo ≤ k) (hk : k < Ak.slots.size) (hv : v = f k) : Laid A (Ak.setSlot k v) lo (k + 1) f := by
  refine ⟨h.1, h.2.1, by simpa [Cell.setSlot] using h.2.2.1, fun i => ?_⟩
  by_cases e : k = i
  · subst e; rw [Cell.slots_setSlot_self v hk, if_pos (by omega), hv]
  · rw [Cell.slots_setSlot_ne v e, h.2.2.2 i]
    by_cases q : lo ≤ i ∧ i < k
    · rw [if_pos q, if_pos (by omega)]
    · rw [if_neg q, if_neg (by omega)]
def U16 : String := "java/lang/StringUTF16"
namespace Cmp5
def yN : MethodName := ⟨"java/lang/StringUTF16", "compress", "([CI[BII)I"⟩
abbrev yB : ByteArray := jdk_52_method_21_code
theorem d0 : decode yB 0 = .ok (.iconst 0, 1) := by decide +kernel
theorem d1 : decode yB 1 = .ok (.istore 5, 2) := by decide +kernel
theorem d3 : decode yB 3 = .ok (.iload 5, 2) := by decide +kernel
theorem d5 : decode yB 5 = .ok (.iload 4, 2) := by decide +kernel
theorem d7 : decode yB 7 = .ok (.if_icmp (.ge) 37, 3) := by decide +kernel
theorem d10 : decode yB 10 = .ok (.aload_n 0, 1) := by decide +kernel
theorem d11 : decode yB 11 = .ok (.iload_n 1, 1) := by decide +kernel
theorem d12 : decode yB 12 = .ok (.caload, 1) := by decide +kernel
theorem d13 : decode yB 13 = .ok (.istore 6, 2) := by decide +kernel
theorem d15 : decode yB 15 = .ok (.iload 6, 2) := by decide +kernel
theorem d17 : decode yB 17 = .ok (.sipush 255, 3) := by decide +kernel
theorem d20 : decode yB 20 = .ok (.if_icmp (.le) 6, 3) := by decide +kernel
theorem d26 : decode yB 26 = .ok (.aload_n 2, 1) := by decide +kernel
theorem d27 : decode yB 27 = .ok (.iload_n 3, 1) := by decide +kernel
theorem d28 : decode yB 28 = .ok (.iload 6, 2) := by decide +kernel
theorem d30 : decode yB 30 = .ok (.i2b, 1) := by decide +kernel
theorem d31 : decode yB 31 = .ok (.bastore, 1) := by decide +kernel
theorem d32 : decode yB 32 = .ok (.iinc 1 1, 3) := by decide +kernel
theorem d35 : decode yB 35 = .ok (.iinc 3 1, 3) := by decide +kernel
theorem d38 : decode yB 38 = .ok (.iinc 5 1, 3) := by decide +kernel
theorem d41 : decode yB 41 = .ok (.goto (-38), 3) := by decide +kernel
theorem d44 : decode yB 44 = .ok (.iload 4, 2) := by decide +kernel
theorem d46 : decode yB 46 = .ok (.ireturn, 1) := by decide +kernel
def site : List Cond := []
def tab : Cond := tabOf yN yB 7 (some .int) site
def P (b : Addr) (A : Cell) (d : Addr) (B : Cell) (o q len : Nat) (args : Array Value) (s : State) : Prop := args = #[.ref b, .int (Int32.ofNat o), .ref d, .int (Int32.ofNat q), .int (Int32.ofNat len)] ∧ Ch b A s ∧ Arr .byte d B s ∧ b ≠ d ∧ o + len ≤ A.slots.size ∧ q + len ≤ B.slots.size ∧ ∀ i, i < len → ¬ 255 < cv A (o + i)
def E (b : Addr) (A : Cell) (d : Addr) (B : Cell) (o q len : Nat) (r : Option Value) (s u : State) : Prop := r = some (.int (Int32.ofNat len)) ∧ ∃ B', Put d B' s u ∧ Laid B B' q (q + len) (fun j => Value.int (lo8 (cv A (o + (j - q)))))
/-- no char of the range above 255: len; the places written hold each char's low byte -/
theorem law (l : Launch) (b : Addr) (A : Cell) (d : Addr) (B : Cell) (o q len : Nat) : Law l yN 5 5 0 0 yB 7 (some .int) site (P b A d B o q len) (E b A d B o q len) (copyLocs d q len) 0 0 := by
  refine Law.of_walk (plainFor_of_name (by decide +kernel)) (by decide +kernel) (by decide +kernel) (by decide) (fun _ _ h => by rw [h.1]; rfl) (fun _ U U' hal hh h => ⟨h.1, h.2.1.mv hal hh, h.2.2.1.mv hal hh, h.2.2.2⟩) (fun r U U' V V' h1 hal h2 h => ⟨h.1, h.2.elim fun B' q => ⟨B', q.1.mv h1 h2, q.2⟩⟩) ?_
  intro p e s m args below meth c s₁ X0 hexec hbytes hml hret hlk hnm hown hh0 W hP
  obtain ⟨rfl, hA, hB, hne, l1, l2, hp⟩ := hP
  have c1 : Steps p.tables e below (s₁.setTop (entryFrame m #[.ref b, .int (Int32.ofNat o), .ref d, .int (Int32.ofNat q), .int (Int32.ofNat len)] 7)) (s₁.setTop (mkF m 0 #[.val (.ref b), .val (.int (Int32.ofNat o)), .val (.ref d), .val (.int (Int32.ofNat q)), .val (.int (Int32.ofNat len)), .unset, .unset] [])) := entry rfl
  have hA0 := hA.1.mv X0.warmed.alike hh0
  have hB0 := hB.mv X0.warmed.alike hh0
  have a31 := hA.1.2.2.2
  have c2 : Steps p.tables e below (s₁.setTop (entryFrame m #[.ref b, .int (Int32.ofNat o), .ref d, .int (Int32.ofNat q), .int (Int32.ofNat len)] 7)) (s₁.setTop (mkF m 3 #[.val (.ref b), .val (.int (Int32.ofNat o)), .val (.ref d), .val (.int (Int32.ofNat q)), .val (.int (Int32.ofNat len)), .val (.int 0), .unset] [])) := c1.trans (by
    refine iconstV X0.here hexec rfl 0 (hb hbytes d0) (by decide) ?_
    refine XS.istore X0.here hexec rfl (hb hbytes d1) rfl rfl ?_
    exact Steps.refl _)
  have loop : ∀ (r i : Nat), i + r = len → ∀ (z : Slot), (z = .unset ∨ ∃ w, z = .val w ∧ w.category = 1) → ∀ (Tl : State) (Bk : Cell), Stand p l e { frames := 0, locals := 0, cells := 0, slots := 0 } s m #[.ref b, .int (Int32.ofNat o), .ref d, .int (Int32.ofNat q), .int (Int32.ofNat len)] below meth c Tl ([] ++ copyLocs d q i) 0 0 → Put d Bk s₁ Tl → Laid B Bk q (q + i) (fun j => Value.int (lo8 (cv A (o + (j - q))))) →
      Steps p.tables e below (s₁.setTop (entryFrame m #[.ref b, .int (Int32.ofNat o), .ref d, .int (Int32.ofNat q), .int (Int32.ofNat len)] 7)) (Tl.setTop (mkF m 3 #[.val (.ref b), .val (.int (Int32.ofNat (o + i))), .val (.ref d), .val (.int (Int32.ofNat (q + i))), .val (.int (Int32.ofNat len)), .val (.int (Int32.ofNat i)), z] [])) → ∃ (T' : State) (B' : Cell) (z' : Slot), Stand p l e { frames := 0, locals := 0, cells := 0, slots := 0 } s m #[.ref b, .int (Int32.ofNat o), .ref d, .int (Int32.ofNat q), .int (Int32.ofNat len)] below meth c T' ([] ++ copyLocs d q len) 0 0 ∧ Put d B' s₁ T' ∧ Laid B B' q (q + len) (fun j => Value.int (lo8 (cv A (o + (j - q))))) ∧
      Steps p.tables e below (s₁.setTop (entryFrame m #[.ref b, .int (Int32.ofNat o), .ref d, .int (Int32.ofNat q), .int (Int32.ofNat len)] 7)) (T'.setTop (mkF m 3 #[.val (.ref b), .val (.int (Int32.ofNat (o + len))), .val (.ref d), .val (.int (Int32.ofNat (q + len))), .val (.int (Int32.ofNat len)), .val (.int (Int32.ofNat len)), z'] [])) := by
    intro r
    induction r with
    | zero =>
      intro i hi z hz Tl Bk Xl pl fl cl
      have hil : i = len := by omega
      rw [hil] at Xl fl cl
      exact ⟨Tl, Bk, z, Xl, pl, fl, cl⟩
    | succ r ih =>
      intro i hi z hz Tl Bk Xl pl fl cl
      have all := X0.warmed.alike.symm.trans Xl.warmed.alike
      have hAl := hA0.keep all (pl.other hne hA0.1)
      have hBk := hB0.like all pl.1 fl.1 fl.2.1 fl.2.2.1
      have hlt : q + i < Bk.slots.size := by rw [fl.2.2.1]; omega
      have c3 : Steps p.tables e below (s₁.setTop (entryFrame m #[.ref b, .int (Int32.ofNat o), .ref d, .int (Int32.ofNat q), .int (Int32.ofNat len)] 7)) (Tl.setTop (mkF m 12 #[.val (.ref b), .val (.int (Int32.ofNat (o + i))), .val (.ref d), .val (.int (Int32.ofNat (q + i))), .val (.int (Int32.ofNat len)), .val (.int (Int32.ofNat i)), z] [.int (Int32.ofNat (o + i)), .ref b])) := cl.trans (by
        refine XS.iload Xl.here hexec rfl (hb hbytes d3) rfl ?_
        refine XS.iload Xl.here hexec rfl (hb hbytes d5) rfl ?_
        refine XS.icmpNo Xl.here hexec rfl (hb hbytes d7) rfl (ii_ge_f (lt32 (by omega) (by omega))) ?_
        refine XS.aloadN Xl.here hexec rfl (hb hbytes d10) rfl rfl ?_
        refine XS.iloadN Xl.here hexec rfl (hb hbytes d11) rfl ?_
        exact Steps.refl _)
      have c4 : Steps p.tables e below (s₁.setTop (entryFrame m #[.ref b, .int (Int32.ofNat o), .ref d, .int (Int32.ofNat q), .int (Int32.ofNat len)] 7)) (Tl.setTop (mkF m 13 #[.val (.ref b), .val (.int (Int32.ofNat (o + i))), .val (.ref d), .val (.int (Int32.ofNat (q + i))), .val (.int (Int32.ofNat len)), .val (.int (Int32.ofNat i)), z] [.int (cv A (o + i))])) := c3.trans (by
        refine Xl.aget hexec hAl rfl (hA.get (i := o + i) (by omega)) rfl rfl (hb hbytes d12) ?_
        exact Steps.refl _)
      have c5 : Steps p.tables e below (s₁.setTop (entryFrame m #[.ref b, .int (Int32.ofNat o), .ref d, .int (Int32.ofNat q), .int (Int32.ofNat len)] 7)) (Tl.setTop (mkF m 15 #[.val (.ref b), .val (.int (Int32.ofNat (o + i))), .val (.ref d), .val (.int (Int32.ofNat (q + i))), .val (.int (Int32.ofNat len)), .val (.int (Int32.ofNat i)), .val (.int (cv A (o + i)))] [])) := c4.trans (by
        refine XS.istoreS Xl.here hexec rfl (hb hbytes d13) rfl rfl hz ?_
        exact Steps.refl _)
      have c6 : Steps p.tables e below (s₁.setTop (entryFrame m #[.ref b, .int (Int32.ofNat o), .ref d, .int (Int32.ofNat q), .int (Int32.ofNat len)] 7)) (Tl.setTop (mkF m 31 #[.val (.ref b), .val (.int (Int32.ofNat (o + i))), .val (.ref d), .val (.int (Int32.ofNat (q + i))), .val (.int (Int32.ofNat len)), .val (.int (Int32.ofNat i)), .val (.int (cv A (o + i)))] [.int (lo8 (cv A (o + i))), .int (Int32.ofNat (q + i)), .ref d])) := c5.trans (by
        refine XS.iload Xl.here hexec rfl (hb hbytes d15) rfl ?_
        refine sipushV Xl.here hexec rfl 255 (hb hbytes d17) (by decide) ?_
        refine XS.icmpYes Xl.here hexec rfl (pc0 := 20) rfl (hb hbytes d20) rfl (ii_le_t (hp i (by omega))) (by decide) rfl ?_
        refine XS.aloadN Xl.here hexec rfl (hb hbytes d26) rfl rfl ?_
        refine XS.iloadN Xl.here hexec rfl (hb hbytes d27) rfl ?_
        refine XS.iload Xl.here hexec rfl (hb hbytes d28) rfl ?_
        refine i2b Xl.here hexec rfl (hb hbytes d30) rfl ?_
        exact Steps.refl _)
      obtain ⟨T7, X7, p7, st7⟩ := Xl.aput hexec hBk rfl hlt rfl (fits_lo8 (cv A (o + i))) (g := (mkF m 31 #[.val (.ref b), .val (.int (Int32.ofNat (o + i))), .val (.ref d), .val (.int (Int32.ofNat (q + i))), .val (.int (Int32.ofNat len)), .val (.int (Int32.ofNat i)), .val (.int (cv A (o + i)))] [.int (lo8 (cv A (o + i))), .int (Int32.ofNat (q + i)), .ref d])) rfl (rest := []) rfl (hb hbytes d31)
      have c8 : Steps p.tables e below (s₁.setTop (entryFrame m #[.ref b, .int (Int32.ofNat o), .ref d, .int (Int32.ofNat q), .int (Int32.ofNat len)] 7)) (T7.setTop (mkF m 32 #[.val (.ref b), .val (.int (Int32.ofNat (o + i))), .val (.ref d), .val (.int (Int32.ofNat (q + i))), .val (.int (Int32.ofNat len)), .val (.int (Int32.ofNat i)), .val (.int (cv A (o + i)))] [])) := c6.trans (st7 _ (Steps.refl _))
      have c9 : Steps p.tables e below (s₁.setTop (entryFrame m #[.ref b, .int (Int32.ofNat o), .ref d, .int (Int32.ofNat q), .int (Int32.ofNat len)] 7)) (T7.setTop (mkF m 3 #[.val (.ref b), .val (.int (Int32.ofNat (o + i) + 1)), .val (.ref d), .val (.int (Int32.ofNat (q + i) + 1)), .val (.int (Int32.ofNat len)), .val (.int (Int32.ofNat i + 1)), .val (.int (cv A (o + i)))] [])) := c8.trans (by
        refine iincV X7.here hexec rfl 1 (hb hbytes d32) (by decide) rfl rfl ?_
        refine iincV X7.here hexec rfl 1 (hb hbytes d35) (by decide) rfl rfl ?_
        refine iincV X7.here hexec rfl 1 (hb hbytes d38) (by decide) rfl rfl ?_
        refine XS.goto X7.here hexec rfl (pc0 := 41) rfl (hb hbytes d41) (by decide) rfl ?_
        exact Steps.refl _)
      have c10 : Steps p.tables e below (s₁.setTop (entryFrame m #[.ref b, .int (Int32.ofNat o), .ref d, .int (Int32.ofNat q), .int (Int32.ofNat len)] 7)) (T7.setTop (mkF m 3 #[.val (.ref b), .val (.int (Int32.ofNat (o + (i + 1)))), .val (.ref d), .val (.int (Int32.ofNat (q + (i + 1)))), .val (.int (Int32.ofNat len)), .val (.int (Int32.ofNat (i + 1))), .val (.int (cv A (o + i)))] [])) := by
        have := c9
        rw [succ32, succ32, succ32] at this
        exact this
      exact ih (i + 1) (by omega) _ (Or.inr ⟨_, rfl, rfl⟩) T7 _ (by rw [copyLocs_step, ← List.append_assoc]; exact X7) (pl.trans p7) (fl.step (by omega) hlt (by simp)) c10
  obtain ⟨T9, B9, z9, X9, p9, f9, g9⟩ := loop len 0 (by omega) .unset (Or.inl rfl) s₁ B (by simpa [copyLocs] using X0) ⟨hB0.1, fun _ _ => rfl, rfl⟩ (Laid.zero _ _ _) c2
  have c11 : Steps p.tables e below (s₁.setTop (entryFrame m #[.ref b, .int (Int32.ofNat o), .ref d, .int (Int32.ofNat q), .int (Int32.ofNat len)] 7)) (T9.setTop (mkF m 46 #[.val (.ref b), .val (.int (Int32.ofNat (o + len))), .val (.ref d), .val (.int (Int32.ofNat (q + len))), .val (.int (Int32.ofNat len)), .val (.int (Int32.ofNat len)), z9] [.int (Int32.ofNat len)])) := g9.trans (by
    refine XS.iload X9.here hexec rfl (hb hbytes d3) rfl ?_
    refine XS.iload X9.here hexec rfl (hb hbytes d5) rfl ?_
    refine XS.icmpYes X9.here hexec rfl (pc0 := 7) rfl (hb hbytes d7) rfl (ii_ge_t (nlt32 (by omega) (Nat.le_refl _))) (by decide) rfl ?_
    refine XS.iload X9.here hexec rfl (hb hbytes d44) rfl ?_
    exact Steps.refl _)
  exact ⟨T9, some (.int (Int32.ofNat len)), _, _, _, X9, by simp, rfl, rfl, (fun h => by cases h), ⟨rfl, B9, p9.from hh0, f9⟩, fun fs hl => c11.trans (X9.ireturnOut hexec hret rfl (Or.inl rfl) (hb hbytes d46) hl)⟩
end Cmp5
namespace Cmp3
def yN : MethodName := ⟨"java/lang/StringUTF16", "compress", "([CII)[B"⟩
abbrev yB : ByteArray := jdk_52_method_16_code
theorem d0 : decode yB 0 = .ok (.iload_n 2, 1) := by decide +kernel
theorem d1 : decode yB 1 = .ok (.newarray .byte, 2) := by decide +kernel
theorem d3 : decode yB 3 = .ok (.astore_n 3, 1) := by decide +kernel
theorem d4 : decode yB 4 = .ok (.aload_n 0, 1) := by decide +kernel
theorem d5 : decode yB 5 = .ok (.iload_n 1, 1) := by decide +kernel
theorem d6 : decode yB 6 = .ok (.aload_n 3, 1) := by decide +kernel
theorem d7 : decode yB 7 = .ok (.iconst 0, 1) := by decide +kernel
theorem d8 : decode yB 8 = .ok (.iload_n 2, 1) := by decide +kernel
theorem d9 : decode yB 9 = .ok (.invokestatic 115, 3) := by decide +kernel
theorem d12 : decode yB 12 = .ok (.istore 4, 2) := by decide +kernel
theorem d14 : decode yB 14 = .ok (.iload 4, 2) := by decide +kernel
theorem d16 : decode yB 16 = .ok (.iload_n 2, 1) := by decide +kernel
theorem d17 : decode yB 17 = .ok (.if_icmp (.eq) 40, 3) := by decide +kernel
theorem d57 : decode yB 57 = .ok (.aload_n 3, 1) := by decide +kernel
theorem d58 : decode yB 58 = .ok (.areturn, 1) := by decide +kernel
def site : List Cond := [.arrayClass .byte, Cmp5.tab] ++ staticW U16 115 Cmp5.yN
def tab : Cond := tabOf yN yB 6 (some (.array .byte)) site
def P (b : Addr) (A : Cell) (o len : Nat) (args : Array Value) (s : State) : Prop := args = #[.ref b, .int (Int32.ofNat o), .int (Int32.ofNat len)] ∧ Ch b A s ∧ o + len ≤ A.slots.size ∧ len ≤ 536870912 ∧ ∀ i, i < len → ¬ 255 < cv A (o + i)
def E (b : Addr) (A : Cell) (o len : Nat) (r : Option Value) (s u : State) : Prop := NewArr .byte "[B" len (fun j => .int (lo8 (cv A (o + j)))) r s u ∧ u.heap.size = s.heap.size + 1
/-- no char of the range above 255: a new byte[] of their low bytes -/
theorem law (l : Launch) (b : Addr) (A : Cell) (o len : Nat) : Law l yN 3 3 1 18 yB 6 (some (.array .byte)) site (P b A o len) (E b A o len) [] 1 len := by
  refine Law.of_walk (plainFor_of_name (by decide +kernel)) (by decide +kernel) (by decide +kernel) (by decide) (fun _ _ h => by rw [h.1]; rfl) (fun _ U U' hal hh h => ⟨h.1, h.2.1.mv hal hh, h.2.2⟩) (fun r U U' V V' h1 hal h2 h => ⟨NewArr.mv r U U' V V' h1 hal h2 h.1, by rw [h1, h2]; exact h.2⟩) ?_
  intro p e s m args below meth c s₁ X0 hexec hbytes hml hret hlk hnm hown hh0 W hP
  obtain ⟨rfl, hA, l1, l2, hp⟩ := hP
  have a31 := hA.1.2.2.2
  have c1 : Steps p.tables e below (s₁.setTop (entryFrame m #[.ref b, .int (Int32.ofNat o), .int (Int32.ofNat len)] 6)) (s₁.setTop (mkF m 0 #[.val (.ref b), .val (.int (Int32.ofNat o)), .val (.int (Int32.ofNat len)), .unset, .unset, .unset] [])) := entry rfl
  have c2 : Steps p.tables e below (s₁.setTop (entryFrame m #[.ref b, .int (Int32.ofNat o), .int (Int32.ofNat len)] 6)) (s₁.setTop (mkF m 1 #[.val (.ref b), .val (.int (Int32.ofNat o)), .val (.int (Int32.ofNat len)), .unset, .unset, .unset] [.int (Int32.ofNat len)])) := c1.trans (by
    refine XS.iloadN X0.here hexec rfl (hb hbytes d0) rfl ?_
    exact Steps.refl _)
  obtain ⟨T3, B3, X3, ba3, bs3, bv3, bh3, bf3, st3⟩ := X0.anew hexec (atype := .byte) (wk W (.arrayClass .byte)) rfl (by show len * 1 ≤ _; omega) (by omega) (g := (mkF m 1 #[.val (.ref b), .val (.int (Int32.ofNat o)), .val (.int (Int32.ofNat len)), .unset, .unset, .unset] [.int (Int32.ofNat len)])) rfl (hb hbytes d1) (rest := []) rfl (Nat.le_refl _) (by show 0 + len ≤ len; omega)
  rw [hh0] at ba3 st3
  have kp3 : XT.Kept s T3 := (XT.Kept.of_eq hh0).push bh3
  have hA3 := hA.keep X3.warmed.alike (kp3 _ _ hA.1.1)
  have hne : b ≠ s.heap.size := hA.1.ne
  have c4 : Steps p.tables e below (s₁.setTop (entryFrame m #[.ref b, .int (Int32.ofNat o), .int (Int32.ofNat len)] 6)) (T3.setTop (mkF m 3 #[.val (.ref b), .val (.int (Int32.ofNat o)), .val (.int (Int32.ofNat len)), .unset, .unset, .unset] [.ref s.heap.size])) := c2.trans (st3 _ (Steps.refl _))
  have c5 : Steps p.tables e below (s₁.setTop (entryFrame m #[.ref b, .int (Int32.ofNat o), .int (Int32.ofNat len)] 6)) (T3.setTop (mkF m 9 #[.val (.ref b), .val (.int (Int32.ofNat o)), .val (.int (Int32.ofNat len)), .val (.ref s.heap.size), .unset, .unset] [.int (Int32.ofNat len), .int 0, .ref s.heap.size, .int (Int32.ofNat o), .ref b])) := c4.trans (by
    refine XS.astoreN X3.here hexec rfl (hb hbytes d3) rfl rfl rfl ?_
    refine XS.aloadN X3.here hexec rfl (hb hbytes d4) rfl rfl ?_
    refine XS.iloadN X3.here hexec rfl (hb hbytes d5) rfl ?_
    refine XS.aloadN X3.here hexec rfl (hb hbytes d6) rfl rfl ?_
    refine iconstV X3.here hexec rfl 0 (hb hbytes d7) (by decide) ?_
    refine XS.iloadN X3.here hexec rfl (hb hbytes d8) rfl ?_
    exact Steps.refl _)
  obtain ⟨v6, T6, X6, E6, g6⟩ := X3.callS hexec (Cmp5.law l b A s.heap.size B3 o 0 len) hown (wks W (staticW U16 115 Cmp5.yN)) (wk W Cmp5.tab) (W := 0) (Nat.le_of_ble_eq_true rfl) (Nat.le_of_ble_eq_true rfl) (Nat.le_refl _) (by show 0 + len + 0 ≤ len; omega) (g := (mkF m 9 #[.val (.ref b), .val (.int (Int32.ofNat o)), .val (.int (Int32.ofNat len)), .val (.ref s.heap.size), .unset, .unset] [.int (Int32.ofNat len), .int (Int32.ofNat 0), .ref s.heap.size, .int (Int32.ofNat o), .ref b])) rfl (by rw [hml]; rfl) c5 (argsL := [.ref b, .int (Int32.ofNat o), .ref s.heap.size, .int (Int32.ofNat 0), .int (Int32.ofNat len)]) (rest := []) rfl rfl (by show 2 * 0 + 0 ≤ _; decide) (hb hbytes d9) (⟨rfl, hA3, ba3, hne, l1, by rw [bs3]; simp, hp⟩)
  obtain ⟨rfl, B6, p6, f6⟩ := E6
  have c7 : Steps p.tables e below (s₁.setTop (entryFrame m #[.ref b, .int (Int32.ofNat o), .int (Int32.ofNat len)] 6)) (T6.setTop (mkF m 12 #[.val (.ref b), .val (.int (Int32.ofNat o)), .val (.int (Int32.ofNat len)), .val (.ref s.heap.size), .unset, .unset] [.int (Int32.ofNat len)])) := g6
  have c8 : Steps p.tables e below (s₁.setTop (entryFrame m #[.ref b, .int (Int32.ofNat o), .int (Int32.ofNat len)] 6)) (T6.setTop (mkF m 58 #[.val (.ref b), .val (.int (Int32.ofNat o)), .val (.int (Int32.ofNat len)), .val (.ref s.heap.size), .val (.int (Int32.ofNat len)), .unset] [.ref s.heap.size])) := c7.trans (by
    refine XS.istore X6.here hexec rfl (hb hbytes d12) rfl rfl ?_
    refine XS.iload X6.here hexec rfl (hb hbytes d14) rfl ?_
    refine XS.iloadN X6.here hexec rfl (hb hbytes d16) rfl ?_
    refine XS.icmpYes X6.here hexec rfl (pc0 := 17) rfl (hb hbytes d17) rfl (ii_eq_t rfl) (by decide) rfl ?_
    refine XS.aloadN X6.here hexec rfl (hb hbytes d57) rfl rfl ?_
    exact Steps.refl _)
  have X8 := X6.wide (L' := []) (cells' := 1) (slots' := len) (fun x hx hlt => by
    simp only [List.nil_append, copyLocs, List.mem_map, List.mem_range] at hx
    obtain ⟨i, -, rfl⟩ := hx
    exact absurd hlt (Nat.lt_irrefl _)) (Nat.le_refl _) (by omega)
  exact ⟨T6, some (.ref s.heap.size), _, _, _, X8, rfl, rfl, rfl, (fun h => by cases h), ⟨⟨rfl, B6, ba3.like (X3.warmed.alike.symm.trans X6.warmed.alike) p6.1 f6.1 f6.2.1 f6.2.2.1, f6.2.1.trans bv3, by rw [X6.warmed.alike.findClass, f6.1]; exact bf3, by rw [f6.2.2.1, bs3]; simp, fun j hj => by rw [f6.2.2.2 j, if_pos (by omega)]; rfl, kp3.put p6 (Nat.le_refl _)⟩, by rw [p6.2.2, bh3, hh0]; simp⟩, fun fs hl => c8.trans (X8.areturnOut hexec rfl hret rfl (hb hbytes d58) hl)⟩
end Cmp3
namespace CodL
def yN : MethodName := ⟨"java/lang/StringUTF16", "coderFromArrayLen", "([BI)B"⟩
abbrev yB : ByteArray := jdk_52_method_15_code
theorem d0 : decode yB 0 = .ok (.iload_n 1, 1) := by decide +kernel
theorem d1 : decode yB 1 = .ok (.aload_n 0, 1) := by decide +kernel
theorem d2 : decode yB 2 = .ok (.arraylength, 1) := by decide +kernel
theorem d3 : decode yB 3 = .ok (.isub, 1) := by decide +kernel
theorem d4 : decode yB 4 = .ok (.bipush 31, 2) := by decide +kernel
theorem d6 : decode yB 6 = .ok (.iushr, 1) := by decide +kernel
theorem d7 : decode yB 7 = .ok (.i2b, 1) := by decide +kernel
theorem d8 : decode yB 8 = .ok (.ireturn, 1) := by decide +kernel
def site : List Cond := []
def tab : Cond := tabOf yN yB 2 (some .byte) site
def P (d : Addr) (B : Cell) (args : Array Value) (s : State) : Prop := args = #[.ref d, .int (Int32.ofNat B.slots.size)] ∧ Arr .byte d B s
def E (r : Option Value) (s u : State) : Prop := XT.PureE (some (.int 0)) r s u
/-- an array as long as the number of chars: LATIN1 -/
theorem law (l : Launch) (d : Addr) (B : Cell) : Law l yN 2 2 0 0 yB 2 (some .byte) site (P d B) E [] 0 0 := by
  refine Law.of_walk (plainFor_of_name (by decide +kernel)) (by decide +kernel) (by decide +kernel) (by decide) (fun _ _ h => by rw [h.1]; rfl) (fun _ U U' hal hh h => ⟨h.1, h.2.mv hal hh⟩) (fun r U U' V V' h1 hal h2 h => XT.PureE.mv r U U' V V' h1 hal h2 h) ?_
  intro p e s m args below meth c s₁ X0 hexec hbytes hml hret hlk hnm hown hh0 W hP
  obtain ⟨rfl, hB⟩ := hP
  have hB0 := hB.mv X0.warmed.alike hh0
  have c1 : Steps p.tables e below (s₁.setTop (entryFrame m #[.ref d, .int (Int32.ofNat B.slots.size)] 2)) (s₁.setTop (mkF m 0 #[.val (.ref d), .val (.int (Int32.ofNat B.slots.size))] [])) := entry rfl
  have c2 : Steps p.tables e below (s₁.setTop (entryFrame m #[.ref d, .int (Int32.ofNat B.slots.size)] 2)) (s₁.setTop (mkF m 2 #[.val (.ref d), .val (.int (Int32.ofNat B.slots.size))] [.ref d, .int (Int32.ofNat B.slots.size)])) := c1.trans (by
    refine XS.iloadN X0.here hexec rfl (hb hbytes d0) rfl ?_
    refine XS.aloadN X0.here hexec rfl (hb hbytes d1) rfl rfl ?_
    exact Steps.refl _)
  have c3 : Steps p.tables e below (s₁.setTop (entryFrame m #[.ref d, .int (Int32.ofNat B.slots.size)] 2)) (s₁.setTop (mkF m 8 #[.val (.ref d), .val (.int (Int32.ofNat B.slots.size))] [.int (lo8 (ushr (Int32.ofNat B.slots.size - Int32.ofNat B.slots.size) 31))])) := c2.trans (by
    refine X0.alen hexec hB0 rfl rfl (hb hbytes d2) ?_
    refine XS.isub X0.here hexec rfl (hb hbytes d3) rfl ?_
    refine bipushV X0.here hexec rfl 31 (hb hbytes d4) (by decide) ?_
    refine iushr X0.here hexec rfl (hb hbytes d6) rfl ?_
    refine i2b X0.here hexec rfl (hb hbytes d7) rfl ?_
    exact Steps.refl _)
  have e0 : lo8 (ushr (Int32.ofNat B.slots.size - Int32.ofNat B.slots.size) 31) = 0 := by rw [Int32.sub_self]; decide
  rw [e0] at c3
  exact ⟨s₁, some (.int 0), _, _, _, X0, rfl, rfl, rfl, (fun h => by cases h), ⟨rfl, hh0⟩, fun fs hl => c3.trans (X0.ireturnOut hexec hret rfl (Or.inr (Or.inr (Or.inl rfl))) (hb hbytes d8) hl)⟩
end CodL
/-- the String at a is Latin-1 over a new byte[] (the heap's one new cell): the low bytes of the len chars of A from o on; every cell but a is kept -/
def Got (a : Addr) (D : Cell) (fV fC : Field) (A : Cell) (o len : Nat) (r : Option Value) (s u : State) : Prop := r = none ∧ ∃ D' V : Cell, Blank "java/lang/String" a D' u ∧ Same D D' [fV.slot, fC.slot] ∧ D'.slots[fV.slot]? = some (.ref s.heap.size) ∧ D'.slots[fC.slot]? = some (.int 0) ∧ Arr .byte s.heap.size V u ∧ V.vm = .none ∧ u.vm.findClass "[B" = some V.cls ∧ V.slots.size = len ∧ (∀ j, j < len → V.slots[j]? = some (.int (lo8 (cv A (o + j))))) ∧ (∀ (y : Addr) (c : Cell), y ≠ a → s.heap[y]? = some c → u.heap[y]? = some c) ∧ u.heap.size = s.heap.size + 1
theorem Got.mv {a : Addr} {D A : Cell} {fV fC : Field} {o len : Nat} : ∀ r (U U' V V' : State), U'.heap = U.heap → V.vm.Alike V'.vm → V'.heap = V.heap → Got a D fV fC A o len r U V → Got a D fV fC A o len r U' V' :=
  fun r U U' V V' h1 hal h2 ⟨e0, D', X, a1, a2, a3, a4, a5, a6, a7, a8, a9, a10, a11⟩ => ⟨e0, D', X, a1.mv hal h2, a2, by rw [h1]; exact a3, a4, by rw [h1]; exact a5.mv hal h2, a6, by rw [hal.findClass]; exact a7, a8, a9, by rw [h1, h2]; exact a10, by rw [h1, h2]; exact a11⟩
namespace New4
def yN : MethodName := ⟨"java/lang/String", "<init>", "([CIILjava/lang/Void;)V"⟩
abbrev yB : ByteArray := jdk_42_method_149_code
theorem d0 : decode yB 0 = .ok (.aload_n 0, 1) := by decide +kernel
theorem d1 : decode yB 1 = .ok (.invokespecial 1, 3) := by decide +kernel
theorem d4 : decode yB 4 = .ok (.iload_n 3, 1) := by decide +kernel
theorem d5 : decode yB 5 = .ok (.ifCond (.ne) 22, 3) := by decide +kernel
theorem d27 : decode yB 27 = .ok (.getstatic 38, 3) := by decide +kernel
theorem d30 : decode yB 30 = .ok (.ifCond (.eq) 28, 3) := by decide +kernel
theorem d33 : decode yB 33 = .ok (.aload_n 1, 1) := by decide +kernel
theorem d34 : decode yB 34 = .ok (.iload_n 2, 1) := by decide +kernel
theorem d35 : decode yB 35 = .ok (.iload_n 3, 1) := by decide +kernel
theorem d36 : decode yB 36 = .ok (.invokestatic 177, 3) := by decide +kernel
theorem d39 : decode yB 39 = .ok (.astore 5, 2) := by decide +kernel
theorem d41 : decode yB 41 = .ok (.aload_n 0, 1) := by decide +kernel
theorem d42 : decode yB 42 = .ok (.aload 5, 2) := by decide +kernel
theorem d44 : decode yB 44 = .ok (.iload_n 3, 1) := by decide +kernel
theorem d45 : decode yB 45 = .ok (.invokestatic 47, 3) := by decide +kernel
theorem d48 : decode yB 48 = .ok (.putfield 15, 3) := by decide +kernel
theorem d51 : decode yB 51 = .ok (.aload_n 0, 1) := by decide +kernel
theorem d52 : decode yB 52 = .ok (.aload 5, 2) := by decide +kernel
theorem d54 : decode yB 54 = .ok (.putfield 9, 3) := by decide +kernel
theorem d57 : decode yB 57 = .ok (.return_, 1) := by decide +kernel
def site : List Cond := [.fieldLink "java/lang/String" 38 "java/lang/String" "COMPACT_STRINGS" "Z", Cmp3.tab, CodL.tab, .laysFinal "java/lang/String" "java/lang/String" "value" "[B", .fieldLink "java/lang/String" 9 "java/lang/String" "value" "[B", .laysFinal "java/lang/String" "java/lang/String" "coder" "B", .fieldLink "java/lang/String" 15 "java/lang/String" "coder" "B"] ++ objW "java/lang/String" 1 ++ staticW "java/lang/String" 177 Cmp3.yN ++ staticW "java/lang/String" 47 CodL.yN
def tab : Cond := tabOf yN yB 6 none site
def P (a : Addr) (D : Cell) (fV fC : Field) (b : Addr) (A : Cell) (z : Int32) (o len : Nat) (args : Array Value) (s : State) : Prop := args = #[.ref a, .ref b, .int (Int32.ofNat o), .int (Int32.ofNat len), .null] ∧ Blank "java/lang/String" a D s ∧ Found "java/lang/String" "value" "[B" fV s ∧ Found "java/lang/String" "coder" "B" fC s ∧ Ch b A s ∧ StaticIs s "java/lang/String" "COMPACT_STRINGS" "Z" (.int z) ∧ ¬ z = 0 ∧ 0 < len ∧ o + len ≤ A.slots.size ∧ len ≤ 536870912 ∧ ∀ i, i < len → ¬ 255 < cv A (o + i)
def E (a : Addr) (D : Cell) (fV fC : Field) (A : Cell) (o len : Nat) (r : Option Value) (s u : State) : Prop := Got a D fV fC A o len r s u
/-- len > 0, no char of the range above 255: a Latin-1 String of their low bytes -/
theorem law (l : Launch) (a : Addr) (D : Cell) (fV fC : Field) (b : Addr) (A : Cell) (z : Int32) (o len : Nat) : Law l yN 5 4 2 35 yB 6 none site (P a D fV fC b A z o len) (E a D fV fC A o len) [⟨a, fC.slot⟩, ⟨a, fV.slot⟩] 1 len := by
  refine Law.of_walk (plainFor_of_name (by decide +kernel)) (by decide +kernel) (by decide +kernel) (by decide) (fun _ _ h => by rw [h.1]; rfl) (fun _ U U' hal hh h => ⟨h.1, h.2.1.mv hal hh, h.2.2.1.al hal, h.2.2.2.1.al hal, h.2.2.2.2.1.mv hal hh, h.2.2.2.2.2.1.there hal hh, h.2.2.2.2.2.2⟩) (fun r U U' V V' h1 hal h2 h => Got.mv r U U' V V' h1 hal h2 h) ?_
  intro p e s m args below meth c s₁ X0 hexec hbytes hml hret hlk hnm hown hh0 W hP
  obtain ⟨rfl, hB, f1, f2, hA, s1, hz, l0, l1, l2, hp⟩ := hP
  have a31 := hA.1.2.2.2
  have c1 : Steps p.tables e below (s₁.setTop (entryFrame m #[.ref a, .ref b, .int (Int32.ofNat o), .int (Int32.ofNat len), .null] 6)) (s₁.setTop (mkF m 0 #[.val (.ref a), .val (.ref b), .val (.int (Int32.ofNat o)), .val (.int (Int32.ofNat len)), .val .null, .unset] [])) := entry rfl
  have c2 : Steps p.tables e below (s₁.setTop (entryFrame m #[.ref a, .ref b, .int (Int32.ofNat o), .int (Int32.ofNat len), .null] 6)) (s₁.setTop (mkF m 1 #[.val (.ref a), .val (.ref b), .val (.int (Int32.ofNat o)), .val (.int (Int32.ofNat len)), .val .null, .unset] [.ref a])) := c1.trans (by
    refine XS.aloadN X0.here hexec rfl (hb hbytes d0) rfl rfl ?_
    exact Steps.refl _)
  obtain ⟨T3, X3, q3, st3⟩ := X0.oinit hexec hown (wks W (objW "java/lang/String" 1)) (g := (mkF m 1 #[.val (.ref a), .val (.ref b), .val (.int (Int32.ofNat o)), .val (.int (Int32.ofNat len)), .val .null, .unset] [.ref a])) rfl (by rw [hml]; rfl) (rest := []) rfl (hb hbytes d1) (W := 0) (by show 2 * 0 + 0 ≤ _; decide) (Nat.le_of_ble_eq_true rfl) (Nat.le_of_ble_eq_true rfl)
  have hh3 := q3.trans hh0
  have c4 : Steps p.tables e below (s₁.setTop (entryFrame m #[.ref a, .ref b, .int (Int32.ofNat o), .int (Int32.ofNat len), .null] 6)) (T3.setTop (mkF m 27 #[.val (.ref a), .val (.ref b), .val (.int (Int32.ofNat o)), .val (.int (Int32.ofNat len)), .val .null, .unset] [])) := (c2.trans (st3 _ (Steps.refl _))).trans (by
    refine XS.iloadN X3.here hexec rfl (hb hbytes d4) rfl ?_
    refine XS.ifYes X3.here hexec rfl (pc0 := 5) rfl (hb hbytes d5) rfl (i0_ne_t (nz32 (by omega) l0)) (by decide) rfl ?_
    exact Steps.refl _)
  obtain ⟨T5, X5, q5, st5⟩ := X3.sget hexec hown (wk W (.fieldLink "java/lang/String" 38 "java/lang/String" "COMPACT_STRINGS" "Z")) s1 (fun _ _ h => by rw [hh3]; exact h) (g := (mkF m 27 #[.val (.ref a), .val (.ref b), .val (.int (Int32.ofNat o)), .val (.int (Int32.ofNat len)), .val .null, .unset] [])) rfl (hb hbytes d27)
  have hh5 := q5.trans hh3
  have c6 : Steps p.tables e below (s₁.setTop (entryFrame m #[.ref a, .ref b, .int (Int32.ofNat o), .int (Int32.ofNat len), .null] 6)) (T5.setTop (mkF m 30 #[.val (.ref a), .val (.ref b), .val (.int (Int32.ofNat o)), .val (.int (Int32.ofNat len)), .val .null, .unset] [.int z])) := c4.trans (st5 _ (Steps.refl _))
  have c7 : Steps p.tables e below (s₁.setTop (entryFrame m #[.ref a, .ref b, .int (Int32.ofNat o), .int (Int32.ofNat len), .null] 6)) (T5.setTop (mkF m 36 #[.val (.ref a), .val (.ref b), .val (.int (Int32.ofNat o)), .val (.int (Int32.ofNat len)), .val .null, .unset] [.int (Int32.ofNat len), .int (Int32.ofNat o), .ref b])) := c6.trans (by
    refine XS.ifNo X5.here hexec rfl (hb hbytes d30) rfl (i0_eq_f hz) ?_
    refine XS.aloadN X5.here hexec rfl (hb hbytes d33) rfl rfl ?_
    refine XS.iloadN X5.here hexec rfl (hb hbytes d34) rfl ?_
    refine XS.iloadN X5.here hexec rfl (hb hbytes d35) rfl ?_
    exact Steps.refl _)
  obtain ⟨v8, T8, X8, E8, g8⟩ := X5.callS hexec (Cmp3.law l b A o len) hown (wks W (staticW "java/lang/String" 177 Cmp3.yN)) (wk W Cmp3.tab) (W := 0) (Nat.le_of_ble_eq_true rfl) (Nat.le_of_ble_eq_true rfl) (Nat.le_refl _) (by show 0 + len ≤ len; omega) (g := (mkF m 36 #[.val (.ref a), .val (.ref b), .val (.int (Int32.ofNat o)), .val (.int (Int32.ofNat len)), .val .null, .unset] [.int (Int32.ofNat len), .int (Int32.ofNat o), .ref b])) rfl (by rw [hml]; rfl) c7 (argsL := [.ref b, .int (Int32.ofNat o), .int (Int32.ofNat len)]) (rest := []) rfl rfl (by show 2 * 0 + 0 ≤ _; decide) (hb hbytes d36) (⟨rfl, hA.mv X5.warmed.alike hh5, l1, l2, hp⟩)
  obtain ⟨e8, z8⟩ := E8
  obtain ⟨rfl, N, n1, n2, n3, n4, n5, n6⟩ := NewArr.mv _ T5 s _ _ hh5.symm (Vm.Alike.refl _) rfl e8
  rw [hh5] at z8
  have hB1 := hB.keep X8.warmed.alike (n6 _ _ hB.1)
  have hne : s.heap.size ≠ a := (Nat.ne_of_lt (Array.getElem?_eq_some_iff.mp hB.1).1).symm
  have c9 : Steps p.tables e below (s₁.setTop (entryFrame m #[.ref a, .ref b, .int (Int32.ofNat o), .int (Int32.ofNat len), .null] 6)) (T8.setTop (mkF m 39 #[.val (.ref a), .val (.ref b), .val (.int (Int32.ofNat o)), .val (.int (Int32.ofNat len)), .val .null, .unset] [.ref s.heap.size])) := g8
  have c10 : Steps p.tables e below (s₁.setTop (entryFrame m #[.ref a, .ref b, .int (Int32.ofNat o), .int (Int32.ofNat len), .null] 6)) (T8.setTop (mkF m 45 #[.val (.ref a), .val (.ref b), .val (.int (Int32.ofNat o)), .val (.int (Int32.ofNat len)), .val .null, .val (.ref s.heap.size)] [.int (Int32.ofNat N.slots.size), .ref s.heap.size, .ref a])) := by
    have hc : Steps p.tables e below (s₁.setTop (entryFrame m #[.ref a, .ref b, .int (Int32.ofNat o), .int (Int32.ofNat len), .null] 6)) (T8.setTop (mkF m 45 #[.val (.ref a), .val (.ref b), .val (.int (Int32.ofNat o)), .val (.int (Int32.ofNat len)), .val .null, .val (.ref s.heap.size)] [.int (Int32.ofNat len), .ref s.heap.size, .ref a])) := c9.trans (by
      refine XS.astore X8.here hexec rfl (hb hbytes d39) rfl rfl rfl ?_
      refine XS.aloadN X8.here hexec rfl (hb hbytes d41) rfl rfl ?_
      refine XS.aload X8.here hexec rfl (hb hbytes d42) rfl rfl ?_
      refine XS.iloadN X8.here hexec rfl (hb hbytes d44) rfl ?_
      exact Steps.refl _)
    rw [n4]; exact hc
  obtain ⟨v11, T11, X11, E11, g11⟩ := X8.callS hexec (CodL.law l s.heap.size N) hown (wks W (staticW "java/lang/String" 47 CodL.yN)) (wk W CodL.tab) (W := 1) (Nat.le_of_ble_eq_true rfl) (Nat.le_of_ble_eq_true rfl) (Nat.le_refl _) (by show 0 + len + 0 ≤ len; omega) (g := (mkF m 45 #[.val (.ref a), .val (.ref b), .val (.int (Int32.ofNat o)), .val (.int (Int32.ofNat len)), .val .null, .val (.ref s.heap.size)] [.int (Int32.ofNat N.slots.size), .ref s.heap.size, .ref a])) rfl (by rw [hml]; rfl) c10 (argsL := [.ref s.heap.size, .int (Int32.ofNat N.slots.size)]) (rest := [.ref a]) rfl rfl (by show 2 * 0 + (1 + 0) ≤ _; decide) (hb hbytes d45) (⟨rfl, n1⟩)
  obtain ⟨rfl, q11⟩ := E11
  have hB11 := hB1.mv (X8.warmed.alike.symm.trans X11.warmed.alike) q11
  have c12 : Steps p.tables e below (s₁.setTop (entryFrame m #[.ref a, .ref b, .int (Int32.ofNat o), .int (Int32.ofNat len), .null] 6)) (T11.setTop (mkF m 48 #[.val (.ref a), .val (.ref b), .val (.int (Int32.ofNat o)), .val (.int (Int32.ofNat len)), .val .null, .val (.ref s.heap.size)] [.int 0, .ref a])) := g11
  obtain ⟨T13, X13, p13, bl13, sl13, st13⟩ := X11.finit hexec hown (wk W (.fieldLink "java/lang/String" 15 "java/lang/String" "coder" "B")) (Or.inr ⟨_, (wk W (.laysFinal "java/lang/String" "java/lang/String" "coder" "B"))⟩) (Or.inl ⟨rfl, hnm⟩) f2 (Or.inl rfl) hB11 (t := .byte) (by decide +kernel) rfl (g := (mkF m 48 #[.val (.ref a), .val (.ref b), .val (.int (Int32.ofNat o)), .val (.int (Int32.ofNat len)), .val .null, .val (.ref s.heap.size)] [.int 0, .ref a])) rfl (rest := []) rfl (hb hbytes d48)
  have c14 : Steps p.tables e below (s₁.setTop (entryFrame m #[.ref a, .ref b, .int (Int32.ofNat o), .int (Int32.ofNat len), .null] 6)) (T13.setTop (mkF m 54 #[.val (.ref a), .val (.ref b), .val (.int (Int32.ofNat o)), .val (.int (Int32.ofNat len)), .val .null, .val (.ref s.heap.size)] [.ref s.heap.size, .ref a])) := (c12.trans (st13 _ (Steps.refl _))).trans (by
    refine XS.aloadN X13.here hexec rfl (hb hbytes d51) rfl rfl ?_
    refine XS.aload X13.here hexec rfl (hb hbytes d52) rfl rfl ?_
    exact Steps.refl _)
  obtain ⟨T15, X15, p15, bl15, sl15, st15⟩ := X13.finit hexec hown (wk W (.fieldLink "java/lang/String" 9 "java/lang/String" "value" "[B")) (Or.inr ⟨_, (wk W (.laysFinal "java/lang/String" "java/lang/String" "value" "[B"))⟩) (Or.inl ⟨rfl, hnm⟩) f1 (Or.inl rfl) bl13 (t := (.array .byte)) (by decide +kernel) rfl (g := (mkF m 54 #[.val (.ref a), .val (.ref b), .val (.int (Int32.ofNat o)), .val (.int (Int32.ofNat len)), .val .null, .val (.ref s.heap.size)] [.ref s.heap.size, .ref a])) rfl (rest := []) rfl (hb hbytes d54)
  have c16 : Steps p.tables e below (s₁.setTop (entryFrame m #[.ref a, .ref b, .int (Int32.ofNat o), .int (Int32.ofNat len), .null] 6)) (T15.setTop (mkF m 57 #[.val (.ref a), .val (.ref b), .val (.int (Int32.ofNat o)), .val (.int (Int32.ofNat len)), .val .null, .val (.ref s.heap.size)] [])) := c14.trans (st15 _ (Steps.refl _))
  have ap := apart (Or.inr ⟨_, (wk W (.laysFinal "java/lang/String" "java/lang/String" "value" "[B"))⟩) (Or.inr ⟨_, (wk W (.laysFinal "java/lang/String" "java/lang/String" "coder" "B"))⟩) f1 f2 (t₁ := .array .byte) (t₂ := .byte) (by decide +kernel) (by decide +kernel) (by decide)
  have al := X8.warmed.alike.symm.trans X15.warmed.alike
  have n7 : T11.heap[s.heap.size]? = some N := by rw [q11]; exact n1.1
  exact ⟨T15, none, _, _, _, X15, by simp, rfl, by omega, (fun _ => rfl), ⟨rfl, _, N, bl15, ((Same.refl D _).set _ (by simp)).set _ (by simp), sl15, (Cell.slots_setSlot_ne _ ap).trans sl13, n1.keep al (p15.other hne (p13.other hne n7)), n2, by rw [al.findClass]; exact n3, n4, n5, fun y c h1 h2 => p15.other h1 (p13.other h1 (by rw [q11]; exact n6 y c h2)), by rw [p15.2.2, p13.2.2, q11]; exact z8⟩, fun fs hl => c16.trans (X15.returnOut hexec hret (hb hbytes d57) hl)⟩
end New4
namespace New1
def yN : MethodName := ⟨"java/lang/String", "<init>", "([C)V"⟩
abbrev yB : ByteArray := jdk_42_method_3_code
theorem d0 : decode yB 0 = .ok (.aload_n 0, 1) := by decide +kernel
theorem d1 : decode yB 1 = .ok (.aload_n 1, 1) := by decide +kernel
theorem d2 : decode yB 2 = .ok (.iconst 0, 1) := by decide +kernel
theorem d3 : decode yB 3 = .ok (.aload_n 1, 1) := by decide +kernel
theorem d4 : decode yB 4 = .ok (.arraylength, 1) := by decide +kernel
theorem d5 : decode yB 5 = .ok (.aconst_null, 1) := by decide +kernel
theorem d6 : decode yB 6 = .ok (.invokespecial 27, 3) := by decide +kernel
theorem d9 : decode yB 9 = .ok (.return_, 1) := by decide +kernel
def site : List Cond := [New4.tab] ++ initW "java/lang/String" 27 New4.yN
def tab : Cond := tabOf yN yB 2 none site
def P (a : Addr) (D : Cell) (fV fC : Field) (b : Addr) (A : Cell) (z : Int32) (args : Array Value) (s : State) : Prop := args = #[.ref a, .ref b] ∧ Blank "java/lang/String" a D s ∧ Found "java/lang/String" "value" "[B" fV s ∧ Found "java/lang/String" "coder" "B" fC s ∧ Ch b A s ∧ StaticIs s "java/lang/String" "COMPACT_STRINGS" "Z" (.int z) ∧ ¬ z = 0 ∧ 0 < A.slots.size ∧ A.slots.size ≤ 536870912 ∧ ∀ i, i < A.slots.size → ¬ 255 < cv A i
def E (a : Addr) (D : Cell) (fV fC : Field) (A : Cell) (r : Option Value) (s u : State) : Prop := Got a D fV fC A 0 A.slots.size r s u
/-- new String(chars), not empty, no char above 255: a Latin-1 String of their low bytes -/
theorem law (l : Launch) (a : Addr) (D : Cell) (fV fC : Field) (b : Addr) (A : Cell) (z : Int32) : Law l yN 2 1 3 52 yB 2 none site (P a D fV fC b A z) (E a D fV fC A) [⟨a, fC.slot⟩, ⟨a, fV.slot⟩] 1 A.slots.size := by
  refine Law.of_walk (plainFor_of_name (by decide +kernel)) (by decide +kernel) (by decide +kernel) (by decide) (fun _ _ h => by rw [h.1]; rfl) (fun _ U U' hal hh h => ⟨h.1, h.2.1.mv hal hh, h.2.2.1.al hal, h.2.2.2.1.al hal, h.2.2.2.2.1.mv hal hh, h.2.2.2.2.2.1.there hal hh, h.2.2.2.2.2.2⟩) (fun r U U' V V' h1 hal h2 h => Got.mv r U U' V V' h1 hal h2 h) ?_
  intro p e s m args below meth c s₁ X0 hexec hbytes hml hret hlk hnm hown hh0 W hP
  obtain ⟨rfl, hB, f1, f2, hA, s1, hz, l0, l2, hp⟩ := hP
  have c1 : Steps p.tables e below (s₁.setTop (entryFrame m #[.ref a, .ref b] 2)) (s₁.setTop (mkF m 0 #[.val (.ref a), .val (.ref b)] [])) := entry rfl
  have c2 : Steps p.tables e below (s₁.setTop (entryFrame m #[.ref a, .ref b] 2)) (s₁.setTop (mkF m 6 #[.val (.ref a), .val (.ref b)] [.null, .int (Int32.ofNat A.slots.size), .int 0, .ref b, .ref a])) := c1.trans (by
    refine XS.aloadN X0.here hexec rfl (hb hbytes d0) rfl rfl ?_
    refine XS.aloadN X0.here hexec rfl (hb hbytes d1) rfl rfl ?_
    refine iconstV X0.here hexec rfl 0 (hb hbytes d2) (by decide) ?_
    refine XS.aloadN X0.here hexec rfl (hb hbytes d3) rfl rfl ?_
    refine X0.alen hexec (hA.1.mv X0.warmed.alike hh0) rfl rfl (hb hbytes d4) ?_
    refine XS.aconstNull X0.here hexec rfl (hb hbytes d5) ?_
    exact Steps.refl _)
  obtain ⟨v3, T3, X3, E3, g3⟩ := X0.callN hexec (New4.law l a D fV fC b A z 0 A.slots.size) rfl hown (wks W (initW "java/lang/String" 27 New4.yN)) (W New4.tab (by simp only [site, List.mem_cons, List.mem_append, true_or, or_true])) (W := 0) (Nat.le_of_ble_eq_true rfl) (Nat.le_of_ble_eq_true rfl) (Nat.le_refl _) (by show 0 + A.slots.size ≤ A.slots.size; omega) (g := (mkF m 6 #[.val (.ref a), .val (.ref b)] [.null, .int (Int32.ofNat A.slots.size), .int (Int32.ofNat 0), .ref b, .ref a])) rfl (by rw [hml]; rfl) c2 (argsL := [.ref b, .int (Int32.ofNat 0), .int (Int32.ofNat A.slots.size), .null]) (rest := []) rfl rfl (by show 2 * 0 + 0 ≤ _; decide) (hb hbytes d6) (⟨rfl, hB.mv X0.warmed.alike hh0, f1.al X0.warmed.alike, f2.al X0.warmed.alike, hA.mv X0.warmed.alike hh0, s1.there X0.warmed.alike hh0, hz, l0, by omega, l2, fun i hi => by rw [Nat.zero_add]; exact hp i hi⟩)
  have e0 := Got.mv _ s₁ s _ _ hh0.symm (Vm.Alike.refl _) rfl E3
  obtain rfl := e0.1
  have c4 : Steps p.tables e below (s₁.setTop (entryFrame m #[.ref a, .ref b] 2)) (T3.setTop (mkF m 9 #[.val (.ref a), .val (.ref b)] [])) := g3
  exact ⟨T3, none, _, _, _, X3, by simp, rfl, by omega, (fun _ => rfl), e0, fun fs hl => c4.trans (X3.returnOut hexec hret (hb hbytes d9) hl)⟩
theorem pays {l : Launch} {R : Room} {p : Program} {e : Env} {below : List Frame} {s : State} {sargs : Array Value} {len W : Nat} (a : Addr) (D : Cell) (fV fC : Field) (b : Addr) (A : Cell) (z : Int32) (htab : tab.before sargs s = true) (hfr : 4 ≤ R.frames) (hlo : W + 65 ≤ R.locals) :
    Back l R p e below s sargs yN len W (fun A₁ a₁ => A₁.cells + 1 ≤ R.cells ∧ A₁.slots + A.slots.size ≤ R.slots ∧ P a D fV fC b A z a₁ A₁.U) (fun A₁ _ v₁ B₁ => E a D fV fC A v₁ A₁.U B₁.U ∧ B₁.locs = A₁.locs ++ [⟨a, fC.slot⟩, ⟨a, fV.slot⟩] ∧ B₁.cells = A₁.cells + 1 ∧ B₁.slots = A₁.slots + A.slots.size) :=
  (law l a D fV fC b A z).pays htab hfr (by omega)
end New1
/-- the byte, read back as charAt reads it, is the char -/
theorem lo8_mask {x : Int32} (h0 : ¬ x < 0) (h1 : ¬ 255 < x) : lo8 x &&& 255 = x := by
  have t : ∀ k : Fin 256, lo8 (Int32.ofNat k.val) &&& 255 = Int32.ofNat k.val := by decide +kernel
  rw [Int32.lt_iff_toInt_lt] at h0 h1
  have e0 : (0 : Int32).toInt = 0 := rfl
  have e1 : (255 : Int32).toInt = 255 := rfl
  obtain ⟨k, hk⟩ : ∃ k : Nat, x.toInt = k := ⟨x.toInt.toNat, by omega⟩
  have hx : x = Int32.ofNat k := Int32.toInt_inj.mp (by rw [hk, Int32.toInt_ofNat_small (by omega)])
  rw [hx]
  exact t ⟨k, by omega⟩
end StrChars
namespace StrChars.Road
open Jvm Sem ClassFile Op Lib Jvm.Stand Jvm.Free Jvm.Free.XT
open Jvm.Lib.Cold (StaticIs)
abbrev ST : String := "java/lang/String"
/-- every table word that New1's law asks, flat -/
abbrev words : List Jvm.Cond := [.code New1.yN New1.yB 2 none, .initialized ST, .methodLink ST 27 New4.yN, .instanceMethod New4.yN,
  .code New4.yN New4.yB 6 none, .fieldLink ST 38 ST "COMPACT_STRINGS" "Z", .laysFinal ST ST "value" "[B", .fieldLink ST 9 ST "value" "[B", .laysFinal ST ST "coder" "B", .fieldLink ST 15 ST "coder" "B",
  .methodLink ST 1 Lib.objectInit, .instanceMethod Lib.objectInit, .code Lib.objectInit ⟨#[0xb1]⟩ 1 none, .methodLink ST 177 Cmp3.yN, .static Cmp3.yN, .methodLink ST 47 CodL.yN, .static CodL.yN,
  .code Cmp3.yN Cmp3.yB 6 (some (.array .byte)), .initialized U16, .arrayClass .byte, .methodLink U16 115 Cmp5.yN, .static Cmp5.yN, .code Cmp5.yN Cmp5.yB 7 (some .int), .code CodL.yN CodL.yB 2 (some .byte)]
theorem tab_of {a : Array Value} {s : State} (h : ∀ w ∈ words, w.before a s = true) : New1.tab.before a s = true := by
  have h5 : Cmp5.tab.before a s = true := unparts (wk h (.code Cmp5.yN Cmp5.yB 7 (some .int))) (wks h (.initialized Cmp5.yN.cls :: Cmp5.site))
  have hc : CodL.tab.before a s = true := unparts (wk h (.code CodL.yN CodL.yB 2 (some .byte))) (wks h (.initialized CodL.yN.cls :: CodL.site))
  have q5 : ∀ w ∈ Cmp5.tab :: words, w.before a s = true := fun w hw => (List.mem_cons.mp hw).elim (fun e => e ▸ h5) (h w)
  have h3 : Cmp3.tab.before a s = true := unparts (wk q5 (.code Cmp3.yN Cmp3.yB 6 (some (.array .byte)))) (wks q5 (.initialized Cmp3.yN.cls :: Cmp3.site))
  have q3 : ∀ w ∈ Cmp3.tab :: CodL.tab :: words, w.before a s = true := fun w hw => (List.mem_cons.mp hw).elim (fun e => e ▸ h3) fun hw => (List.mem_cons.mp hw).elim (fun e => e ▸ hc) (h w)
  have h4 : New4.tab.before a s = true := unparts (wk q3 (.code New4.yN New4.yB 6 none)) (wks q3 (.initialized New4.yN.cls :: New4.site))
  have q4 : ∀ w ∈ New4.tab :: words, w.before a s = true := fun w hw => (List.mem_cons.mp hw).elim (fun e => e ▸ h4) (h w)
  exact unparts (wk q4 (.code New1.yN New1.yB 2 none)) (wks q4 (.initialized New1.yN.cls :: New1.site))
/-- the words ride from the start Z to the walk's own state -/
theorem moved {Z s : State} {a0 args : Array Value} (hZ : Z.Warmed39 s.vm) (hw : ∀ d ∈ words, d.before a0 Z = true) : ∀ d ∈ words, d.before args s = true := fun d hd => by
  have q := hw d hd
  have t : ∀ d ∈ words, d = .arrayClass .byte ∨ (d.onTables && d.keepsFace) = true := by decide +kernel
  rcases t d hd with rfl | t
  · exact RoadKit.mvA hZ q
  · exact RoadKit.mv hZ q t
/-- WHAT COMES BACK, over the tables of the start Z: h the heap at the call, h' behind it -/
def Q (Z : State) (x : Addr) (A : Cell) (h : Heap) (v : Option Value) (h' : Heap) (L : List Loc) : Prop := v = none ∧ (∀ y ∈ L, y.base = x) ∧ RoadKit.Keep h h' [x] ∧ h'.size = h.size + 1 ∧ RoadKit.Exa Z h' x ST ∧ RoadKit.Fld Z h' x ST "value" "[B" (.ref h.size) ∧ RoadKit.Fld Z h' x ST "coder" "B" (.int 0) ∧
  (∃ V : Cell, RoadKit.Arr Z h' h.size V .byte ∧ V.vm = .none ∧ Z.vm.findClass "[B" = some V.cls ∧ V.slots.size = A.slots.size ∧ ∀ j, j < A.slots.size → V.slots[j]? = some (.int (lo8 (cv A j)))) ∧
  ∀ (O n d : String) (w : Value), RoadKit.Fld Z h x O n d w → RoadKit.slotOf Z O n d ≠ RoadKit.slotOf Z ST "value" "[B" → RoadKit.slotOf Z O n d ≠ RoadKit.slotOf Z ST "coder" "B" → RoadKit.Fld Z h' x O n d w
/-- **new String(chars) AT A CALL, IN THE ROAD'S FORM**: for specialBack behind newO: x the fresh String, b the char[] with the cell A -/
theorem back {p : Program} {l : Launch} {e : Env} {R : Room} {s : State} {args : Array Value} {below : List Frame} {len W : Nat} {Z : State} {a0 : Array Value} {h : Heap} (hZ : Z.Warmed39 s.vm) (hw : ∀ d ∈ words, d.before a0 Z = true) {kI : Nat} (wi : (Jvm.Cond.instantiable ST kI).before a0 Z = true)
    {x b : Addr} {A : Cell} {z : Int32} {v0 c0 : Value} (E : RoadKit.Exa Z h x ST) (V : RoadKit.Fld Z h x ST "value" "[B" v0) (C : RoadKit.Fld Z h x ST "coder" "B" c0) (K : RoadKit.Arr Z h b A .char) (hty : Typed .char A) (S : RoadKit.Sta Z h ST "COMPACT_STRINGS" "Z" (.int z)) (hz : ¬ z = 0)
    (l0 : 0 < A.slots.size) (l2 : A.slots.size ≤ 536870912) (hp : ∀ i, i < A.slots.size → ¬ 255 < cv A i) (hfr : 4 ≤ R.frames) (hlo : W + 65 ≤ R.locals) :
    Back l R p e below s args New1.yN len W (fun P a => a = #[.ref x, .ref b] ∧ P.U.heap = h ∧ P.cells + 1 ≤ R.cells ∧ P.slots + A.slots.size ≤ R.slots)
      (fun P _ v B => ∃ L, Q Z x A h v B.U.heap L ∧ B.locs = P.locs ++ L ∧ B.cells = P.cells + 1 ∧ B.slots = P.slots + A.slots.size) := by
  intro m meth c P g ig mk a X hg hsize hdg hW hn hp'
  obtain ⟨rfl, rfl, r1, r2⟩ := hp'
  have al : Z.vm.Alike P.U.vm := hZ.alike.trans X.warmed.alike
  obtain ⟨D, cfV, kV, iV, fV, hD, gV, stV, knV, obV, asV, slV⟩ := id V
  obtain ⟨D', cfC, kC, iC, fC, hD', gC, stC, -, -, asC, slC⟩ := id C
  cases hD.symm.trans hD'
  obtain ⟨D2, kD, e1, e2, e3, e4, e5⟩ := id E
  cases hD.symm.trans e1
  obtain ⟨c2, k2, i1, i2, i3, -⟩ := Cond.instantiable_spec wi
  cases e2.symm.trans i1
  cases e3.symm.trans i2
  obtain ⟨kU, u1, u2⟩ := al.2.2 _ _ e3
  have hB : Blank ST x D P.U := ⟨hD, ⟨knV, fun q hq => by rw [hq] at obV; cases obV⟩, by rw [al.findClass]; exact e2, kU, u1, by rw [u2]; exact i3, by rw [u2]; exact e5 i3⟩
  have F1 : Found ST "value" "[B" fV P.U := ⟨SBG.found_only al ⟨cfV, kV, iV, gV⟩, stV⟩
  have F2 : Found ST "coder" "B" fC P.U := ⟨SBG.found_only al ⟨cfC, kC, iC, gC⟩, stC⟩
  have hA : Ch b A P.U := ⟨⟨K.1, State.isArrayOf_alike al K.2.1, K.2.2, by omega⟩, hty⟩
  have hS : StaticIs P.U ST "COMPACT_STRINGS" "Z" (.int z) := by
    obtain ⟨cfS, iS, kS, fS, st, cS, t1, t2, t3, t4, t5, t6, t7⟩ := S
    exact StaticIs.there (s := { Z with heap := P.U.heap }) ⟨cfS, iS, kS, fS, st, cS, t1, t2, t3, t4, t5, (fun q => by rw [q] at t6; cases t6), t7⟩ al rfl
  obtain ⟨v, B, X', ⟨⟨hv, E', V', q1, q2, q3, q4, q5, q6, q7, q8, q9, q10, q11⟩, hl, hc, hs⟩, st⟩ := New1.pays x D fV fC b A z (tab_of (moved hZ hw)) hfr hlo m meth c P g ig mk _ X hg hsize hdg hW hn ⟨r1, r2, rfl, hB, F1, F2, hA, hS, hz, l0, l2, hp⟩
  have al' : Z.vm.Alike B.U.vm := hZ.alike.trans X'.warmed.alike
  have hsz : E'.slots.size = D.slots.size := by
    obtain ⟨-, -, -, kB, w1, w2, w3⟩ := q1
    obtain ⟨kB', y1, y2⟩ := al'.2.2 _ _ e3
    rw [q2.2.1] at w1
    cases w1.symm.trans y1
    rw [w3, e5 i3, y2]
  refine ⟨v, B, X', ⟨_, ⟨hv, ?_, ⟨by omega, fun y cy hy hn' => q10 y cy (by simpa using hn') hy, fun y cy hy => ?_⟩, q11, ⟨E', _, q1.1, by rw [q2.2.1]; exact e2, by rw [q2.2.1]; exact e3, by rw [q2.1]; exact obV, fun _ => by rw [hsz]; exact e5 i3⟩,
    ⟨E', cfV, kV, iV, fV, q1.1, gV, stV, by rw [q2.1]; exact knV, by rw [q2.1]; exact obV, by rw [q2.2.1]; exact asV, q3⟩, ⟨E', cfC, kC, iC, fC, q1.1, gC, stC, by rw [q2.1]; exact knV, by rw [q2.1]; exact obV, by rw [q2.2.1]; exact asC, q4⟩,
    ⟨V', ⟨q5.1, State.isArrayOf_alike al'.symm q5.2.1, q5.2.2.1⟩, q6, by rw [← al'.findClass]; exact q7, q8, fun j hj => by have := q9 j hj; rwa [Nat.zero_add] at this⟩, fun O n d w F n1 n2 => ?_⟩, hl, hc, hs⟩, st⟩
  · intro y hy
    simp only [List.mem_cons, List.not_mem_nil, or_false] at hy
    rcases hy with rfl | rfl <;> rfl
  · by_cases q : y = x
    · subst q
      cases hD.symm.trans hy
      exact ⟨E', q1.1, q2.2.1, q2.1, hsz⟩
    · exact ⟨cy, q10 y cy q hy, rfl, rfl, rfl⟩
  · obtain ⟨D3, cf, k, i, f, g1, g2, g3, g4, g5, g6, g7⟩ := F
    cases hD.symm.trans g1
    simp only [RoadKit.slotOf, g2, gV, gC, Option.map_some, Option.getD_some] at n1 n2
    exact ⟨E', cf, k, i, f, q1.1, g2, g3, by rw [q2.1]; exact g4, by rw [q2.1]; exact g5, by rw [q2.2.1]; exact g6, by rw [q2.2.2 f.slot (by simp [n1, n2])]; exact g7⟩
end StrChars.Road
namespace StrChars.Road
open Jvm Sem ClassFile Op Lib Jvm.Stand Jvm.Free Jvm.Free.XT
/-- WHAT COMES BACK, the byte[] as a list of values -/
def QA (Z : State) (x : Addr) (zn : Int32) (cs : List Int32) (h : Heap) (v : Option Value) (h' : Heap) (L : List Loc) : Prop := v = none ∧ (∀ y ∈ L, y.base = x) ∧ RoadKit.Keep h h' [x] ∧ h'.size = h.size + 1 ∧ RoadKit.Exa Z h' x ST ∧ RoadKit.Fld Z h' x ST "value" "[B" (.ref h.size) ∧ RoadKit.Fld Z h' x ST "coder" "B" (.int 0) ∧
  (∃ kb, Z.vm.findClass "[B" = some kb ∧ RoadKit.Arv Z h' h.size kb .byte zn (cs.map fun c => .int (lo8 c)) (.int 0)) ∧
  ∀ (O n d : String) (w : Value), RoadKit.Fld Z h x O n d w → RoadKit.slotOf Z O n d ≠ RoadKit.slotOf Z ST "value" "[B" → RoadKit.slotOf Z O n d ≠ RoadKit.slotOf Z ST "coder" "B" → RoadKit.Fld Z h' x O n d w
/-- **new String(chars) AT A CALL, THE ARRAYS AS LISTS**: the char[] at b holds cs, not empty, no char above 255 -/
theorem backArv {p : Program} {l : Launch} {e : Env} {R : Room} {s : State} {args : Array Value} {below : List Frame} {len W : Nat} {Z : State} {a0 : Array Value} {h : Heap} (hZ : Z.Warmed39 s.vm) (hw : ∀ d ∈ words, d.before a0 Z = true) {kI : Nat} (wi : (Jvm.Cond.instantiable ST kI).before a0 Z = true)
    {x b : Addr} {k : ClassId} {zn z : Int32} {cs : List Int32} {dv v0 c0 : Value} (E : RoadKit.Exa Z h x ST) (V : RoadKit.Fld Z h x ST "value" "[B" v0) (C : RoadKit.Fld Z h x ST "coder" "B" c0) (K : RoadKit.Arv Z h b k .char zn (cs.map Value.int) dv) (S : RoadKit.Sta Z h ST "COMPACT_STRINGS" "Z" (.int z)) (hz : ¬ z = 0)
    (hlen : zn.toNatClampNeg = cs.length) (h0 : 0 < cs.length) (hbig : cs.length ≤ 536870912) (hall : ∀ c ∈ cs, ¬ 255 < c) (hfr : 4 ≤ R.frames) (hlo : W + 65 ≤ R.locals) :
    Back l R p e below s args New1.yN len W (fun P a => a = #[.ref x, .ref b] ∧ P.U.heap = h ∧ P.cells + 1 ≤ R.cells ∧ P.slots + cs.length ≤ R.slots)
      (fun P _ v B => ∃ L, QA Z x zn cs h v B.U.heap L ∧ B.locs = P.locs ++ L ∧ B.cells = P.cells + 1 ∧ B.slots = P.slots + cs.length) := by
  obtain ⟨A, K1, K2, K3, K4, K5, K6⟩ := K
  have e : A.slots.size = cs.length := K3.trans hlen
  have hat : ∀ (i : Nat) (hi : i < cs.length), A.slots[i]? = some (.int cs[i]) := fun i hi => by rw [K5 i (by omega)]; simp [List.getD_eq_getElem?_getD, hi]
  have hcv : ∀ (i : Nat) (hi : i < cs.length), cv A i = cs[i] := fun i hi => by unfold cv; rw [hat i hi]
  have hty : Typed .char A := fun i v hv => by
    have hi : i < A.slots.size := (Array.getElem?_eq_some_iff.mp hv).1
    have q := K5 i hi
    rw [hv] at q
    rw [Option.some.inj q]
    exact K6 i hi
  refine Back.mono (back hZ hw wi E V C K1 hty S hz (by omega) (by omega) (fun i hi => by rw [hcv i (by omega)]; exact hall _ (List.getElem_mem _)) hfr hlo) (fun P a hp => ⟨hp.1, hp.2.1, hp.2.2.1, by rw [e]; exact hp.2.2.2⟩) (fun P a v B hp hq => ?_)
  obtain ⟨L, ⟨q1, q2, q3, q4, q5, q6, q7, ⟨V', v1, v2, v3, v4, v5⟩, q9⟩, hl, hc, hs⟩ := hq
  refine ⟨L, ⟨q1, q2, q3, q4, q5, q6, q7, ⟨V'.cls, v3, V', v1, rfl, by rw [v4, e, hlen], K4, fun i hi => ?_, fun i hi => ?_⟩, q9⟩, hl, hc, by rw [hs, e]⟩
  · have hi' : i < cs.length := by omega
    rw [v5 i (by omega), hcv i hi']; simp [List.getD_eq_getElem?_getD, hi']
  · have hi' : i < cs.length := by omega
    simp only [List.getD_eq_getElem?_getD, List.getElem?_map, List.getElem?_eq_getElem hi', Option.map_some, Option.getD_some]
    exact fits_lo8 _
end StrChars.Road
namespace StrChars.Road
open Jvm Sem ClassFile Op Lib Jvm.Stand Jvm.Free Jvm.Free.XT
/-- WHAT COMES BACK, in the writer's own shape -/
def QV (Z : State) (x : Addr) (N : Int32) (bs : List Int32) (h : Heap) (n0 : Nat) (v : Option Value) (h' : Heap) (L : List Loc) : Prop := v = none ∧ RoadKit.Fr n0 L ∧ RoadKit.Keep h h' [x] ∧ RoadKit.Exa Z h' x ST ∧ RoadKit.Fld Z h' x ST "coder" "B" (.int 0) ∧
  ∃ (t : Addr) (kb : ClassId), n0 ≤ t ∧ h.size ≤ t ∧ ¬ t = x ∧ RoadKit.Fld Z h' x ST "value" "[B" (.ref t) ∧ RoadKit.Arv Z h' t kb .byte N (bs.map Value.int) (.int 0)
/-- **new String(chars) AT A CALL, FOR THE WRITER**: a char[] of n known ints, each 0 to 255 -/
theorem backV {p : Program} {l : Launch} {e : Env} {R : Room} {s : State} {args : Array Value} {below : List Frame} {len W : Nat} {Z : State} {a0 : Array Value} {h : Heap} (hZ : Z.Warmed39 s.vm) (hw : ∀ d ∈ words, d.before a0 Z = true) {kI : Nat} (wi : (Jvm.Cond.instantiable ST kI).before a0 Z = true)
    {x b : Addr} {kC : ClassId} {cs bs : List Int32} {d v0 c0 : Value} {z N : Int32} {n n0 : Nat} (hx0 : n0 ≤ x) (hh0 : n0 ≤ h.size) (E : RoadKit.Exa Z h x ST) (V : RoadKit.Fld Z h x ST "value" "[B" v0) (C : RoadKit.Fld Z h x ST "coder" "B" c0) (K : RoadKit.Arv Z h b kC .char N (cs.map Value.int) d) (S : RoadKit.Sta Z h ST "COMPACT_STRINGS" "Z" (.int z)) (hz : ¬ z = 0)
    (hn : cs.length = n) (hN : N = Int32.ofNat n) (l0 : 0 < n) (l2 : n ≤ 4000) (hp : ∀ c ∈ cs, ¬ c < 0 ∧ ¬ (255 : Int32) < c) (hb : bs = cs.map (fun c => c.toInt8.toInt32)) (hfr : 4 ≤ R.frames) (hlo : W + 65 ≤ R.locals) :
    Back l R p e below s args (⟨"java/lang/String", "<init>", "([C)V"⟩ : MethodName) len W (fun P a => a = #[.ref x, .ref b] ∧ P.U.heap = h ∧ P.cells + 1 ≤ R.cells ∧ P.slots + n ≤ R.slots)
      (fun P _ v B => ∃ L, QV Z x N bs h n0 v B.U.heap L ∧ B.locs = P.locs ++ L ∧ B.cells = P.cells + 1 ∧ B.slots = P.slots + n) := by
  subst hn hN hb
  refine Back.mono (backArv hZ hw wi E V C K S hz (n32 (by omega)) l0 (by omega) (fun c hc => (hp c hc).2) hfr hlo) (fun P a hp => hp) (fun P a v B hp hq => ?_)
  obtain ⟨L, ⟨q1, q2, q3, q4, q5, q6, q7, ⟨kb, v1, v2⟩, q9⟩, hl, hc, hs⟩ := hq
  exact ⟨L, ⟨q1, fun y hy => by rw [q2 y hy]; exact hx0, q3, q5, q7, h.size, kb, hh0, Nat.le_refl _, Nat.ne_of_gt E.lt, q6, by rw [List.map_map]; exact v2⟩, hl, hc, hs⟩
end StrChars.Road
namespace StrChars
open Jvm Sem ClassFile Op Lib Jvm.Stand Jvm.Free.XT Jvm.Free.ALB Jvm.Free.JM Jvm.Free
open Jvm.Lib.Cold (StaticIs)
def hi8 (x : Int32) : Int32 := lo8 (x >>> ((8 : Int32) &&& 31))
/-- what StringUTF16.getChar makes of two bytes -/
def pairCh (u v : Int32) : Int32 := (((u &&& 255) <<< ((0 : Int32) &&& 31)) ||| ((v &&& 255) <<< ((8 : Int32) &&& 31))).toUInt32.toUInt16.toUInt32.toInt32
theorem lo8_and (x : Int32) : (lo8 x &&& 255).toBitVec.toNat = x.toBitVec.toNat % 256 := by
  have h : (lo8 x).toBitVec = (x.toBitVec.signExtend 8).signExtend 32 := by rw [lo8, Int8.toBitVec_toInt32, Int32.toBitVec_toInt8]
  rw [Int32.toBitVec_and, BitVec.toNat_and, h]
  have e : ((x.toBitVec.signExtend 8).signExtend 32).toNat % 256 = x.toBitVec.toNat % 256 := by
    rw [BitVec.toNat_signExtend]
    have hlt := x.toBitVec.isLt
    simp only [BitVec.toNat_setWidth, BitVec.toNat_signExtend]
    split <;> split <;> omega
  rw [← e]
  exact Nat.and_two_pow_sub_one_eq_mod _ 8
theorem pair_says {c : Int32} (h0 : ¬ c < 0) (h1 : ¬ 65535 < c) : pairCh (lo8 c) (hi8 c) = c := by
  rw [Int32.lt_iff_toInt_lt] at h0 h1
  have e0 : (0 : Int32).toInt = 0 := rfl
  have e1 : (65535 : Int32).toInt = 65535 := rfl
  have hc : c.toInt = c.toBitVec.toNat := by
    have := c.toBitVec.isLt
    have e : c.toInt = c.toBitVec.toInt := rfl
    rw [e] at h0 h1
    rw [e]
    rw [BitVec.toInt_eq_toNat_cond] at h0 h1 ⊢
    split at h0 <;> split <;> omega
  have hn : c.toBitVec.toNat < 65536 := by omega
  have a1 := lo8_and c
  have a2 : (hi8 c &&& 255).toBitVec.toNat = c.toBitVec.toNat / 256 := by
    rw [hi8, lo8_and]
    have e : ((8 : Int32) &&& 31) = 8 := by decide
    rw [e, Int32.toBitVec_shiftRight]
    have e2 : ((8 : Int32).toBitVec.smod 32) = 8#32 := by decide
    rw [e2, BitVec.sshiftRight_eq', BitVec.toNat_sshiftRight_of_msb_false (by rw [BitVec.msb_eq_false_iff_two_mul_lt]; omega)]
    show c.toBitVec.toNat >>> 8 % 256 = _
    rw [Nat.shiftRight_eq_div_pow]
    omega
  unfold pairCh
  apply Int32.toBitVec_inj.mp
  apply BitVec.eq_of_toNat_eq
  have f0 : ((0 : Int32) &&& 31) = 0 := by decide
  have f8 : ((8 : Int32) &&& 31) = 8 := by decide
  rw [f0, f8]
  have g : (((lo8 c &&& 255) <<< (0 : Int32)) ||| ((hi8 c &&& 255) <<< (8 : Int32))).toBitVec.toNat = c.toBitVec.toNat := by
    rw [Int32.toBitVec_or, Int32.toBitVec_shiftLeft, Int32.toBitVec_shiftLeft]
    have s0 : ((0 : Int32).toBitVec.smod 32) = 0#32 := by decide
    have s8 : ((8 : Int32).toBitVec.smod 32) = 8#32 := by decide
    rw [s0, s8, BitVec.toNat_or]
    simp only [BitVec.shiftLeft_eq', BitVec.toNat_shiftLeft, a1, a2]
    show (c.toBitVec.toNat % 256) <<< 0 % 2 ^ 32 ||| (c.toBitVec.toNat / 256) <<< 8 % 2 ^ 32 = _
    rw [Nat.shiftLeft_zero, Nat.mod_eq_of_lt (show c.toBitVec.toNat % 256 < 2 ^ 32 by omega), Nat.mod_eq_of_lt (show (c.toBitVec.toNat / 256) <<< 8 < 2 ^ 32 by rw [Nat.shiftLeft_eq]; omega), Nat.or_comm, ← Nat.shiftLeft_add_eq_or_of_lt (by omega), Nat.shiftLeft_eq]
    omega
  show BitVec.toNat (((((lo8 c &&& 255) <<< (0 : Int32)) ||| ((hi8 c &&& 255) <<< (8 : Int32))).toBitVec.setWidth 16).setWidth 32) = _
  rw [BitVec.toNat_setWidth, BitVec.toNat_setWidth, g]
  omega
end StrChars
namespace StrChars
open Jvm Sem ClassFile Op Lib Jvm.Stand Jvm.Free.XT Jvm.Free.ALB Jvm.Free.JM Jvm.Free
open Jvm.Lib.Cold (StaticIs)
/-- the array's cell V codes the n chars f 0 .. f (n - 1) by the coder cd, as the JDK does: coder 1 just where some char is above 255 -/
def Cod (cd : Int32) (n : Nat) (f : Nat → Int32) (V : Cell) : Prop := (cd = 0 ∧ V.slots.size = n ∧ ∀ j, j < n → V.slots[j]? = some (.int (lo8 (f j))) ∧ ¬ 255 < f j) ∨ (cd = 1 ∧ V.slots.size = 2 * n ∧ (∀ j, j < n → V.slots[2 * j]? = some (.int (lo8 (f j))) ∧ V.slots[2 * j + 1]? = some (.int (hi8 (f j)))) ∧ ∃ j, j < n ∧ 255 < f j)
/-- **x is a String of the n chars f 0 .. f (n - 1)**, Latin-1 or UTF-16; its array at t has the cell V -/
def Txt (x t : Addr) (V : Cell) (cd : Int32) (n : Nat) (f : Nat → Int32) (U : State) : Prop := Exact "java/lang/String" x U ∧ Has x "java/lang/String" "value" "[B" (.ref t) U ∧ Has x "java/lang/String" "coder" "B" (.int cd) U ∧ XT.Arr .byte t V U ∧ Cod cd n f V ∧ ∀ j, j < n → ¬ f j < 0 ∧ ¬ 65535 < f j
theorem Txt.mv {x t : Addr} {V : Cell} {cd : Int32} {n : Nat} {f : Nat → Int32} {U U' : State} (h : Txt x t V cd n f U) (hal : U.vm.Alike U'.vm) (hh : U'.heap = U.heap) : Txt x t V cd n f U' := ⟨h.1.mv hal hh, h.2.1.mv hal hh, h.2.2.1.mv hal hh, h.2.2.2.1.mv hal hh, h.2.2.2.2⟩
end StrChars
namespace StrChars.Road
open Jvm Sem ClassFile Op Lib Jvm.Stand Jvm.Free Jvm.Free.XT
open Jvm.Lib.Cold (StaticIs)
theorem consq {a : Array Value} {s : State} {c : Jvm.Cond} {L : List Jvm.Cond} (h0 : c.before a s = true) (h : ∀ w ∈ L, w.before a s = true) : ∀ w ∈ c :: L, w.before a s = true := fun w hw => (List.mem_cons.mp hw).elim (fun e => e ▸ h0) (h w)
/-- the bytes of the chars cs, low before high -/
def wideBytes : List Int32 → List Value
  | [] => []
  | c :: cs => .int (lo8 c) :: .int (hi8 c) :: wideBytes cs
theorem wide_lo (d : Value) : ∀ (cs : List Int32) (j : Nat), j < cs.length → (wideBytes cs).getD (2 * j) d = .int (lo8 (cs.getD j 0))
  | [], j, h => absurd h (Nat.not_lt_zero j)
  | c :: cs, 0, _ => rfl
  | c :: cs, j + 1, h => by
    have q := wide_lo d cs j (by simpa using h)
    rw [show 2 * (j + 1) = 2 * j + 1 + 1 from by omega]
    simpa [wideBytes] using q
theorem wide_hi (d : Value) : ∀ (cs : List Int32) (j : Nat), j < cs.length → (wideBytes cs).getD (2 * j + 1) d = .int (hi8 (cs.getD j 0))
  | [], j, h => absurd h (Nat.not_lt_zero j)
  | c :: cs, 0, _ => rfl
  | c :: cs, j + 1, h => by
    have q := wide_hi d cs j (by simpa using h)
    rw [show 2 * (j + 1) + 1 = 2 * j + 1 + 1 + 1 from by omega]
    simpa [wideBytes] using q
theorem low_at (d : Value) (cs : List Int32) (j : Nat) (h : j < cs.length) : (cs.map fun c => Value.int (lo8 c)).getD j d = .int (lo8 (cs.getD j 0)) := by
  simp [List.getD_eq_getElem?_getD, h]
/-- an array of N2 bytes vs codes the chars cs by the coder cd -/
def CodA (cs : List Int32) (cd N2 : Int32) (vs : List Value) : Prop := (cd = 0 ∧ N2 = Int32.ofNat cs.length ∧ vs = (cs.map fun c => Value.int (lo8 c)) ∧ ∀ c ∈ cs, ¬ 255 < c) ∨ (cd = 1 ∧ N2 = Int32.ofNat (2 * cs.length) ∧ vs = wideBytes cs ∧ ∃ c ∈ cs, 255 < c)
theorem CodA.cod {cs : List Int32} {cd N2 : Int32} {vs : List Value} {V : Cell} (h : CodA cs cd N2 vs) (hn : 2 * cs.length < 2 ^ 31) (hs : V.slots.size = N2.toNatClampNeg) (hv : RoadKit.Has V vs (.int 0)) : Cod cd cs.length (fun j => cs.getD j 0) V := by
  rcases h with ⟨rfl, rfl, rfl, h⟩ | ⟨rfl, rfl, rfl, c, hc, hw⟩
  · rw [n32 (by omega)] at hs
    exact Or.inl ⟨rfl, hs, fun j hj => ⟨by rw [hv j (by omega), low_at _ _ _ hj], by
      have e : cs.getD j 0 = cs[j] := by simp [List.getD_eq_getElem?_getD, hj]
      show ¬ 255 < cs.getD j 0
      rw [e]; exact h _ (List.getElem_mem _)⟩⟩
  · rw [n32 (by omega)] at hs
    obtain ⟨j, hj, rfl⟩ := List.getElem_of_mem hc
    exact Or.inr ⟨rfl, hs, fun j hj => ⟨by rw [hv _ (by omega), wide_lo _ _ _ hj], by rw [hv _ (by omega), wide_hi _ _ _ hj]⟩, j, hj, by
      have e : cs.getD j 0 = cs[j] := by simp [List.getD_eq_getElem?_getD, hj]
      show 255 < cs.getD j 0
      rw [e]; exact hw⟩
/-- an object of exactly java/lang/String, its two fields found: as the laws ask it -/
theorem strObj {Z U : State} {a0 : Array Value} {kI : Nat} (wi : (Jvm.Cond.instantiable ST kI).before a0 Z = true) (al : Z.vm.Alike U.vm) {x : Addr} {v0 c0 : Value} (E : RoadKit.Exa Z U.heap x ST) (V : RoadKit.Fld Z U.heap x ST "value" "[B" v0) (C : RoadKit.Fld Z U.heap x ST "coder" "B" c0) :
    ∃ (D : Cell) (fV fC : Field), Blank ST x D U ∧ Found ST "value" "[B" fV U ∧ Found ST "coder" "B" fC U ∧ D.slots[fV.slot]? = some v0 ∧ D.slots[fC.slot]? = some c0 ∧ RoadKit.slotOf Z ST "value" "[B" = fV.slot ∧ RoadKit.slotOf Z ST "coder" "B" = fC.slot := by
  obtain ⟨D, cfV, kV, iV, fV, hD, gV, stV, knV, obV, asV, slV⟩ := V
  obtain ⟨D', cfC, kC, iC, fC, hD', gC, stC, -, -, asC, slC⟩ := C
  cases hD.symm.trans hD'
  obtain ⟨D2, kD, e1, e2, e3, e4, e5⟩ := E
  cases hD.symm.trans e1
  obtain ⟨c2, k2, i1, i2, i3, -⟩ := Cond.instantiable_spec wi
  cases e2.symm.trans i1
  cases e3.symm.trans i2
  obtain ⟨kU, u1, u2⟩ := al.2.2 _ _ e3
  exact ⟨D, fV, fC, ⟨hD, ⟨knV, fun q hq => by rw [hq] at obV; cases obV⟩, by rw [al.findClass]; exact e2, kU, u1, by rw [u2]; exact i3, by rw [u2]; exact e5 i3⟩, ⟨SBG.found_only al ⟨cfV, kV, iV, gV⟩, stV⟩, ⟨SBG.found_only al ⟨cfC, kC, iC, gC⟩, stC⟩, slV, slC, by simp [RoadKit.slotOf, gV], by simp [RoadKit.slotOf, gC]⟩
theorem sta_is {Z U : State} (al : Z.vm.Alike U.vm) {C n d : String} {v : Value} (S : RoadKit.Sta Z U.heap C n d v) : StaticIs U C n d v := by
  obtain ⟨cfS, iS, kS, fS, st, cS, t1, t2, t3, t4, t5, t6, t7⟩ := S
  exact StaticIs.there (s := { Z with heap := U.heap }) ⟨cfS, iS, kS, fS, st, cS, t1, t2, t3, t4, t5, (fun q => by rw [q] at t6; cases t6), t7⟩ al rfl
end StrChars.Road
namespace StrChars
open Jvm Sem ClassFile Op Lib Jvm.Stand Jvm.Free.XT Jvm.Free.ALB Jvm.Free.JM Jvm.Free
open Jvm.Lib.Cold (StaticIs)
/-- what place i of a byte[]'s cell holds -/
def yv (A : Cell) (i : Nat) : Int32 := match A.slots[i]? with | some (.int x) => x | _ => 0
theorem yv_get {a : Addr} {A : Cell} {U : State} (h : XT.Arr .byte a A U) (ht : Typed .byte A) {i : Nat} (hi : i < A.slots.size) : A.slots[i]? = some (.int (yv A i)) := by
  have e := Array.getElem?_eq_getElem hi
  have f := ht i _ e
  unfold yv; rw [e]
  generalize A.slots[i] = v at f
  cases v <;> simp [fits] at f ⊢
/-- the two arrays are equal, place for place -/
def EqC (A B : Cell) : Prop := A.slots.size = B.slots.size ∧ ∀ i, i < A.slots.size → yv A i = yv B i
/-- a boolean that says whether p -/
def Says01 (q : Prop) (r : Option Value) (s u : State) : Prop := ∃ v : Int32, r = some (.int v) ∧ u.heap = s.heap ∧ ((v = 1 ∧ q) ∨ (v = 0 ∧ ¬ q))
theorem Says01.mv {q : Prop} : ∀ r (U U' V V' : State), U'.heap = U.heap → V.vm.Alike V'.vm → V'.heap = V.heap → Says01 q r U V → Says01 q r U' V' :=
  fun r U U' V V' h1 _ h2 ⟨v, a, b, c⟩ => ⟨v, a, by rw [h1, h2]; exact b, c⟩
namespace LEq
def yN : MethodName := ⟨"java/lang/StringLatin1", "equals", "([B[B)Z"⟩
abbrev yB : ByteArray := jdk_43_method_13_code
theorem d0 : decode yB 0 = .ok (.aload_n 0, 1) := by decide +kernel
theorem d1 : decode yB 1 = .ok (.arraylength, 1) := by decide +kernel
theorem d2 : decode yB 2 = .ok (.aload_n 1, 1) := by decide +kernel
theorem d3 : decode yB 3 = .ok (.arraylength, 1) := by decide +kernel
theorem d4 : decode yB 4 = .ok (.if_icmp (.ne) 30, 3) := by decide +kernel
theorem d7 : decode yB 7 = .ok (.iconst 0, 1) := by decide +kernel
theorem d8 : decode yB 8 = .ok (.istore_n 2, 1) := by decide +kernel
theorem d9 : decode yB 9 = .ok (.iload_n 2, 1) := by decide +kernel
theorem d10 : decode yB 10 = .ok (.aload_n 0, 1) := by decide +kernel
theorem d11 : decode yB 11 = .ok (.arraylength, 1) := by decide +kernel
theorem d12 : decode yB 12 = .ok (.if_icmp (.ge) 20, 3) := by decide +kernel
theorem d15 : decode yB 15 = .ok (.aload_n 0, 1) := by decide +kernel
theorem d16 : decode yB 16 = .ok (.iload_n 2, 1) := by decide +kernel
theorem d17 : decode yB 17 = .ok (.baload, 1) := by decide +kernel
theorem d18 : decode yB 18 = .ok (.aload_n 1, 1) := by decide +kernel
theorem d19 : decode yB 19 = .ok (.iload_n 2, 1) := by decide +kernel
theorem d20 : decode yB 20 = .ok (.baload, 1) := by decide +kernel
theorem d21 : decode yB 21 = .ok (.if_icmp (.eq) 5, 3) := by decide +kernel
theorem d24 : decode yB 24 = .ok (.iconst 0, 1) := by decide +kernel
theorem d25 : decode yB 25 = .ok (.ireturn, 1) := by decide +kernel
theorem d26 : decode yB 26 = .ok (.iinc 2 1, 3) := by decide +kernel
theorem d29 : decode yB 29 = .ok (.goto (-20), 3) := by decide +kernel
theorem d32 : decode yB 32 = .ok (.iconst 1, 1) := by decide +kernel
theorem d33 : decode yB 33 = .ok (.ireturn, 1) := by decide +kernel
theorem d34 : decode yB 34 = .ok (.iconst 0, 1) := by decide +kernel
theorem d35 : decode yB 35 = .ok (.ireturn, 1) := by decide +kernel
def site : List Cond := []
def tab : Cond := tabOf yN yB 3 (some .boolean) site
def P (a : Addr) (A : Cell) (b : Addr) (B : Cell) (args : Array Value) (s : State) : Prop := args = #[.ref a, .ref b] ∧ XT.Arr .byte a A s ∧ Typed .byte A ∧ XT.Arr .byte b B s ∧ Typed .byte B
/-- whether two byte[] are equal, place for place -/
theorem law (l : Launch) (a : Addr) (A : Cell) (b : Addr) (B : Cell) : Law l yN 2 2 0 0 yB 3 (some .boolean) site (P a A b B) (Says01 (EqC A B)) [] 0 0 := by
  refine Law.of_walk (plainFor_of_name (by decide +kernel)) (by decide +kernel) (by decide +kernel) (by decide) (fun _ _ h => by rw [h.1]; rfl) (fun _ U U' hal hh h => ⟨h.1, h.2.1.mv hal hh, h.2.2.1, h.2.2.2.1.mv hal hh, h.2.2.2.2⟩) (fun r U U' V V' h1 hal h2 h => Says01.mv r U U' V V' h1 hal h2 h) ?_
  intro p e s m args below meth c s₁ X0 hexec hbytes hml hret hlk hnm hown hh0 W hP
  obtain ⟨rfl, hA, tA, hB, tB⟩ := hP
  have a31 := hA.2.2.2
  have b31 := hB.2.2.2
  have hA0 := hA.mv X0.warmed.alike hh0
  have hB0 := hB.mv X0.warmed.alike hh0
  have c1 : Steps p.tables e below (s₁.setTop (entryFrame m #[.ref a, .ref b] 3)) (s₁.setTop (mkF m 0 #[.val (.ref a), .val (.ref b), .unset] [])) := entry rfl
  have c2 : Steps p.tables e below (s₁.setTop (entryFrame m #[.ref a, .ref b] 3)) (s₁.setTop (mkF m 4 #[.val (.ref a), .val (.ref b), .unset] [.int (Int32.ofNat B.slots.size), .int (Int32.ofNat A.slots.size)])) := c1.trans (by
    refine XS.aloadN X0.here hexec rfl (hb hbytes d0) rfl rfl ?_
    refine X0.alen hexec hA0 rfl rfl (hb hbytes d1) ?_
    refine XS.aloadN X0.here hexec rfl (hb hbytes d2) rfl rfl ?_
    refine X0.alen hexec hB0 rfl rfl (hb hbytes d3) ?_
    exact Steps.refl _)
  by_cases hs : A.slots.size = B.slots.size
  · have c3 : Steps p.tables e below (s₁.setTop (entryFrame m #[.ref a, .ref b] 3)) (s₁.setTop (mkF m 9 #[.val (.ref a), .val (.ref b), .val (.int 0)] [])) := c2.trans (by
      refine XS.icmpNo X0.here hexec rfl (hb hbytes d4) rfl (ii_ne_f (by rw [hs])) ?_
      refine iconstV X0.here hexec rfl 0 (hb hbytes d7) (by decide) ?_
      refine XS.istoreN X0.here hexec rfl (hb hbytes d8) rfl rfl ?_
      exact Steps.refl _)
    have loop : ∀ (r i : Nat), i + r = A.slots.size → (∀ j, j < i → yv A j = yv B j) → Steps p.tables e below (s₁.setTop (entryFrame m #[.ref a, .ref b] 3)) (s₁.setTop (mkF m 9 #[.val (.ref a), .val (.ref b), .val (.int (Int32.ofNat i))] [])) → ∃ (pc : Nat) (Ls : Array Slot) (v : Int32), (pc = 25 ∨ pc = 33) ∧ ((v = 1 ∧ EqC A B) ∨ (v = 0 ∧ ¬ EqC A B)) ∧ Steps p.tables e below (s₁.setTop (entryFrame m #[.ref a, .ref b] 3)) (s₁.setTop (mkF m pc Ls [.int v])) := by
      intro r
      induction r with
      | zero =>
        intro i hi he cl
        exact ⟨33, _, 1, Or.inr rfl, Or.inl ⟨rfl, hs, fun j hj => he j (by omega)⟩, cl.trans (by
          refine XS.iloadN X0.here hexec rfl (hb hbytes d9) rfl ?_
          refine XS.aloadN X0.here hexec rfl (hb hbytes d10) rfl rfl ?_
          refine X0.alen hexec hA0 rfl rfl (hb hbytes d11) ?_
          refine XS.icmpYes X0.here hexec rfl (pc0 := 12) rfl (hb hbytes d12) rfl (ii_ge_t (nlt32 (by omega) (by omega))) (by decide) rfl ?_
          refine iconstV X0.here hexec rfl 1 (hb hbytes d32) (by decide) ?_
          exact Steps.refl _)⟩
      | succ r ih =>
        intro i hi he cl
        have c4 : Steps p.tables e below (s₁.setTop (entryFrame m #[.ref a, .ref b] 3)) (s₁.setTop (mkF m 21 #[.val (.ref a), .val (.ref b), .val (.int (Int32.ofNat i))] [.int (yv B i), .int (yv A i)])) := cl.trans (by
          refine XS.iloadN X0.here hexec rfl (hb hbytes d9) rfl ?_
          refine XS.aloadN X0.here hexec rfl (hb hbytes d10) rfl rfl ?_
          refine X0.alen hexec hA0 rfl rfl (hb hbytes d11) ?_
          refine XS.icmpNo X0.here hexec rfl (hb hbytes d12) rfl (ii_ge_f (lt32 (by omega) (by omega))) ?_
          refine XS.aloadN X0.here hexec rfl (hb hbytes d15) rfl rfl ?_
          refine XS.iloadN X0.here hexec rfl (hb hbytes d16) rfl ?_
          refine X0.aget hexec hA0 rfl (yv_get hA tA (i := i) (by omega)) rfl rfl (hb hbytes d17) ?_
          refine XS.aloadN X0.here hexec rfl (hb hbytes d18) rfl rfl ?_
          refine XS.iloadN X0.here hexec rfl (hb hbytes d19) rfl ?_
          refine X0.aget hexec hB0 rfl (yv_get hB tB (i := i) (by omega)) rfl rfl (hb hbytes d20) ?_
          exact Steps.refl _)
        by_cases hv : yv A i = yv B i
        · have c5 : Steps p.tables e below (s₁.setTop (entryFrame m #[.ref a, .ref b] 3)) (s₁.setTop (mkF m 9 #[.val (.ref a), .val (.ref b), .val (.int (Int32.ofNat i + 1))] [])) := c4.trans (by
            refine XS.icmpYes X0.here hexec rfl (pc0 := 21) rfl (hb hbytes d21) rfl (ii_eq_t hv) (by decide) rfl ?_
            refine iincV X0.here hexec rfl 1 (hb hbytes d26) (by decide) rfl rfl ?_
            refine XS.goto X0.here hexec rfl (pc0 := 29) rfl (hb hbytes d29) (by decide) rfl ?_
            exact Steps.refl _)
          rw [succ32] at c5
          exact ih (i + 1) (by omega) (fun j hj => by
            by_cases e : j = i
            · rw [e]; exact hv
            · exact he j (by omega)) c5
        · exact ⟨25, _, 0, Or.inl rfl, Or.inr ⟨rfl, fun q => hv (q.2 i (by omega))⟩, c4.trans (by
            refine XS.icmpNo X0.here hexec rfl (hb hbytes d21) rfl (ii_eq_f hv) ?_
            refine iconstV X0.here hexec rfl 0 (hb hbytes d24) (by decide) ?_
            exact Steps.refl _)⟩
    obtain ⟨pc, Ls, v, hpc, hv, cz⟩ := loop A.slots.size 0 (by omega) (fun j hj => absurd hj (Nat.not_lt_zero j)) c3
    have nv : narrow .boolean (.int v) = .int v := by rcases hv with ⟨rfl, -⟩ | ⟨rfl, -⟩ <;> rfl
    rcases hpc with rfl | rfl
    · exact ⟨s₁, some (.int v), _, _, _, X0, rfl, rfl, rfl, (fun h => by cases h), ⟨v, rfl, hh0, hv⟩, fun fs hl => cz.trans (X0.ireturnOut hexec hret nv (Or.inr (Or.inl rfl)) (hb hbytes d25) hl)⟩
    · exact ⟨s₁, some (.int v), _, _, _, X0, rfl, rfl, rfl, (fun h => by cases h), ⟨v, rfl, hh0, hv⟩, fun fs hl => cz.trans (X0.ireturnOut hexec hret nv (Or.inr (Or.inl rfl)) (hb hbytes d33) hl)⟩
  · have c3 : Steps p.tables e below (s₁.setTop (entryFrame m #[.ref a, .ref b] 3)) (s₁.setTop (mkF m 35 #[.val (.ref a), .val (.ref b), .unset] [.int 0])) := c2.trans (by
      refine XS.icmpYes X0.here hexec rfl (pc0 := 4) rfl (hb hbytes d4) rfl (ii_ne_t (ne32 a31 b31 hs)) (by decide) rfl ?_
      refine iconstV X0.here hexec rfl 0 (hb hbytes d34) (by decide) ?_
      exact Steps.refl _)
    exact ⟨s₁, some (.int 0), _, _, _, X0, rfl, rfl, rfl, (fun h => by cases h), ⟨0, rfl, hh0, Or.inr ⟨rfl, fun q => hs q.1⟩⟩, fun fs hl => c3.trans (X0.ireturnOut hexec hret rfl (Or.inr (Or.inl rfl)) (hb hbytes d35) hl)⟩
end LEq
theorem Cod.ty {cd : Int32} {n : Nat} {f : Nat → Int32} {V : Cell} (h : Cod cd n f V) : Typed .byte V := fun i v hv => by
  have hi : i < V.slots.size := (Array.getElem?_eq_some_iff.mp hv).1
  rcases h with ⟨-, k1, k2⟩ | ⟨-, k1, k2, -⟩
  · rw [(k2 i (by omega)).1] at hv; cases hv; exact fits_lo8 _
  · rcases Nat.mod_two_eq_zero_or_one i with e | e
    · obtain ⟨j, rfl⟩ : ∃ j, i = 2 * j := ⟨i / 2, by omega⟩
      rw [(k2 j (by omega)).1] at hv; cases hv; exact fits_lo8 _
    · obtain ⟨j, rfl⟩ : ∃ j, i = 2 * j + 1 := ⟨i / 2, by omega⟩
      rw [(k2 j (by omega)).2] at hv; cases hv; exact fits_lo8 _
/-- the same text -/
def SameT (n : Nat) (f : Nat → Int32) (k : Nat) (g : Nat → Int32) : Prop := n = k ∧ ∀ j, j < n → f j = g j
theorem lo8_inj {x y : Int32} (h0 : ¬ x < 0) (h1 : ¬ 255 < x) (k0 : ¬ y < 0) (k1 : ¬ 255 < y) (h : lo8 x = lo8 y) : x = y := by
  rw [← lo8_mask h0 h1, ← lo8_mask k0 k1, h]
/-- arrays coded by one coder are equal just where the texts are -/
theorem Cod.eqv {cd : Int32} {n k : Nat} {f g : Nat → Int32} {V V' : Cell} (h : Cod cd n f V) (h' : Cod cd k g V') (hf : ∀ j, j < n → ¬ f j < 0 ∧ ¬ 65535 < f j) (hg : ∀ j, j < k → ¬ g j < 0 ∧ ¬ 65535 < g j) : EqC V V' ↔ SameT n f k g := by
  have yvv : ∀ {W : Cell} {i : Nat} {x : Int32}, W.slots[i]? = some (.int x) → yv W i = x := fun q => by unfold yv; rw [q]
  rcases h with ⟨rfl, k1, k2⟩ | ⟨rfl, k1, k2, -⟩
  · rcases h' with ⟨-, m1, m2⟩ | ⟨e, -⟩
    · constructor
      · rintro ⟨e1, e2⟩
        refine ⟨by omega, fun j hj => ?_⟩
        have q := e2 j (by omega)
        rw [yvv (k2 j hj).1, yvv (m2 j (by omega)).1] at q
        exact lo8_inj (hf j hj).1 (k2 j hj).2 (hg j (by omega)).1 (m2 j (by omega)).2 q
      · rintro ⟨rfl, e2⟩
        refine ⟨by omega, fun j hj => ?_⟩
        rw [yvv (k2 j (by omega)).1, yvv (m2 j (by omega)).1, e2 j (by omega)]
    · exact absurd e (by decide)
  · rcases h' with ⟨e, -⟩ | ⟨-, m1, m2, -⟩
    · exact absurd e (by decide)
    · constructor
      · rintro ⟨e1, e2⟩
        refine ⟨by omega, fun j hj => ?_⟩
        have q1 := e2 (2 * j) (by omega)
        have q2 := e2 (2 * j + 1) (by omega)
        rw [yvv (k2 j hj).1, yvv (m2 j (by omega)).1] at q1
        rw [yvv (k2 j hj).2, yvv (m2 j (by omega)).2] at q2
        rw [← pair_says (hf j hj).1 (hf j hj).2, ← pair_says (hg j (by omega)).1 (hg j (by omega)).2, q1, q2]
      · rintro ⟨rfl, e2⟩
        refine ⟨by omega, fun i hi => ?_⟩
        rcases Nat.mod_two_eq_zero_or_one i with e | e
        · obtain ⟨j, rfl⟩ : ∃ j, i = 2 * j := ⟨i / 2, by omega⟩
          rw [yvv (k2 j (by omega)).1, yvv (m2 j (by omega)).1, e2 j (by omega)]
        · obtain ⟨j, rfl⟩ : ∃ j, i = 2 * j + 1 := ⟨i / 2, by omega⟩
          rw [yvv (k2 j (by omega)).2, yvv (m2 j (by omega)).2, e2 j (by omega)]
/-- two codings differ: so do the texts -/
theorem Cod.dif {cd cd' : Int32} {n k : Nat} {f g : Nat → Int32} {V V' : Cell} (h : Cod cd n f V) (h' : Cod cd' k g V') (hne : ¬ cd = cd') : ¬ SameT n f k g := by
  rintro ⟨rfl, e⟩
  rcases h with ⟨rfl, -, k2⟩ | ⟨rfl, -, -, j, hj, hw⟩
  · rcases h' with ⟨rfl, -⟩ | ⟨-, -, -, j, hj, hw⟩
    · exact hne rfl
    · exact (k2 j hj).2 (by rw [e j hj]; exact hw)
  · rcases h' with ⟨-, -, m2⟩ | ⟨rfl, -⟩
    · exact (m2 j hj).2 (by rw [← e j hj]; exact hw)
    · exact hne rfl
/-- an object of exactly C is an instance of C -/
theorem cinst {p : Program} {l : Launch} {e : Env} {R : Room} {s : State} {m : MethodId} {args : Array Value} {below : List Frame} {meth : Method} {c : Code} {T : State} {locs : List Loc} {cells slots : Nat} (X : Stand p l e R s m args below meth c T locs cells slots) (hexec : p.tables.exec = Jvm.exec) {own C : String} {index : Nat} (hown : s.vm.findClass own = some m.cls) (hlink : (Cond.classLink own index C).before args s = true) {a : Addr} (hE : Exact C a T)
    {g : JFrame} (hg : g.method = m) {rest : List Value} (hstack : g.stack = .ref a :: rest) (hdg : decode c.code g.pc = .ok (.instanceof index, 3)) :
    ∃ T', Stand p l e R s m args below meth c T' locs cells slots ∧ T'.heap = T.heap ∧ ∀ target, Steps p.tables e below (T'.setTop { g with pc := g.pc + 3, stack := .int 1 :: rest }) target → Steps p.tables e below (T.setTop g) target := by
  obtain ⟨cB, h1, D, h2, h3, h4⟩ := hE
  have h1' : s.vm.findClass C = some cB := by rw [← X.warmed.alike.findClass]; exact h1
  obtain ⟨vm', X', st⟩ := X.instanceofYes hexec hown hlink h2 h4 h1' (by rw [h3]; exact Jvm.Free.SB.assignable_self _ _) hg hstack hdg
  exact ⟨_, X', rfl, st⟩
theorem cself {p : Program} {l : Launch} {e : Env} {R : Room} {s : State} {m : MethodId} {args : Array Value} {below : List Frame} {meth : Method} {c : Code} {T : State} {locs : List Loc} {cells slots : Nat} (X : Stand p l e R s m args below meth c T locs cells slots) (hexec : p.tables.exec = Jvm.exec) {own C : String} {index : Nat} (hown : s.vm.findClass own = some m.cls) (hlink : (Cond.classLink own index C).before args s = true) {a : Addr} (hE : Exact C a T)
    {g : JFrame} (hg : g.method = m) {rest : List Value} (hstack : g.stack = .ref a :: rest) (hdg : decode c.code g.pc = .ok (.checkcast index, 3)) :
    ∃ T', Stand p l e R s m args below meth c T' locs cells slots ∧ T'.heap = T.heap ∧ ∀ target, Steps p.tables e below (T'.setTop { g with pc := g.pc + 3, stack := .ref a :: rest }) target → Steps p.tables e below (T.setTop g) target := by
  obtain ⟨cB, h1, D, h2, h3, h4⟩ := hE
  have h1' : s.vm.findClass C = some cB := by rw [← X.warmed.alike.findClass]; exact h1
  obtain ⟨vm', X', st⟩ := X.checkcastYes hexec hown hlink h2 h4 h1' (by rw [h3]; exact Jvm.Free.SB.assignable_self _ _) hg hstack hdg
  exact ⟨_, X', rfl, fun t h => st t (by rw [← hstack] at h; exact h)⟩
namespace SEq
def yN : MethodName := ⟨"java/lang/String", "equals", "(Ljava/lang/Object;)Z"⟩
abbrev yB : ByteArray := jdk_42_method_66_code
theorem d0 : decode yB 0 = .ok (.aload_n 0, 1) := by decide +kernel
theorem d1 : decode yB 1 = .ok (.aload_n 1, 1) := by decide +kernel
theorem d2 : decode yB 2 = .ok (.if_acmp (.ne) 5, 3) := by decide +kernel
theorem d5 : decode yB 5 = .ok (.iconst 1, 1) := by decide +kernel
theorem d6 : decode yB 6 = .ok (.ireturn, 1) := by decide +kernel
theorem d7 : decode yB 7 = .ok (.aload_n 1, 1) := by decide +kernel
theorem d8 : decode yB 8 = .ok (.instanceof 10, 3) := by decide +kernel
theorem d11 : decode yB 11 = .ok (.ifCond (.eq) 43, 3) := by decide +kernel
theorem d14 : decode yB 14 = .ok (.aload_n 1, 1) := by decide +kernel
theorem d15 : decode yB 15 = .ok (.checkcast 10, 3) := by decide +kernel
theorem d18 : decode yB 18 = .ok (.astore_n 2, 1) := by decide +kernel
theorem d19 : decode yB 19 = .ok (.getstatic 38, 3) := by decide +kernel
theorem d22 : decode yB 22 = .ok (.ifCond (.eq) 14, 3) := by decide +kernel
theorem d25 : decode yB 25 = .ok (.aload_n 0, 1) := by decide +kernel
theorem d26 : decode yB 26 = .ok (.getfield 15, 3) := by decide +kernel
theorem d29 : decode yB 29 = .ok (.aload_n 2, 1) := by decide +kernel
theorem d30 : decode yB 30 = .ok (.getfield 15, 3) := by decide +kernel
theorem d33 : decode yB 33 = .ok (.if_icmp (.ne) 21, 3) := by decide +kernel
theorem d36 : decode yB 36 = .ok (.aload_n 0, 1) := by decide +kernel
theorem d37 : decode yB 37 = .ok (.getfield 9, 3) := by decide +kernel
theorem d40 : decode yB 40 = .ok (.aload_n 2, 1) := by decide +kernel
theorem d41 : decode yB 41 = .ok (.getfield 9, 3) := by decide +kernel
theorem d44 : decode yB 44 = .ok (.invokestatic 541, 3) := by decide +kernel
theorem d47 : decode yB 47 = .ok (.ifCond (.eq) 7, 3) := by decide +kernel
theorem d50 : decode yB 50 = .ok (.iconst 1, 1) := by decide +kernel
theorem d51 : decode yB 51 = .ok (.goto 4, 3) := by decide +kernel
theorem d54 : decode yB 54 = .ok (.iconst 0, 1) := by decide +kernel
theorem d55 : decode yB 55 = .ok (.ireturn, 1) := by decide +kernel
def site : List Cond := [.classLink "java/lang/String" 10 "java/lang/String", .fieldLink "java/lang/String" 38 "java/lang/String" "COMPACT_STRINGS" "Z", .fieldLink "java/lang/String" 15 "java/lang/String" "coder" "B", .fieldLink "java/lang/String" 9 "java/lang/String" "value" "[B", LEq.tab] ++ staticW "java/lang/String" 541 LEq.yN
def tab : Cond := tabOf yN yB 3 (some .boolean) site
def P (x t : Addr) (V : Cell) (cd : Int32) (n : Nat) (f : Nat → Int32) (y t' : Addr) (V' : Cell) (cd' : Int32) (k : Nat) (g : Nat → Int32) (z : Int32) (args : Array Value) (s : State) : Prop := args = #[.ref x, .ref y] ∧ Txt x t V cd n f s ∧ Txt y t' V' cd' k g s ∧ StaticIs s "java/lang/String" "COMPACT_STRINGS" "Z" (.int z) ∧ ¬ z = 0
/-- equals(Object) of two Strings: whether the texts are the same -/
theorem law (l : Launch) (x t : Addr) (V : Cell) (cd : Int32) (n : Nat) (f : Nat → Int32) (y t' : Addr) (V' : Cell) (cd' : Int32) (k : Nat) (g : Nat → Int32) (z : Int32) : Law l yN 2 1 1 14 yB 3 (some .boolean) site (P x t V cd n f y t' V' cd' k g z) (Says01 (SameT n f k g)) [] 0 0 := by
  refine Law.of_walk (plainFor_of_name (by decide +kernel)) (by decide +kernel) (by decide +kernel) (by decide) (fun _ _ h => by rw [h.1]; rfl) (fun _ U U' hal hh h => ⟨h.1, h.2.1.mv hal hh, h.2.2.1.mv hal hh, h.2.2.2.1.there hal hh, h.2.2.2.2⟩) (fun r U U' V V' h1 hal h2 h => Says01.mv r U U' V V' h1 hal h2 h) ?_
  intro p e s m args below meth c s₁ X0 hexec hbytes hml hret hlk hnm hown hh0 W hP
  obtain ⟨rfl, hx, hy, s1, hz⟩ := hP
  have c1 : Steps p.tables e below (s₁.setTop (entryFrame m #[.ref x, .ref y] 3)) (s₁.setTop (mkF m 2 #[.val (.ref x), .val (.ref y), .unset] [.ref y, .ref x])) := Steps.trans (entry rfl) (by
    show Steps p.tables e below (s₁.setTop (mkF m 0 #[.val (.ref x), .val (.ref y), .unset] [])) _
    refine XS.aloadN X0.here hexec rfl (hb hbytes d0) rfl rfl ?_
    refine XS.aloadN X0.here hexec rfl (hb hbytes d1) rfl rfl ?_
    exact Steps.refl _)
  by_cases hxy : x = y
  · have c2 : Steps p.tables e below (s₁.setTop (entryFrame m #[.ref x, .ref y] 3)) (s₁.setTop (mkF m 6 #[.val (.ref x), .val (.ref y), .unset] [.int 1])) := c1.trans (by
      refine acmpNo X0.here hexec rfl (hb hbytes d2) rfl rfl rfl (by simp [acmp, hxy]) ?_
      refine iconstV X0.here hexec rfl 1 (hb hbytes d5) (by decide) ?_
      exact Steps.refl _)
    subst hxy
    have ec : cd = cd' := by
      obtain ⟨D, fd, a1, a2, a3⟩ := hx.2.2.1
      obtain ⟨D', fd', b1, b2, b3⟩ := hy.2.2.1
      cases a1.symm.trans b1
      obtain ⟨q1, q2, q3, q4⟩ := a2.1
      obtain ⟨r1, r2, r3, r4⟩ := b2.1
      cases q4.symm.trans r4
      cases a3.symm.trans b3; rfl
    have et : t = t' := by
      obtain ⟨D, fd, a1, a2, a3⟩ := hx.2.1
      obtain ⟨D', fd', b1, b2, b3⟩ := hy.2.1
      cases a1.symm.trans b1
      obtain ⟨q1, q2, q3, q4⟩ := a2.1
      obtain ⟨r1, r2, r3, r4⟩ := b2.1
      cases q4.symm.trans r4
      cases a3.symm.trans b3; rfl
    subst ec et
    have ev : V = V' := by cases hx.2.2.2.1.1.symm.trans hy.2.2.2.1.1; rfl
    subst ev
    have hs : SameT n f k g := (Cod.eqv hx.2.2.2.2.1 hy.2.2.2.2.1 hx.2.2.2.2.2 hy.2.2.2.2.2).mp ⟨rfl, fun _ _ => rfl⟩
    exact ⟨s₁, some (.int 1), _, _, _, X0, rfl, rfl, rfl, (fun h => by cases h), ⟨1, rfl, hh0, Or.inl ⟨rfl, hs⟩⟩, fun fs hl => c2.trans (X0.ireturnOut hexec hret rfl (Or.inr (Or.inl rfl)) (hb hbytes d6) hl)⟩
  · have c2 : Steps p.tables e below (s₁.setTop (entryFrame m #[.ref x, .ref y] 3)) (s₁.setTop (mkF m 8 #[.val (.ref x), .val (.ref y), .unset] [.ref y])) := c1.trans (by
      refine acmpYes X0.here hexec rfl (pc0 := 2) rfl (hb hbytes d2) rfl rfl rfl (by simp [acmp, hxy]) (by decide) rfl ?_
      refine XS.aloadN X0.here hexec rfl (hb hbytes d7) rfl rfl ?_
      exact Steps.refl _)
    obtain ⟨T3, X3, q3, st3⟩ := cinst X0 hexec hown (wk W (.classLink "java/lang/String" 10 "java/lang/String")) (hy.mv X0.warmed.alike hh0).1 (g := (mkF m 8 #[.val (.ref x), .val (.ref y), .unset] [.ref y])) rfl (rest := []) rfl (hb hbytes d8)
    have hh3 := q3.trans hh0
    have c4 : Steps p.tables e below (s₁.setTop (entryFrame m #[.ref x, .ref y] 3)) (T3.setTop (mkF m 15 #[.val (.ref x), .val (.ref y), .unset] [.ref y])) := (c2.trans (st3 _ (Steps.refl _))).trans (by
      refine XS.ifNo X3.here hexec rfl (hb hbytes d11) rfl (i0_eq_f (by decide)) ?_
      refine XS.aloadN X3.here hexec rfl (hb hbytes d14) rfl rfl ?_
      exact Steps.refl _)
    obtain ⟨T5, X5, q5, st5⟩ := cself X3 hexec hown (wk W (.classLink "java/lang/String" 10 "java/lang/String")) (hy.mv X3.warmed.alike hh3).1 (g := (mkF m 15 #[.val (.ref x), .val (.ref y), .unset] [.ref y])) rfl (rest := []) rfl (hb hbytes d15)
    have hh5 := q5.trans hh3
    have c6 : Steps p.tables e below (s₁.setTop (entryFrame m #[.ref x, .ref y] 3)) (T5.setTop (mkF m 19 #[.val (.ref x), .val (.ref y), .val (.ref y)] [])) := (c4.trans (st5 _ (Steps.refl _))).trans (by
      refine XS.astoreN X5.here hexec rfl (hb hbytes d18) rfl rfl rfl ?_
      exact Steps.refl _)
    obtain ⟨T7, X7, q7, st7⟩ := X5.sget hexec hown (wk W (.fieldLink "java/lang/String" 38 "java/lang/String" "COMPACT_STRINGS" "Z")) s1 (fun _ _ h => by rw [hh5]; exact h) (g := (mkF m 19 #[.val (.ref x), .val (.ref y), .val (.ref y)] [])) rfl (hb hbytes d19)
    have hh7 := q7.trans hh5
    have c8 : Steps p.tables e below (s₁.setTop (entryFrame m #[.ref x, .ref y] 3)) (T7.setTop (mkF m 26 #[.val (.ref x), .val (.ref y), .val (.ref y)] [.ref x])) := (c6.trans (st7 _ (Steps.refl _))).trans (by
      refine XS.ifNo X7.here hexec rfl (hb hbytes d22) rfl (i0_eq_f hz) ?_
      refine XS.aloadN X7.here hexec rfl (hb hbytes d25) rfl rfl ?_
      exact Steps.refl _)
    obtain ⟨T9, X9, q9, st9⟩ := X7.hget hexec hown (wk W (.fieldLink "java/lang/String" 15 "java/lang/String" "coder" "B")) (hx.mv X7.warmed.alike hh7).2.2.1 (g := (mkF m 26 #[.val (.ref x), .val (.ref y), .val (.ref y)] [.ref x])) rfl (rest := []) rfl (hb hbytes d26)
    have hh9 := q9.trans hh7
    have c10 : Steps p.tables e below (s₁.setTop (entryFrame m #[.ref x, .ref y] 3)) (T9.setTop (mkF m 30 #[.val (.ref x), .val (.ref y), .val (.ref y)] [.ref y, .int cd])) := (c8.trans (st9 _ (Steps.refl _))).trans (by
      refine XS.aloadN X9.here hexec rfl (hb hbytes d29) rfl rfl ?_
      exact Steps.refl _)
    obtain ⟨T11, X11, q11, st11⟩ := X9.hget hexec hown (wk W (.fieldLink "java/lang/String" 15 "java/lang/String" "coder" "B")) (hy.mv X9.warmed.alike hh9).2.2.1 (g := (mkF m 30 #[.val (.ref x), .val (.ref y), .val (.ref y)] [.ref y, .int cd])) rfl (rest := [.int cd]) rfl (hb hbytes d30)
    have hh11 := q11.trans hh9
    have c12 : Steps p.tables e below (s₁.setTop (entryFrame m #[.ref x, .ref y] 3)) (T11.setTop (mkF m 33 #[.val (.ref x), .val (.ref y), .val (.ref y)] [.int cd', .int cd])) := c10.trans (st11 _ (Steps.refl _))
    by_cases hcd : cd = cd'
    · subst hcd
      have c13 : Steps p.tables e below (s₁.setTop (entryFrame m #[.ref x, .ref y] 3)) (T11.setTop (mkF m 37 #[.val (.ref x), .val (.ref y), .val (.ref y)] [.ref x])) := c12.trans (by
        refine XS.icmpNo X11.here hexec rfl (hb hbytes d33) rfl (ii_ne_f rfl) ?_
        refine XS.aloadN X11.here hexec rfl (hb hbytes d36) rfl rfl ?_
        exact Steps.refl _)
      obtain ⟨T14, X14, q14, st14⟩ := X11.hget hexec hown (wk W (.fieldLink "java/lang/String" 9 "java/lang/String" "value" "[B")) (hx.mv X11.warmed.alike hh11).2.1 (g := (mkF m 37 #[.val (.ref x), .val (.ref y), .val (.ref y)] [.ref x])) rfl (rest := []) rfl (hb hbytes d37)
      have hh14 := q14.trans hh11
      have c15 : Steps p.tables e below (s₁.setTop (entryFrame m #[.ref x, .ref y] 3)) (T14.setTop (mkF m 41 #[.val (.ref x), .val (.ref y), .val (.ref y)] [.ref y, .ref t])) := (c13.trans (st14 _ (Steps.refl _))).trans (by
        refine XS.aloadN X14.here hexec rfl (hb hbytes d40) rfl rfl ?_
        exact Steps.refl _)
      obtain ⟨T16, X16, q16, st16⟩ := X14.hget hexec hown (wk W (.fieldLink "java/lang/String" 9 "java/lang/String" "value" "[B")) (hy.mv X14.warmed.alike hh14).2.1 (g := (mkF m 41 #[.val (.ref x), .val (.ref y), .val (.ref y)] [.ref y, .ref t])) rfl (rest := [.ref t]) rfl (hb hbytes d41)
      have hh16 := q16.trans hh14
      have c17 : Steps p.tables e below (s₁.setTop (entryFrame m #[.ref x, .ref y] 3)) (T16.setTop (mkF m 44 #[.val (.ref x), .val (.ref y), .val (.ref y)] [.ref t', .ref t])) := c15.trans (st16 _ (Steps.refl _))
      obtain ⟨v18, T18, X18, E18, g18⟩ := X16.callS hexec (LEq.law l t V t' V') hown (wks W (staticW "java/lang/String" 541 LEq.yN)) (wk W LEq.tab) (W := 0) (Nat.le_of_ble_eq_true rfl) (Nat.le_of_ble_eq_true rfl) (Nat.le_refl _) (Nat.le_refl _) (g := (mkF m 44 #[.val (.ref x), .val (.ref y), .val (.ref y)] [.ref t', .ref t])) rfl (by rw [hml]; rfl) c17 (argsL := [.ref t, .ref t']) (rest := []) rfl rfl (by show 2 * 0 + 0 ≤ _; decide) (hb hbytes d44) (⟨rfl, hx.2.2.2.1.mv X16.warmed.alike hh16, hx.2.2.2.2.1.ty, hy.2.2.2.1.mv X16.warmed.alike hh16, hy.2.2.2.2.1.ty⟩)
      obtain ⟨v, rfl, q18, hv⟩ := E18
      have iff := Cod.eqv hx.2.2.2.2.1 hy.2.2.2.2.1 hx.2.2.2.2.2 hy.2.2.2.2.2
      rcases hv with ⟨rfl, he⟩ | ⟨rfl, he⟩
      · have c19 : Steps p.tables e below (s₁.setTop (entryFrame m #[.ref x, .ref y] 3)) (T18.setTop (mkF m 55 #[.val (.ref x), .val (.ref y), .val (.ref y)] [.int 1])) := Steps.trans g18 (by
          refine XS.ifNo X18.here hexec rfl (hb hbytes d47) rfl (i0_eq_f (by decide)) ?_
          refine iconstV X18.here hexec rfl 1 (hb hbytes d50) (by decide) ?_
          refine XS.goto X18.here hexec rfl (pc0 := 51) rfl (hb hbytes d51) (by decide) rfl ?_
          exact Steps.refl _)
        exact ⟨T18, some (.int 1), _, _, _, X18, rfl, rfl, rfl, (fun h => by cases h), ⟨1, rfl, q18.trans hh16, Or.inl ⟨rfl, iff.mp he⟩⟩, fun fs hl => c19.trans (X18.ireturnOut hexec hret rfl (Or.inr (Or.inl rfl)) (hb hbytes d55) hl)⟩
      · have c19 : Steps p.tables e below (s₁.setTop (entryFrame m #[.ref x, .ref y] 3)) (T18.setTop (mkF m 55 #[.val (.ref x), .val (.ref y), .val (.ref y)] [.int 0])) := Steps.trans g18 (by
          refine XS.ifYes X18.here hexec rfl (pc0 := 47) rfl (hb hbytes d47) rfl (i0_eq_t rfl) (by decide) rfl ?_
          refine iconstV X18.here hexec rfl 0 (hb hbytes d54) (by decide) ?_
          exact Steps.refl _)
        exact ⟨T18, some (.int 0), _, _, _, X18, rfl, rfl, rfl, (fun h => by cases h), ⟨0, rfl, q18.trans hh16, Or.inr ⟨rfl, fun q => he (iff.mpr q)⟩⟩, fun fs hl => c19.trans (X18.ireturnOut hexec hret rfl (Or.inr (Or.inl rfl)) (hb hbytes d55) hl)⟩
    · have c13 : Steps p.tables e below (s₁.setTop (entryFrame m #[.ref x, .ref y] 3)) (T11.setTop (mkF m 55 #[.val (.ref x), .val (.ref y), .val (.ref y)] [.int 0])) := c12.trans (by
        refine XS.icmpYes X11.here hexec rfl (pc0 := 33) rfl (hb hbytes d33) rfl (ii_ne_t hcd) (by decide) rfl ?_
        refine iconstV X11.here hexec rfl 0 (hb hbytes d54) (by decide) ?_
        exact Steps.refl _)
      exact ⟨T11, some (.int 0), _, _, _, X11, rfl, rfl, rfl, (fun h => by cases h), ⟨0, rfl, hh11, Or.inr ⟨rfl, Cod.dif hx.2.2.2.2.1 hy.2.2.2.2.1 hcd⟩⟩, fun fs hl => c13.trans (X11.ireturnOut hexec hret rfl (Or.inr (Or.inl rfl)) (hb hbytes d55) hl)⟩
theorem pays {l : Launch} {R : Room} {p : Program} {e : Env} {below : List Frame} {s : State} {sargs : Array Value} {len W : Nat} (x t : Addr) (V : Cell) (cd : Int32) (n : Nat) (f : Nat → Int32) (y t' : Addr) (V' : Cell) (cd' : Int32) (k : Nat) (g : Nat → Int32) (z : Int32) (htab : tab.before sargs s = true) (hfr : 2 ≤ R.frames) (hlo : W + 28 ≤ R.locals) :
    Back l R p e below s sargs yN len W (fun A₁ a₁ => A₁.cells + 0 ≤ R.cells ∧ A₁.slots + 0 ≤ R.slots ∧ P x t V cd n f y t' V' cd' k g z a₁ A₁.U) (fun A₁ _ v₁ B₁ => Says01 (SameT n f k g) v₁ A₁.U B₁.U ∧ B₁.locs = A₁.locs ++ [] ∧ B₁.cells = A₁.cells + 0 ∧ B₁.slots = A₁.slots + 0) :=
  (law l x t V cd n f y t' V' cd' k g z).pays htab hfr (by omega)
end SEq
end StrChars
namespace StrChars.Road
open Jvm Sem ClassFile Op Lib Jvm.Stand Jvm.Free Jvm.Free.XT
open Jvm.Lib.Cold (StaticIs)
/-- the words of String.equals(Object) -/
abbrev wordsEq : List Jvm.Cond := [.code SEq.yN SEq.yB 3 (some .boolean), .initialized ST, .classLink ST 10 ST, .fieldLink ST 38 ST "COMPACT_STRINGS" "Z", .fieldLink ST 15 ST "coder" "B", .fieldLink ST 9 ST "value" "[B", .methodLink ST 541 LEq.yN, .static LEq.yN, .code LEq.yN LEq.yB 3 (some .boolean), .initialized "java/lang/StringLatin1"]
theorem tabEq_of {a : Array Value} {s : State} (h : ∀ w ∈ wordsEq, w.before a s = true) : SEq.tab.before a s = true := by
  have hl : LEq.tab.before a s = true := unparts (wk h (.code LEq.yN LEq.yB 3 (some .boolean))) (wks h (.initialized LEq.yN.cls :: LEq.site))
  have q := consq hl h
  exact unparts (wk q (.code SEq.yN SEq.yB 3 (some .boolean))) (wks q (.initialized SEq.yN.cls :: SEq.site))
theorem movedEq {Z s : State} {a0 args : Array Value} (hZ : Z.Warmed39 s.vm) (hw : ∀ d ∈ wordsEq, d.before a0 Z = true) : ∀ d ∈ wordsEq, d.before args s = true := fun d hd => by
  have t : ∀ d ∈ wordsEq, (d.onTables && d.keepsFace) = true := by decide +kernel
  exact RoadKit.mv hZ (hw d hd) (t d hd)
/-- the road's facts of a String, as the laws ask it -/
theorem txt_of {Z U : State} {a0 : Array Value} {kI : Nat} (wi : (Jvm.Cond.instantiable ST kI).before a0 Z = true) (al : Z.vm.Alike U.vm) {x t : Addr} {kb : ClassId} {cs : List Int32} {cd N2 : Int32} {vs : List Value} (E : RoadKit.Exa Z U.heap x ST) (V : RoadKit.Fld Z U.heap x ST "value" "[B" (.ref t)) (C : RoadKit.Fld Z U.heap x ST "coder" "B" (.int cd)) (K : RoadKit.Arv Z U.heap t kb .byte N2 vs (.int 0)) (hc : CodA cs cd N2 vs) (hb : ∀ c ∈ cs, ¬ c < 0 ∧ ¬ (65535 : Int32) < c) (l2 : cs.length ≤ 4000) :
    ∃ A, Txt x t A cd cs.length (fun j => cs.getD j 0) U := by
  obtain ⟨A, K1, K2, K3, K4, K5, K6⟩ := K
  have hcod := hc.cod (by omega) K3 K5
  obtain ⟨D, fV, fC, hB, F1, F2, g1, g2, -, -⟩ := strObj wi al E V C
  exact ⟨A, ⟨_, hB.2.2.1, D, hB.1, rfl, by cases q : D.vm <;> first | rfl | exact absurd q (hB.2.1.2 _)⟩, Has.of hB F1 g1, Has.of hB F2 g2, ⟨K1.1, State.isArrayOf_alike al K1.2.1, K1.2.2, by rcases hcod with ⟨-, q, -⟩ | ⟨-, q, -⟩ <;> omega⟩, hcod, fun j hj => by
    have e : cs.getD j 0 = cs[j] := by simp [List.getD_eq_getElem?_getD, hj]
    show ¬ cs.getD j 0 < 0 ∧ ¬ 65535 < cs.getD j 0
    rw [e]; exact hb _ (List.getElem_mem _)⟩
theorem same_list (cs ds : List Int32) : SameT cs.length (fun j => cs.getD j 0) ds.length (fun j => ds.getD j 0) ↔ cs = ds := by
  constructor
  · rintro ⟨e, q⟩
    refine List.ext_getElem e fun j h1 h2 => ?_
    have := q j h1
    simpa [List.getD_eq_getElem?_getD, h1, h2] using this
  · rintro rfl
    exact ⟨rfl, fun _ _ => rfl⟩
/-- **equals(Object) OF TWO SUCH STRINGS**: 1 just where the chars are the same -/
theorem eqW {p : Program} {l : Launch} {e : Env} {R : Room} {s : State} {args : Array Value} {below : List Frame} {len W : Nat} {Z : State} {a0 : Array Value} {h : Heap} (hZ : Z.Warmed39 s.vm) (hw : ∀ d ∈ wordsEq, d.before a0 Z = true) {kI : Nat} (wi : (Jvm.Cond.instantiable ST kI).before a0 Z = true)
    {x t : Addr} {kb : ClassId} {cs : List Int32} {cd N2 : Int32} {vs : List Value} (E : RoadKit.Exa Z h x ST) (V : RoadKit.Fld Z h x ST "value" "[B" (.ref t)) (C : RoadKit.Fld Z h x ST "coder" "B" (.int cd)) (K : RoadKit.Arv Z h t kb .byte N2 vs (.int 0)) (hc : CodA cs cd N2 vs) (hb : ∀ c ∈ cs, ¬ c < 0 ∧ ¬ (65535 : Int32) < c) (l2 : cs.length ≤ 4000)
    {y t' : Addr} {kb' : ClassId} {ds : List Int32} {cd' N2' : Int32} {vs' : List Value} (E' : RoadKit.Exa Z h y ST) (V' : RoadKit.Fld Z h y ST "value" "[B" (.ref t')) (C' : RoadKit.Fld Z h y ST "coder" "B" (.int cd')) (K' : RoadKit.Arv Z h t' kb' .byte N2' vs' (.int 0)) (hc' : CodA ds cd' N2' vs') (hb' : ∀ c ∈ ds, ¬ c < 0 ∧ ¬ (65535 : Int32) < c) (l2' : ds.length ≤ 4000)
    {z : Int32} (S : RoadKit.Sta Z h ST "COMPACT_STRINGS" "Z" (.int z)) (hz : ¬ z = 0) (hfr : 2 ≤ R.frames) (hlo : W + 28 ≤ R.locals) :
    Back l R p e below s args (⟨"java/lang/String", "equals", "(Ljava/lang/Object;)Z"⟩ : MethodName) len W (fun P a => a = #[.ref x, .ref y] ∧ P.U.heap = h ∧ P.cells + 0 ≤ R.cells ∧ P.slots + 0 ≤ R.slots)
      (fun P _ v B => ∃ L, (((v = some (.int 1) ∧ cs = ds) ∨ (v = some (.int 0) ∧ ¬ cs = ds)) ∧ L = [] ∧ B.U.heap = h) ∧ B.locs = P.locs ++ L ∧ B.cells = P.cells + 0 ∧ B.slots = P.slots + 0) := by
  intro m meth c P g ig mk a X hg hsize hdg hW hn hp'
  obtain ⟨rfl, rfl, r1, r2⟩ := hp'
  have al : Z.vm.Alike P.U.vm := hZ.alike.trans X.warmed.alike
  obtain ⟨A, hx⟩ := txt_of wi al E V C K hc hb l2
  obtain ⟨A', hy⟩ := txt_of wi al E' V' C' K' hc' hb' l2'
  obtain ⟨v, B, X', ⟨⟨w, hv, hh, hq⟩, hl, hk, hs⟩, st⟩ := SEq.pays x t A cd cs.length (fun j => cs.getD j 0) y t' A' cd' ds.length (fun j => ds.getD j 0) z (tabEq_of (movedEq hZ hw)) hfr hlo m meth c P g ig mk _ X hg hsize hdg hW hn ⟨r1, r2, rfl, hx, hy, sta_is al S, hz⟩
  refine ⟨v, B, X', ⟨[], ⟨?_, rfl, hh⟩, hl, hk, hs⟩, st⟩
  rcases hq with ⟨rfl, q⟩ | ⟨rfl, q⟩
  · exact Or.inl ⟨hv, (same_list cs ds).mp q⟩
  · exact Or.inr ⟨hv, fun e => q ((same_list cs ds).mpr e)⟩
end StrChars.Road
namespace StrChars.Road
open Jvm Sem ClassFile Op Lib Jvm.Stand Jvm.Free Jvm.Free.XT
open Jvm.Lib.Cold (StaticIs)
/-- what backV says of its String, as the contracts of this text ask it: cs's low bytes, coder 0 -/
theorem codOf {cs : List Int32} {n : Nat} (hn : cs.length = n) (hb : ∀ c ∈ cs, ¬ 255 < c) : CodA cs 0 (Int32.ofNat n) ((cs.map lo8).map Value.int) := Or.inl ⟨rfl, by rw [hn], by simp [List.map_map, Function.comp_def], hb⟩
end StrChars.Road
end Jvm.Pilot.@@N@@
namespace Jvm.Pilot.@@N@@
open Jvm Jvm.ClassFile Sem Op Lib Jvm.Free Jvm.Stand Jvm.LawKit Jvm.RoadKit Bundle Jvm.Pilot.@@N@@.Jvm.D
section OwnKit
variable {p : Program} {l : Launch} {e : Env} {R : Room} {s : State} {m : MethodId} {args : Array Value} {below : List Frame} {meth : Method} {c : Code} {T : State} {locs : List Loc} {cells slots : Nat} {Z : State} {a0 : Array Value} {h : Heap}
/-- the walk from A ends well: it returns, what it returns and leaves is as Q says -/
def own_G (p : Program) (e : Env) (below : List Frame) (s : State) (Q : Option Value → Heap → List Loc → Prop) (ce sl : Nat) (A : State) : Prop :=
  ∃ s₂ o, Steps p.tables e below A s₂ ∧ s₂.status = .running ∧ Ended s₂ below o ∧ ∃ v L, o = .returned v ∧ Q v s₂.heap L ∧ FrameEnd s o s₂ L ce sl
theorem own_st {Q : Option Value → Heap → List Loc → Prop} {ce sl : Nat} {A B : State} (k : ∀ t, Steps p.tables e below B t → Steps p.tables e below A t) (g : own_G p e below s Q ce sl B) : own_G p e below s Q ce sl A := by
  obtain ⟨s₂, o, h1, h2⟩ := g
  exact ⟨s₂, o, k _ h1, h2⟩
theorem own_ret {Q : Option Value → Heap → List Loc → Prop} {ce sl : Nat} (X : Stand p l e R s m args below meth c T locs cells slots) (hx : p.tables.exec = Jvm.exec) (hlk : meth.locks = false) {pc : Nat} {Ls : Array Slot} {w : Value} {t : FieldType} {i : Instr} {rest : List Value} (hret : meth.sig.returnType = some t) (hn : narrow t w = w)
    (hi : (i = .ireturn ∧ (t = .int ∨ t = .boolean ∨ t = .byte ∨ t = .char ∨ t = .short) ∧ ∃ z, w = .int z) ∨ (i = .lreturn ∧ t = .long ∧ ∃ z, w = .long z) ∨ (i = .dreturn ∧ t = .double ∧ ∃ z, w = .double z) ∨ (i = .freturn ∧ t = .float ∧ ∃ z, w = .float z) ∨ (i = .areturn ∧ t.isReference = true ∧ w.isRef = true))
    (hd : decode c.code pc = .ok (i, 1)) (hc : cells ≤ ce) (hs : slots ≤ sl) (hQ : Q (some w) T.heap locs) : own_G p e below s Q ce sl (T.setTop (mkF m pc Ls (w :: rest))) := by
  obtain ⟨fs, hr, hrun, hended, hW, hsame⟩ := X.leave (v := some w) (fun q => by rw [hret] at q; cases q) hlk
  exact ⟨_, _, retOut X hx hret hn hi hd hr, hrun, hended, _, _, rfl, hQ, ⟨_, rfl⟩, hW, hsame.mono hc hs⟩
theorem own_retI {Q : Option Value → Heap → List Loc → Prop} {ce sl : Nat} (X : Stand p l e R s m args below meth c T locs cells slots) (hx : p.tables.exec = Jvm.exec) (hlk : meth.locks = false) {pc : Nat} {Ls : Array Slot} {z : Int32} {rest : List Value} (hret : meth.sig.returnType = some .int)
    (hd : decode c.code pc = .ok (.ireturn, 1)) (hc : cells ≤ ce) (hs : slots ≤ sl) (hQ : Q (some (.int z)) T.heap locs) : own_G p e below s Q ce sl (T.setTop (mkF m pc Ls (.int z :: rest))) :=
  own_ret X hx hlk hret rfl (Or.inl ⟨rfl, Or.inl rfl, z, rfl⟩) hd hc hs hQ
theorem own_retZ {Q : Option Value → Heap → List Loc → Prop} {ce sl : Nat} (X : Stand p l e R s m args below meth c T locs cells slots) (hx : p.tables.exec = Jvm.exec) (hlk : meth.locks = false) {pc : Nat} {Ls : Array Slot} {z : Int32} {rest : List Value} (hret : meth.sig.returnType = some .boolean) (hn : z = 0 ∨ z = 1)
    (hd : decode c.code pc = .ok (.ireturn, 1)) (hc : cells ≤ ce) (hs : slots ≤ sl) (hQ : Q (some (.int z)) T.heap locs) : own_G p e below s Q ce sl (T.setTop (mkF m pc Ls (.int z :: rest))) :=
  own_ret X hx hlk hret (by rcases hn with rfl | rfl <;> rfl) (Or.inl ⟨rfl, Or.inr (Or.inl rfl), z, rfl⟩) hd hc hs hQ
theorem own_retJ {Q : Option Value → Heap → List Loc → Prop} {ce sl : Nat} (X : Stand p l e R s m args below meth c T locs cells slots) (hx : p.tables.exec = Jvm.exec) (hlk : meth.locks = false) {pc : Nat} {Ls : Array Slot} {z : Int64} {rest : List Value} (hret : meth.sig.returnType = some .long)
    (hd : decode c.code pc = .ok (.lreturn, 1)) (hc : cells ≤ ce) (hs : slots ≤ sl) (hQ : Q (some (.long z)) T.heap locs) : own_G p e below s Q ce sl (T.setTop (mkF m pc Ls (.long z :: rest))) :=
  own_ret X hx hlk hret rfl (Or.inr (Or.inl ⟨rfl, rfl, z, rfl⟩)) hd hc hs hQ
theorem own_retA {Q : Option Value → Heap → List Loc → Prop} {ce sl : Nat} (X : Stand p l e R s m args below meth c T locs cells slots) (hx : p.tables.exec = Jvm.exec) (hlk : meth.locks = false) {pc : Nat} {Ls : Array Slot} {w : Value} {t : FieldType} {rest : List Value} (hret : meth.sig.returnType = some t) (ht : t.isReference = true) (hw : w.isRef = true)
    (hd : decode c.code pc = .ok (.areturn, 1)) (hc : cells ≤ ce) (hs : slots ≤ sl) (hQ : Q (some w) T.heap locs) : own_G p e below s Q ce sl (T.setTop (mkF m pc Ls (w :: rest))) :=
  own_ret X hx hlk hret (by cases w <;> first | rfl | (cases t <;> first | rfl | cases ht)) (Or.inr (Or.inr (Or.inr (Or.inr ⟨rfl, ht, hw⟩)))) hd hc hs hQ
theorem own_retV {Q : Option Value → Heap → List Loc → Prop} {ce sl : Nat} (X : Stand p l e R s m args below meth c T locs cells slots) (hx : p.tables.exec = Jvm.exec) (hlk : meth.locks = false) {pc : Nat} {Ls : Array Slot} (hret : meth.sig.returnType = none)
    (hd : decode c.code pc = .ok (.return_, 1)) (hc : cells ≤ ce) (hs : slots ≤ sl) (hQ : Q none T.heap locs) : own_G p e below s Q ce sl (T.setTop (mkF m pc Ls [])) := by
  obtain ⟨fs, hr, hrun, hended, hW, hsame⟩ := X.leave (v := none) (fun _ => rfl) hlk
  exact ⟨_, _, X.returnOut hx hret hd hr, hrun, hended, _, _, rfl, hQ, ⟨_, rfl⟩, hW, hsame.mono hc hs⟩
/-- a contract out of the walk of its body -/
theorem own_met {y : MethodName} {bytes : ByteArray} {maxL : Nat} {ret : Option FieldType} {ws : List Jvm.Cond} {rm : Room} {as' : Array Value} {h0 : Heap} {Q : Option Value → Heap → List Loc → Prop} {ce sl : Nat} (hp : plainFor y = true)
    (body : ∀ (p : Program) (e : Env) (s : State) (m : MethodId) (below : List Frame) (meth : Method) (c : Code) (T : State), p.tables.exec = Jvm.exec → c.code = bytes → c.maxLocals = maxL → s.vm.findClass y.cls = some m.cls → meth.name = y.name → meth.sig.returnType = ret → meth.locks = false → Z.Warmed39 s.vm → T.heap = h0 →
      Stand p l e rm s m as' below meth c T [] 0 0 → own_G p e below s Q ce sl (T.setTop (entryFrame m as' maxL))) :
    MetFree l y (head1 (Jvm.Cond.code y bytes maxL ret :: ws) rm) (fun a U => a = as' ∧ Z.Warmed39 U.vm ∧ U.heap = h0) (fun _ _ _ _ _ => True) (fun _ U o U' => ∃ v L, o = .returned v ∧ Q v U'.heap L ∧ FrameEnd U o U' L ce sl) := by
  refine MetFree.of_bodySF hp hisR ?_
  intro p e s m args below meth c s₁ Bd hml0 hP hK
  obtain ⟨rfl, hZ, hh⟩ := hP
  exact body p e s m below meth c s₁ Bd.exec Bd.bytes hml0 (findClass_of_methodNamed Bd.named) (name_of_methodNamed Bd.named Bd.method).1 Bd.returns Bd.notSynchronized hZ (by rw [← hh, Bd.state]; rfl) (Stand.of_body Bd)
theorem own_callS (X : Stand p l e R s m args below meth c T locs cells slots) (hx : p.tables.exec = Jvm.exec) (hZ : Z.Warmed39 s.vm) {own : String} {index : Nat} {y : MethodName} {bytes : ByteArray} {maxL : Nat} {ret : Option FieldType} {rm : Room} {Q : Option Value → Heap → List Loc → Prop} {argsL rest : List Value} (W : Nat)
    (hown : s.vm.findClass own = some m.cls) (wl : (Jvm.Cond.methodLink own index y).before a0 Z = true) (wst : (Jvm.Cond.static y).before a0 Z = true) (wz : (Jvm.Cond.initialized y.cls).before a0 Z = true) (wc : (Jvm.Cond.code y bytes maxL ret).before a0 Z = true) (hy : y.cls ≠ "java/lang/invoke/MethodHandle" ∧ y.cls ≠ "java/lang/invoke/VarHandle")
    (hM : MetFree l y (head1 [Jvm.Cond.code y bytes maxL ret] rm) (fun a U => a = argsL.toArray ∧ Z.Warmed39 U.vm ∧ U.heap = h) (fun _ _ _ _ _ => True) (fun _ U o U' => ∃ v L, o = .returned v ∧ Q v U'.heap L ∧ FrameEnd U o U' L rm.cells rm.slots))
    (hf : rm.frames + 1 ≤ R.frames) (hl : W + (maxL + 11) + rm.locals ≤ R.locals) (eT : T.heap = h) {g : JFrame} (hg : g.method = m) (hsize : g.locals.size = c.maxLocals) {ps : List FieldType} {r : Option FieldType} (hpd : parseMethodDescriptor y.desc = some ⟨ps, r⟩) (hlen : argsL.length = ps.length)
    (hstack : g.stack = argsL.reverse ++ rest) (hW : 2 * g.monitorRoom + (rest.map fun v => v.category).sum ≤ W) (hdg : decode c.code g.pc = .ok (.invokestatic index, 3)) (hc : cells + rm.cells ≤ R.cells) (hs : slots + rm.slots ≤ R.slots) :
    ∃ v T' L, Stand p l e R s m args below meth c T' (locs ++ L) (cells + rm.cells) (slots + rm.slots) ∧ Q v T'.heap L ∧ ∀ t, Steps p.tables e below (T'.setTop { g with pc := g.pc + 3, stack := v.toList ++ rest }) t → Steps p.tables e below (T.setTop g) t := by
  obtain ⟨v, _, ⟨T', L', k', n'⟩, -, X', ⟨L, hQ, l1, y1, z1⟩, st⟩ := Jvm.LawKit.callS X hx (y := y) hown (mvT hZ wl) (mvT hZ wst) (mvT hZ wz) (mvT hZ wc) hy (backOf (W := W) hM hZ wc wz hf hl) hg hsize (lenOf hpd hlen) hstack hW hdg (fun _ _ => ⟨rfl, eT, hc, hs⟩)
  dsimp only [Pt.U, Pt.locs, Pt.cells, Pt.slots] at X' l1 y1 z1 st hQ
  subst l1 y1 z1
  exact ⟨v, T', L, X', hQ, st⟩
theorem own_callI (X : Stand p l e R s m args below meth c T locs cells slots) (hx : p.tables.exec = Jvm.exec) (hZ : Z.Warmed39 s.vm) {own : String} {index : Nat} {y : MethodName} {bytes : ByteArray} {maxL : Nat} {rm : Room} {Q : Option Value → Heap → List Loc → Prop} {a : Addr} {argsL rest : List Value} (W : Nat)
    (hy1 : y.name = "<init>") (hown : s.vm.findClass own = some m.cls) (wl : (Jvm.Cond.methodLink own index y).before a0 Z = true) (wi : (Jvm.Cond.instanceMethod y).before a0 Z = true) (wz : (Jvm.Cond.initialized y.cls).before a0 Z = true) (wc : (Jvm.Cond.code y bytes maxL none).before a0 Z = true) (hy : y.cls ≠ "java/lang/invoke/MethodHandle" ∧ y.cls ≠ "java/lang/invoke/VarHandle")
    (hM : MetFree l y (head1 [Jvm.Cond.code y bytes maxL none] rm) (fun b U => b = (Value.ref a :: argsL).toArray ∧ Z.Warmed39 U.vm ∧ U.heap = h) (fun _ _ _ _ _ => True) (fun _ U o U' => ∃ v L, o = .returned v ∧ Q v U'.heap L ∧ FrameEnd U o U' L rm.cells rm.slots))
    (hf : rm.frames + 1 ≤ R.frames) (hl : W + (maxL + 11) + rm.locals ≤ R.locals) (eT : T.heap = h) {g : JFrame} (hg : g.method = m) (hsize : g.locals.size = c.maxLocals) {ps : List FieldType} {r : Option FieldType} (hpd : parseMethodDescriptor y.desc = some ⟨ps, r⟩) (hlen : argsL.length = ps.length)
    (hstack : g.stack = argsL.reverse ++ .ref a :: rest) (hW : 2 * g.monitorRoom + (rest.map fun v => v.category).sum ≤ W) (hdg : decode c.code g.pc = .ok (.invokespecial index, 3)) (hc : cells + rm.cells ≤ R.cells) (hs : slots + rm.slots ≤ R.slots) :
    ∃ v T' L, Stand p l e R s m args below meth c T' (locs ++ L) (cells + rm.cells) (slots + rm.slots) ∧ Q v T'.heap L ∧ ∀ t, Steps p.tables e below (T'.setTop { g with pc := g.pc + 3, stack := v.toList ++ rest }) t → Steps p.tables e below (T.setTop g) t := by
  obtain ⟨v, _, ⟨T', L', k', n'⟩, -, X', ⟨L, hQ, l1, y1, z1⟩, st⟩ := X.specialBack hx (y := y) hy1 hown (mvT hZ wl) (mvT hZ wi) (mvT hZ wc) hy (backOf (W := W) hM hZ wc wz hf hl) hg hsize (Steps.refl _) (a := a) (lenOf hpd hlen) hstack hW hdg (fun _ _ => ⟨rfl, eT, hc, hs⟩)
  dsimp only [Pt.U, Pt.locs, Pt.cells, Pt.slots] at X' l1 y1 z1 st hQ
  subst l1 y1 z1
  exact ⟨v, T', L, X', hQ, fun t k => st.trans k⟩
theorem own_callV (X : Stand p l e R s m args below meth c T locs cells slots) (hx : p.tables.exec = Jvm.exec) (hZ : Z.Warmed39 s.vm) {own C : String} {index : Nat} {y z : MethodName} {bytes : ByteArray} {maxL : Nat} {ret : Option FieldType} {rm : Room} {Q : Option Value → Heap → List Loc → Prop} {a : Addr} {argsL rest : List Value} (W : Nat)
    (hown : s.vm.findClass own = some m.cls) (wl : (Jvm.Cond.methodLink own index y).before a0 Z = true) (wd : (Jvm.Cond.declares y).before a0 Z = true) (hnf : NotFace s y) (wsel : (Jvm.Cond.selects C y z).before a0 Z = true) (wi : (Jvm.Cond.instanceMethod z).before a0 Z = true) (wz : (Jvm.Cond.initialized z.cls).before a0 Z = true) (wc : (Jvm.Cond.code z bytes maxL ret).before a0 Z = true) (hy : y.cls ≠ "java/lang/invoke/MethodHandle" ∧ y.cls ≠ "java/lang/invoke/VarHandle")
    (hM : MetFree l z (head1 [Jvm.Cond.code z bytes maxL ret] rm) (fun b U => b = (Value.ref a :: argsL).toArray ∧ Z.Warmed39 U.vm ∧ U.heap = h) (fun _ _ _ _ _ => True) (fun _ U o U' => ∃ v L, o = .returned v ∧ Q v U'.heap L ∧ FrameEnd U o U' L rm.cells rm.slots))
    (hf : rm.frames + 1 ≤ R.frames) (hl : W + (maxL + 11) + rm.locals ≤ R.locals) (eT : T.heap = h) (E : Exa Z h a C) {g : JFrame} (hg : g.method = m) (hsize : g.locals.size = c.maxLocals) {ps : List FieldType} {r : Option FieldType} (hpd : parseMethodDescriptor y.desc = some ⟨ps, r⟩) (hlen : argsL.length = ps.length)
    (hstack : g.stack = argsL.reverse ++ .ref a :: rest) (hW : 2 * g.monitorRoom + (rest.map fun v => v.category).sum ≤ W) (hdg : decode c.code g.pc = .ok (.invokevirtual index, 3)) (hc : cells + rm.cells ≤ R.cells) (hs : slots + rm.slots ≤ R.slots) :
    ∃ v T' L, Stand p l e R s m args below meth c T' (locs ++ L) (cells + rm.cells) (slots + rm.slots) ∧ Q v T'.heap L ∧ ∀ t, Steps p.tables e below (T'.setTop { g with pc := g.pc + 3, stack := v.toList ++ rest }) t → Steps p.tables e below (T.setTop g) t := by
  obtain ⟨cq, kq, qa, qb, qc⟩ := isOf hZ eT E
  obtain ⟨v, _, ⟨T', L', k', n'⟩, -, X', ⟨L, hQ, l1, y1, z1⟩, st⟩ := X.virtualBack hx (y := y) (z := z) hown (mvT hZ wl) (mvT hZ wd) hnf (mvT hZ wsel) (mvT hZ wi) hy (backOf (W := W) hM hZ wc wz hf hl) qa qc hg hsize (Steps.refl _) (lenOf hpd hlen) hstack hW hdg (fun _ _ => ⟨rfl, eT, hc, hs⟩)
  dsimp only [Pt.U, Pt.locs, Pt.cells, Pt.slots] at X' l1 y1 z1 st hQ
  subst l1 y1 z1
  exact ⟨v, T', L, X', hQ, fun t k => st.trans k⟩
theorem own_nf {y : MethodName} {C : String} (hZ : Z.Warmed39 s.vm) (w : (Jvm.Cond.selects C y y).before a0 Z = true) : NotFace s y := notFace_of_selects (args := #[]) (mvT hZ w)
theorem own_selP {y y0 : MethodName} {C : String} (hZ : Z.Warmed39 s.vm) (w0 : (Jvm.Cond.selects C y0 y0).before a0 Z = true) (hc : y0.cls = y.cls) (wp : (Jvm.Cond.privateMethod y).before a0 Z = true) (wi : (Jvm.Cond.instanceMethod y).before a0 Z = true) (hy : y.cls ≠ "java/lang/invoke/MethodHandle" ∧ y.cls ≠ "java/lang/invoke/VarHandle") :
    (Jvm.Cond.selects y.cls y y).before args s = true := by
  obtain ⟨c2, r2, m2, q1, q2, q3, q4, kP, hkP, hkPi⟩ := Cond.selects_spec (mvT (args := args) hZ w0)
  exact selects_self_of_private (hc ▸ findClass_of_methodNamed q3) hkP hkPi (Cond.privateMethod_at (mvP hZ wp (args := #[]))) (mvT hZ wi) hy
theorem own_callP (X : Stand p l e R s m args below meth c T locs cells slots) (hx : p.tables.exec = Jvm.exec) (hZ : Z.Warmed39 s.vm) {own C C0 : String} {index : Nat} {y y0 : MethodName} {bytes : ByteArray} {maxL : Nat} {ret : Option FieldType} {rm : Room} {Q : Option Value → Heap → List Loc → Prop} {a : Addr} {argsL rest : List Value} (W : Nat)
    (hown : s.vm.findClass own = some m.cls) (wl : (Jvm.Cond.methodLink own index y).before a0 Z = true) (w0 : (Jvm.Cond.selects C0 y0 y0).before a0 Z = true) (hc0 : y0.cls = y.cls) (wp : (Jvm.Cond.privateMethod y).before a0 Z = true) (wi : (Jvm.Cond.instanceMethod y).before a0 Z = true) (wz : (Jvm.Cond.initialized y.cls).before a0 Z = true) (wc : (Jvm.Cond.code y bytes maxL ret).before a0 Z = true) (hy : y.cls ≠ "java/lang/invoke/MethodHandle" ∧ y.cls ≠ "java/lang/invoke/VarHandle")
    (hM : MetFree l y (head1 [Jvm.Cond.code y bytes maxL ret] rm) (fun b U => b = (Value.ref a :: argsL).toArray ∧ Z.Warmed39 U.vm ∧ U.heap = h) (fun _ _ _ _ _ => True) (fun _ U o U' => ∃ v L, o = .returned v ∧ Q v U'.heap L ∧ FrameEnd U o U' L rm.cells rm.slots))
    (hf : rm.frames + 1 ≤ R.frames) (hl : W + (maxL + 11) + rm.locals ≤ R.locals) (eT : T.heap = h) (E : Exa Z h a C) {g : JFrame} (hg : g.method = m) (hsize : g.locals.size = c.maxLocals) {ps : List FieldType} {r : Option FieldType} (hpd : parseMethodDescriptor y.desc = some ⟨ps, r⟩) (hlen : argsL.length = ps.length)
    (hstack : g.stack = argsL.reverse ++ .ref a :: rest) (hW : 2 * g.monitorRoom + (rest.map fun v => v.category).sum ≤ W) (hdg : decode c.code g.pc = .ok (.invokevirtual index, 3)) (hc : cells + rm.cells ≤ R.cells) (hs : slots + rm.slots ≤ R.slots) :
    ∃ v T' L, Stand p l e R s m args below meth c T' (locs ++ L) (cells + rm.cells) (slots + rm.slots) ∧ Q v T'.heap L ∧ ∀ t, Steps p.tables e below (T'.setTop { g with pc := g.pc + 3, stack := v.toList ++ rest }) t → Steps p.tables e below (T.setTop g) t := by
  obtain ⟨cq, q1, q2⟩ := E.cell
  obtain ⟨v, _, ⟨T', L', k', n'⟩, -, X', ⟨L, hQ, l1, y1, z1⟩, st⟩ := X.privateBack hx (y := y) hown (mvT hZ wl) (mvT hZ wi) (own_selP hZ w0 hc0 wp wi hy) (Cond.privateMethod_at (mvP hZ wp (args := #[]))) (mvT hZ wc) hy (backOf (W := W) hM hZ wc wz hf hl) hg hsize (Steps.refl _) (a := a) (by rw [eT]; exact q1) q2 (lenOf hpd hlen) hstack hW hdg (fun _ _ => ⟨rfl, eT, hc, hs⟩)
  dsimp only [Pt.U, Pt.locs, Pt.cells, Pt.slots] at X' l1 y1 z1 st hQ
  subst l1 y1 z1
  exact ⟨v, T', L, X', hQ, fun t k => st.trans k⟩
theorem own_callF (X : Stand p l e R s m args below meth c T locs cells slots) (hx : p.tables.exec = Jvm.exec) (hZ : Z.Warmed39 s.vm) {own C : String} {index count : Nat} {xi y : MethodName} {bytes : ByteArray} {maxL : Nat} {ret : Option FieldType} {rm : Room} {Q : Option Value → Heap → List Loc → Prop} {a : Addr} {argsL rest : List Value} (W : Nat)
    (hown : s.vm.findClass own = some m.cls) (wl : (Jvm.Cond.methodLink own index xi).before a0 Z = true) (wd : (Jvm.Cond.declares xi).before a0 Z = true) (wf : (Jvm.Cond.interfaceMethod xi.cls xi.cls xi.name xi.desc).before args s = true) (wsel : (Jvm.Cond.selects C xi y).before a0 Z = true) (wi : (Jvm.Cond.instanceMethod y).before a0 Z = true) (wp : (Jvm.Cond.publicMethod y).before a0 Z = true) (wu : (Jvm.Cond.unhidden C xi.name xi.desc).before a0 Z = true) (wk : (Jvm.Cond.castable C xi.cls).before a0 Z = true) (wz : (Jvm.Cond.initialized y.cls).before a0 Z = true) (wc : (Jvm.Cond.code y bytes maxL ret).before a0 Z = true) (hy : xi.cls ≠ "java/lang/invoke/MethodHandle" ∧ xi.cls ≠ "java/lang/invoke/VarHandle")
    (hM : MetFree l y (head1 [Jvm.Cond.code y bytes maxL ret] rm) (fun b U => b = (Value.ref a :: argsL).toArray ∧ Z.Warmed39 U.vm ∧ U.heap = h) (fun _ _ _ _ _ => True) (fun _ U o U' => ∃ v L, o = .returned v ∧ Q v U'.heap L ∧ FrameEnd U o U' L rm.cells rm.slots))
    (hf : rm.frames + 1 ≤ R.frames) (hl : W + (maxL + 11) + rm.locals ≤ R.locals) (eT : T.heap = h) (E : Exa Z h a C) {g : JFrame} (hg : g.method = m) (hsize : g.locals.size = c.maxLocals) {ps : List FieldType} {r : Option FieldType} (hpd : parseMethodDescriptor xi.desc = some ⟨ps, r⟩) (hlen : argsL.length = ps.length)
    (hstack : g.stack = argsL.reverse ++ .ref a :: rest) (hW : 2 * g.monitorRoom + (rest.map fun v => v.category).sum ≤ W) (hdg : decode c.code g.pc = .ok (.invokeinterface index count, 5)) (hc : cells + rm.cells ≤ R.cells) (hs : slots + rm.slots ≤ R.slots) :
    ∃ v T' L, Stand p l e R s m args below meth c T' (locs ++ L) (cells + rm.cells) (slots + rm.slots) ∧ Q v T'.heap L ∧ ∀ t, Steps p.tables e below (T'.setTop { g with pc := g.pc + 5, stack := v.toList ++ rest }) t → Steps p.tables e below (T.setTop g) t := by
  obtain ⟨cq, kq, qa, qb, qc⟩ := isOf hZ eT E
  obtain ⟨v, _, ⟨T', L', k', n'⟩, -, X', ⟨L, hQ, l1, y1, z1⟩, st⟩ := X.interfaceBack hx (xi := xi) (y := y) hown (mvT hZ wl) (mvT hZ wd) wf (mvT hZ wsel) (mvT hZ wi) (mvT hZ wp) (mvT hZ wu) (mvT hZ wk) hy (backOf (W := W) hM hZ wc wz hf hl) qa qb qc hg hsize (Steps.refl _) (lenOf hpd hlen) hstack hW hdg (fun _ _ => ⟨rfl, eT, hc, hs⟩)
  dsimp only [Pt.U, Pt.locs, Pt.cells, Pt.slots] at X' l1 y1 z1 st hQ
  subst l1 y1 z1
  exact ⟨v, T', L, X', hQ, fun t k => st.trans k⟩
/-- a truth as Java's int -/
def own_b (P : Prop) [Decidable P] : Int32 := if P then 1 else 0
theorem own_b1 {P : Prop} [Decidable P] (h : P) : own_b P = 1 := if_pos h
theorem own_b0 {P : Prop} [Decidable P] (h : ¬ P) : own_b P = 0 := if_neg h
theorem own_b01 (P : Prop) [Decidable P] : own_b P = 0 ∨ own_b P = 1 := by
  by_cases h : P
  · exact Or.inr (own_b1 h)
  · exact Or.inl (own_b0 h)
theorem own_bn {P : Prop} [Decidable P] (h : P) : ¬ own_b P = 0 := by rw [own_b1 h]; decide
theorem own_narZ {z : Int32} (h : z = 0 ∨ z = 1) : narrow .boolean (.int z) = .int z := by rcases h with rfl | rfl <;> rfl
theorem own_fitZ {z : Int32} (h : z = 0 ∨ z = 1) : fits .boolean (.int z) = true := by rcases h with rfl | rfl <;> rfl
end OwnKit
section OwnArr
variable {p : Program} {l : Launch} {e : Env} {R : Room} {s : State} {m : MethodId} {args : Array Value} {below : List Frame} {meth : Method} {c : Code} {T : State} {locs : List Loc} {cells slots : Nat} {Z : State} {a0 : Array Value} {h h' : Heap} {a b : Addr} {ty : FieldType} {n : Nat} {f f' : Nat → Value}
/-- an array: its kind, its length, what its places hold -/
def own_A (Z : State) (h : Heap) (a : Addr) (ty : FieldType) (n : Nat) (f : Nat → Value) : Prop := ∃ c : Cell, Arr Z h a c ty ∧ c.slots.size = n ∧ ∀ i, i < n → c.slots[i]? = some (f i) ∧ fits ty (f i) = true
theorem own_A.lt (F : own_A Z h a ty n f) : a < h.size := by obtain ⟨c, A, -⟩ := F; exact A.lt
theorem own_A.ext (F : own_A Z h a ty n f) (E : Ext h h') : own_A Z h' a ty n f := by obtain ⟨c, A, r⟩ := F; exact ⟨c, A.ext E, r⟩
theorem own_A.other {sl : Nat} {v : Value} (F : own_A Z h b ty n f) (W : Wr h h' a sl v) (q : b ≠ a) : own_A Z h' b ty n f := by obtain ⟨c, A, r⟩ := F; exact ⟨c, A.other W q, r⟩
theorem own_A.keep {ws : List Addr} (F : own_A Z h a ty n f) (K : Keep h h' ws) (q : a ∉ ws) : own_A Z h' a ty n f := by obtain ⟨c, A, r⟩ := F; exact ⟨c, ⟨K.2.1 a c A.1 q, A.2⟩, r⟩
theorem own_A.congr (F : own_A Z h a ty n f) (q : ∀ i, i < n → f i = f' i) : own_A Z h a ty n f' := by
  obtain ⟨c, A, r1, r2⟩ := F
  exact ⟨c, A, r1, fun i hi => by rw [← q i hi]; exact r2 i hi⟩
theorem own_A.set {j : Nat} {v : Value} (F : own_A Z h a ty n f) (W : Wr h h' a j v) (hv : fits ty v = true) : own_A Z h' a ty n (fun i => if i = j then v else f i) := by
  obtain ⟨c, A, r1, r2⟩ := F
  have hj : j < c.slots.size := by
    obtain ⟨c2, w1, -, w3, -⟩ := W
    cases A.1.symm.trans w1
    exact w3
  refine ⟨_, A.same W, by rw [sz_set]; exact r1, fun i hi => ?_⟩
  by_cases u : j = i
  · subst u; simp [Cell.setSlot, hj, hv]
  · have := r2 i hi
    simp only [Cell.setSlot]
    rw [Array.getElem?_setIfInBounds_ne u, if_neg (fun q => u q.symm)]; exact this
theorem own_A.new {k : ClassId} {z : Int32} (A : Arr Z h a (newA k ty z) ty) (hz : z.toNatClampNeg = n) : own_A Z h a ty n (fun _ => defaultValue ty) :=
  ⟨_, A, by rw [sz_new, hz], fun i hi => ⟨by simp [newA, hz, hi], by cases ty <;> rfl⟩⟩
theorem own_ix {j : Int32} {i : Nat} (hj : j.toInt = i) (hi : i < n) : ¬ (j < 0 ∨ n ≤ j.toNatClampNeg) ∧ j.toNatClampNeg = i := by
  have h0 : (0 : Int32).toInt = 0 := by decide
  have : j.toNatClampNeg = i := by simp only [Int32.toNatClampNeg, hj]; omega
  rw [this, Int32.lt_iff_toInt_lt, hj, h0]
  exact ⟨by omega, rfl⟩
theorem own_lenZ {z : Int32} (h : z.toInt = n) : n.toInt32 = z := by
  have h0 : (0 : Int32).toInt = 0 := by decide
  have hz : ¬ z < 0 := by rw [Int32.lt_iff_toInt_lt, h, h0]; omega
  have : z.toNatClampNeg = n := by simp only [Int32.toNatClampNeg, h]; omega
  rw [← this]; exact (back32 hz).1
theorem own_cap {z : Int32} (h : z.toInt = n) : ¬ z < 0 ∧ z.toNatClampNeg = n := by
  have h0 : (0 : Int32).toInt = 0 := by decide
  exact ⟨by rw [Int32.lt_iff_toInt_lt, h, h0]; omega, by simp only [Int32.toNatClampNeg, h]; omega⟩
theorem own_arraylength (X : Stand p l e R s m args below meth c T locs cells slots) (hx : p.tables.exec = Jvm.exec) (hZ : Z.Warmed39 s.vm) (eT : T.heap = h) (F : own_A Z h a ty n f) (z : Int32) (hz : z.toInt = n)
    {g : JFrame} (hg : g.method = m) {rest : List Value} (hs : g.stack = .ref a :: rest) (hd : decode c.code g.pc = .ok (.arraylength, 1)) (t : State) (k : Steps p.tables e below (T.setTop { g with pc := g.pc + 1, stack := .int z :: rest }) t) : Steps p.tables e below (T.setTop g) t := by
  obtain ⟨cl, A, r1, r2⟩ := F
  refine X.arraylength hx (by rw [eT]; exact A.1) (State.isArrayOf_alike hZ.alike A.2.1) hg hs hd t ?_
  rw [r1, own_lenZ hz]; exact k
theorem own_baload (X : Stand p l e R s m args below meth c T locs cells slots) (hx : p.tables.exec = Jvm.exec) (hZ : Z.Warmed39 s.vm) (eT : T.heap = h) (F : own_A Z h a .byte n f) {j : Int32} {i : Nat} (hj : j.toInt = i) (hi : i < n) (v : Value) (hv : f i = v)
    {g : JFrame} (hg : g.method = m) {rest : List Value} (hs : g.stack = .int j :: .ref a :: rest) (hd : decode c.code g.pc = .ok (.baload, 1)) (t : State) (k : Steps p.tables e below (T.setTop { g with pc := g.pc + 1, stack := v :: rest }) t) : Steps p.tables e below (T.setTop g) t := by
  obtain ⟨cl, A, r1, r2⟩ := F
  subst r1
  have q := own_ix hj hi
  exact X.baloadBytes hx (by rw [eT]; exact A.1) (State.isArrayOf_alike hZ.alike A.2.1) A.2.2 q.1 (by rw [q.2, (r2 i hi).1, hv]) hg hs hd t k
theorem own_iaload (X : Stand p l e R s m args below meth c T locs cells slots) (hx : p.tables.exec = Jvm.exec) (hZ : Z.Warmed39 s.vm) (eT : T.heap = h) (F : own_A Z h a .int n f) {j : Int32} {i : Nat} (hj : j.toInt = i) (hi : i < n) (v : Value) (hv : f i = v)
    {g : JFrame} (hg : g.method = m) {rest : List Value} (hs : g.stack = .int j :: .ref a :: rest) (hd : decode c.code g.pc = .ok (.iaload, 1)) (t : State) (k : Steps p.tables e below (T.setTop { g with pc := g.pc + 1, stack := v :: rest }) t) : Steps p.tables e below (T.setTop g) t := by
  obtain ⟨cl, A, r1, r2⟩ := F
  subst r1
  have q := own_ix hj hi
  exact X.iaload hx (by rw [eT]; exact A.1) (State.isArrayOf_alike hZ.alike A.2.1) A.2.2 q.1 (by rw [q.2, (r2 i hi).1, hv]) hg hs hd t k
theorem own_laload (X : Stand p l e R s m args below meth c T locs cells slots) (hx : p.tables.exec = Jvm.exec) (hZ : Z.Warmed39 s.vm) (eT : T.heap = h) (F : own_A Z h a .long n f) {j : Int32} {i : Nat} (hj : j.toInt = i) (hi : i < n) (v : Value) (hv : f i = v)
    {g : JFrame} (hg : g.method = m) {rest : List Value} (hs : g.stack = .int j :: .ref a :: rest) (hd : decode c.code g.pc = .ok (.laload, 1)) (t : State) (k : Steps p.tables e below (T.setTop { g with pc := g.pc + 1, stack := v :: rest }) t) : Steps p.tables e below (T.setTop g) t := by
  obtain ⟨cl, A, r1, r2⟩ := F
  subst r1
  have q := own_ix hj hi
  exact X.laload hx (by rw [eT]; exact A.1) (State.isArrayOf_alike hZ.alike A.2.1) A.2.2 q.1 (by rw [q.2, (r2 i hi).1, hv]) hg hs hd t k
theorem own_aaload (X : Stand p l e R s m args below meth c T locs cells slots) (hx : p.tables.exec = Jvm.exec) (hZ : Z.Warmed39 s.vm) (eT : T.heap = h) (F : own_A Z h a ty n f) (hty : ty.isReference = true) {j : Int32} {i : Nat} (hj : j.toInt = i) (hi : i < n) (v : Value) (hv : f i = v)
    {g : JFrame} (hg : g.method = m) {rest : List Value} (hs : g.stack = .int j :: .ref a :: rest) (hd : decode c.code g.pc = .ok (.aaload, 1)) (t : State) (k : Steps p.tables e below (T.setTop { g with pc := g.pc + 1, stack := v :: rest }) t) : Steps p.tables e below (T.setTop g) t := by
  obtain ⟨cl, A, r1, r2⟩ := F
  subst r1
  have q := own_ix hj hi
  exact X.aaload hx (by rw [eT]; exact A.1) (State.isArrayOf_alike hZ.alike A.2.1) hty A.2.2 q.1 (by rw [q.2, (r2 i hi).1, hv]) hg hs hd t k
theorem own_bastore (X : Stand p l e R s m args below meth c T locs cells slots) (hx : p.tables.exec = Jvm.exec) (hZ : Z.Warmed39 s.vm) (eT : T.heap = h) (F : own_A Z h a .byte n f) {j x : Int32} {i : Nat} (hj : j.toInt = i) (hi : i < n) (v : Int32) (hv : x.toInt8.toInt32 = v)
    {g : JFrame} (hg : g.method = m) {rest : List Value} (hs : g.stack = .int x :: .int j :: .ref a :: rest) (hd : decode c.code g.pc = .ok (.bastore, 1)) :
    ∃ T' h', Stand p l e R s m args below meth c T' (locs ++ [⟨a, i⟩]) cells slots ∧ T'.heap = h' ∧ Wr h h' a i (.int v) ∧ own_A Z h' a .byte n (fun q => if q = i then .int v else f q) ∧ ∀ t, Steps p.tables e below (T'.setTop { g with pc := g.pc + 1, stack := rest }) t → Steps p.tables e below (T.setTop g) t := by
  have F0 := F
  obtain ⟨cl, A, r1, r2⟩ := F
  subst r1
  have q := own_ix hj hi
  obtain ⟨T', h', X', e', W, st⟩ := stB X hx hZ eT A q.1 hg hs hd
  have ev : nar .byte x = v := hv
  rw [q.2] at X' W
  rw [ev] at W
  exact ⟨T', h', X', e', W, F0.set W (by rw [← hv]; exact fits_nar_byte x), st⟩
theorem own_iastore (X : Stand p l e R s m args below meth c T locs cells slots) (hx : p.tables.exec = Jvm.exec) (hZ : Z.Warmed39 s.vm) (eT : T.heap = h) (F : own_A Z h a .int n f) {j x : Int32} {i : Nat} (hj : j.toInt = i) (hi : i < n)
    {g : JFrame} (hg : g.method = m) {rest : List Value} (hs : g.stack = .int x :: .int j :: .ref a :: rest) (hd : decode c.code g.pc = .ok (.iastore, 1)) :
    ∃ T' h', Stand p l e R s m args below meth c T' (locs ++ [⟨a, i⟩]) cells slots ∧ T'.heap = h' ∧ Wr h h' a i (.int x) ∧ own_A Z h' a .int n (fun q => if q = i then .int x else f q) ∧ ∀ t, Steps p.tables e below (T'.setTop { g with pc := g.pc + 1, stack := rest }) t → Steps p.tables e below (T.setTop g) t := by
  have F0 := F
  obtain ⟨cl, A, r1, r2⟩ := F
  subst r1
  have q := own_ix hj hi
  obtain ⟨T', h', X', e', W, st⟩ := stI X hx hZ eT A q.1 hg hs hd
  rw [q.2] at X' W
  exact ⟨T', h', X', e', W, F0.set W rfl, st⟩
theorem own_lastore (X : Stand p l e R s m args below meth c T locs cells slots) (hx : p.tables.exec = Jvm.exec) (hZ : Z.Warmed39 s.vm) (eT : T.heap = h) (F : own_A Z h a .long n f) {j : Int32} {x : Int64} {i : Nat} (hj : j.toInt = i) (hi : i < n)
    {g : JFrame} (hg : g.method = m) {rest : List Value} (hs : g.stack = .long x :: .int j :: .ref a :: rest) (hd : decode c.code g.pc = .ok (.lastore, 1)) :
    ∃ T' h', Stand p l e R s m args below meth c T' (locs ++ [⟨a, i⟩]) cells slots ∧ T'.heap = h' ∧ Wr h h' a i (.long x) ∧ own_A Z h' a .long n (fun q => if q = i then .long x else f q) ∧ ∀ t, Steps p.tables e below (T'.setTop { g with pc := g.pc + 1, stack := rest }) t → Steps p.tables e below (T.setTop g) t := by
  have F0 := F
  obtain ⟨cl, A, r1, r2⟩ := F
  subst r1
  have q := own_ix hj hi
  obtain ⟨T', h', X', e', W, st⟩ := stJ X hx hZ eT A q.1 hg hs hd
  rw [q.2] at X' W
  exact ⟨T', h', X', e', W, F0.set W rfl, st⟩
theorem own_newP (X : Stand p l e R s m args below meth c T locs cells slots) (hx : p.tables.exec = Jvm.exec) (hZ : Z.Warmed39 s.vm) {aty : ArrayType} (w : (Jvm.Cond.arrayClass (newarray.typeOf aty)).before a0 Z = true) (eT : T.heap = h) {g : JFrame} (hg : g.method = m) (hd : decode c.code g.pc = .ok (.newarray aty, 2)) {z : Int32} {rest : List Value} (hs : g.stack = .int z :: rest)
    {n : Nat} (hz : z.toInt = n) {cap : Nat} (hcap : n ≤ cap) (hb : cap * 8 ≤ 536870912) (hc : cells + 1 ≤ R.cells) (hl : slots + cap ≤ R.slots) :
    ∃ T' h', Stand p l e R s m args below meth c T' locs (cells + 1) (slots + cap) ∧ T'.heap = h' ∧ Ext h h' ∧ own_A Z h' h.size (newarray.typeOf aty) n (fun _ => defaultValue (newarray.typeOf aty)) ∧
      ∀ t, Steps p.tables e below (T'.setTop { g with pc := g.pc + 2, stack := .ref h.size :: rest }) t → Steps p.tables e below (T.setTop g) t := by
  have q := own_cap hz
  obtain ⟨T', h', k, X', e', E, A, st⟩ := newP X hx hZ w eT hg hd hs q.1 (cap := cap) (by rw [q.2]; exact hcap) hb hc hl
  exact ⟨T', h', X', e', E, own_A.new A q.2, st⟩
theorem own_getD {d : Value} {i : Nat} (hi : i < n) : ((List.range n).map f).getD i d = f i := by
  simp [List.getD_eq_getElem?_getD, hi]
theorem own_A.arv (F : own_A Z h a ty n f) {z : Int32} (hz : z.toInt = n) (d : Value) : ∃ k, Arv Z h a k ty z ((List.range n).map f) d := by
  obtain ⟨c, A, r1, r2⟩ := F
  have q := own_cap hz
  exact ⟨c.cls, c, A, rfl, by rw [q.2]; exact r1, q.1, fun i hi => by rw [own_getD (by omega)]; exact (r2 i (by omega)).1, fun i hi => by rw [own_getD (by omega)]; exact (r2 i (by omega)).2⟩
theorem own_cpA (X : Stand p l e R s m args below meth c T locs cells slots) (hx : p.tables.exec = Jvm.exec) (hZ : Z.Warmed39 s.vm) {own : String} {index : Nat} (hown : s.vm.findClass own = some m.cls)
    (w1 : (Jvm.Cond.methodLink own index Jvm.Stand.acN).before a0 Z = true) (w2 : (Jvm.Cond.native Jvm.Stand.acN).before a0 Z = true) (w3 : (Jvm.Cond.static Jvm.Stand.acN).before a0 Z = true) (w4 : (Jvm.Cond.initialized "java/lang/System").before a0 Z = true) (eT : T.heap = h)
    {n' : Nat} (A : own_A Z h a ty n f) (B : own_A Z h b ty n' f') (hr : refKind ty = false) {zn zn' : Int32} (hzn : zn.toInt = n) (hzn' : zn'.toInt = n') {sp dp nn : Int32} {i j k : Nat} (hsp : sp.toInt = i) (hdp : dp.toInt = j) (hnn : nn.toInt = k) (h4 : i + k ≤ n) (h5 : j + k ≤ n')
    {n0 : Nat} (N : Fr n0 locs) (ge : n0 ≤ b) {g : JFrame} (hg : g.method = m) (hsize : g.locals.size = c.maxLocals) {rest : List Value} (hs : g.stack = .int nn :: .int dp :: .ref b :: .int sp :: .ref a :: rest) (hd : decode c.code g.pc = .ok (.invokestatic index, 3))
    (hf : 1 ≤ R.frames) {W : Nat} (hW : 2 * g.monitorRoom + (rest.map fun v => v.category).sum ≤ W) (hlo : W + (nativeFrameWords "java/lang/System" "arraycopy" 5 + 11) ≤ R.locals) :
    ∃ T' h' L, Stand p l e R s m args below meth c T' L cells slots ∧ T'.heap = h' ∧ Fr n0 L ∧ Keep h h' [b] ∧ own_A Z h' b ty n' (fun q => if j ≤ q ∧ q < j + k then f (i + (q - j)) else f' q) ∧
      ∀ t, Steps p.tables e below (T'.setTop { g with pc := g.pc + 3, stack := rest }) t → Steps p.tables e below (T.setTop g) t := by
  obtain ⟨ka, VA⟩ := A.arv hzn .null
  obtain ⟨kb, VB⟩ := B.arv hzn' .null
  have q1 := own_cap hsp
  have q2 := own_cap hdp
  have q3 := own_cap hnn
  have q4 := own_cap hzn
  have q5 := own_cap hzn'
  obtain ⟨T', h', L, X', e', N', K, V', st⟩ := cpA X hx hZ hown w1 w2 w3 w4 eT VA VB (Or.inl ⟨rfl, hr⟩) q1.1 q2.1 q3.1 (by rw [q1.2, q3.2, q4.2]; exact h4) (by rw [q2.2, q3.2, q5.2]; exact h5) rfl (by rw [q2.2, q3.2]; simpa using h5) N ge hg hsize hs hd hf hW hlo
  refine ⟨T', h', L, X', e', N', K, ?_, st⟩
  obtain ⟨c', A', -, r1, -, r2, r3⟩ := V'
  rw [q5.2] at r1
  have key : ∀ x, x < n' → (((List.range n').map f').take dp.toNatClampNeg ++ (List.range nn.toNatClampNeg).map (fun y => ((List.range n).map f).getD (sp.toNatClampNeg + y) .null) ++ ((List.range n').map f').drop (dp.toNatClampNeg + nn.toNatClampNeg)).getD x .null = if j ≤ x ∧ x < j + k then f (i + (x - j)) else f' x := by
    intro x hx'
    rw [q1.2, q2.2, q3.2, List.getD_eq_getElem?_getD]
    by_cases c1 : x < j
    · rw [if_neg (by omega), List.append_assoc, List.getElem?_append_left (by simp; omega), List.getElem?_take_of_lt c1]
      simp [hx']
    · by_cases c2 : x < j + k
      · rw [if_pos ⟨by omega, c2⟩, List.getElem?_append_left (by simp; omega), List.getElem?_append_right (by simp; omega)]
        have e1 : (((List.range n').map f').take j).length = j := by simp; omega
        rw [e1, List.getElem?_map, List.getElem?_range (by omega)]
        show ((List.range n).map f).getD (i + (x - j)) .null = _
        exact own_getD (by omega)
      · have e1 : (((List.range n').map f').take j ++ (List.range k).map (fun y => ((List.range n).map f).getD (i + y) .null)).length = j + k := by simp; omega
        rw [if_neg (by omega), List.getElem?_append_right (by rw [e1]; omega), e1, List.getElem?_drop, show j + k + (x - (j + k)) = x by omega]
        simp [hx']
  exact ⟨c', A', r1, fun x hx' => ⟨by rw [r2 x (by omega), key x hx'], by have := r3 x (by omega); rw [key x hx'] at this; exact this⟩⟩
def own_up {α : Type} (G : Nat → α) (i : Nat) (x : α) : Nat → α := fun q => if q = i then x else G q
theorem own_i8 (x : Int32) : x.toInt8.toInt32.toInt8.toInt32 = x.toInt8.toInt32 := by simp
def own_cp {α : Type} (G : Nat → α) (i : Nat) (G2 : Nat → α) (j k : Nat) : Nat → α := fun q => if j ≤ q ∧ q < j + k then G (i + (q - j)) else G2 q
theorem own_inc {x : Int32} {k : Nat} (h : x.toInt = k) (hk : k < 2147483647) : (x + (1 : Int32)).toInt = (k + 1 : Nat) := by
  have h1 := c_iadd x 1
  have i1 : (1 : Int32).toInt = 1 := by decide
  have r := rng32 (x + 1)
  omega
theorem own_ofN {x : Int32} {k : Nat} (h : x.toInt = k) : x = Int32.ofNat k := by
  have r := rng32 x
  apply Int32.toInt_inj.mp
  rw [h, Int32.toInt_ofNat_of_lt (by show k < 2147483648; omega)]
theorem own_toI {k : Nat} (h : k < 2147483648) : (Int32.ofNat k).toInt = k := Int32.toInt_ofNat_of_lt h
end OwnArr
section OwnWide
variable {p : Program} {l : Launch} {e : Env} {R : Room} {s : State} {vm0 : Vm} {k0 : Nat} {m : MethodId} {args : Array Value} {below : List Frame} {meth : Method} {c : Code} {T : State} {locs : List Loc} {cells slots : Nat} {Z : State} {a0 : Array Value} {h : Heap}
/-- as own_G, where texts may have been interned meanwhile -/
def own_GW (p : Program) (e : Env) (below : List Frame) (s : State) (Q : Option Value → Heap → List Loc → Prop) (ce sl : Nat) (A : State) : Prop :=
  ∃ s₂ o, Steps p.tables e below A s₂ ∧ s₂.status = .running ∧ Ended s₂ below o ∧ ∃ v L, o = .returned v ∧ Q v s₂.heap L ∧ ReturnedEndW s o s₂ L ce sl
theorem own_stW {Q : Option Value → Heap → List Loc → Prop} {ce sl : Nat} {A B : State} (k : ∀ t, Steps p.tables e below B t → Steps p.tables e below A t) (g : own_GW p e below s Q ce sl B) : own_GW p e below s Q ce sl A := by
  obtain ⟨s₂, o, h1, h2⟩ := g
  exact ⟨s₂, o, k _ h1, h2⟩
theorem own_retW {Q : Option Value → Heap → List Loc → Prop} {ce sl : Nat} (X : Stand p l e R (s.setVm vm0) m args below meth c T locs cells slots) (hx : p.tables.exec = Jvm.exec) (hlk : meth.locks = false) (hS : s.Since vm0 k0) (hk : k0 ≤ T.heap.size) {pc : Nat} {Ls : Array Slot} {w : Value} {t : FieldType} {i : Instr} {rest : List Value} (hret : meth.sig.returnType = some t) (hn : narrow t w = w)
    (hi : (i = .ireturn ∧ (t = .int ∨ t = .boolean ∨ t = .byte ∨ t = .char ∨ t = .short) ∧ ∃ z, w = .int z) ∨ (i = .lreturn ∧ t = .long ∧ ∃ z, w = .long z) ∨ (i = .dreturn ∧ t = .double ∧ ∃ z, w = .double z) ∨ (i = .freturn ∧ t = .float ∧ ∃ z, w = .float z) ∨ (i = .areturn ∧ t.isReference = true ∧ w.isRef = true))
    (hd : decode c.code pc = .ok (i, 1)) (hc : cells ≤ ce) (hs : slots ≤ sl) (hQ : Q (some w) T.heap locs) : own_GW p e below s Q ce sl (T.setTop (mkF m pc Ls (w :: rest))) := by
  obtain ⟨fs, hr, hrun, hended, hW⟩ := X.leaveW hS hk (v := some w) (fun q => by rw [hret] at q; cases q) hlk
  exact ⟨_, _, retOut X hx hret hn hi hd hr, hrun, hended, _, _, rfl, hQ, hW.1, hW.2.1, hW.2.2.1, hW.2.2.2.mono hc hs⟩
theorem own_retZW {Q : Option Value → Heap → List Loc → Prop} {ce sl : Nat} (X : Stand p l e R (s.setVm vm0) m args below meth c T locs cells slots) (hx : p.tables.exec = Jvm.exec) (hlk : meth.locks = false) (hS : s.Since vm0 k0) (hk : k0 ≤ T.heap.size) {pc : Nat} {Ls : Array Slot} {z : Int32} {rest : List Value} (hret : meth.sig.returnType = some .boolean) (hn : z = 0 ∨ z = 1)
    (hd : decode c.code pc = .ok (.ireturn, 1)) (hc : cells ≤ ce) (hs : slots ≤ sl) (hQ : Q (some (.int z)) T.heap locs) : own_GW p e below s Q ce sl (T.setTop (mkF m pc Ls (.int z :: rest))) :=
  own_retW X hx hlk hS hk hret (by rcases hn with rfl | rfl <;> rfl) (Or.inl ⟨rfl, Or.inr (Or.inl rfl), z, rfl⟩) hd hc hs hQ
theorem own_retVW {Q : Option Value → Heap → List Loc → Prop} {ce sl : Nat} (X : Stand p l e R (s.setVm vm0) m args below meth c T locs cells slots) (hx : p.tables.exec = Jvm.exec) (hlk : meth.locks = false) (hS : s.Since vm0 k0) (hk : k0 ≤ T.heap.size) {pc : Nat} {Ls : Array Slot} (hret : meth.sig.returnType = none)
    (hd : decode c.code pc = .ok (.return_, 1)) (hc : cells ≤ ce) (hs : slots ≤ sl) (hQ : Q none T.heap locs) : own_GW p e below s Q ce sl (T.setTop (mkF m pc Ls [])) := by
  obtain ⟨fs, hr, hrun, hended, hW⟩ := X.leaveW hS hk (v := none) (fun _ => rfl) hlk
  exact ⟨_, _, X.returnOut hx hret hd hr, hrun, hended, _, _, rfl, hQ, hW.1, hW.2.1, hW.2.2.1, hW.2.2.2.mono hc hs⟩
theorem own_metW {y : MethodName} {bytes : ByteArray} {maxL : Nat} {ret : Option FieldType} {ws : List Jvm.Cond} {rm : Room} {as' : Array Value} {h0 : Heap} {Q : Option Value → Heap → List Loc → Prop} {ce sl : Nat} (hp : plainFor y = true)
    (body : ∀ (p : Program) (e : Env) (s : State) (m : MethodId) (below : List Frame) (meth : Method) (c : Code) (T : State), p.tables.exec = Jvm.exec → c.code = bytes → c.maxLocals = maxL → (s.setVm s.vm).vm.findClass y.cls = some m.cls → meth.name = y.name → meth.sig.returnType = ret → meth.locks = false → Z.Warmed39 (s.setVm s.vm).vm → T.heap = h0 →
      Stand p l e rm (s.setVm s.vm) m as' below meth c T [] 0 0 → s.Since s.vm 0 → own_GW p e below s Q ce sl (T.setTop (entryFrame m as' maxL))) :
    MetFree l y (head1 (Jvm.Cond.code y bytes maxL ret :: ws) rm) (fun a U => a = as' ∧ Z.Warmed39 U.vm ∧ U.heap = h0) (fun _ _ _ _ _ => True) (fun _ U o U' => ∃ v L, o = .returned v ∧ Q v U'.heap L ∧ ReturnedEndW U o U' L ce sl) := by
  refine MetFree.of_bodySF hp hisR ?_
  intro p e s m args below meth c s₁ Bd hml0 hP hK
  obtain ⟨rfl, hZ, hh⟩ := hP
  exact body p e s m below meth c s₁ Bd.exec Bd.bytes hml0 (findClass_of_methodNamed Bd.named) (name_of_methodNamed Bd.named Bd.method).1 Bd.returns Bd.notSynchronized hZ (by rw [← hh, Bd.state]; rfl) (Stand.of_body Bd) ((State.WarmedH.refl s).since 0)
theorem own_callIW (X : Stand p l e R (s.setVm vm0) m args below meth c T locs cells slots) (hx : p.tables.exec = Jvm.exec) (hZ : Z.Warmed39 (s.setVm vm0).vm) (hS : s.Since vm0 k0) {own : String} {index : Nat} {y : MethodName} {bytes : ByteArray} {maxL : Nat} {rm : Room} {Q : Option Value → Heap → List Loc → Prop} {a : Addr} {argsL rest : List Value} (W : Nat)
    (hy1 : y.name = "<init>") (hown : (s.setVm vm0).vm.findClass own = some m.cls) (wl : (Jvm.Cond.methodLink own index y).before a0 Z = true) (wi : (Jvm.Cond.instanceMethod y).before a0 Z = true) (wz : (Jvm.Cond.initialized y.cls).before a0 Z = true) (wc : (Jvm.Cond.code y bytes maxL none).before a0 Z = true) (hy : y.cls ≠ "java/lang/invoke/MethodHandle" ∧ y.cls ≠ "java/lang/invoke/VarHandle")
    (hM : MetFree l y (head1 [Jvm.Cond.code y bytes maxL none] rm) (fun b U => b = (Value.ref a :: argsL).toArray ∧ Z.Warmed39 U.vm ∧ U.heap = h) (fun _ _ _ _ _ => True) (fun _ U o U' => ∃ v L, o = .returned v ∧ Q v U'.heap L ∧ ReturnedEndW U o U' L rm.cells rm.slots))
    (hf : rm.frames + 1 ≤ R.frames) (hl : W + (maxL + 11) + rm.locals ≤ R.locals) (eT : T.heap = h) (hk : k0 ≤ h.size) {g : JFrame} (hg : g.method = m) (hsize : g.locals.size = c.maxLocals) {ps : List FieldType} {r : Option FieldType} (hpd : parseMethodDescriptor y.desc = some ⟨ps, r⟩) (hlen : argsL.length = ps.length)
    (hstack : g.stack = argsL.reverse ++ .ref a :: rest) (hW : 2 * g.monitorRoom + (rest.map fun v => v.category).sum ≤ W) (hdg : decode c.code g.pc = .ok (.invokespecial index, 3)) (hc : cells + rm.cells ≤ R.cells) (hs : slots + rm.slots ≤ R.slots) :
    ∃ v T' L, Stand p l e R (s.setVm T'.vm) m args below meth c T' (locs ++ L) (cells + rm.cells) (slots + rm.slots) ∧ Q v T'.heap L ∧ s.Since T'.vm T'.heap.size ∧ Z.Warmed39 (s.setVm T'.vm).vm ∧ (s.setVm T'.vm).vm.findClass own = some m.cls ∧ ∀ t, Steps p.tables e below (T'.setTop { g with pc := g.pc + 3, stack := v.toList ++ rest }) t → Steps p.tables e below (T.setTop g) t := by
  obtain ⟨v, _, ⟨T', L', k', n'⟩, -, X', h2, gr, ⟨L, hQ, l1, y1, z1⟩, st⟩ := X.specialBackS hx (y := y) hy1 hown (mvT hZ wl) (mvT hZ wi) (mvT hZ wc) hy (backOfS (W := W) hM hZ wc wz hf hl) hg hsize (Steps.refl _) (a := a) (lenOf hpd hlen) hstack hW hdg (fun _ _ => ⟨rfl, eT, hc, hs⟩)
  dsimp only [Pt.U, Pt.locs, Pt.cells, Pt.slots] at X' l1 y1 z1 st hQ h2 gr
  subst l1 y1 z1
  obtain ⟨X2, S2, Z2, O2⟩ := rebS hS (by rw [← eT] at hk; exact hk) X' h2 gr hZ hown
  exact ⟨v, T', L, X2, hQ, S2, Z2, O2, fun t k => st.trans k⟩
theorem own_sub : ∀ d ∈ Bundle.stringAtoms, d ∈ tables_1 := by
  intro d hd
  simp only [Bundle.stringAtoms, List.mem_cons, List.not_mem_nil, or_false] at hd
  rcases hd with rfl | rfl | rfl | rfl | rfl | rfl | rfl
  · exact List.mem_of_getElem? (i := 3) rfl
  · exact List.mem_of_getElem? (i := 2) rfl
  · exact List.mem_of_getElem? (i := 19) rfl
  · exact List.mem_of_getElem? (i := 29) rfl
  · exact List.mem_of_getElem? (i := 27) rfl
  · exact List.mem_of_getElem? (i := 52) rfl
  · exact List.mem_of_getElem? (i := 53) rfl
end OwnWide
section OwnStr
variable {p : Program} {l : Launch} {e : Env} {R : Room} {s : State} {vm0 : Vm} {k0 : Nat} {m : MethodId} {args : Array Value} {below : List Frame} {meth : Method} {c : Code} {T : State} {locs : List Loc} {cells slots : Nat} {Z : State} {a0 : Array Value} {h : Heap}
/-- a constructor paid by a Back -/
theorem own_callIB (X : Stand p l e R s m args below meth c T locs cells slots) (hx : p.tables.exec = Jvm.exec) (hZ : Z.Warmed39 s.vm) {own : String} {index : Nat} {y : MethodName} {bytes : ByteArray} {maxL kc ks : Nat} {Q : Option Value → Heap → List Loc → Prop} {a : Addr} {argsL rest : List Value} (W : Nat)
    (hy1 : y.name = "<init>") (hown : s.vm.findClass own = some m.cls) (wl : (Jvm.Cond.methodLink own index y).before a0 Z = true) (wi : (Jvm.Cond.instanceMethod y).before a0 Z = true) (wc : (Jvm.Cond.code y bytes maxL none).before a0 Z = true) (hy : y.cls ≠ "java/lang/invoke/MethodHandle" ∧ y.cls ≠ "java/lang/invoke/VarHandle")
    (hK : Back l R p e below s args y 3 W (fun A b => b = (Value.ref a :: argsL).toArray ∧ A.U.heap = h ∧ A.cells + kc ≤ R.cells ∧ A.slots + ks ≤ R.slots) (fun A _ v B => ∃ L, Q v B.U.heap L ∧ B.locs = A.locs ++ L ∧ B.cells = A.cells + kc ∧ B.slots = A.slots + ks))
    (eT : T.heap = h) {g : JFrame} (hg : g.method = m) (hsize : g.locals.size = c.maxLocals) {ps : List FieldType} {r : Option FieldType} (hpd : parseMethodDescriptor y.desc = some ⟨ps, r⟩) (hlen : argsL.length = ps.length)
    (hstack : g.stack = argsL.reverse ++ .ref a :: rest) (hW : 2 * g.monitorRoom + (rest.map fun v => v.category).sum ≤ W) (hdg : decode c.code g.pc = .ok (.invokespecial index, 3)) (hc : cells + kc ≤ R.cells) (hs : slots + ks ≤ R.slots) :
    ∃ v T' L, Stand p l e R s m args below meth c T' (locs ++ L) (cells + kc) (slots + ks) ∧ Q v T'.heap L ∧ ∀ t, Steps p.tables e below (T'.setTop { g with pc := g.pc + 3, stack := v.toList ++ rest }) t → Steps p.tables e below (T.setTop g) t := by
  obtain ⟨v, _, ⟨T', L', k', n'⟩, -, X', ⟨L, hQ, l1, y1, z1⟩, st⟩ := X.specialBack hx (y := y) hy1 hown (mvT hZ wl) (mvT hZ wi) (mvT hZ wc) hy hK hg hsize (Steps.refl _) (a := a) (lenOf hpd hlen) hstack hW hdg (fun _ _ => ⟨rfl, eT, hc, hs⟩)
  dsimp only [Pt.U, Pt.locs, Pt.cells, Pt.slots] at X' l1 y1 z1 st hQ
  subst l1 y1 z1
  exact ⟨v, T', L, X', hQ, fun t k => st.trans k⟩
/-- an instance method paid by a Back -/
theorem own_callVB (X : Stand p l e R s m args below meth c T locs cells slots) (hx : p.tables.exec = Jvm.exec) (hZ : Z.Warmed39 s.vm) {own C : String} {index kc ks : Nat} {y z : MethodName} {Q : Option Value → Heap → List Loc → Prop} {a : Addr} {argsL rest : List Value} (W : Nat)
    (hown : s.vm.findClass own = some m.cls) (wl : (Jvm.Cond.methodLink own index y).before a0 Z = true) (wd : (Jvm.Cond.declares y).before a0 Z = true) (hnf : NotFace s y) (wsel : (Jvm.Cond.selects C y z).before a0 Z = true) (wi : (Jvm.Cond.instanceMethod z).before a0 Z = true) (hy : y.cls ≠ "java/lang/invoke/MethodHandle" ∧ y.cls ≠ "java/lang/invoke/VarHandle")
    (hK : Back l R p e below s args z 3 W (fun A b => b = (Value.ref a :: argsL).toArray ∧ A.U.heap = h ∧ A.cells + kc ≤ R.cells ∧ A.slots + ks ≤ R.slots) (fun A _ v B => ∃ L, Q v B.U.heap L ∧ B.locs = A.locs ++ L ∧ B.cells = A.cells + kc ∧ B.slots = A.slots + ks))
    (eT : T.heap = h) (E : Exa Z h a C) {g : JFrame} (hg : g.method = m) (hsize : g.locals.size = c.maxLocals) {ps : List FieldType} {r : Option FieldType} (hpd : parseMethodDescriptor y.desc = some ⟨ps, r⟩) (hlen : argsL.length = ps.length)
    (hstack : g.stack = argsL.reverse ++ .ref a :: rest) (hW : 2 * g.monitorRoom + (rest.map fun v => v.category).sum ≤ W) (hdg : decode c.code g.pc = .ok (.invokevirtual index, 3)) (hc : cells + kc ≤ R.cells) (hs : slots + ks ≤ R.slots) :
    ∃ v T' L, Stand p l e R s m args below meth c T' (locs ++ L) (cells + kc) (slots + ks) ∧ Q v T'.heap L ∧ ∀ t, Steps p.tables e below (T'.setTop { g with pc := g.pc + 3, stack := v.toList ++ rest }) t → Steps p.tables e below (T.setTop g) t := by
  obtain ⟨cq, kq, qa, qb, qc⟩ := isOf hZ eT E
  obtain ⟨v, _, ⟨T', L', k', n'⟩, -, X', ⟨L, hQ, l1, y1, z1⟩, st⟩ := X.virtualBack hx (y := y) (z := z) hown (mvT hZ wl) (mvT hZ wd) hnf (mvT hZ wsel) (mvT hZ wi) hy hK qa qc hg hsize (Steps.refl _) (lenOf hpd hlen) hstack hW hdg (fun _ _ => ⟨rfl, eT, hc, hs⟩)
  dsimp only [Pt.U, Pt.locs, Pt.cells, Pt.slots] at X' l1 y1 z1 st hQ
  subst l1 y1 z1
  exact ⟨v, T', L, X', hQ, fun t k => st.trans k⟩
theorem own_IB {vm' : Vm} (hI : IB Z s.vm []) (h : s.WarmedH vm') : IB Z vm' [] := by
  obtain ⟨more, h1, h2⟩ := hI
  exact ⟨more, h.interned_eq.trans h1, h2⟩
end OwnStr
section OwnIb
variable {p : Program} {l : Launch} {e : Env} {R : Room} {s : State} {vm0 : Vm} {k0 : Nat} {m : MethodId} {args : Array Value} {below : List Frame} {meth : Method} {c : Code} {T : State} {locs : List Loc} {cells slots : Nat} {Z : State} {a0 : Array Value} {h : Heap}
/-- as own_metW, where the caller says that nothing has been interned since the case's start -/
theorem own_metI {y : MethodName} {bytes : ByteArray} {maxL : Nat} {ret : Option FieldType} {ws : List Jvm.Cond} {rm : Room} {as' : Array Value} {h0 : Heap} {Q : Option Value → Heap → List Loc → Prop} {ce sl : Nat} (hp : plainFor y = true)
    (body : ∀ (p : Program) (e : Env) (s : State) (m : MethodId) (below : List Frame) (meth : Method) (c : Code) (T : State), p.tables.exec = Jvm.exec → c.code = bytes → c.maxLocals = maxL → (s.setVm s.vm).vm.findClass y.cls = some m.cls → meth.name = y.name → meth.sig.returnType = ret → meth.locks = false → Z.Warmed39 (s.setVm s.vm).vm → T.heap = h0 →
      Stand p l e rm (s.setVm s.vm) m as' below meth c T [] 0 0 → s.Since s.vm 0 → s.heap = h0 → IB Z s.vm [] → own_GW p e below s Q ce sl (T.setTop (entryFrame m as' maxL))) :
    MetFree l y (head1 (Jvm.Cond.code y bytes maxL ret :: ws) rm) (fun a U => a = as' ∧ Z.Warmed39 U.vm ∧ U.heap = h0 ∧ IB Z U.vm []) (fun _ _ _ _ _ => True) (fun _ U o U' => ∃ v L, o = .returned v ∧ Q v U'.heap L ∧ ReturnedEndW U o U' L ce sl) := by
  refine MetFree.of_bodySF hp hisR ?_
  intro p e s m args below meth c s₁ Bd hml0 hP hK
  obtain ⟨rfl, hZ, hh, hI⟩ := hP
  exact body p e s m below meth c s₁ Bd.exec Bd.bytes hml0 (findClass_of_methodNamed Bd.named) (name_of_methodNamed Bd.named Bd.method).1 Bd.returns Bd.notSynchronized hZ (by rw [← hh, Bd.state]; rfl) (Stand.of_body Bd) ((State.WarmedH.refl s).since 0) hh hI
theorem own_backI {y : MethodName} {bytes : ByteArray} {maxL : Nat} {ret : Option FieldType} {rm : Room} {len W : Nat} {as' : Array Value} {Q : Option Value → Heap → List Loc → Prop}
    (hM : MetFree l y (head1 [Jvm.Cond.code y bytes maxL ret] rm) (fun a U => a = as' ∧ Z.Warmed39 U.vm ∧ U.heap = h ∧ IB Z U.vm []) (fun _ _ _ _ _ => True) (fun _ U o U' => ∃ v L, o = .returned v ∧ Q v U'.heap L ∧ ReturnedEndW U o U' L rm.cells rm.slots))
    (hZ : Z.Warmed39 s.vm) (hI : IB Z s.vm []) (wc : (Jvm.Cond.code y bytes maxL ret).before a0 Z = true) (wz : (Jvm.Cond.initialized y.cls).before a0 Z = true) (hf : rm.frames + 1 ≤ R.frames) (hl : W + (maxL + 11) + rm.locals ≤ R.locals) :
    BackS l R p e below s args y len W (fun A a => a = as' ∧ A.U.heap = h ∧ A.cells + rm.cells ≤ R.cells ∧ A.slots + rm.slots ≤ R.slots)
      (fun A _ v B => ∃ L, Q v B.U.heap L ∧ B.locs = A.locs ++ L ∧ B.cells = A.cells + rm.cells ∧ B.slots = A.slots + rm.slots) := by
  refine BackS.of_freeW (bytes := bytes) (maxL := maxL) (ret := ret) (E := fun _ _ o t L k n => k = rm.cells ∧ n = rm.slots ∧ ∃ v, o = .returned v ∧ Q v t.heap L) hM hf hl ?_ ?_ (fun _ _ _ _ _ _ _ _ _ => trivial) ?_ ?_
  · intro m meth c A a Y hp
    have hU : Z.Warmed39 A.U.vm := wtrans hZ Y.warmed
    exact ⟨by show (Jvm.Cond.and _ .tt).before a A.U = true; rw [Cond.before_and, mv hU wc]; rfl, mv hU wc, mv hU wz, hp.2.2.1, hp.2.2.2⟩
  · intro m meth c A a g mk Y hp
    exact ⟨hp.1, wtrans hZ Y.warmed, hp.2.1, own_IB hI Y.warmed⟩
  · rintro _ _ _ _ ⟨v, L, h1, h2, h3⟩
    exact ⟨L, _, _, h3, rfl, rfl, v, h1, h2⟩
  · intro m meth c A a g mk v t L k n Y hp _ _ hE
    obtain ⟨e1, e2, v', e3, e4⟩ := hE
    cases e3
    subst e1 e2
    exact ⟨L, e4, rfl, rfl, rfl⟩
theorem own_callVI (X : Stand p l e R (s.setVm vm0) m args below meth c T locs cells slots) (hx : p.tables.exec = Jvm.exec) (hZ : Z.Warmed39 (s.setVm vm0).vm) (hS : s.Since vm0 k0) (hI : IB Z (s.setVm vm0).vm []) {own C : String} {index : Nat} {y z : MethodName} {bytes : ByteArray} {maxL : Nat} {ret : Option FieldType} {rm : Room} {Q : Option Value → Heap → List Loc → Prop} {a : Addr} {argsL rest : List Value} (W : Nat)
    (hown : (s.setVm vm0).vm.findClass own = some m.cls) (wl : (Jvm.Cond.methodLink own index y).before a0 Z = true) (wd : (Jvm.Cond.declares y).before a0 Z = true) (hnf : NotFace (s.setVm vm0) y) (wsel : (Jvm.Cond.selects C y z).before a0 Z = true) (wi : (Jvm.Cond.instanceMethod z).before a0 Z = true) (wz : (Jvm.Cond.initialized z.cls).before a0 Z = true) (wc : (Jvm.Cond.code z bytes maxL ret).before a0 Z = true) (hy : y.cls ≠ "java/lang/invoke/MethodHandle" ∧ y.cls ≠ "java/lang/invoke/VarHandle")
    (hM : MetFree l z (head1 [Jvm.Cond.code z bytes maxL ret] rm) (fun b U => b = (Value.ref a :: argsL).toArray ∧ Z.Warmed39 U.vm ∧ U.heap = h ∧ IB Z U.vm []) (fun _ _ _ _ _ => True) (fun _ U o U' => ∃ v L, o = .returned v ∧ Q v U'.heap L ∧ ReturnedEndW U o U' L rm.cells rm.slots))
    (hf : rm.frames + 1 ≤ R.frames) (hl : W + (maxL + 11) + rm.locals ≤ R.locals) (eT : T.heap = h) (hk : k0 ≤ h.size) (E : Exa Z h a C) {g : JFrame} (hg : g.method = m) (hsize : g.locals.size = c.maxLocals) {ps : List FieldType} {r : Option FieldType} (hpd : parseMethodDescriptor y.desc = some ⟨ps, r⟩) (hlen : argsL.length = ps.length)
    (hstack : g.stack = argsL.reverse ++ .ref a :: rest) (hW : 2 * g.monitorRoom + (rest.map fun v => v.category).sum ≤ W) (hdg : decode c.code g.pc = .ok (.invokevirtual index, 3)) (hc : cells + rm.cells ≤ R.cells) (hs : slots + rm.slots ≤ R.slots) :
    ∃ v T' L, Stand p l e R (s.setVm T'.vm) m args below meth c T' (locs ++ L) (cells + rm.cells) (slots + rm.slots) ∧ Q v T'.heap L ∧ s.Since T'.vm T'.heap.size ∧ Z.Warmed39 (s.setVm T'.vm).vm ∧ (s.setVm T'.vm).vm.findClass own = some m.cls ∧ ∀ t, Steps p.tables e below (T'.setTop { g with pc := g.pc + 3, stack := v.toList ++ rest }) t → Steps p.tables e below (T.setTop g) t := by
  obtain ⟨cq, kq, qa, qb, qc⟩ := isOf hZ eT E
  obtain ⟨v, _, ⟨T', L', k', n'⟩, -, X', h2, gr, ⟨L, hQ, l1, y1, z1⟩, st⟩ := X.virtualBackS hx (y := y) (z := z) hown (mvT hZ wl) (mvT hZ wd) hnf (mvT hZ wsel) (mvT hZ wi) hy (own_backI (W := W) hM hZ hI wc wz hf hl) qa qc hg hsize (Steps.refl _) (lenOf hpd hlen) hstack hW hdg (fun _ _ => ⟨rfl, eT, hc, hs⟩)
  dsimp only [Pt.U, Pt.locs, Pt.cells, Pt.slots] at X' l1 y1 z1 st hQ h2 gr
  subst l1 y1 z1
  obtain ⟨X2, S2, Z2, O2⟩ := rebS hS (by rw [← eT] at hk; exact hk) X' h2 gr hZ hown
  exact ⟨v, T', L, X2, hQ, S2, Z2, O2, fun t k => st.trans k⟩
end OwnIb
section OwnChr
variable {p : Program} {l : Launch} {e : Env} {R : Room} {s : State} {m : MethodId} {args : Array Value} {below : List Frame} {meth : Method} {c : Code} {T : State} {locs : List Loc} {cells slots : Nat} {Z : State} {h : Heap} {a : Addr} {n : Nat} {f : Nat → Value}
theorem own_castore (X : Stand p l e R s m args below meth c T locs cells slots) (hx : p.tables.exec = Jvm.exec) (hZ : Z.Warmed39 s.vm) (eT : T.heap = h) (F : own_A Z h a .char n f) {j x : Int32} {i : Nat} (hj : j.toInt = i) (hi : i < n) (v : Int32) (hv : nar .char x = v)
    {g : JFrame} (hg : g.method = m) {rest : List Value} (hs : g.stack = .int x :: .int j :: .ref a :: rest) (hd : decode c.code g.pc = .ok (.castore, 1)) :
    ∃ T' h', Stand p l e R s m args below meth c T' (locs ++ [⟨a, i⟩]) cells slots ∧ T'.heap = h' ∧ Wr h h' a i (.int v) ∧ own_A Z h' a .char n (fun q => if q = i then .int v else f q) ∧ ∀ t, Steps p.tables e below (T'.setTop { g with pc := g.pc + 1, stack := rest }) t → Steps p.tables e below (T.setTop g) t := by
  have F0 := F
  obtain ⟨cl, A, r1, r2⟩ := F
  subst r1
  have q := own_ix hj hi
  obtain ⟨T', h', X', e', W, st⟩ := stC X hx hZ eT A q.1 hg hs hd
  rw [q.2] at X' W
  rw [hv] at W
  exact ⟨T', h', X', e', W, F0.set W (by rw [← hv]; exact fits_nar_char x), st⟩
end OwnChr
def own_green : List Int32 := [103, 114, 101, 101, 110]
def own_red : List Int32 := [114, 101, 100]
theorem own_wN : ∀ d ∈ StrChars.Road.words, d ∈ tables_1 := by decide +kernel
theorem own_wE : ∀ d ∈ StrChars.Road.wordsEq, d ∈ tables_1 := by decide +kernel
abbrev own_by (cs : List Int32) : List Value := (cs.map (fun c => c.toInt8.toInt32)).map Value.int
theorem own_lat (cs : List Int32) (h : cs = own_green ∨ cs = own_red) : (∀ c ∈ cs, ¬ c < 0 ∧ ¬ (255 : Int32) < c) ∧ (∀ c ∈ cs, ¬ c < 0 ∧ ¬ (65535 : Int32) < c) ∧ (∀ c ∈ cs, ¬ 255 < c) ∧ cs.length ≤ 4000 := by
  rcases h with rfl | rfl <;> exact ⟨by decide, by decide, by decide, by decide⟩
theorem own_pn0 : plainFor (⟨"java/lang/Record", "<init>", "()V"⟩ : MethodName) = true := plainFor_of_name (by first | (simp [plainName, overriddenIn]; done) | decide +kernel)
theorem dd_jdk_30m1_0 : decode jdk_30_method_1_code 0 = .ok (.aload_n 0, 1) := by decide +kernel
theorem dd_jdk_30m1_1 : decode jdk_30_method_1_code 1 = .ok (.invokespecial 1, 3) := by decide +kernel
theorem dd_jdk_30m1_4 : decode jdk_30_method_1_code 4 = .ok (.return_, 1) := by decide +kernel
theorem ef_own_rec (m : MethodId) (z0 : Addr) : entryFrame m #[(.ref z0)] 1 = mkF m 0 #[.val (.ref z0)] [] := by first | (simp [entryFrame, mkF, argsToLocals, Value.category]; done) | rfl
def Q_own_rec (Z : State) (a : Addr) (h0 : Heap) (n0 : Nat) (zv : Option Value) (zh : Heap) (zL : List Loc) : Prop := zv = none ∧ Fr n0 zL ∧ zh = h0
set_option maxRecDepth 65536 in
set_option maxHeartbeats 40000000 in
theorem own_rec (l : Launch) (Z : State) (a0 : Array Value) (hw : ∀ d ∈ tables_1, d.before a0 Z = true) (ws : List Jvm.Cond) (a : Addr) (h0 : Heap) (n0 : Nat) (Z0 : n0 ≤ h0.size)  :
    MetFree l (⟨"java/lang/Record", "<init>", "()V"⟩ : MethodName) (head1 (Jvm.Cond.code (⟨"java/lang/Record", "<init>", "()V"⟩ : MethodName) jdk_30_method_1_code 1 none :: ws) ({ frames := 1, cells := 0, slots := 0, locals := 12 } : Room)) (fun za zU => za = #[(.ref a)] ∧ Z.Warmed39 zU.vm ∧ zU.heap = h0) (fun _ _ _ _ _ => True) (fun _ zU zo zU' => ∃ zv zL, zo = .returned zv ∧ Q_own_rec Z a h0 n0 zv zU'.heap zL ∧ FrameEnd zU zo zU' zL ({ frames := 1, cells := 0, slots := 0, locals := 12 } : Room).cells ({ frames := 1, cells := 0, slots := 0, locals := 12 } : Room).slots) := by
  refine own_met (y := (⟨"java/lang/Record", "<init>", "()V"⟩ : MethodName)) own_pn0 ?_
  intro p e s m below meth c T0 hx hby hml hown hnm hret hlk hZ e0 X0
  have N0 := Fr.nil n0
  refine own_st (fun zt zk => castTop (ef_own_rec m a) zk) ?_
  show own_G p e below s _ _ _ (T0.setTop (mkF m 0 #[.val (.ref a)] []))
  refine own_st (fun zt zk => XS.aloadN X0.here hx rfl (hb hby dd_jdk_30m1_0) rfl rfl zk) ?_
  show own_G p e below s _ _ _ (T0.setTop (mkF m 1 #[.val (.ref a)] [(.ref a)]))
  obtain ⟨T1, X1, e1, st1⟩ := initO X0 hx hZ hown (hw _ (List.mem_of_getElem? (i := 41) rfl)) (hw _ (List.mem_of_getElem? (i := 12) rfl)) (hw _ (List.mem_of_getElem? (i := 13) rfl)) e0 (g := (mkF m 1 #[.val (.ref a)] [(.ref a)])) rfl (by rw [hml]; rfl) rfl (hb hby dd_jdk_30m1_1) (by decide) (W := 0) (by show 2 * 0 + _ ≤ _; exact Nat.le_of_eq rfl) (by decide)
  refine own_st st1 ?_
  show own_G p e below s _ _ _ (T1.setTop (mkF m 4 #[.val (.ref a)] []))
  refine own_retV X1 hx hlk hret (hb hby dd_jdk_30m1_4) (by decide) (by decide) ?_
  show Q_own_rec Z a h0 n0 none T1.heap _
  rw [e1]
  exact ⟨rfl, N0, rfl⟩
theorem own_pn1 : plainFor (⟨"com/example/veiled_crown/veiledcrown/engine/Markers", "<init>", "(II)V"⟩ : MethodName) = true := plainFor_of_name (by first | (simp [plainName, overriddenIn]; done) | decide +kernel)
theorem dd_prog_76m1_0 : decode prog_76_method_1_code 0 = .ok (.aload_n 0, 1) := by decide +kernel
theorem dd_prog_76m1_1 : decode prog_76_method_1_code 1 = .ok (.invokespecial 1, 3) := by decide +kernel
theorem own_pd0 : parseMethodDescriptor "()V" = some ⟨[], none⟩ := by decide +kernel
theorem dd_prog_76m1_4 : decode prog_76_method_1_code 4 = .ok (.aload_n 0, 1) := by decide +kernel
theorem dd_prog_76m1_5 : decode prog_76_method_1_code 5 = .ok (.iload_n 1, 1) := by decide +kernel
theorem dd_prog_76m1_6 : decode prog_76_method_1_code 6 = .ok (.putfield 7, 3) := by decide +kernel
theorem dd_prog_76m1_9 : decode prog_76_method_1_code 9 = .ok (.aload_n 0, 1) := by decide +kernel
theorem dd_prog_76m1_10 : decode prog_76_method_1_code 10 = .ok (.iload_n 2, 1) := by decide +kernel
theorem dd_prog_76m1_11 : decode prog_76_method_1_code 11 = .ok (.putfield 13, 3) := by decide +kernel
theorem dd_prog_76m1_14 : decode prog_76_method_1_code 14 = .ok (.return_, 1) := by decide +kernel
theorem ef_own_mki (m : MethodId) (z0 : Addr) (z1 : Int32) (z2 : Int32) : entryFrame m #[(.ref z0), (.int z1), (.int z2)] 3 = mkF m 0 #[.val (.ref z0), .val (.int z1), .val (.int z2)] [] := by first | (simp [entryFrame, mkF, argsToLocals, Value.category]; done) | rfl
def Q_own_mki (Z : State) (a : Addr) (gr : Int32) (rd : Int32) (h0 : Heap) (n0 : Nat) (zv : Option Value) (zh : Heap) (zL : List Loc) : Prop := zv = none ∧ Fr n0 zL ∧ Keep h0 zh [a] ∧ Fld Z zh a "com/example/veiled_crown/veiledcrown/engine/Markers" "green" "I" (.int gr) ∧ Fld Z zh a "com/example/veiled_crown/veiledcrown/engine/Markers" "red" "I" (.int rd)
set_option maxRecDepth 65536 in
set_option maxHeartbeats 40000000 in
theorem own_mki (l : Launch) (Z : State) (a0 : Array Value) (hw : ∀ d ∈ tables_1, d.before a0 Z = true) (ws : List Jvm.Cond) (a : Addr) (gr : Int32) (rd : Int32) (h0 : Heap) (n0 : Nat) (Z0 : n0 ≤ h0.size) (p0_ : Exa Z h0 a "com/example/veiled_crown/veiledcrown/engine/Markers") (p1_ : Fld Z h0 a "com/example/veiled_crown/veiledcrown/engine/Markers" "green" "I" (.int (0 : Int32))) (p2_ : Fld Z h0 a "com/example/veiled_crown/veiledcrown/engine/Markers" "red" "I" (.int (0 : Int32))) (p3_ : n0 ≤ a) :
    MetFree l (⟨"com/example/veiled_crown/veiledcrown/engine/Markers", "<init>", "(II)V"⟩ : MethodName) (head1 (Jvm.Cond.code (⟨"com/example/veiled_crown/veiledcrown/engine/Markers", "<init>", "(II)V"⟩ : MethodName) prog_76_method_1_code 3 none :: ws) ({ frames := 2, cells := 0, slots := 0, locals := 24 } : Room)) (fun za zU => za = #[(.ref a), (.int gr), (.int rd)] ∧ Z.Warmed39 zU.vm ∧ zU.heap = h0) (fun _ _ _ _ _ => True) (fun _ zU zo zU' => ∃ zv zL, zo = .returned zv ∧ Q_own_mki Z a gr rd h0 n0 zv zU'.heap zL ∧ FrameEnd zU zo zU' zL ({ frames := 2, cells := 0, slots := 0, locals := 24 } : Room).cells ({ frames := 2, cells := 0, slots := 0, locals := 24 } : Room).slots) := by
  refine own_met (y := (⟨"com/example/veiled_crown/veiledcrown/engine/Markers", "<init>", "(II)V"⟩ : MethodName)) own_pn1 ?_
  intro p e s m below meth c T0 hx hby hml hown hnm hret hlk hZ e0 X0
  have N0 := Fr.nil n0
  refine own_st (fun zt zk => castTop (ef_own_mki m a gr rd) zk) ?_
  show own_G p e below s _ _ _ (T0.setTop (mkF m 0 #[.val (.ref a), .val (.int gr), .val (.int rd)] []))
  refine own_st (fun zt zk => XS.aloadN X0.here hx rfl (hb hby dd_prog_76m1_0) rfl rfl zk) ?_
  show own_G p e below s _ _ _ (T0.setTop (mkF m 1 #[.val (.ref a), .val (.int gr), .val (.int rd)] [(.ref a)]))
  obtain ⟨_, T1, L1, X1, hQ1, st1⟩ := own_callI X0 hx hZ (y := (⟨"java/lang/Record", "<init>", "()V"⟩ : MethodName)) (a := a) (argsL := []) (rest := []) 0 rfl hown (hw _ (List.mem_of_getElem? (i := 36) rfl)) (hw _ (List.mem_of_getElem? (i := 37) rfl)) (hw _ (List.mem_of_getElem? (i := 39) rfl)) (hw _ (List.mem_of_getElem? (i := 40) rfl)) (by decide) (own_rec l Z a0 hw [] a h0 n0 Z0 ) (by decide) (by decide) e0 (g := (mkF m 1 #[.val (.ref a), .val (.int gr), .val (.int rd)] [(.ref a)])) rfl (by rw [hml]; rfl) own_pd0 rfl rfl (by show 2 * 0 + _ ≤ _; exact Nat.le_of_eq rfl) (hb hby dd_prog_76m1_1) (by decide) (by decide)
  obtain ⟨rfl, N1q, e1⟩ := hQ1
  have N1 := Fr.app N0 N1q
  refine own_st st1 ?_
  show own_G p e below s _ _ _ (T1.setTop (mkF m 4 #[.val (.ref a), .val (.int gr), .val (.int rd)] []))
  refine own_st (fun zt zk => XS.aloadN X1.here hx rfl (hb hby dd_prog_76m1_4) rfl rfl zk) ?_
  show own_G p e below s _ _ _ (T1.setTop (mkF m 5 #[.val (.ref a), .val (.int gr), .val (.int rd)] [(.ref a)]))
  refine own_st (fun zt zk => XS.iloadN X1.here hx rfl (hb hby dd_prog_76m1_5) rfl zk) ?_
  show own_G p e below s _ _ _ (T1.setTop (mkF m 6 #[.val (.ref a), .val (.int gr), .val (.int rd)] [(.int gr), (.ref a)]))
  obtain ⟨T2, h2, X2, e2, W2, st2⟩ := putF X1 hx hZ hown (host := "") (Or.inl (hw _ (List.mem_of_getElem? (i := 42) rfl))) Via.refl e1 p1_ p0_ (Or.inr ⟨(hw _ (List.mem_of_getElem? (i := 43) rfl)), rfl, hnm⟩) (hw _ (List.mem_of_getElem? (i := 31) rfl)) (ty := .int) (by decide) rfl rfl (g := (mkF m 6 #[.val (.ref a), .val (.int gr), .val (.int rd)] [(.int gr), (.ref a)])) rfl rfl (hb hby dd_prog_76m1_6)
  refine own_st st2 ?_
  have N2 := Fr.snoc X2 N1 p3_
  show own_G p e below s _ _ _ (T2.setTop (mkF m 9 #[.val (.ref a), .val (.int gr), .val (.int rd)] []))
  refine own_st (fun zt zk => XS.aloadN X2.here hx rfl (hb hby dd_prog_76m1_9) rfl rfl zk) ?_
  show own_G p e below s _ _ _ (T2.setTop (mkF m 10 #[.val (.ref a), .val (.int gr), .val (.int rd)] [(.ref a)]))
  refine own_st (fun zt zk => XS.iloadN X2.here hx rfl (hb hby dd_prog_76m1_10) rfl zk) ?_
  show own_G p e below s _ _ _ (T2.setTop (mkF m 11 #[.val (.ref a), .val (.int gr), .val (.int rd)] [(.int rd), (.ref a)]))
  have F3 : Fld Z h2 a "com/example/veiled_crown/veiledcrown/engine/Markers" "red" "I" (.int (0 : Int32)) := (Fld.other W2 p2_ (Or.inr (slot_ne (Or.inr (hw _ (List.mem_of_getElem? (i := 45) rfl))) (Or.inr (hw _ (List.mem_of_getElem? (i := 43) rfl))) (by decide) (t := .int) (t' := .int) (by decide) (by decide))))
  have E4 : Exa Z h2 a "com/example/veiled_crown/veiledcrown/engine/Markers" := (p0_.wr W2)
  obtain ⟨T5, h5, X5, e5, W5, st5⟩ := putF X2 hx hZ hown (host := "") (Or.inl (hw _ (List.mem_of_getElem? (i := 44) rfl))) Via.refl e2 F3 E4 (Or.inr ⟨(hw _ (List.mem_of_getElem? (i := 45) rfl)), rfl, hnm⟩) (hw _ (List.mem_of_getElem? (i := 31) rfl)) (ty := .int) (by decide) rfl rfl (g := (mkF m 11 #[.val (.ref a), .val (.int gr), .val (.int rd)] [(.int rd), (.ref a)])) rfl rfl (hb hby dd_prog_76m1_11)
  refine own_st st5 ?_
  have N5 := Fr.snoc X5 N2 p3_
  show own_G p e below s _ _ _ (T5.setTop (mkF m 14 #[.val (.ref a), .val (.int gr), .val (.int rd)] []))
  have F6 : Fld Z h5 a "com/example/veiled_crown/veiledcrown/engine/Markers" "green" "I" (.int gr) := (Fld.other W5 (Fld.same W2 p1_) (Or.inr (slot_ne (Or.inr (hw _ (List.mem_of_getElem? (i := 43) rfl))) (Or.inr (hw _ (List.mem_of_getElem? (i := 45) rfl))) (by decide) (t := .int) (t' := .int) (by decide) (by decide))))
  have F7 : Fld Z h5 a "com/example/veiled_crown/veiledcrown/engine/Markers" "red" "I" (.int rd) := (Fld.same W5 F3)
  refine own_retV X5 hx hlk hret (hb hby dd_prog_76m1_14) (by decide) (by decide) ?_
  show Q_own_mki Z a gr rd h0 n0 none T5.heap _
  rw [e5]
  exact ⟨rfl, N5, (((Keep.refl _ _).wr W2 (Or.inl (List.mem_of_getElem? (i := 0) rfl))).wr W5 (Or.inl (List.mem_of_getElem? (i := 0) rfl))), F6, F7⟩
theorem own_pn2 : plainFor (⟨"com/example/veiled_crown/veiledcrown/engine/Markers", "leads", "(Ljava/lang/String;)Z"⟩ : MethodName) = true := plainFor_of_name (by first | (simp [plainName, overriddenIn]; done) | decide +kernel)
theorem dd_prog_76m3_0 : decode prog_76_method_3_code 0 = .ok (.aload_n 0, 1) := by decide +kernel
theorem dd_prog_76m3_1 : decode prog_76_method_3_code 1 = .ok (.getfield 7, 3) := by decide +kernel
theorem dd_prog_76m3_4 : decode prog_76_method_3_code 4 = .ok (.aload_n 0, 1) := by decide +kernel
theorem dd_prog_76m3_5 : decode prog_76_method_3_code 5 = .ok (.getfield 13, 3) := by decide +kernel
theorem dd_prog_76m3_8 : decode prog_76_method_3_code 8 = .ok (.if_icmp .eq 32, 3) := by decide +kernel
theorem dd_prog_76m3_40 : decode prog_76_method_3_code 40 = .ok (.iconst 0, 1) := by decide +kernel
theorem dd_prog_76m3_41 : decode prog_76_method_3_code 41 = .ok (.ireturn, 1) := by decide +kernel
theorem dd_prog_76m3_11 : decode prog_76_method_3_code 11 = .ok (.aload_n 0, 1) := by decide +kernel
theorem dd_prog_76m3_12 : decode prog_76_method_3_code 12 = .ok (.getfield 7, 3) := by decide +kernel
theorem dd_prog_76m3_15 : decode prog_76_method_3_code 15 = .ok (.aload_n 0, 1) := by decide +kernel
theorem dd_prog_76m3_16 : decode prog_76_method_3_code 16 = .ok (.getfield 13, 3) := by decide +kernel
theorem dd_prog_76m3_19 : decode prog_76_method_3_code 19 = .ok (.if_icmp .le 7, 3) := by decide +kernel
theorem dd_prog_76m3_22 : decode prog_76_method_3_code 22 = .ok (.iconst 1, 1) := by decide +kernel
theorem dd_prog_76m3_23 : decode prog_76_method_3_code 23 = .ok (.goto 4, 3) := by decide +kernel
theorem dd_prog_76m3_27 : decode prog_76_method_3_code 27 = .ok (.aload_n 1, 1) := by decide +kernel
theorem dd_prog_76m3_28 : decode prog_76_method_3_code 28 = .ok (.ldc 22, 2) := by decide +kernel
theorem dd_prog_76m3_30 : decode prog_76_method_3_code 30 = .ok (.invokevirtual 28, 3) := by decide +kernel
theorem own_pd1 : parseMethodDescriptor "(Ljava/lang/Object;)Z" = some ⟨[(.object "java/lang/Object")], some .boolean⟩ := by decide +kernel
theorem dd_prog_76m3_33 : decode prog_76_method_3_code 33 = .ok (.if_icmp .ne 7, 3) := by decide +kernel
theorem dd_prog_76m3_36 : decode prog_76_method_3_code 36 = .ok (.iconst 1, 1) := by decide +kernel
theorem dd_prog_76m3_37 : decode prog_76_method_3_code 37 = .ok (.goto 4, 3) := by decide +kernel
theorem dd_prog_76m3_26 : decode prog_76_method_3_code 26 = .ok (.iconst 0, 1) := by decide +kernel
theorem ef_own_lds (m : MethodId) (z0 : Addr) (z1 : Addr) : entryFrame m #[(.ref z0), (.ref z1)] 2 = mkF m 0 #[.val (.ref z0), .val (.ref z1)] [] := by first | (simp [entryFrame, mkF, argsToLocals, Value.category]; done) | rfl
def Q_own_lds (Z : State) (a : Addr) (x : Addr) (t : Addr) (gr : Int32) (rd : Int32) (zz : Int32) (kb : ClassId) (N : Int32) (cs : List Int32) (h0 : Heap) (n0 : Nat) (zv : Option Value) (zh : Heap) (zL : List Loc) : Prop := zv = some (.int (own_b (¬ (gr = rd) ∧ ((rd < gr) ↔ (cs = own_green))))) ∧ Fr n0 zL ∧ Keep h0 zh []
set_option maxRecDepth 65536 in
set_option maxHeartbeats 40000000 in
theorem own_lds (l : Launch) (Z : State) (a0 : Array Value) (hw : ∀ d ∈ tables_1, d.before a0 Z = true) (ws : List Jvm.Cond) (a : Addr) (x : Addr) (t : Addr) (gr : Int32) (rd : Int32) (zz : Int32) (kb : ClassId) (N : Int32) (cs : List Int32) (h0 : Heap) (n0 : Nat) (Z0 : n0 ≤ h0.size) (p0_ : Exa Z h0 x "java/lang/String") (p1_ : Fld Z h0 x "java/lang/String" "value" "[B" (.ref t)) (p2_ : Fld Z h0 x "java/lang/String" "coder" "B" (.int (0 : Int32))) (p3_ : Arv Z h0 t kb .byte N (own_by cs) (.int 0)) (p4_ : Fld Z h0 a "com/example/veiled_crown/veiledcrown/engine/Markers" "green" "I" (.int gr)) (p5_ : Fld Z h0 a "com/example/veiled_crown/veiledcrown/engine/Markers" "red" "I" (.int rd)) (p6_ : Sta Z Z.heap "java/lang/String" "COMPACT_STRINGS" "Z" (.int zz)) (p7_ : Old Z n0 h0) (p8_ : ¬ zz = 0) (p9_ : Jvm.Lit.constHeld Z "com/example/veiled_crown/veiledcrown/engine/Markers" 22) (p10_ : Jvm.Lit.compactW.before a0 Z = true) (p11_ : N = Int32.ofNat cs.length) (p12_ : cs = own_green ∨ cs = own_red) :
    MetFree l (⟨"com/example/veiled_crown/veiledcrown/engine/Markers", "leads", "(Ljava/lang/String;)Z"⟩ : MethodName) (head1 (Jvm.Cond.code (⟨"com/example/veiled_crown/veiledcrown/engine/Markers", "leads", "(Ljava/lang/String;)Z"⟩ : MethodName) prog_76_method_3_code 2 (some .boolean) :: ws) ({ frames := 2, cells := 2, slots := 24, locals := 29 } : Room)) (fun za zU => za = #[(.ref a), (.ref x)] ∧ Z.Warmed39 zU.vm ∧ zU.heap = h0 ∧ IB Z zU.vm []) (fun _ _ _ _ _ => True) (fun _ zU zo zU' => ∃ zv zL, zo = .returned zv ∧ Q_own_lds Z a x t gr rd zz kb N cs h0 n0 zv zU'.heap zL ∧ ReturnedEndW zU zo zU' zL ({ frames := 2, cells := 2, slots := 24, locals := 29 } : Room).cells ({ frames := 2, cells := 2, slots := 24, locals := 29 } : Room).slots) := by
  refine own_metI (y := (⟨"com/example/veiled_crown/veiledcrown/engine/Markers", "leads", "(Ljava/lang/String;)Z"⟩ : MethodName)) own_pn2 ?_
  intro p e s m below meth c T0 hx hby hml hown hnm hret hlk hZ e0 X0 hS hsh hI
  have N0 := Fr.nil n0
  refine own_stW (fun zt zk => castTop (ef_own_lds m a x) zk) ?_
  show own_GW p e below s _ _ _ (T0.setTop (mkF m 0 #[.val (.ref a), .val (.ref x)] []))
  refine own_stW (fun zt zk => XS.aloadN X0.here hx rfl (hb hby dd_prog_76m3_0) rfl rfl zk) ?_
  show own_GW p e below s _ _ _ (T0.setTop (mkF m 1 #[.val (.ref a), .val (.ref x)] [(.ref a)]))
  obtain ⟨T1, X1, e1, st1⟩ := getF X0 hx hZ hown (host := "") (Or.inl (hw _ (List.mem_of_getElem? (i := 42) rfl))) Via.refl e0 p4_ (g := (mkF m 1 #[.val (.ref a), .val (.ref x)] [(.ref a)])) rfl rfl (hb hby dd_prog_76m3_1)
  refine own_stW st1 ?_
  show own_GW p e below s _ _ _ (T1.setTop (mkF m 4 #[.val (.ref a), .val (.ref x)] [(.int gr)]))
  refine own_stW (fun zt zk => XS.aloadN X1.here hx rfl (hb hby dd_prog_76m3_4) rfl rfl zk) ?_
  show own_GW p e below s _ _ _ (T1.setTop (mkF m 5 #[.val (.ref a), .val (.ref x)] [(.ref a), (.int gr)]))
  obtain ⟨T2, X2, e2, st2⟩ := getF X1 hx hZ hown (host := "") (Or.inl (hw _ (List.mem_of_getElem? (i := 44) rfl))) Via.refl e1 p5_ (g := (mkF m 5 #[.val (.ref a), .val (.ref x)] [(.ref a), (.int gr)])) rfl rfl (hb hby dd_prog_76m3_5)
  refine own_stW st2 ?_
  show own_GW p e below s _ _ _ (T2.setTop (mkF m 8 #[.val (.ref a), .val (.ref x)] [(.int rd), (.int gr)]))
  by_cases hc8_3 : gr = rd
  · refine own_stW (fun zt zk => XS.icmpYes X2.here hx rfl (pc0 := 8) (pc' := 40) rfl (hb hby dd_prog_76m3_8) rfl (teq hc8_3).1 (by decide) (by decide) zk) ?_
    show own_GW p e below s _ _ _ (T2.setTop (mkF m 40 #[.val (.ref a), .val (.ref x)] []))
    refine own_stW (fun zt zk => XS.iconst X2.here hx rfl (hb hby dd_prog_76m3_40) zk) ?_
    show own_GW p e below s _ _ _ (T2.setTop (mkF m 41 #[.val (.ref a), .val (.ref x)] [(.int (0 : Int32))]))
    refine own_retZW X2 hx hlk hS (by rw [e2]; exact (Nat.zero_le _)) hret (by decide) (hb hby dd_prog_76m3_41) (by decide) (by decide) ?_
    show Q_own_lds Z a x t gr rd zz kb N cs h0 n0 (some (.int (0 : Int32))) T2.heap _
    rw [e2]
    exact ⟨(by simp [own_b, hc8_3]), N0, (Keep.refl _ _)⟩
  · refine own_stW (fun zt zk => XS.icmpNo X2.here hx rfl (hb hby dd_prog_76m3_8) rfl (feq hc8_3).1 zk) ?_
    show own_GW p e below s _ _ _ (T2.setTop (mkF m 11 #[.val (.ref a), .val (.ref x)] []))
    refine own_stW (fun zt zk => XS.aloadN X2.here hx rfl (hb hby dd_prog_76m3_11) rfl rfl zk) ?_
    show own_GW p e below s _ _ _ (T2.setTop (mkF m 12 #[.val (.ref a), .val (.ref x)] [(.ref a)]))
    obtain ⟨T4, X4, e4, st4⟩ := getF X2 hx hZ hown (host := "") (Or.inl (hw _ (List.mem_of_getElem? (i := 42) rfl))) Via.refl e2 p4_ (g := (mkF m 12 #[.val (.ref a), .val (.ref x)] [(.ref a)])) rfl rfl (hb hby dd_prog_76m3_12)
    refine own_stW st4 ?_
    show own_GW p e below s _ _ _ (T4.setTop (mkF m 15 #[.val (.ref a), .val (.ref x)] [(.int gr)]))
    refine own_stW (fun zt zk => XS.aloadN X4.here hx rfl (hb hby dd_prog_76m3_15) rfl rfl zk) ?_
    show own_GW p e below s _ _ _ (T4.setTop (mkF m 16 #[.val (.ref a), .val (.ref x)] [(.ref a), (.int gr)]))
    obtain ⟨T5, X5, e5, st5⟩ := getF X4 hx hZ hown (host := "") (Or.inl (hw _ (List.mem_of_getElem? (i := 44) rfl))) Via.refl e4 p5_ (g := (mkF m 16 #[.val (.ref a), .val (.ref x)] [(.ref a), (.int gr)])) rfl rfl (hb hby dd_prog_76m3_16)
    refine own_stW st5 ?_
    show own_GW p e below s _ _ _ (T5.setTop (mkF m 19 #[.val (.ref a), .val (.ref x)] [(.int rd), (.int gr)]))
    by_cases hc19_6 : rd < gr
    · refine own_stW (fun zt zk => XS.icmpNo X5.here hx rfl (hb hby dd_prog_76m3_19) rfl (tlt hc19_6).2.2.2 zk) ?_
      show own_GW p e below s _ _ _ (T5.setTop (mkF m 22 #[.val (.ref a), .val (.ref x)] []))
      refine own_stW (fun zt zk => XS.iconst X5.here hx rfl (hb hby dd_prog_76m3_22) zk) ?_
      show own_GW p e below s _ _ _ (T5.setTop (mkF m 23 #[.val (.ref a), .val (.ref x)] [(.int (1 : Int32))]))
      refine own_stW (fun zt zk => XS.goto X5.here hx rfl (pc0 := 23) (pc' := 27) rfl (hb hby dd_prog_76m3_23) (by decide) (by decide) zk) ?_
      show own_GW p e below s _ _ _ (T5.setTop (mkF m 27 #[.val (.ref a), .val (.ref x)] [(.int (1 : Int32))]))
      refine own_stW (fun zt zk => XS.aloadN X5.here hx rfl (hb hby dd_prog_76m3_27) rfl rfl zk) ?_
      show own_GW p e below s _ _ _ (T5.setTop (mkF m 28 #[.val (.ref a), .val (.ref x)] [(.ref x), (.int (1 : Int32))]))
      obtain ⟨a7, T7, h7, k7, tb7, kc7, X7, e7, E7, hS, hk7, hZ, hown, Es7, Cs7, Vs7, Ks7, -, -, -, st7⟩ := ldcSV X5 hx hZ hown (hw _ (List.mem_of_getElem? (i := 51) rfl)) (fun d hd => hw d (own_sub d hd)) e5 hS (Nat.zero_le _) (Fr.nil _) (fun b cl q => by rw [hsh]; exact p7_.2.2 b cl q) hI (by simp) p9_ p10_ (vs := own_by own_green) (z := (5 : Int32)) ⟨by decide +kernel, by decide +kernel⟩ (by decide) (by decide) (g := (mkF m 28 #[.val (.ref a), .val (.ref x)] [(.ref x), (.int (1 : Int32))])) rfl (hb hby dd_prog_76m3_28) (n := 20) (by decide +kernel) (by decide) (by decide) (by decide)
      refine own_stW st7 ?_
      show own_GW p e below s _ _ _ (T7.setTop (mkF m 30 #[.val (.ref a), .val (.ref x)] [(.ref a7), (.ref x), (.int (1 : Int32))]))
      have E9 : Exa Z h7 x "java/lang/String" := (p0_.ext E7)
      have F10 : Fld Z h7 x "java/lang/String" "value" "[B" (.ref t) := (p1_.ext E7)
      have F11 : Fld Z h7 x "java/lang/String" "coder" "B" (.int (0 : Int32)) := (p2_.ext E7)
      have V12 : Arv Z h7 t kb .byte N (own_by cs) (.int 0) := (p3_.ext E7)
      have lt_ := own_lat cs p12_
      have cd_ : StrChars.Road.CodA cs 0 N (own_by cs) := by rw [p11_]; exact StrChars.Road.codOf rfl lt_.2.2.1
      have lg_ := own_lat own_green (Or.inl rfl)
      have cg_ : StrChars.Road.CodA own_green 0 (5 : Int32) (own_by own_green) := StrChars.Road.codOf (cs := own_green) (n := 5) rfl lg_.2.2.1
      obtain ⟨_, T8, L8, X8, ⟨hd8, rfl, e8⟩, st8⟩ := own_callVB X7 hx hZ (C := "java/lang/String") (y := (⟨"java/lang/String", "equals", "(Ljava/lang/Object;)Z"⟩ : MethodName)) (z := (⟨"java/lang/String", "equals", "(Ljava/lang/Object;)Z"⟩ : MethodName)) (kc := 0) (ks := 0) (Q := fun v hh L => ((v = some (.int 1) ∧ cs = own_green) ∨ (v = some (.int 0) ∧ ¬ cs = own_green)) ∧ L = [] ∧ hh = h7) (a := x) (argsL := [(.ref a7)]) (rest := [(.int (1 : Int32))]) 1 hown (hw _ (List.mem_of_getElem? (i := 54) rfl)) (hw _ (List.mem_of_getElem? (i := 55) rfl)) (own_nf hZ (hw _ (List.mem_of_getElem? (i := 57) rfl))) (hw _ (List.mem_of_getElem? (i := 57) rfl)) (hw _ (List.mem_of_getElem? (i := 56) rfl)) (by decide) (StrChars.Road.eqW hZ (fun d hd => hw d (own_wE d hd)) (hw _ (List.mem_of_getElem? (i := 2) rfl)) E9 F10 F11 V12 cd_ lt_.2.1 lt_.2.2.2 Es7 Vs7 Cs7 Ks7 cg_ lg_.2.1 lg_.2.2.2 (Sta.ext (p7_.ext E7).2 p6_) p8_ (by decide) (by decide)) e7 E9 (g := (mkF m 30 #[.val (.ref a), .val (.ref x)] [(.ref a7), (.ref x), (.int (1 : Int32))])) rfl (by rw [hml]; rfl) own_pd1 rfl rfl (by show 2 * 0 + _ ≤ _; exact Nat.le_of_eq rfl) (hb hby dd_prog_76m3_30) (by decide) (by decide)
      refine own_stW st8 ?_
      have N8 : Fr n0 (_ ++ []) := Fr.app N0 (Fr.nil n0)
      rcases hd8 with ⟨rfl, hcs_⟩ | ⟨rfl, hcs_⟩
      · show own_GW p e below s _ _ _ (T8.setTop (mkF m 33 #[.val (.ref a), .val (.ref x)] [(.int (1 : Int32)), (.int (1 : Int32))]))
        refine own_stW (fun zt zk => XS.icmpNo X8.here hx rfl (hb hby dd_prog_76m3_33) rfl (teq (by decide : (1 : Int32) = (1 : Int32))).2 zk) ?_
        show own_GW p e below s _ _ _ (T8.setTop (mkF m 36 #[.val (.ref a), .val (.ref x)] []))
        refine own_stW (fun zt zk => XS.iconst X8.here hx rfl (hb hby dd_prog_76m3_36) zk) ?_
        show own_GW p e below s _ _ _ (T8.setTop (mkF m 37 #[.val (.ref a), .val (.ref x)] [(.int (1 : Int32))]))
        refine own_stW (fun zt zk => XS.goto X8.here hx rfl (pc0 := 37) (pc' := 41) rfl (hb hby dd_prog_76m3_37) (by decide) (by decide) zk) ?_
        show own_GW p e below s _ _ _ (T8.setTop (mkF m 41 #[.val (.ref a), .val (.ref x)] [(.int (1 : Int32))]))
        refine own_retZW X8 hx hlk hS (by rw [e8]; exact hk7) hret (by decide) (hb hby dd_prog_76m3_41) (by decide) (by decide) ?_
        show Q_own_lds Z a x t gr rd zz kb N cs h0 n0 (some (.int (1 : Int32))) T8.heap _
        rw [e8]
        exact ⟨(by simp [own_b, hc8_3, hc19_6, hcs_]), N8, ((Keep.refl _ _).ext E7)⟩
      · show own_GW p e below s _ _ _ (T8.setTop (mkF m 33 #[.val (.ref a), .val (.ref x)] [(.int (0 : Int32)), (.int (1 : Int32))]))
        refine own_stW (fun zt zk => XS.icmpYes X8.here hx rfl (pc0 := 33) (pc' := 40) rfl (hb hby dd_prog_76m3_33) rfl (feq (by decide : ¬ ((1 : Int32) = (0 : Int32)))).2 (by decide) (by decide) zk) ?_
        show own_GW p e below s _ _ _ (T8.setTop (mkF m 40 #[.val (.ref a), .val (.ref x)] []))
        refine own_stW (fun zt zk => XS.iconst X8.here hx rfl (hb hby dd_prog_76m3_40) zk) ?_
        show own_GW p e below s _ _ _ (T8.setTop (mkF m 41 #[.val (.ref a), .val (.ref x)] [(.int (0 : Int32))]))
        refine own_retZW X8 hx hlk hS (by rw [e8]; exact hk7) hret (by decide) (hb hby dd_prog_76m3_41) (by decide) (by decide) ?_
        show Q_own_lds Z a x t gr rd zz kb N cs h0 n0 (some (.int (0 : Int32))) T8.heap _
        rw [e8]
        exact ⟨(by simp [own_b, hc8_3, hc19_6, hcs_]), N8, ((Keep.refl _ _).ext E7)⟩
    · refine own_stW (fun zt zk => XS.icmpYes X5.here hx rfl (pc0 := 19) (pc' := 26) rfl (hb hby dd_prog_76m3_19) rfl (flt hc19_6).2.2.2 (by decide) (by decide) zk) ?_
      show own_GW p e below s _ _ _ (T5.setTop (mkF m 26 #[.val (.ref a), .val (.ref x)] []))
      refine own_stW (fun zt zk => XS.iconst X5.here hx rfl (hb hby dd_prog_76m3_26) zk) ?_
      show own_GW p e below s _ _ _ (T5.setTop (mkF m 27 #[.val (.ref a), .val (.ref x)] [(.int (0 : Int32))]))
      refine own_stW (fun zt zk => XS.aloadN X5.here hx rfl (hb hby dd_prog_76m3_27) rfl rfl zk) ?_
      show own_GW p e below s _ _ _ (T5.setTop (mkF m 28 #[.val (.ref a), .val (.ref x)] [(.ref x), (.int (0 : Int32))]))
      obtain ⟨a13, T13, h13, k13, tb13, kc13, X13, e13, E13, hS, hk13, hZ, hown, Es13, Cs13, Vs13, Ks13, -, -, -, st13⟩ := ldcSV X5 hx hZ hown (hw _ (List.mem_of_getElem? (i := 51) rfl)) (fun d hd => hw d (own_sub d hd)) e5 hS (Nat.zero_le _) (Fr.nil _) (fun b cl q => by rw [hsh]; exact p7_.2.2 b cl q) hI (by simp) p9_ p10_ (vs := own_by own_green) (z := (5 : Int32)) ⟨by decide +kernel, by decide +kernel⟩ (by decide) (by decide) (g := (mkF m 28 #[.val (.ref a), .val (.ref x)] [(.ref x), (.int (0 : Int32))])) rfl (hb hby dd_prog_76m3_28) (n := 20) (by decide +kernel) (by decide) (by decide) (by decide)
      refine own_stW st13 ?_
      show own_GW p e below s _ _ _ (T13.setTop (mkF m 30 #[.val (.ref a), .val (.ref x)] [(.ref a13), (.ref x), (.int (0 : Int32))]))
      have E15 : Exa Z h13 x "java/lang/String" := (p0_.ext E13)
      have F16 : Fld Z h13 x "java/lang/String" "value" "[B" (.ref t) := (p1_.ext E13)
      have F17 : Fld Z h13 x "java/lang/String" "coder" "B" (.int (0 : Int32)) := (p2_.ext E13)
      have V18 : Arv Z h13 t kb .byte N (own_by cs) (.int 0) := (p3_.ext E13)
      have lt_ := own_lat cs p12_
      have cd_ : StrChars.Road.CodA cs 0 N (own_by cs) := by rw [p11_]; exact StrChars.Road.codOf rfl lt_.2.2.1
      have lg_ := own_lat own_green (Or.inl rfl)
      have cg_ : StrChars.Road.CodA own_green 0 (5 : Int32) (own_by own_green) := StrChars.Road.codOf (cs := own_green) (n := 5) rfl lg_.2.2.1
      obtain ⟨_, T14, L14, X14, ⟨hd14, rfl, e14⟩, st14⟩ := own_callVB X13 hx hZ (C := "java/lang/String") (y := (⟨"java/lang/String", "equals", "(Ljava/lang/Object;)Z"⟩ : MethodName)) (z := (⟨"java/lang/String", "equals", "(Ljava/lang/Object;)Z"⟩ : MethodName)) (kc := 0) (ks := 0) (Q := fun v hh L => ((v = some (.int 1) ∧ cs = own_green) ∨ (v = some (.int 0) ∧ ¬ cs = own_green)) ∧ L = [] ∧ hh = h13) (a := x) (argsL := [(.ref a13)]) (rest := [(.int (0 : Int32))]) 1 hown (hw _ (List.mem_of_getElem? (i := 54) rfl)) (hw _ (List.mem_of_getElem? (i := 55) rfl)) (own_nf hZ (hw _ (List.mem_of_getElem? (i := 57) rfl))) (hw _ (List.mem_of_getElem? (i := 57) rfl)) (hw _ (List.mem_of_getElem? (i := 56) rfl)) (by decide) (StrChars.Road.eqW hZ (fun d hd => hw d (own_wE d hd)) (hw _ (List.mem_of_getElem? (i := 2) rfl)) E15 F16 F17 V18 cd_ lt_.2.1 lt_.2.2.2 Es13 Vs13 Cs13 Ks13 cg_ lg_.2.1 lg_.2.2.2 (Sta.ext (p7_.ext E13).2 p6_) p8_ (by decide) (by decide)) e13 E15 (g := (mkF m 30 #[.val (.ref a), .val (.ref x)] [(.ref a13), (.ref x), (.int (0 : Int32))])) rfl (by rw [hml]; rfl) own_pd1 rfl rfl (by show 2 * 0 + _ ≤ _; exact Nat.le_of_eq rfl) (hb hby dd_prog_76m3_30) (by decide) (by decide)
      refine own_stW st14 ?_
      have N14 : Fr n0 (_ ++ []) := Fr.app N0 (Fr.nil n0)
      rcases hd14 with ⟨rfl, hcs_⟩ | ⟨rfl, hcs_⟩
      · show own_GW p e below s _ _ _ (T14.setTop (mkF m 33 #[.val (.ref a), .val (.ref x)] [(.int (1 : Int32)), (.int (0 : Int32))]))
        refine own_stW (fun zt zk => XS.icmpYes X14.here hx rfl (pc0 := 33) (pc' := 40) rfl (hb hby dd_prog_76m3_33) rfl (feq (by decide : ¬ ((0 : Int32) = (1 : Int32)))).2 (by decide) (by decide) zk) ?_
        show own_GW p e below s _ _ _ (T14.setTop (mkF m 40 #[.val (.ref a), .val (.ref x)] []))
        refine own_stW (fun zt zk => XS.iconst X14.here hx rfl (hb hby dd_prog_76m3_40) zk) ?_
        show own_GW p e below s _ _ _ (T14.setTop (mkF m 41 #[.val (.ref a), .val (.ref x)] [(.int (0 : Int32))]))
        refine own_retZW X14 hx hlk hS (by rw [e14]; exact hk13) hret (by decide) (hb hby dd_prog_76m3_41) (by decide) (by decide) ?_
        show Q_own_lds Z a x t gr rd zz kb N cs h0 n0 (some (.int (0 : Int32))) T14.heap _
        rw [e14]
        exact ⟨(by simp [own_b, hc8_3, hc19_6, hcs_]), N14, ((Keep.refl _ _).ext E13)⟩
      · show own_GW p e below s _ _ _ (T14.setTop (mkF m 33 #[.val (.ref a), .val (.ref x)] [(.int (0 : Int32)), (.int (0 : Int32))]))
        refine own_stW (fun zt zk => XS.icmpNo X14.here hx rfl (hb hby dd_prog_76m3_33) rfl (teq (by decide : (0 : Int32) = (0 : Int32))).2 zk) ?_
        show own_GW p e below s _ _ _ (T14.setTop (mkF m 36 #[.val (.ref a), .val (.ref x)] []))
        refine own_stW (fun zt zk => XS.iconst X14.here hx rfl (hb hby dd_prog_76m3_36) zk) ?_
        show own_GW p e below s _ _ _ (T14.setTop (mkF m 37 #[.val (.ref a), .val (.ref x)] [(.int (1 : Int32))]))
        refine own_stW (fun zt zk => XS.goto X14.here hx rfl (pc0 := 37) (pc' := 41) rfl (hb hby dd_prog_76m3_37) (by decide) (by decide) zk) ?_
        show own_GW p e below s _ _ _ (T14.setTop (mkF m 41 #[.val (.ref a), .val (.ref x)] [(.int (1 : Int32))]))
        refine own_retZW X14 hx hlk hS (by rw [e14]; exact hk13) hret (by decide) (hb hby dd_prog_76m3_41) (by decide) (by decide) ?_
        show Q_own_lds Z a x t gr rd zz kb N cs h0 n0 (some (.int (1 : Int32))) T14.heap _
        rw [e14]
        exact ⟨(by simp [own_b, hc8_3, hc19_6, hcs_]), N14, ((Keep.refl _ _).ext E13)⟩
theorem own_LBg (gr rd : Int32) : rd < gr ↔ (¬ (gr = rd) ∧ ((rd < gr) ↔ (own_green = own_green))) := by
  rw [← Int32.toInt_inj, Int32.lt_iff_toInt_lt]
  constructor
  · intro h; exact ⟨by omega, fun _ => rfl, fun _ => h⟩
  · intro h; exact h.2.mpr rfl
theorem own_LBr (gr rd : Int32) : gr < rd ↔ (¬ (gr = rd) ∧ ((rd < gr) ↔ (own_red = own_green))) := by
  have k : ¬ (own_red = own_green) := by decide
  rw [← Int32.toInt_inj, Int32.lt_iff_toInt_lt, Int32.lt_iff_toInt_lt]
  constructor
  · intro h; exact ⟨by omega, fun q => by omega, fun q => absurd q k⟩
  · rintro ⟨h1, h2⟩
    have h3 : ¬ (rd.toInt < gr.toInt) := fun q => k (h2.mp q)
    omega
theorem own_pn3 : plainFor (⟨"com/example/veiled_crown/veiledcrown/engine/MarkersLeadsPinLaw", "law", "(III)Z"⟩ : MethodName) = true := plainFor_of_name (by first | (simp [plainName, overriddenIn]; done) | decide +kernel)
theorem own_pd2 : parseMethodDescriptor "([C)V" = some ⟨[(.array .char)], none⟩ := by decide +kernel
theorem own_pd3 : parseMethodDescriptor "(II)V" = some ⟨[.int, .int], none⟩ := by decide +kernel
theorem own_pd4 : parseMethodDescriptor "(Ljava/lang/String;)Z" = some ⟨[(.object "java/lang/String")], some .boolean⟩ := by decide +kernel
theorem ef_own_law (m : MethodId) (z0 : Int32) (z1 : Int32) (z2 : Int32) : entryFrame m #[(.int z0), (.int z1), (.int z2)] maxLocals = mkF m 0 #[.val (.int z0), .val (.int z1), .val (.int z2), .unset, .unset, .unset, .unset, .unset, .unset] [] := by first | (simp [entryFrame, mkF, argsToLocals, Value.category, maxLocals]; done) | rfl
def Q_own_law (Z : State) (gr : Int32) (rd : Int32) (sd : Int32) (zz : Int32) (h0 : Heap) (n0 : Nat) (zv : Option Value) (zh : Heap) (zL : List Loc) : Prop := zv = some (.int (1 : Int32)) ∧ Fr n0 zL
set_option maxRecDepth 65536 in
set_option maxHeartbeats 40000000 in
theorem own_law (l : Launch) (Z : State) (a0 : Array Value) (hw : ∀ d ∈ tables_1, d.before a0 Z = true) (ws : List Jvm.Cond) (gr : Int32) (rd : Int32) (sd : Int32) (zz : Int32) (h0 : Heap) (n0 : Nat) (Z0 : n0 ≤ h0.size) (p0_ : Sta Z Z.heap "java/lang/String" "COMPACT_STRINGS" "Z" (.int zz)) (p1_ : Old Z n0 h0) (p2_ : ¬ zz = 0) (p3_ : Jvm.Lit.constHeld Z "com/example/veiled_crown/veiledcrown/engine/Markers" 22) (p4_ : Jvm.Lit.compactW.before a0 Z = true) :
    MetFree l x (head1 (Jvm.Cond.code x code maxLocals ret :: ws) room_1) (fun za zU => za = #[(.int gr), (.int rd), (.int sd)] ∧ Z.Warmed39 zU.vm ∧ zU.heap = h0 ∧ IB Z zU.vm []) (fun _ _ _ _ _ => True) (fun _ zU zo zU' => ∃ zv zL, zo = .returned zv ∧ Q_own_law Z gr rd sd zz h0 n0 zv zU'.heap zL ∧ ReturnedEndW zU zo zU' zL 7 43) := by
  refine own_metI (y := x) own_pn3 ?_
  intro p e s m below meth c T0 hx hby hml hown hnm hret hlk hZ e0 X0 hS hsh hI
  have N0 := Fr.nil n0
  refine own_stW (fun zt zk => castTop (ef_own_law m gr rd sd) zk) ?_
  show own_GW p e below s _ _ _ (T0.setTop (mkF m 0 #[.val (.int gr), .val (.int rd), .val (.int sd), .unset, .unset, .unset, .unset, .unset, .unset] []))
  refine own_stW (fun zt zk => XS.iloadN X0.here hx rfl (hb hby at_0) rfl zk) ?_
  show own_GW p e below s _ _ _ (T0.setTop (mkF m 1 #[.val (.int gr), .val (.int rd), .val (.int sd), .unset, .unset, .unset, .unset, .unset, .unset] [(.int sd)]))
  refine own_stW (fun zt zk => XS.iconst X0.here hx rfl (hb hby at_1) zk) ?_
  show own_GW p e below s _ _ _ (T0.setTop (mkF m 2 #[.val (.int gr), .val (.int rd), .val (.int sd), .unset, .unset, .unset, .unset, .unset, .unset] [(.int (1 : Int32)), (.int sd)]))
  refine own_stW (fun zt zk => XS.iand X0.here hx rfl (hb hby at_2) rfl zk) ?_
  show own_GW p e below s _ _ _ (T0.setTop (mkF m 3 #[.val (.int gr), .val (.int rd), .val (.int sd), .unset, .unset, .unset, .unset, .unset, .unset] [(.int (sd &&& (1 : Int32)))]))
  by_cases hc3_1 : (sd &&& (1 : Int32)) = (0 : Int32)
  · refine own_stW (fun zt zk => XS.ifYes X0.here hx rfl (pc0 := 3) (pc' := 10) rfl (hb hby at_3) rfl ((if0 _ _).trans (teq hc3_1).1) (by decide) (by decide) zk) ?_
    show own_GW p e below s _ _ _ (T0.setTop (mkF m 10 #[.val (.int gr), .val (.int rd), .val (.int sd), .unset, .unset, .unset, .unset, .unset, .unset] []))
    refine own_stW (fun zt zk => XS.iconst X0.here hx rfl (hb hby at_10) zk) ?_
    show own_GW p e below s _ _ _ (T0.setTop (mkF m 11 #[.val (.int gr), .val (.int rd), .val (.int sd), .unset, .unset, .unset, .unset, .unset, .unset] [(.int (0 : Int32))]))
    refine own_stW (fun zt zk => XS.istoreN X0.here hx rfl (hb hby at_11) rfl (l' := #[.val (.int gr), .val (.int rd), .val (.int sd), .val (.int (0 : Int32)), .unset, .unset, .unset, .unset, .unset]) rfl zk) ?_
    show own_GW p e below s _ _ _ (T0.setTop (mkF m 12 #[.val (.int gr), .val (.int rd), .val (.int sd), .val (.int (0 : Int32)), .unset, .unset, .unset, .unset, .unset] []))
    refine own_stW (fun zt zk => XS.iconst X0.here hx rfl (hb hby at_12) zk) ?_
    show own_GW p e below s _ _ _ (T0.setTop (mkF m 13 #[.val (.int gr), .val (.int rd), .val (.int sd), .val (.int (0 : Int32)), .unset, .unset, .unset, .unset, .unset] [(.int (5 : Int32))]))
    obtain ⟨T2, h2, X2, e2, E2, V2, st2⟩ := own_newP X0 hx hZ (aty := .char) (hw _ (List.mem_of_getElem? (i := 0) rfl)) e0 (g := (mkF m 13 #[.val (.int gr), .val (.int rd), .val (.int sd), .val (.int (0 : Int32)), .unset, .unset, .unset, .unset, .unset] [(.int (5 : Int32))])) rfl (hb hby at_13) rfl (n := 5) (by decide) (cap := 5) (Nat.le_refl _) (by decide) (by decide) (by decide)
    obtain ⟨b2, g2⟩ : ∃ z, z = h0.size := ⟨_, rfl⟩
    rw [← g2] at V2 st2
    have ge2 : n0 ≤ b2 := Nat.le_trans Z0 (Nat.le_of_eq g2.symm)
    have sz2 : h0.size ≤ b2 := Nat.le_trans (Nat.le_refl h0.size) (Nat.le_of_eq g2.symm)
    have V2a : own_A Z h2 b2 .char 5 (fun q => .int ((fun _ => (0 : Int32)) q)) := V2
    refine own_stW st2 ?_
    show own_GW p e below s _ _ _ (T2.setTop (mkF m 15 #[.val (.int gr), .val (.int rd), .val (.int sd), .val (.int (0 : Int32)), .unset, .unset, .unset, .unset, .unset] [(.ref b2)]))
    refine own_stW (fun zt zk => XS.dup X2.here hx rfl (hb hby at_15) rfl rfl zk) ?_
    show own_GW p e below s _ _ _ (T2.setTop (mkF m 16 #[.val (.int gr), .val (.int rd), .val (.int sd), .val (.int (0 : Int32)), .unset, .unset, .unset, .unset, .unset] [(.ref b2), (.ref b2)]))
    refine own_stW (fun zt zk => XS.iconst X2.here hx rfl (hb hby at_16) zk) ?_
    show own_GW p e below s _ _ _ (T2.setTop (mkF m 17 #[.val (.int gr), .val (.int rd), .val (.int sd), .val (.int (0 : Int32)), .unset, .unset, .unset, .unset, .unset] [(.int (0 : Int32)), (.ref b2), (.ref b2)]))
    refine own_stW (fun zt zk => XS.bipush X2.here hx rfl (hb hby at_17) zk) ?_
    show own_GW p e below s _ _ _ (T2.setTop (mkF m 19 #[.val (.int gr), .val (.int rd), .val (.int sd), .val (.int (0 : Int32)), .unset, .unset, .unset, .unset, .unset] [(.int (103 : Int32)), (.int (0 : Int32)), (.ref b2), (.ref b2)]))
    obtain ⟨T3, h3, X3, e3, W3, V3, st3⟩ := own_castore X2 hx hZ e2 V2a (i := 0) (by decide) (by decide) (103 : Int32) (by decide) (g := (mkF m 19 #[.val (.int gr), .val (.int rd), .val (.int sd), .val (.int (0 : Int32)), .unset, .unset, .unset, .unset, .unset] [(.int (103 : Int32)), (.int (0 : Int32)), (.ref b2), (.ref b2)])) rfl rfl (hb hby at_19)
    refine own_stW st3 ?_
    have N3 := Fr.snoc X3 N0 ge2
    have V3a : own_A Z h3 b2 .char 5 (fun q => .int ((own_up (fun _ => (0 : Int32)) 0 (103 : Int32)) q)) := V3.congr (fun q _ => by simp only [own_up]; split <;> rfl)
    show own_GW p e below s _ _ _ (T3.setTop (mkF m 20 #[.val (.int gr), .val (.int rd), .val (.int sd), .val (.int (0 : Int32)), .unset, .unset, .unset, .unset, .unset] [(.ref b2)]))
    refine own_stW (fun zt zk => XS.dup X3.here hx rfl (hb hby at_20) rfl rfl zk) ?_
    show own_GW p e below s _ _ _ (T3.setTop (mkF m 21 #[.val (.int gr), .val (.int rd), .val (.int sd), .val (.int (0 : Int32)), .unset, .unset, .unset, .unset, .unset] [(.ref b2), (.ref b2)]))
    refine own_stW (fun zt zk => XS.iconst X3.here hx rfl (hb hby at_21) zk) ?_
    show own_GW p e below s _ _ _ (T3.setTop (mkF m 22 #[.val (.int gr), .val (.int rd), .val (.int sd), .val (.int (0 : Int32)), .unset, .unset, .unset, .unset, .unset] [(.int (1 : Int32)), (.ref b2), (.ref b2)]))
    refine own_stW (fun zt zk => XS.bipush X3.here hx rfl (hb hby at_22) zk) ?_
    show own_GW p e below s _ _ _ (T3.setTop (mkF m 24 #[.val (.int gr), .val (.int rd), .val (.int sd), .val (.int (0 : Int32)), .unset, .unset, .unset, .unset, .unset] [(.int (114 : Int32)), (.int (1 : Int32)), (.ref b2), (.ref b2)]))
    obtain ⟨T4, h4, X4, e4, W4, V4, st4⟩ := own_castore X3 hx hZ e3 V3a (i := 1) (by decide) (by decide) (114 : Int32) (by decide) (g := (mkF m 24 #[.val (.int gr), .val (.int rd), .val (.int sd), .val (.int (0 : Int32)), .unset, .unset, .unset, .unset, .unset] [(.int (114 : Int32)), (.int (1 : Int32)), (.ref b2), (.ref b2)])) rfl rfl (hb hby at_24)
    refine own_stW st4 ?_
    have N4 := Fr.snoc X4 N3 ge2
    have V4a : own_A Z h4 b2 .char 5 (fun q => .int ((own_up (own_up (fun _ => (0 : Int32)) 0 (103 : Int32)) 1 (114 : Int32)) q)) := V4.congr (fun q _ => by simp only [own_up]; split <;> rfl)
    show own_GW p e below s _ _ _ (T4.setTop (mkF m 25 #[.val (.int gr), .val (.int rd), .val (.int sd), .val (.int (0 : Int32)), .unset, .unset, .unset, .unset, .unset] [(.ref b2)]))
    refine own_stW (fun zt zk => XS.dup X4.here hx rfl (hb hby at_25) rfl rfl zk) ?_
    show own_GW p e below s _ _ _ (T4.setTop (mkF m 26 #[.val (.int gr), .val (.int rd), .val (.int sd), .val (.int (0 : Int32)), .unset, .unset, .unset, .unset, .unset] [(.ref b2), (.ref b2)]))
    refine own_stW (fun zt zk => XS.iconst X4.here hx rfl (hb hby at_26) zk) ?_
    show own_GW p e below s _ _ _ (T4.setTop (mkF m 27 #[.val (.int gr), .val (.int rd), .val (.int sd), .val (.int (0 : Int32)), .unset, .unset, .unset, .unset, .unset] [(.int (2 : Int32)), (.ref b2), (.ref b2)]))
    refine own_stW (fun zt zk => XS.bipush X4.here hx rfl (hb hby at_27) zk) ?_
    show own_GW p e below s _ _ _ (T4.setTop (mkF m 29 #[.val (.int gr), .val (.int rd), .val (.int sd), .val (.int (0 : Int32)), .unset, .unset, .unset, .unset, .unset] [(.int (101 : Int32)), (.int (2 : Int32)), (.ref b2), (.ref b2)]))
    obtain ⟨T5, h5, X5, e5, W5, V5, st5⟩ := own_castore X4 hx hZ e4 V4a (i := 2) (by decide) (by decide) (101 : Int32) (by decide) (g := (mkF m 29 #[.val (.int gr), .val (.int rd), .val (.int sd), .val (.int (0 : Int32)), .unset, .unset, .unset, .unset, .unset] [(.int (101 : Int32)), (.int (2 : Int32)), (.ref b2), (.ref b2)])) rfl rfl (hb hby at_29)
    refine own_stW st5 ?_
    have N5 := Fr.snoc X5 N4 ge2
    have V5a : own_A Z h5 b2 .char 5 (fun q => .int ((own_up (own_up (own_up (fun _ => (0 : Int32)) 0 (103 : Int32)) 1 (114 : Int32)) 2 (101 : Int32)) q)) := V5.congr (fun q _ => by simp only [own_up]; split <;> rfl)
    show own_GW p e below s _ _ _ (T5.setTop (mkF m 30 #[.val (.int gr), .val (.int rd), .val (.int sd), .val (.int (0 : Int32)), .unset, .unset, .unset, .unset, .unset] [(.ref b2)]))
    refine own_stW (fun zt zk => XS.dup X5.here hx rfl (hb hby at_30) rfl rfl zk) ?_
    show own_GW p e below s _ _ _ (T5.setTop (mkF m 31 #[.val (.int gr), .val (.int rd), .val (.int sd), .val (.int (0 : Int32)), .unset, .unset, .unset, .unset, .unset] [(.ref b2), (.ref b2)]))
    refine own_stW (fun zt zk => XS.iconst X5.here hx rfl (hb hby at_31) zk) ?_
    show own_GW p e below s _ _ _ (T5.setTop (mkF m 32 #[.val (.int gr), .val (.int rd), .val (.int sd), .val (.int (0 : Int32)), .unset, .unset, .unset, .unset, .unset] [(.int (3 : Int32)), (.ref b2), (.ref b2)]))
    refine own_stW (fun zt zk => XS.bipush X5.here hx rfl (hb hby at_32) zk) ?_
    show own_GW p e below s _ _ _ (T5.setTop (mkF m 34 #[.val (.int gr), .val (.int rd), .val (.int sd), .val (.int (0 : Int32)), .unset, .unset, .unset, .unset, .unset] [(.int (101 : Int32)), (.int (3 : Int32)), (.ref b2), (.ref b2)]))
    obtain ⟨T6, h6, X6, e6, W6, V6, st6⟩ := own_castore X5 hx hZ e5 V5a (i := 3) (by decide) (by decide) (101 : Int32) (by decide) (g := (mkF m 34 #[.val (.int gr), .val (.int rd), .val (.int sd), .val (.int (0 : Int32)), .unset, .unset, .unset, .unset, .unset] [(.int (101 : Int32)), (.int (3 : Int32)), (.ref b2), (.ref b2)])) rfl rfl (hb hby at_34)
    refine own_stW st6 ?_
    have N6 := Fr.snoc X6 N5 ge2
    have V6a : own_A Z h6 b2 .char 5 (fun q => .int ((own_up (own_up (own_up (own_up (fun _ => (0 : Int32)) 0 (103 : Int32)) 1 (114 : Int32)) 2 (101 : Int32)) 3 (101 : Int32)) q)) := V6.congr (fun q _ => by simp only [own_up]; split <;> rfl)
    show own_GW p e below s _ _ _ (T6.setTop (mkF m 35 #[.val (.int gr), .val (.int rd), .val (.int sd), .val (.int (0 : Int32)), .unset, .unset, .unset, .unset, .unset] [(.ref b2)]))
    refine own_stW (fun zt zk => XS.dup X6.here hx rfl (hb hby at_35) rfl rfl zk) ?_
    show own_GW p e below s _ _ _ (T6.setTop (mkF m 36 #[.val (.int gr), .val (.int rd), .val (.int sd), .val (.int (0 : Int32)), .unset, .unset, .unset, .unset, .unset] [(.ref b2), (.ref b2)]))
    refine own_stW (fun zt zk => XS.iconst X6.here hx rfl (hb hby at_36) zk) ?_
    show own_GW p e below s _ _ _ (T6.setTop (mkF m 37 #[.val (.int gr), .val (.int rd), .val (.int sd), .val (.int (0 : Int32)), .unset, .unset, .unset, .unset, .unset] [(.int (4 : Int32)), (.ref b2), (.ref b2)]))
    refine own_stW (fun zt zk => XS.bipush X6.here hx rfl (hb hby at_37) zk) ?_
    show own_GW p e below s _ _ _ (T6.setTop (mkF m 39 #[.val (.int gr), .val (.int rd), .val (.int sd), .val (.int (0 : Int32)), .unset, .unset, .unset, .unset, .unset] [(.int (110 : Int32)), (.int (4 : Int32)), (.ref b2), (.ref b2)]))
    obtain ⟨T7, h7, X7, e7, W7, V7, st7⟩ := own_castore X6 hx hZ e6 V6a (i := 4) (by decide) (by decide) (110 : Int32) (by decide) (g := (mkF m 39 #[.val (.int gr), .val (.int rd), .val (.int sd), .val (.int (0 : Int32)), .unset, .unset, .unset, .unset, .unset] [(.int (110 : Int32)), (.int (4 : Int32)), (.ref b2), (.ref b2)])) rfl rfl (hb hby at_39)
    refine own_stW st7 ?_
    have N7 := Fr.snoc X7 N6 ge2
    have V7a : own_A Z h7 b2 .char 5 (fun q => .int ((own_up (own_up (own_up (own_up (own_up (fun _ => (0 : Int32)) 0 (103 : Int32)) 1 (114 : Int32)) 2 (101 : Int32)) 3 (101 : Int32)) 4 (110 : Int32)) q)) := V7.congr (fun q _ => by simp only [own_up]; split <;> rfl)
    show own_GW p e below s _ _ _ (T7.setTop (mkF m 40 #[.val (.int gr), .val (.int rd), .val (.int sd), .val (.int (0 : Int32)), .unset, .unset, .unset, .unset, .unset] [(.ref b2)]))
    refine own_stW (fun zt zk => XS.astore X7.here hx rfl (hb hby at_40) rfl rfl (l' := #[.val (.int gr), .val (.int rd), .val (.int sd), .val (.int (0 : Int32)), .val (.ref b2), .unset, .unset, .unset, .unset]) rfl zk) ?_
    show own_GW p e below s _ _ _ (T7.setTop (mkF m 42 #[.val (.int gr), .val (.int rd), .val (.int sd), .val (.int (0 : Int32)), .val (.ref b2), .unset, .unset, .unset, .unset] []))
    refine own_stW (fun zt zk => XS.iconst X7.here hx rfl (hb hby at_42) zk) ?_
    show own_GW p e below s _ _ _ (T7.setTop (mkF m 43 #[.val (.int gr), .val (.int rd), .val (.int sd), .val (.int (0 : Int32)), .val (.ref b2), .unset, .unset, .unset, .unset] [(.int (3 : Int32))]))
    obtain ⟨T8, h8, X8, e8, E8, V8, st8⟩ := own_newP X7 hx hZ (aty := .char) (hw _ (List.mem_of_getElem? (i := 0) rfl)) e7 (g := (mkF m 43 #[.val (.int gr), .val (.int rd), .val (.int sd), .val (.int (0 : Int32)), .val (.ref b2), .unset, .unset, .unset, .unset] [(.int (3 : Int32))])) rfl (hb hby at_43) rfl (n := 3) (by decide) (cap := 3) (Nat.le_refl _) (by decide) (by decide) (by decide)
    obtain ⟨b8, g8⟩ : ∃ z, z = h7.size := ⟨_, rfl⟩
    rw [← g8] at V8 st8
    have ne8_b2 : b2 ≠ b8 := by rw [g8]; exact Nat.ne_of_lt V7a.lt
    have ge8 : n0 ≤ b8 := Nat.le_trans (Nat.le_trans (Nat.le_trans (Nat.le_trans (Nat.le_trans (Nat.le_trans (Nat.le_trans Z0 E2.1) (Nat.le_of_eq W3.size.symm)) (Nat.le_of_eq W4.size.symm)) (Nat.le_of_eq W5.size.symm)) (Nat.le_of_eq W6.size.symm)) (Nat.le_of_eq W7.size.symm)) (Nat.le_of_eq g8.symm)
    have sz8 : h0.size ≤ b8 := Nat.le_trans (Nat.le_trans (Nat.le_trans (Nat.le_trans (Nat.le_trans (Nat.le_trans (Nat.le_trans (Nat.le_refl h0.size) E2.1) (Nat.le_of_eq W3.size.symm)) (Nat.le_of_eq W4.size.symm)) (Nat.le_of_eq W5.size.symm)) (Nat.le_of_eq W6.size.symm)) (Nat.le_of_eq W7.size.symm)) (Nat.le_of_eq g8.symm)
    have V8a : own_A Z h8 b8 .char 3 (fun q => .int ((fun _ => (0 : Int32)) q)) := V8
    refine own_stW st8 ?_
    show own_GW p e below s _ _ _ (T8.setTop (mkF m 45 #[.val (.int gr), .val (.int rd), .val (.int sd), .val (.int (0 : Int32)), .val (.ref b2), .unset, .unset, .unset, .unset] [(.ref b8)]))
    refine own_stW (fun zt zk => XS.dup X8.here hx rfl (hb hby at_45) rfl rfl zk) ?_
    show own_GW p e below s _ _ _ (T8.setTop (mkF m 46 #[.val (.int gr), .val (.int rd), .val (.int sd), .val (.int (0 : Int32)), .val (.ref b2), .unset, .unset, .unset, .unset] [(.ref b8), (.ref b8)]))
    refine own_stW (fun zt zk => XS.iconst X8.here hx rfl (hb hby at_46) zk) ?_
    show own_GW p e below s _ _ _ (T8.setTop (mkF m 47 #[.val (.int gr), .val (.int rd), .val (.int sd), .val (.int (0 : Int32)), .val (.ref b2), .unset, .unset, .unset, .unset] [(.int (0 : Int32)), (.ref b8), (.ref b8)]))
    refine own_stW (fun zt zk => XS.bipush X8.here hx rfl (hb hby at_47) zk) ?_
    show own_GW p e below s _ _ _ (T8.setTop (mkF m 49 #[.val (.int gr), .val (.int rd), .val (.int sd), .val (.int (0 : Int32)), .val (.ref b2), .unset, .unset, .unset, .unset] [(.int (114 : Int32)), (.int (0 : Int32)), (.ref b8), (.ref b8)]))
    obtain ⟨T9, h9, X9, e9, W9, V9, st9⟩ := own_castore X8 hx hZ e8 V8a (i := 0) (by decide) (by decide) (114 : Int32) (by decide) (g := (mkF m 49 #[.val (.int gr), .val (.int rd), .val (.int sd), .val (.int (0 : Int32)), .val (.ref b2), .unset, .unset, .unset, .unset] [(.int (114 : Int32)), (.int (0 : Int32)), (.ref b8), (.ref b8)])) rfl rfl (hb hby at_49)
    refine own_stW st9 ?_
    have N9 := Fr.snoc X9 N7 ge8
    have V9a : own_A Z h9 b8 .char 3 (fun q => .int ((own_up (fun _ => (0 : Int32)) 0 (114 : Int32)) q)) := V9.congr (fun q _ => by simp only [own_up]; split <;> rfl)
    show own_GW p e below s _ _ _ (T9.setTop (mkF m 50 #[.val (.int gr), .val (.int rd), .val (.int sd), .val (.int (0 : Int32)), .val (.ref b2), .unset, .unset, .unset, .unset] [(.ref b8)]))
    refine own_stW (fun zt zk => XS.dup X9.here hx rfl (hb hby at_50) rfl rfl zk) ?_
    show own_GW p e below s _ _ _ (T9.setTop (mkF m 51 #[.val (.int gr), .val (.int rd), .val (.int sd), .val (.int (0 : Int32)), .val (.ref b2), .unset, .unset, .unset, .unset] [(.ref b8), (.ref b8)]))
    refine own_stW (fun zt zk => XS.iconst X9.here hx rfl (hb hby at_51) zk) ?_
    show own_GW p e below s _ _ _ (T9.setTop (mkF m 52 #[.val (.int gr), .val (.int rd), .val (.int sd), .val (.int (0 : Int32)), .val (.ref b2), .unset, .unset, .unset, .unset] [(.int (1 : Int32)), (.ref b8), (.ref b8)]))
    refine own_stW (fun zt zk => XS.bipush X9.here hx rfl (hb hby at_52) zk) ?_
    show own_GW p e below s _ _ _ (T9.setTop (mkF m 54 #[.val (.int gr), .val (.int rd), .val (.int sd), .val (.int (0 : Int32)), .val (.ref b2), .unset, .unset, .unset, .unset] [(.int (101 : Int32)), (.int (1 : Int32)), (.ref b8), (.ref b8)]))
    obtain ⟨T10, h10, X10, e10, W10, V10, st10⟩ := own_castore X9 hx hZ e9 V9a (i := 1) (by decide) (by decide) (101 : Int32) (by decide) (g := (mkF m 54 #[.val (.int gr), .val (.int rd), .val (.int sd), .val (.int (0 : Int32)), .val (.ref b2), .unset, .unset, .unset, .unset] [(.int (101 : Int32)), (.int (1 : Int32)), (.ref b8), (.ref b8)])) rfl rfl (hb hby at_54)
    refine own_stW st10 ?_
    have N10 := Fr.snoc X10 N9 ge8
    have V10a : own_A Z h10 b8 .char 3 (fun q => .int ((own_up (own_up (fun _ => (0 : Int32)) 0 (114 : Int32)) 1 (101 : Int32)) q)) := V10.congr (fun q _ => by simp only [own_up]; split <;> rfl)
    show own_GW p e below s _ _ _ (T10.setTop (mkF m 55 #[.val (.int gr), .val (.int rd), .val (.int sd), .val (.int (0 : Int32)), .val (.ref b2), .unset, .unset, .unset, .unset] [(.ref b8)]))
    refine own_stW (fun zt zk => XS.dup X10.here hx rfl (hb hby at_55) rfl rfl zk) ?_
    show own_GW p e below s _ _ _ (T10.setTop (mkF m 56 #[.val (.int gr), .val (.int rd), .val (.int sd), .val (.int (0 : Int32)), .val (.ref b2), .unset, .unset, .unset, .unset] [(.ref b8), (.ref b8)]))
    refine own_stW (fun zt zk => XS.iconst X10.here hx rfl (hb hby at_56) zk) ?_
    show own_GW p e below s _ _ _ (T10.setTop (mkF m 57 #[.val (.int gr), .val (.int rd), .val (.int sd), .val (.int (0 : Int32)), .val (.ref b2), .unset, .unset, .unset, .unset] [(.int (2 : Int32)), (.ref b8), (.ref b8)]))
    refine own_stW (fun zt zk => XS.bipush X10.here hx rfl (hb hby at_57) zk) ?_
    show own_GW p e below s _ _ _ (T10.setTop (mkF m 59 #[.val (.int gr), .val (.int rd), .val (.int sd), .val (.int (0 : Int32)), .val (.ref b2), .unset, .unset, .unset, .unset] [(.int (100 : Int32)), (.int (2 : Int32)), (.ref b8), (.ref b8)]))
    obtain ⟨T11, h11, X11, e11, W11, V11, st11⟩ := own_castore X10 hx hZ e10 V10a (i := 2) (by decide) (by decide) (100 : Int32) (by decide) (g := (mkF m 59 #[.val (.int gr), .val (.int rd), .val (.int sd), .val (.int (0 : Int32)), .val (.ref b2), .unset, .unset, .unset, .unset] [(.int (100 : Int32)), (.int (2 : Int32)), (.ref b8), (.ref b8)])) rfl rfl (hb hby at_59)
    refine own_stW st11 ?_
    have N11 := Fr.snoc X11 N10 ge8
    have V11a : own_A Z h11 b8 .char 3 (fun q => .int ((own_up (own_up (own_up (fun _ => (0 : Int32)) 0 (114 : Int32)) 1 (101 : Int32)) 2 (100 : Int32)) q)) := V11.congr (fun q _ => by simp only [own_up]; split <;> rfl)
    show own_GW p e below s _ _ _ (T11.setTop (mkF m 60 #[.val (.int gr), .val (.int rd), .val (.int sd), .val (.int (0 : Int32)), .val (.ref b2), .unset, .unset, .unset, .unset] [(.ref b8)]))
    refine own_stW (fun zt zk => XS.astore X11.here hx rfl (hb hby at_60) rfl rfl (l' := #[.val (.int gr), .val (.int rd), .val (.int sd), .val (.int (0 : Int32)), .val (.ref b2), .val (.ref b8), .unset, .unset, .unset]) rfl zk) ?_
    show own_GW p e below s _ _ _ (T11.setTop (mkF m 62 #[.val (.int gr), .val (.int rd), .val (.int sd), .val (.int (0 : Int32)), .val (.ref b2), .val (.ref b8), .unset, .unset, .unset] []))
    refine own_stW (fun zt zk => XS.iloadN X11.here hx rfl (hb hby at_62) rfl zk) ?_
    show own_GW p e below s _ _ _ (T11.setTop (mkF m 63 #[.val (.int gr), .val (.int rd), .val (.int sd), .val (.int (0 : Int32)), .val (.ref b2), .val (.ref b8), .unset, .unset, .unset] [(.int (0 : Int32))]))
    refine own_stW (fun zt zk => XS.ifYes X11.here hx rfl (pc0 := 63) (pc' := 78) rfl (hb hby at_63) rfl ((if0 _ _).trans (teq (by decide : (0 : Int32) = (0 : Int32))).1) (by decide) (by decide) zk) ?_
    show own_GW p e below s _ _ _ (T11.setTop (mkF m 78 #[.val (.int gr), .val (.int rd), .val (.int sd), .val (.int (0 : Int32)), .val (.ref b2), .val (.ref b8), .unset, .unset, .unset] []))
    have V13 : own_A Z h11 b2 .char 5 (fun q => .int ((own_up (own_up (own_up (own_up (own_up (fun _ => (0 : Int32)) 0 (103 : Int32)) 1 (114 : Int32)) 2 (101 : Int32)) 3 (101 : Int32)) 4 (110 : Int32)) q)) := ((((V7a.ext E8).other W9 ne8_b2).other W10 ne8_b2).other W11 ne8_b2)
    obtain ⟨T12, h12, X12, e12, E12, A12, D12, -, st12⟩ := newO X11 hx hZ hown (hw _ (List.mem_of_getElem? (i := 1) rfl)) (hw _ (List.mem_of_getElem? (i := 2) rfl)) (hw _ (List.mem_of_getElem? (i := 3) rfl)) e11 (g := (mkF m 78 #[.val (.int gr), .val (.int rd), .val (.int sd), .val (.int (0 : Int32)), .val (.ref b2), .val (.ref b8), .unset, .unset, .unset] [])) rfl (hb hby at_78) (by decide) (by decide)
    obtain ⟨b12, g12⟩ : ∃ z, z = h11.size := ⟨_, rfl⟩
    rw [← g12] at A12 D12 st12
    have ne12_b2 : b2 ≠ b12 := by rw [g12]; exact Nat.ne_of_lt V13.lt
    have ne12_b8 : b8 ≠ b12 := by rw [g12]; exact Nat.ne_of_lt V11a.lt
    have ge12 : n0 ≤ b12 := Nat.le_trans (Nat.le_trans (Nat.le_trans (Nat.le_trans (Nat.le_trans (Nat.le_trans (Nat.le_trans (Nat.le_trans (Nat.le_trans (Nat.le_trans (Nat.le_trans Z0 E2.1) (Nat.le_of_eq W3.size.symm)) (Nat.le_of_eq W4.size.symm)) (Nat.le_of_eq W5.size.symm)) (Nat.le_of_eq W6.size.symm)) (Nat.le_of_eq W7.size.symm)) E8.1) (Nat.le_of_eq W9.size.symm)) (Nat.le_of_eq W10.size.symm)) (Nat.le_of_eq W11.size.symm)) (Nat.le_of_eq g12.symm)
    have sz12 : h0.size ≤ b12 := Nat.le_trans (Nat.le_trans (Nat.le_trans (Nat.le_trans (Nat.le_trans (Nat.le_trans (Nat.le_trans (Nat.le_trans (Nat.le_trans (Nat.le_trans (Nat.le_trans (Nat.le_refl h0.size) E2.1) (Nat.le_of_eq W3.size.symm)) (Nat.le_of_eq W4.size.symm)) (Nat.le_of_eq W5.size.symm)) (Nat.le_of_eq W6.size.symm)) (Nat.le_of_eq W7.size.symm)) E8.1) (Nat.le_of_eq W9.size.symm)) (Nat.le_of_eq W10.size.symm)) (Nat.le_of_eq W11.size.symm)) (Nat.le_of_eq g12.symm)
    refine own_stW st12 ?_
    show own_GW p e below s _ _ _ (T12.setTop (mkF m 81 #[.val (.int gr), .val (.int rd), .val (.int sd), .val (.int (0 : Int32)), .val (.ref b2), .val (.ref b8), .unset, .unset, .unset] [(.ref b12)]))
    refine own_stW (fun zt zk => XS.dup X12.here hx rfl (hb hby at_81) rfl rfl zk) ?_
    show own_GW p e below s _ _ _ (T12.setTop (mkF m 82 #[.val (.int gr), .val (.int rd), .val (.int sd), .val (.int (0 : Int32)), .val (.ref b2), .val (.ref b8), .unset, .unset, .unset] [(.ref b12), (.ref b12)]))
    refine own_stW (fun zt zk => XS.aload X12.here hx rfl (hb hby at_82) rfl rfl zk) ?_
    show own_GW p e below s _ _ _ (T12.setTop (mkF m 84 #[.val (.int gr), .val (.int rd), .val (.int sd), .val (.int (0 : Int32)), .val (.ref b2), .val (.ref b8), .unset, .unset, .unset] [(.ref b8), (.ref b12), (.ref b12)]))
    have V15 : own_A Z h12 b8 .char 3 (fun q => .int ((own_up (own_up (own_up (fun _ => (0 : Int32)) 0 (114 : Int32)) 1 (101 : Int32)) 2 (100 : Int32)) q)) := (V11a.ext E12)
    obtain ⟨kC14, VA14⟩ := own_A.arv V15 (z := (3 : Int32)) (by decide) (.int 0)
    have VB14 : Arv Z h12 b8 kC14 .char (3 : Int32) (own_red.map Value.int) (.int 0) := VA14
    have V16 : own_A Z h12 b2 .char 5 (fun q => .int ((own_up (own_up (own_up (own_up (own_up (fun _ => (0 : Int32)) 0 (103 : Int32)) 1 (114 : Int32)) 2 (101 : Int32)) 3 (101 : Int32)) 4 (110 : Int32)) q)) := (V13.ext E12)
    obtain ⟨_, T14, L14, X14, ⟨rfl, F14, K14, q14_0, q14_1, t14, kb14, ge14, s14, ne14, q14_2, q14_3⟩, st14⟩ := own_callIB X12 hx hZ (y := (⟨"java/lang/String", "<init>", "([C)V"⟩ : MethodName)) (kc := 1) (ks := 3) (Q := StrChars.Road.QV Z b12 (3 : Int32) (own_red.map (fun c => c.toInt8.toInt32)) h12 n0) (a := b12) (argsL := [(.ref b8)]) (rest := [(.ref b12)]) 1 rfl hown (hw _ (List.mem_of_getElem? (i := 4) rfl)) (hw _ (List.mem_of_getElem? (i := 5) rfl)) (hw _ (List.mem_of_getElem? (i := 6) rfl)) (by decide) (StrChars.Road.backV hZ (fun d hd => hw d (own_wN d hd)) (hw _ (List.mem_of_getElem? (i := 2) rfl)) ge12 (Nat.le_trans (Nat.le_trans (Nat.le_trans (Nat.le_trans (Nat.le_trans (Nat.le_trans (Nat.le_trans (Nat.le_trans (Nat.le_trans (Nat.le_trans (Nat.le_trans Z0 E2.1) (Nat.le_of_eq W3.size.symm)) (Nat.le_of_eq W4.size.symm)) (Nat.le_of_eq W5.size.symm)) (Nat.le_of_eq W6.size.symm)) (Nat.le_of_eq W7.size.symm)) E8.1) (Nat.le_of_eq W9.size.symm)) (Nat.le_of_eq W10.size.symm)) (Nat.le_of_eq W11.size.symm)) E12.1) A12 (D12 (Or.inr (hw _ (List.mem_of_getElem? (i := 29) rfl))) (ty := (.array .byte)) (by decide)) (D12 (Or.inr (hw _ (List.mem_of_getElem? (i := 27) rfl))) (ty := .byte) (by decide)) VB14 (Sta.ext (((((((((((p1_.ext E2).wr W3 ge2).wr W4 ge2).wr W5 ge2).wr W6 ge2).wr W7 ge2).ext E8).wr W9 ge8).wr W10 ge8).wr W11 ge8).ext E12).2 p0_) p2_ (n := 3) rfl rfl (by decide) (by decide) (own_lat own_red (Or.inr rfl)).1 rfl (by decide) (by decide)) e12 (g := (mkF m 84 #[.val (.int gr), .val (.int rd), .val (.int sd), .val (.int (0 : Int32)), .val (.ref b2), .val (.ref b8), .unset, .unset, .unset] [(.ref b8), (.ref b12), (.ref b12)])) rfl (by rw [hml]; rfl) own_pd2 rfl rfl (by show 2 * 0 + _ ≤ _; exact Nat.le_of_eq rfl) (hb hby at_84) (by decide) (by decide)
    refine own_stW st14 ?_
    have N14 : Fr n0 (_ ++ L14) := Fr.app N11 F14
    have ne14_b12 : b12 ≠ t14 := Nat.ne_of_lt (Nat.lt_of_lt_of_le A12.lt s14)
    have ne14_b2 : b2 ≠ t14 := Nat.ne_of_lt (Nat.lt_of_lt_of_le V16.lt s14)
    have ne14_b8 : b8 ≠ t14 := Nat.ne_of_lt (Nat.lt_of_lt_of_le V15.lt s14)
    have sz14 : h0.size ≤ t14 := Nat.le_trans (Nat.le_trans (Nat.le_trans (Nat.le_trans (Nat.le_trans (Nat.le_trans (Nat.le_trans (Nat.le_trans (Nat.le_trans (Nat.le_trans (Nat.le_trans (Nat.le_trans (Nat.le_refl h0.size) E2.1) (Nat.le_of_eq W3.size.symm)) (Nat.le_of_eq W4.size.symm)) (Nat.le_of_eq W5.size.symm)) (Nat.le_of_eq W6.size.symm)) (Nat.le_of_eq W7.size.symm)) E8.1) (Nat.le_of_eq W9.size.symm)) (Nat.le_of_eq W10.size.symm)) (Nat.le_of_eq W11.size.symm)) E12.1) s14
    show own_GW p e below s _ _ _ (T14.setTop (mkF m 87 #[.val (.int gr), .val (.int rd), .val (.int sd), .val (.int (0 : Int32)), .val (.ref b2), .val (.ref b8), .unset, .unset, .unset] [(.ref b12)]))
    refine own_stW (fun zt zk => XS.astore X14.here hx rfl (hb hby at_87) rfl rfl (l' := #[.val (.int gr), .val (.int rd), .val (.int sd), .val (.int (0 : Int32)), .val (.ref b2), .val (.ref b8), .val (.ref b12), .unset, .unset]) rfl zk) ?_
    show own_GW p e below s _ _ _ (T14.setTop (mkF m 89 #[.val (.int gr), .val (.int rd), .val (.int sd), .val (.int (0 : Int32)), .val (.ref b2), .val (.ref b8), .val (.ref b12), .unset, .unset] []))
    have V18 : own_A Z T14.heap b2 .char 5 (fun q => .int ((own_up (own_up (own_up (own_up (own_up (fun _ => (0 : Int32)) 0 (103 : Int32)) 1 (114 : Int32)) 2 (101 : Int32)) 3 (101 : Int32)) 4 (110 : Int32)) q)) := (V16.keep K14 (ninS ne12_b2 nin0))
    have V19 : own_A Z T14.heap b8 .char 3 (fun q => .int ((own_up (own_up (own_up (fun _ => (0 : Int32)) 0 (114 : Int32)) 1 (101 : Int32)) 2 (100 : Int32)) q)) := (V15.keep K14 (ninS ne12_b8 nin0))
    obtain ⟨T17, h17, X17, e17, E17, A17, D17, -, st17⟩ := newO X14 hx hZ hown (hw _ (List.mem_of_getElem? (i := 30) rfl)) (hw _ (List.mem_of_getElem? (i := 31) rfl)) (hw _ (List.mem_of_getElem? (i := 32) rfl)) rfl (g := (mkF m 89 #[.val (.int gr), .val (.int rd), .val (.int sd), .val (.int (0 : Int32)), .val (.ref b2), .val (.ref b8), .val (.ref b12), .unset, .unset] [])) rfl (hb hby at_89) (by decide) (by decide)
    obtain ⟨b17, g17⟩ : ∃ z, z = T14.heap.size := ⟨_, rfl⟩
    rw [← g17] at A17 D17 st17
    have ne17_b12 : b12 ≠ b17 := by rw [g17]; exact Nat.ne_of_lt q14_0.lt
    have ne17_b2 : b2 ≠ b17 := by rw [g17]; exact Nat.ne_of_lt V18.lt
    have ne17_b8 : b8 ≠ b17 := by rw [g17]; exact Nat.ne_of_lt V19.lt
    have ne17_t14 : t14 ≠ b17 := by rw [g17]; exact Nat.ne_of_lt q14_3.lt
    have ge17 : n0 ≤ b17 := Nat.le_trans (Nat.le_trans (Nat.le_trans (Nat.le_trans (Nat.le_trans (Nat.le_trans (Nat.le_trans (Nat.le_trans (Nat.le_trans (Nat.le_trans (Nat.le_trans (Nat.le_trans (Nat.le_trans Z0 E2.1) (Nat.le_of_eq W3.size.symm)) (Nat.le_of_eq W4.size.symm)) (Nat.le_of_eq W5.size.symm)) (Nat.le_of_eq W6.size.symm)) (Nat.le_of_eq W7.size.symm)) E8.1) (Nat.le_of_eq W9.size.symm)) (Nat.le_of_eq W10.size.symm)) (Nat.le_of_eq W11.size.symm)) E12.1) K14.1) (Nat.le_of_eq g17.symm)
    have sz17 : h0.size ≤ b17 := Nat.le_trans (Nat.le_trans (Nat.le_trans (Nat.le_trans (Nat.le_trans (Nat.le_trans (Nat.le_trans (Nat.le_trans (Nat.le_trans (Nat.le_trans (Nat.le_trans (Nat.le_trans (Nat.le_trans (Nat.le_refl h0.size) E2.1) (Nat.le_of_eq W3.size.symm)) (Nat.le_of_eq W4.size.symm)) (Nat.le_of_eq W5.size.symm)) (Nat.le_of_eq W6.size.symm)) (Nat.le_of_eq W7.size.symm)) E8.1) (Nat.le_of_eq W9.size.symm)) (Nat.le_of_eq W10.size.symm)) (Nat.le_of_eq W11.size.symm)) E12.1) K14.1) (Nat.le_of_eq g17.symm)
    refine own_stW st17 ?_
    show own_GW p e below s _ _ _ (T17.setTop (mkF m 92 #[.val (.int gr), .val (.int rd), .val (.int sd), .val (.int (0 : Int32)), .val (.ref b2), .val (.ref b8), .val (.ref b12), .unset, .unset] [(.ref b17)]))
    refine own_stW (fun zt zk => XS.dup X17.here hx rfl (hb hby at_92) rfl rfl zk) ?_
    show own_GW p e below s _ _ _ (T17.setTop (mkF m 93 #[.val (.int gr), .val (.int rd), .val (.int sd), .val (.int (0 : Int32)), .val (.ref b2), .val (.ref b8), .val (.ref b12), .unset, .unset] [(.ref b17), (.ref b17)]))
    refine own_stW (fun zt zk => XS.iloadN X17.here hx rfl (hb hby at_93) rfl zk) ?_
    show own_GW p e below s _ _ _ (T17.setTop (mkF m 94 #[.val (.int gr), .val (.int rd), .val (.int sd), .val (.int (0 : Int32)), .val (.ref b2), .val (.ref b8), .val (.ref b12), .unset, .unset] [(.int gr), (.ref b17), (.ref b17)]))
    refine own_stW (fun zt zk => XS.iloadN X17.here hx rfl (hb hby at_94) rfl zk) ?_
    show own_GW p e below s _ _ _ (T17.setTop (mkF m 95 #[.val (.int gr), .val (.int rd), .val (.int sd), .val (.int (0 : Int32)), .val (.ref b2), .val (.ref b8), .val (.ref b12), .unset, .unset] [(.int rd), (.int gr), (.ref b17), (.ref b17)]))
    obtain ⟨_, T20, L20, X20, hQ20, st20⟩ := own_callI X17 hx hZ (y := (⟨"com/example/veiled_crown/veiledcrown/engine/Markers", "<init>", "(II)V"⟩ : MethodName)) (a := b17) (argsL := [(.int gr), (.int rd)]) (rest := [(.ref b17)]) 1 rfl hown (hw _ (List.mem_of_getElem? (i := 33) rfl)) (hw _ (List.mem_of_getElem? (i := 34) rfl)) (hw _ (List.mem_of_getElem? (i := 32) rfl)) (hw _ (List.mem_of_getElem? (i := 35) rfl)) (by decide) (own_mki l Z a0 hw [] b17 gr rd h17 n0 (Nat.le_trans (Nat.le_trans (Nat.le_trans (Nat.le_trans (Nat.le_trans (Nat.le_trans (Nat.le_trans (Nat.le_trans (Nat.le_trans (Nat.le_trans (Nat.le_trans (Nat.le_trans (Nat.le_trans Z0 E2.1) (Nat.le_of_eq W3.size.symm)) (Nat.le_of_eq W4.size.symm)) (Nat.le_of_eq W5.size.symm)) (Nat.le_of_eq W6.size.symm)) (Nat.le_of_eq W7.size.symm)) E8.1) (Nat.le_of_eq W9.size.symm)) (Nat.le_of_eq W10.size.symm)) (Nat.le_of_eq W11.size.symm)) E12.1) K14.1) E17.1) A17 (D17 (Or.inr (hw _ (List.mem_of_getElem? (i := 43) rfl))) (ty := .int) (by decide)) (D17 (Or.inr (hw _ (List.mem_of_getElem? (i := 45) rfl))) (ty := .int) (by decide)) ge17) (by decide) (by decide) e17 (g := (mkF m 95 #[.val (.int gr), .val (.int rd), .val (.int sd), .val (.int (0 : Int32)), .val (.ref b2), .val (.ref b8), .val (.ref b12), .unset, .unset] [(.int rd), (.int gr), (.ref b17), (.ref b17)])) rfl (by rw [hml]; rfl) own_pd3 rfl rfl (by show 2 * 0 + _ ≤ _; exact Nat.le_of_eq rfl) (hb hby at_95) (by decide) (by decide)
    obtain ⟨rfl, N20q, K20, q20_0, q20_1⟩ := hQ20
    have N20 := Fr.app N14 N20q
    refine own_stW st20 ?_
    show own_GW p e below s _ _ _ (T20.setTop (mkF m 98 #[.val (.int gr), .val (.int rd), .val (.int sd), .val (.int (0 : Int32)), .val (.ref b2), .val (.ref b8), .val (.ref b12), .unset, .unset] [(.ref b17)]))
    refine own_stW (fun zt zk => XS.astore X20.here hx rfl (hb hby at_98) rfl rfl (l' := #[.val (.int gr), .val (.int rd), .val (.int sd), .val (.int (0 : Int32)), .val (.ref b2), .val (.ref b8), .val (.ref b12), .val (.ref b17), .unset]) rfl zk) ?_
    show own_GW p e below s _ _ _ (T20.setTop (mkF m 100 #[.val (.int gr), .val (.int rd), .val (.int sd), .val (.int (0 : Int32)), .val (.ref b2), .val (.ref b8), .val (.ref b12), .val (.ref b17), .unset] []))
    refine own_stW (fun zt zk => XS.iloadN X20.here hx rfl (hb hby at_100) rfl zk) ?_
    show own_GW p e below s _ _ _ (T20.setTop (mkF m 101 #[.val (.int gr), .val (.int rd), .val (.int sd), .val (.int (0 : Int32)), .val (.ref b2), .val (.ref b8), .val (.ref b12), .val (.ref b17), .unset] [(.int (0 : Int32))]))
    refine own_stW (fun zt zk => XS.ifYes X20.here hx rfl (pc0 := 101) (pc' := 119) rfl (hb hby at_101) rfl ((if0 _ _).trans (teq (by decide : (0 : Int32) = (0 : Int32))).1) (by decide) (by decide) zk) ?_
    show own_GW p e below s _ _ _ (T20.setTop (mkF m 119 #[.val (.int gr), .val (.int rd), .val (.int sd), .val (.int (0 : Int32)), .val (.ref b2), .val (.ref b8), .val (.ref b12), .val (.ref b17), .unset] []))
    refine own_stW (fun zt zk => XS.iloadN X20.here hx rfl (hb hby at_119) rfl zk) ?_
    show own_GW p e below s _ _ _ (T20.setTop (mkF m 120 #[.val (.int gr), .val (.int rd), .val (.int sd), .val (.int (0 : Int32)), .val (.ref b2), .val (.ref b8), .val (.ref b12), .val (.ref b17), .unset] [(.int rd)]))
    refine own_stW (fun zt zk => XS.iloadN X20.here hx rfl (hb hby at_120) rfl zk) ?_
    show own_GW p e below s _ _ _ (T20.setTop (mkF m 121 #[.val (.int gr), .val (.int rd), .val (.int sd), .val (.int (0 : Int32)), .val (.ref b2), .val (.ref b8), .val (.ref b12), .val (.ref b17), .unset] [(.int gr), (.int rd)]))
    by_cases hc121_21 : gr < rd
    · refine own_stW (fun zt zk => XS.icmpNo X20.here hx rfl (hb hby at_121) rfl (tlt hc121_21).2.2.2 zk) ?_
      show own_GW p e below s _ _ _ (T20.setTop (mkF m 124 #[.val (.int gr), .val (.int rd), .val (.int sd), .val (.int (0 : Int32)), .val (.ref b2), .val (.ref b8), .val (.ref b12), .val (.ref b17), .unset] []))
      refine own_stW (fun zt zk => XS.iconst X20.here hx rfl (hb hby at_124) zk) ?_
      show own_GW p e below s _ _ _ (T20.setTop (mkF m 125 #[.val (.int gr), .val (.int rd), .val (.int sd), .val (.int (0 : Int32)), .val (.ref b2), .val (.ref b8), .val (.ref b12), .val (.ref b17), .unset] [(.int (1 : Int32))]))
      refine own_stW (fun zt zk => XS.goto X20.here hx rfl (pc0 := 125) (pc' := 129) rfl (hb hby at_125) (by decide) (by decide) zk) ?_
      show own_GW p e below s _ _ _ (T20.setTop (mkF m 129 #[.val (.int gr), .val (.int rd), .val (.int sd), .val (.int (0 : Int32)), .val (.ref b2), .val (.ref b8), .val (.ref b12), .val (.ref b17), .unset] [(.int (1 : Int32))]))
      refine own_stW (fun zt zk => XS.istore X20.here hx rfl (hb hby at_129) rfl (l' := #[.val (.int gr), .val (.int rd), .val (.int sd), .val (.int (0 : Int32)), .val (.ref b2), .val (.ref b8), .val (.ref b12), .val (.ref b17), .val (.int (1 : Int32))]) rfl zk) ?_
      show own_GW p e below s _ _ _ (T20.setTop (mkF m 131 #[.val (.int gr), .val (.int rd), .val (.int sd), .val (.int (0 : Int32)), .val (.ref b2), .val (.ref b8), .val (.ref b12), .val (.ref b17), .val (.int (1 : Int32))] []))
      refine own_stW (fun zt zk => XS.aload X20.here hx rfl (hb hby at_131) rfl rfl zk) ?_
      show own_GW p e below s _ _ _ (T20.setTop (mkF m 133 #[.val (.int gr), .val (.int rd), .val (.int sd), .val (.int (0 : Int32)), .val (.ref b2), .val (.ref b8), .val (.ref b12), .val (.ref b17), .val (.int (1 : Int32))] [(.ref b17)]))
      refine own_stW (fun zt zk => XS.aload X20.here hx rfl (hb hby at_133) rfl rfl zk) ?_
      show own_GW p e below s _ _ _ (T20.setTop (mkF m 135 #[.val (.int gr), .val (.int rd), .val (.int sd), .val (.int (0 : Int32)), .val (.ref b2), .val (.ref b8), .val (.ref b12), .val (.ref b17), .val (.int (1 : Int32))] [(.ref b12), (.ref b17)]))
      have F23 : Fld Z T20.heap b12 "java/lang/String" "value" "[B" (.ref t14) := ((q14_2.ext E17).keep K20 (ninS ne17_b12 nin0))
      have F24 : Fld Z T20.heap b12 "java/lang/String" "coder" "B" (.int (0 : Int32)) := ((q14_1.ext E17).keep K20 (ninS ne17_b12 nin0))
      have E25 : Exa Z T20.heap b12 "java/lang/String" := ((q14_0.ext E17).keep K20)
      have V26 : Arv Z T20.heap t14 kb14 .byte (3 : Int32) (own_by own_red) (.int 0) := ((q14_3.ext E17).keep K20 (ninS ne17_t14 nin0))
      have E27 : Exa Z T20.heap b17 "com/example/veiled_crown/veiledcrown/engine/Markers" := (A17.keep K20)
      obtain ⟨_, T22, L22, X22, hQ22, hS, hZ, hown, st22⟩ := own_callVI X20 hx hZ hS hI (C := "com/example/veiled_crown/veiledcrown/engine/Markers") (y := (⟨"com/example/veiled_crown/veiledcrown/engine/Markers", "leads", "(Ljava/lang/String;)Z"⟩ : MethodName)) (z := (⟨"com/example/veiled_crown/veiledcrown/engine/Markers", "leads", "(Ljava/lang/String;)Z"⟩ : MethodName)) (a := b17) (argsL := [(.ref b12)]) (rest := []) 0 hown (hw _ (List.mem_of_getElem? (i := 46) rfl)) (hw _ (List.mem_of_getElem? (i := 47) rfl)) (own_nf hZ (hw _ (List.mem_of_getElem? (i := 49) rfl))) (hw _ (List.mem_of_getElem? (i := 49) rfl)) (hw _ (List.mem_of_getElem? (i := 48) rfl)) (hw _ (List.mem_of_getElem? (i := 32) rfl)) (hw _ (List.mem_of_getElem? (i := 50) rfl)) (by decide) (own_lds l Z a0 hw [] b17 b12 t14 gr rd zz kb14 (3 : Int32) own_red T20.heap n0 (Nat.le_trans (Nat.le_trans (Nat.le_trans (Nat.le_trans (Nat.le_trans (Nat.le_trans (Nat.le_trans (Nat.le_trans (Nat.le_trans (Nat.le_trans (Nat.le_trans (Nat.le_trans (Nat.le_trans (Nat.le_trans Z0 E2.1) (Nat.le_of_eq W3.size.symm)) (Nat.le_of_eq W4.size.symm)) (Nat.le_of_eq W5.size.symm)) (Nat.le_of_eq W6.size.symm)) (Nat.le_of_eq W7.size.symm)) E8.1) (Nat.le_of_eq W9.size.symm)) (Nat.le_of_eq W10.size.symm)) (Nat.le_of_eq W11.size.symm)) E12.1) K14.1) E17.1) K20.1) E25 F23 F24 V26 q20_0 q20_1 p0_ ((((((((((((((p1_.ext E2).wr W3 ge2).wr W4 ge2).wr W5 ge2).wr W6 ge2).wr W7 ge2).ext E8).wr W9 ge8).wr W10 ge8).wr W11 ge8).ext E12).keep K14 (allS ge12 all0)).ext E17).keep K20 (allS ge17 all0)) p2_ p3_ p4_ rfl (Or.inr rfl)) (by decide) (by decide) rfl (Nat.zero_le _) E27 (g := (mkF m 135 #[.val (.int gr), .val (.int rd), .val (.int sd), .val (.int (0 : Int32)), .val (.ref b2), .val (.ref b8), .val (.ref b12), .val (.ref b17), .val (.int (1 : Int32))] [(.ref b12), (.ref b17)])) rfl (by rw [hml]; rfl) own_pd4 rfl rfl (by show 2 * 0 + _ ≤ _; exact Nat.le_of_eq rfl) (hb hby at_135) (by decide) (by decide)
      obtain ⟨rfl, N22q, K22⟩ := hQ22
      have N22 := Fr.app N20 N22q
      refine own_stW st22 ?_
      show own_GW p e below s _ _ _ (T22.setTop (mkF m 138 #[.val (.int gr), .val (.int rd), .val (.int sd), .val (.int (0 : Int32)), .val (.ref b2), .val (.ref b8), .val (.ref b12), .val (.ref b17), .val (.int (1 : Int32))] [(.int (own_b (¬ (gr = rd) ∧ ((rd < gr) ↔ (own_red = own_green)))))]))
      refine own_stW (fun zt zk => XS.iload X22.here hx rfl (hb hby at_138) rfl zk) ?_
      show own_GW p e below s _ _ _ (T22.setTop (mkF m 140 #[.val (.int gr), .val (.int rd), .val (.int sd), .val (.int (0 : Int32)), .val (.ref b2), .val (.ref b8), .val (.ref b12), .val (.ref b17), .val (.int (1 : Int32))] [(.int (1 : Int32)), (.int (own_b (¬ (gr = rd) ∧ ((rd < gr) ↔ (own_red = own_green)))))]))
      have hc140_28 : (own_b (¬ (gr = rd) ∧ ((rd < gr) ↔ (own_red = own_green)))) = (1 : Int32) := (own_b1 ((own_LBr _ _).mp hc121_21))
      refine own_stW (fun zt zk => XS.icmpNo X22.here hx rfl (hb hby at_140) rfl (teq hc140_28).2 zk) ?_
      show own_GW p e below s _ _ _ (T22.setTop (mkF m 143 #[.val (.int gr), .val (.int rd), .val (.int sd), .val (.int (0 : Int32)), .val (.ref b2), .val (.ref b8), .val (.ref b12), .val (.ref b17), .val (.int (1 : Int32))] []))
      refine own_stW (fun zt zk => XS.iconst X22.here hx rfl (hb hby at_143) zk) ?_
      show own_GW p e below s _ _ _ (T22.setTop (mkF m 144 #[.val (.int gr), .val (.int rd), .val (.int sd), .val (.int (0 : Int32)), .val (.ref b2), .val (.ref b8), .val (.ref b12), .val (.ref b17), .val (.int (1 : Int32))] [(.int (1 : Int32))]))
      refine own_stW (fun zt zk => XS.goto X22.here hx rfl (pc0 := 144) (pc' := 148) rfl (hb hby at_144) (by decide) (by decide) zk) ?_
      show own_GW p e below s _ _ _ (T22.setTop (mkF m 148 #[.val (.int gr), .val (.int rd), .val (.int sd), .val (.int (0 : Int32)), .val (.ref b2), .val (.ref b8), .val (.ref b12), .val (.ref b17), .val (.int (1 : Int32))] [(.int (1 : Int32))]))
      refine own_retZW X22 hx hlk hS (Nat.le_refl T22.heap.size) hret (by decide) (hb hby at_148) (by decide) (by decide) ?_
      show Q_own_law Z gr rd sd zz h0 n0 (some (.int (1 : Int32))) T22.heap _
      exact ⟨rfl, N22⟩
    · refine own_stW (fun zt zk => XS.icmpYes X20.here hx rfl (pc0 := 121) (pc' := 128) rfl (hb hby at_121) rfl (flt hc121_21).2.2.2 (by decide) (by decide) zk) ?_
      show own_GW p e below s _ _ _ (T20.setTop (mkF m 128 #[.val (.int gr), .val (.int rd), .val (.int sd), .val (.int (0 : Int32)), .val (.ref b2), .val (.ref b8), .val (.ref b12), .val (.ref b17), .unset] []))
      refine own_stW (fun zt zk => XS.iconst X20.here hx rfl (hb hby at_128) zk) ?_
      show own_GW p e below s _ _ _ (T20.setTop (mkF m 129 #[.val (.int gr), .val (.int rd), .val (.int sd), .val (.int (0 : Int32)), .val (.ref b2), .val (.ref b8), .val (.ref b12), .val (.ref b17), .unset] [(.int (0 : Int32))]))
      refine own_stW (fun zt zk => XS.istore X20.here hx rfl (hb hby at_129) rfl (l' := #[.val (.int gr), .val (.int rd), .val (.int sd), .val (.int (0 : Int32)), .val (.ref b2), .val (.ref b8), .val (.ref b12), .val (.ref b17), .val (.int (0 : Int32))]) rfl zk) ?_
      show own_GW p e below s _ _ _ (T20.setTop (mkF m 131 #[.val (.int gr), .val (.int rd), .val (.int sd), .val (.int (0 : Int32)), .val (.ref b2), .val (.ref b8), .val (.ref b12), .val (.ref b17), .val (.int (0 : Int32))] []))
      refine own_stW (fun zt zk => XS.aload X20.here hx rfl (hb hby at_131) rfl rfl zk) ?_
      show own_GW p e below s _ _ _ (T20.setTop (mkF m 133 #[.val (.int gr), .val (.int rd), .val (.int sd), .val (.int (0 : Int32)), .val (.ref b2), .val (.ref b8), .val (.ref b12), .val (.ref b17), .val (.int (0 : Int32))] [(.ref b17)]))
      refine own_stW (fun zt zk => XS.aload X20.here hx rfl (hb hby at_133) rfl rfl zk) ?_
      show own_GW p e below s _ _ _ (T20.setTop (mkF m 135 #[.val (.int gr), .val (.int rd), .val (.int sd), .val (.int (0 : Int32)), .val (.ref b2), .val (.ref b8), .val (.ref b12), .val (.ref b17), .val (.int (0 : Int32))] [(.ref b12), (.ref b17)]))
      have F30 : Fld Z T20.heap b12 "java/lang/String" "value" "[B" (.ref t14) := ((q14_2.ext E17).keep K20 (ninS ne17_b12 nin0))
      have F31 : Fld Z T20.heap b12 "java/lang/String" "coder" "B" (.int (0 : Int32)) := ((q14_1.ext E17).keep K20 (ninS ne17_b12 nin0))
      have E32 : Exa Z T20.heap b12 "java/lang/String" := ((q14_0.ext E17).keep K20)
      have V33 : Arv Z T20.heap t14 kb14 .byte (3 : Int32) (own_by own_red) (.int 0) := ((q14_3.ext E17).keep K20 (ninS ne17_t14 nin0))
      have E34 : Exa Z T20.heap b17 "com/example/veiled_crown/veiledcrown/engine/Markers" := (A17.keep K20)
      obtain ⟨_, T29, L29, X29, hQ29, hS, hZ, hown, st29⟩ := own_callVI X20 hx hZ hS hI (C := "com/example/veiled_crown/veiledcrown/engine/Markers") (y := (⟨"com/example/veiled_crown/veiledcrown/engine/Markers", "leads", "(Ljava/lang/String;)Z"⟩ : MethodName)) (z := (⟨"com/example/veiled_crown/veiledcrown/engine/Markers", "leads", "(Ljava/lang/String;)Z"⟩ : MethodName)) (a := b17) (argsL := [(.ref b12)]) (rest := []) 0 hown (hw _ (List.mem_of_getElem? (i := 46) rfl)) (hw _ (List.mem_of_getElem? (i := 47) rfl)) (own_nf hZ (hw _ (List.mem_of_getElem? (i := 49) rfl))) (hw _ (List.mem_of_getElem? (i := 49) rfl)) (hw _ (List.mem_of_getElem? (i := 48) rfl)) (hw _ (List.mem_of_getElem? (i := 32) rfl)) (hw _ (List.mem_of_getElem? (i := 50) rfl)) (by decide) (own_lds l Z a0 hw [] b17 b12 t14 gr rd zz kb14 (3 : Int32) own_red T20.heap n0 (Nat.le_trans (Nat.le_trans (Nat.le_trans (Nat.le_trans (Nat.le_trans (Nat.le_trans (Nat.le_trans (Nat.le_trans (Nat.le_trans (Nat.le_trans (Nat.le_trans (Nat.le_trans (Nat.le_trans (Nat.le_trans Z0 E2.1) (Nat.le_of_eq W3.size.symm)) (Nat.le_of_eq W4.size.symm)) (Nat.le_of_eq W5.size.symm)) (Nat.le_of_eq W6.size.symm)) (Nat.le_of_eq W7.size.symm)) E8.1) (Nat.le_of_eq W9.size.symm)) (Nat.le_of_eq W10.size.symm)) (Nat.le_of_eq W11.size.symm)) E12.1) K14.1) E17.1) K20.1) E32 F30 F31 V33 q20_0 q20_1 p0_ ((((((((((((((p1_.ext E2).wr W3 ge2).wr W4 ge2).wr W5 ge2).wr W6 ge2).wr W7 ge2).ext E8).wr W9 ge8).wr W10 ge8).wr W11 ge8).ext E12).keep K14 (allS ge12 all0)).ext E17).keep K20 (allS ge17 all0)) p2_ p3_ p4_ rfl (Or.inr rfl)) (by decide) (by decide) rfl (Nat.zero_le _) E34 (g := (mkF m 135 #[.val (.int gr), .val (.int rd), .val (.int sd), .val (.int (0 : Int32)), .val (.ref b2), .val (.ref b8), .val (.ref b12), .val (.ref b17), .val (.int (0 : Int32))] [(.ref b12), (.ref b17)])) rfl (by rw [hml]; rfl) own_pd4 rfl rfl (by show 2 * 0 + _ ≤ _; exact Nat.le_of_eq rfl) (hb hby at_135) (by decide) (by decide)
      obtain ⟨rfl, N29q, K29⟩ := hQ29
      have N29 := Fr.app N20 N29q
      refine own_stW st29 ?_
      show own_GW p e below s _ _ _ (T29.setTop (mkF m 138 #[.val (.int gr), .val (.int rd), .val (.int sd), .val (.int (0 : Int32)), .val (.ref b2), .val (.ref b8), .val (.ref b12), .val (.ref b17), .val (.int (0 : Int32))] [(.int (own_b (¬ (gr = rd) ∧ ((rd < gr) ↔ (own_red = own_green)))))]))
      refine own_stW (fun zt zk => XS.iload X29.here hx rfl (hb hby at_138) rfl zk) ?_
      show own_GW p e below s _ _ _ (T29.setTop (mkF m 140 #[.val (.int gr), .val (.int rd), .val (.int sd), .val (.int (0 : Int32)), .val (.ref b2), .val (.ref b8), .val (.ref b12), .val (.ref b17), .val (.int (0 : Int32))] [(.int (0 : Int32)), (.int (own_b (¬ (gr = rd) ∧ ((rd < gr) ↔ (own_red = own_green)))))]))
      have hc140_35 : ¬ ((¬ (gr = rd) ∧ ((rd < gr) ↔ (own_red = own_green)))) := (fun q => hc121_21 ((own_LBr _ _).mpr q))
      refine own_stW (fun zt zk => XS.icmpNo X29.here hx rfl (hb hby at_140) rfl (teq (own_b0 hc140_35)).2 zk) ?_
      show own_GW p e below s _ _ _ (T29.setTop (mkF m 143 #[.val (.int gr), .val (.int rd), .val (.int sd), .val (.int (0 : Int32)), .val (.ref b2), .val (.ref b8), .val (.ref b12), .val (.ref b17), .val (.int (0 : Int32))] []))
      refine own_stW (fun zt zk => XS.iconst X29.here hx rfl (hb hby at_143) zk) ?_
      show own_GW p e below s _ _ _ (T29.setTop (mkF m 144 #[.val (.int gr), .val (.int rd), .val (.int sd), .val (.int (0 : Int32)), .val (.ref b2), .val (.ref b8), .val (.ref b12), .val (.ref b17), .val (.int (0 : Int32))] [(.int (1 : Int32))]))
      refine own_stW (fun zt zk => XS.goto X29.here hx rfl (pc0 := 144) (pc' := 148) rfl (hb hby at_144) (by decide) (by decide) zk) ?_
      show own_GW p e below s _ _ _ (T29.setTop (mkF m 148 #[.val (.int gr), .val (.int rd), .val (.int sd), .val (.int (0 : Int32)), .val (.ref b2), .val (.ref b8), .val (.ref b12), .val (.ref b17), .val (.int (0 : Int32))] [(.int (1 : Int32))]))
      refine own_retZW X29 hx hlk hS (Nat.le_refl T29.heap.size) hret (by decide) (hb hby at_148) (by decide) (by decide) ?_
      show Q_own_law Z gr rd sd zz h0 n0 (some (.int (1 : Int32))) T29.heap _
      exact ⟨rfl, N29⟩
  · refine own_stW (fun zt zk => XS.ifNo X0.here hx rfl (hb hby at_3) rfl ((if0 _ _).trans (feq hc3_1).1) zk) ?_
    show own_GW p e below s _ _ _ (T0.setTop (mkF m 6 #[.val (.int gr), .val (.int rd), .val (.int sd), .unset, .unset, .unset, .unset, .unset, .unset] []))
    refine own_stW (fun zt zk => XS.iconst X0.here hx rfl (hb hby at_6) zk) ?_
    show own_GW p e below s _ _ _ (T0.setTop (mkF m 7 #[.val (.int gr), .val (.int rd), .val (.int sd), .unset, .unset, .unset, .unset, .unset, .unset] [(.int (1 : Int32))]))
    refine own_stW (fun zt zk => XS.goto X0.here hx rfl (pc0 := 7) (pc' := 11) rfl (hb hby at_7) (by decide) (by decide) zk) ?_
    show own_GW p e below s _ _ _ (T0.setTop (mkF m 11 #[.val (.int gr), .val (.int rd), .val (.int sd), .unset, .unset, .unset, .unset, .unset, .unset] [(.int (1 : Int32))]))
    refine own_stW (fun zt zk => XS.istoreN X0.here hx rfl (hb hby at_11) rfl (l' := #[.val (.int gr), .val (.int rd), .val (.int sd), .val (.int (1 : Int32)), .unset, .unset, .unset, .unset, .unset]) rfl zk) ?_
    show own_GW p e below s _ _ _ (T0.setTop (mkF m 12 #[.val (.int gr), .val (.int rd), .val (.int sd), .val (.int (1 : Int32)), .unset, .unset, .unset, .unset, .unset] []))
    refine own_stW (fun zt zk => XS.iconst X0.here hx rfl (hb hby at_12) zk) ?_
    show own_GW p e below s _ _ _ (T0.setTop (mkF m 13 #[.val (.int gr), .val (.int rd), .val (.int sd), .val (.int (1 : Int32)), .unset, .unset, .unset, .unset, .unset] [(.int (5 : Int32))]))
    obtain ⟨T36, h36, X36, e36, E36, V36, st36⟩ := own_newP X0 hx hZ (aty := .char) (hw _ (List.mem_of_getElem? (i := 0) rfl)) e0 (g := (mkF m 13 #[.val (.int gr), .val (.int rd), .val (.int sd), .val (.int (1 : Int32)), .unset, .unset, .unset, .unset, .unset] [(.int (5 : Int32))])) rfl (hb hby at_13) rfl (n := 5) (by decide) (cap := 5) (Nat.le_refl _) (by decide) (by decide) (by decide)
    obtain ⟨b36, g36⟩ : ∃ z, z = h0.size := ⟨_, rfl⟩
    rw [← g36] at V36 st36
    have ge36 : n0 ≤ b36 := Nat.le_trans Z0 (Nat.le_of_eq g36.symm)
    have sz36 : h0.size ≤ b36 := Nat.le_trans (Nat.le_refl h0.size) (Nat.le_of_eq g36.symm)
    have V36a : own_A Z h36 b36 .char 5 (fun q => .int ((fun _ => (0 : Int32)) q)) := V36
    refine own_stW st36 ?_
    show own_GW p e below s _ _ _ (T36.setTop (mkF m 15 #[.val (.int gr), .val (.int rd), .val (.int sd), .val (.int (1 : Int32)), .unset, .unset, .unset, .unset, .unset] [(.ref b36)]))
    refine own_stW (fun zt zk => XS.dup X36.here hx rfl (hb hby at_15) rfl rfl zk) ?_
    show own_GW p e below s _ _ _ (T36.setTop (mkF m 16 #[.val (.int gr), .val (.int rd), .val (.int sd), .val (.int (1 : Int32)), .unset, .unset, .unset, .unset, .unset] [(.ref b36), (.ref b36)]))
    refine own_stW (fun zt zk => XS.iconst X36.here hx rfl (hb hby at_16) zk) ?_
    show own_GW p e below s _ _ _ (T36.setTop (mkF m 17 #[.val (.int gr), .val (.int rd), .val (.int sd), .val (.int (1 : Int32)), .unset, .unset, .unset, .unset, .unset] [(.int (0 : Int32)), (.ref b36), (.ref b36)]))
    refine own_stW (fun zt zk => XS.bipush X36.here hx rfl (hb hby at_17) zk) ?_
    show own_GW p e below s _ _ _ (T36.setTop (mkF m 19 #[.val (.int gr), .val (.int rd), .val (.int sd), .val (.int (1 : Int32)), .unset, .unset, .unset, .unset, .unset] [(.int (103 : Int32)), (.int (0 : Int32)), (.ref b36), (.ref b36)]))
    obtain ⟨T37, h37, X37, e37, W37, V37, st37⟩ := own_castore X36 hx hZ e36 V36a (i := 0) (by decide) (by decide) (103 : Int32) (by decide) (g := (mkF m 19 #[.val (.int gr), .val (.int rd), .val (.int sd), .val (.int (1 : Int32)), .unset, .unset, .unset, .unset, .unset] [(.int (103 : Int32)), (.int (0 : Int32)), (.ref b36), (.ref b36)])) rfl rfl (hb hby at_19)
    refine own_stW st37 ?_
    have N37 := Fr.snoc X37 N0 ge36
    have V37a : own_A Z h37 b36 .char 5 (fun q => .int ((own_up (fun _ => (0 : Int32)) 0 (103 : Int32)) q)) := V37.congr (fun q _ => by simp only [own_up]; split <;> rfl)
    show own_GW p e below s _ _ _ (T37.setTop (mkF m 20 #[.val (.int gr), .val (.int rd), .val (.int sd), .val (.int (1 : Int32)), .unset, .unset, .unset, .unset, .unset] [(.ref b36)]))
    refine own_stW (fun zt zk => XS.dup X37.here hx rfl (hb hby at_20) rfl rfl zk) ?_
    show own_GW p e below s _ _ _ (T37.setTop (mkF m 21 #[.val (.int gr), .val (.int rd), .val (.int sd), .val (.int (1 : Int32)), .unset, .unset, .unset, .unset, .unset] [(.ref b36), (.ref b36)]))
    refine own_stW (fun zt zk => XS.iconst X37.here hx rfl (hb hby at_21) zk) ?_
    show own_GW p e below s _ _ _ (T37.setTop (mkF m 22 #[.val (.int gr), .val (.int rd), .val (.int sd), .val (.int (1 : Int32)), .unset, .unset, .unset, .unset, .unset] [(.int (1 : Int32)), (.ref b36), (.ref b36)]))
    refine own_stW (fun zt zk => XS.bipush X37.here hx rfl (hb hby at_22) zk) ?_
    show own_GW p e below s _ _ _ (T37.setTop (mkF m 24 #[.val (.int gr), .val (.int rd), .val (.int sd), .val (.int (1 : Int32)), .unset, .unset, .unset, .unset, .unset] [(.int (114 : Int32)), (.int (1 : Int32)), (.ref b36), (.ref b36)]))
    obtain ⟨T38, h38, X38, e38, W38, V38, st38⟩ := own_castore X37 hx hZ e37 V37a (i := 1) (by decide) (by decide) (114 : Int32) (by decide) (g := (mkF m 24 #[.val (.int gr), .val (.int rd), .val (.int sd), .val (.int (1 : Int32)), .unset, .unset, .unset, .unset, .unset] [(.int (114 : Int32)), (.int (1 : Int32)), (.ref b36), (.ref b36)])) rfl rfl (hb hby at_24)
    refine own_stW st38 ?_
    have N38 := Fr.snoc X38 N37 ge36
    have V38a : own_A Z h38 b36 .char 5 (fun q => .int ((own_up (own_up (fun _ => (0 : Int32)) 0 (103 : Int32)) 1 (114 : Int32)) q)) := V38.congr (fun q _ => by simp only [own_up]; split <;> rfl)
    show own_GW p e below s _ _ _ (T38.setTop (mkF m 25 #[.val (.int gr), .val (.int rd), .val (.int sd), .val (.int (1 : Int32)), .unset, .unset, .unset, .unset, .unset] [(.ref b36)]))
    refine own_stW (fun zt zk => XS.dup X38.here hx rfl (hb hby at_25) rfl rfl zk) ?_
    show own_GW p e below s _ _ _ (T38.setTop (mkF m 26 #[.val (.int gr), .val (.int rd), .val (.int sd), .val (.int (1 : Int32)), .unset, .unset, .unset, .unset, .unset] [(.ref b36), (.ref b36)]))
    refine own_stW (fun zt zk => XS.iconst X38.here hx rfl (hb hby at_26) zk) ?_
    show own_GW p e below s _ _ _ (T38.setTop (mkF m 27 #[.val (.int gr), .val (.int rd), .val (.int sd), .val (.int (1 : Int32)), .unset, .unset, .unset, .unset, .unset] [(.int (2 : Int32)), (.ref b36), (.ref b36)]))
    refine own_stW (fun zt zk => XS.bipush X38.here hx rfl (hb hby at_27) zk) ?_
    show own_GW p e below s _ _ _ (T38.setTop (mkF m 29 #[.val (.int gr), .val (.int rd), .val (.int sd), .val (.int (1 : Int32)), .unset, .unset, .unset, .unset, .unset] [(.int (101 : Int32)), (.int (2 : Int32)), (.ref b36), (.ref b36)]))
    obtain ⟨T39, h39, X39, e39, W39, V39, st39⟩ := own_castore X38 hx hZ e38 V38a (i := 2) (by decide) (by decide) (101 : Int32) (by decide) (g := (mkF m 29 #[.val (.int gr), .val (.int rd), .val (.int sd), .val (.int (1 : Int32)), .unset, .unset, .unset, .unset, .unset] [(.int (101 : Int32)), (.int (2 : Int32)), (.ref b36), (.ref b36)])) rfl rfl (hb hby at_29)
    refine own_stW st39 ?_
    have N39 := Fr.snoc X39 N38 ge36
    have V39a : own_A Z h39 b36 .char 5 (fun q => .int ((own_up (own_up (own_up (fun _ => (0 : Int32)) 0 (103 : Int32)) 1 (114 : Int32)) 2 (101 : Int32)) q)) := V39.congr (fun q _ => by simp only [own_up]; split <;> rfl)
    show own_GW p e below s _ _ _ (T39.setTop (mkF m 30 #[.val (.int gr), .val (.int rd), .val (.int sd), .val (.int (1 : Int32)), .unset, .unset, .unset, .unset, .unset] [(.ref b36)]))
    refine own_stW (fun zt zk => XS.dup X39.here hx rfl (hb hby at_30) rfl rfl zk) ?_
    show own_GW p e below s _ _ _ (T39.setTop (mkF m 31 #[.val (.int gr), .val (.int rd), .val (.int sd), .val (.int (1 : Int32)), .unset, .unset, .unset, .unset, .unset] [(.ref b36), (.ref b36)]))
    refine own_stW (fun zt zk => XS.iconst X39.here hx rfl (hb hby at_31) zk) ?_
    show own_GW p e below s _ _ _ (T39.setTop (mkF m 32 #[.val (.int gr), .val (.int rd), .val (.int sd), .val (.int (1 : Int32)), .unset, .unset, .unset, .unset, .unset] [(.int (3 : Int32)), (.ref b36), (.ref b36)]))
    refine own_stW (fun zt zk => XS.bipush X39.here hx rfl (hb hby at_32) zk) ?_
    show own_GW p e below s _ _ _ (T39.setTop (mkF m 34 #[.val (.int gr), .val (.int rd), .val (.int sd), .val (.int (1 : Int32)), .unset, .unset, .unset, .unset, .unset] [(.int (101 : Int32)), (.int (3 : Int32)), (.ref b36), (.ref b36)]))
    obtain ⟨T40, h40, X40, e40, W40, V40, st40⟩ := own_castore X39 hx hZ e39 V39a (i := 3) (by decide) (by decide) (101 : Int32) (by decide) (g := (mkF m 34 #[.val (.int gr), .val (.int rd), .val (.int sd), .val (.int (1 : Int32)), .unset, .unset, .unset, .unset, .unset] [(.int (101 : Int32)), (.int (3 : Int32)), (.ref b36), (.ref b36)])) rfl rfl (hb hby at_34)
    refine own_stW st40 ?_
    have N40 := Fr.snoc X40 N39 ge36
    have V40a : own_A Z h40 b36 .char 5 (fun q => .int ((own_up (own_up (own_up (own_up (fun _ => (0 : Int32)) 0 (103 : Int32)) 1 (114 : Int32)) 2 (101 : Int32)) 3 (101 : Int32)) q)) := V40.congr (fun q _ => by simp only [own_up]; split <;> rfl)
    show own_GW p e below s _ _ _ (T40.setTop (mkF m 35 #[.val (.int gr), .val (.int rd), .val (.int sd), .val (.int (1 : Int32)), .unset, .unset, .unset, .unset, .unset] [(.ref b36)]))
    refine own_stW (fun zt zk => XS.dup X40.here hx rfl (hb hby at_35) rfl rfl zk) ?_
    show own_GW p e below s _ _ _ (T40.setTop (mkF m 36 #[.val (.int gr), .val (.int rd), .val (.int sd), .val (.int (1 : Int32)), .unset, .unset, .unset, .unset, .unset] [(.ref b36), (.ref b36)]))
    refine own_stW (fun zt zk => XS.iconst X40.here hx rfl (hb hby at_36) zk) ?_
    show own_GW p e below s _ _ _ (T40.setTop (mkF m 37 #[.val (.int gr), .val (.int rd), .val (.int sd), .val (.int (1 : Int32)), .unset, .unset, .unset, .unset, .unset] [(.int (4 : Int32)), (.ref b36), (.ref b36)]))
    refine own_stW (fun zt zk => XS.bipush X40.here hx rfl (hb hby at_37) zk) ?_
    show own_GW p e below s _ _ _ (T40.setTop (mkF m 39 #[.val (.int gr), .val (.int rd), .val (.int sd), .val (.int (1 : Int32)), .unset, .unset, .unset, .unset, .unset] [(.int (110 : Int32)), (.int (4 : Int32)), (.ref b36), (.ref b36)]))
    obtain ⟨T41, h41, X41, e41, W41, V41, st41⟩ := own_castore X40 hx hZ e40 V40a (i := 4) (by decide) (by decide) (110 : Int32) (by decide) (g := (mkF m 39 #[.val (.int gr), .val (.int rd), .val (.int sd), .val (.int (1 : Int32)), .unset, .unset, .unset, .unset, .unset] [(.int (110 : Int32)), (.int (4 : Int32)), (.ref b36), (.ref b36)])) rfl rfl (hb hby at_39)
    refine own_stW st41 ?_
    have N41 := Fr.snoc X41 N40 ge36
    have V41a : own_A Z h41 b36 .char 5 (fun q => .int ((own_up (own_up (own_up (own_up (own_up (fun _ => (0 : Int32)) 0 (103 : Int32)) 1 (114 : Int32)) 2 (101 : Int32)) 3 (101 : Int32)) 4 (110 : Int32)) q)) := V41.congr (fun q _ => by simp only [own_up]; split <;> rfl)
    show own_GW p e below s _ _ _ (T41.setTop (mkF m 40 #[.val (.int gr), .val (.int rd), .val (.int sd), .val (.int (1 : Int32)), .unset, .unset, .unset, .unset, .unset] [(.ref b36)]))
    refine own_stW (fun zt zk => XS.astore X41.here hx rfl (hb hby at_40) rfl rfl (l' := #[.val (.int gr), .val (.int rd), .val (.int sd), .val (.int (1 : Int32)), .val (.ref b36), .unset, .unset, .unset, .unset]) rfl zk) ?_
    show own_GW p e below s _ _ _ (T41.setTop (mkF m 42 #[.val (.int gr), .val (.int rd), .val (.int sd), .val (.int (1 : Int32)), .val (.ref b36), .unset, .unset, .unset, .unset] []))
    refine own_stW (fun zt zk => XS.iconst X41.here hx rfl (hb hby at_42) zk) ?_
    show own_GW p e below s _ _ _ (T41.setTop (mkF m 43 #[.val (.int gr), .val (.int rd), .val (.int sd), .val (.int (1 : Int32)), .val (.ref b36), .unset, .unset, .unset, .unset] [(.int (3 : Int32))]))
    obtain ⟨T42, h42, X42, e42, E42, V42, st42⟩ := own_newP X41 hx hZ (aty := .char) (hw _ (List.mem_of_getElem? (i := 0) rfl)) e41 (g := (mkF m 43 #[.val (.int gr), .val (.int rd), .val (.int sd), .val (.int (1 : Int32)), .val (.ref b36), .unset, .unset, .unset, .unset] [(.int (3 : Int32))])) rfl (hb hby at_43) rfl (n := 3) (by decide) (cap := 3) (Nat.le_refl _) (by decide) (by decide) (by decide)
    obtain ⟨b42, g42⟩ : ∃ z, z = h41.size := ⟨_, rfl⟩
    rw [← g42] at V42 st42
    have ne42_b36 : b36 ≠ b42 := by rw [g42]; exact Nat.ne_of_lt V41a.lt
    have ge42 : n0 ≤ b42 := Nat.le_trans (Nat.le_trans (Nat.le_trans (Nat.le_trans (Nat.le_trans (Nat.le_trans (Nat.le_trans Z0 E36.1) (Nat.le_of_eq W37.size.symm)) (Nat.le_of_eq W38.size.symm)) (Nat.le_of_eq W39.size.symm)) (Nat.le_of_eq W40.size.symm)) (Nat.le_of_eq W41.size.symm)) (Nat.le_of_eq g42.symm)
    have sz42 : h0.size ≤ b42 := Nat.le_trans (Nat.le_trans (Nat.le_trans (Nat.le_trans (Nat.le_trans (Nat.le_trans (Nat.le_trans (Nat.le_refl h0.size) E36.1) (Nat.le_of_eq W37.size.symm)) (Nat.le_of_eq W38.size.symm)) (Nat.le_of_eq W39.size.symm)) (Nat.le_of_eq W40.size.symm)) (Nat.le_of_eq W41.size.symm)) (Nat.le_of_eq g42.symm)
    have V42a : own_A Z h42 b42 .char 3 (fun q => .int ((fun _ => (0 : Int32)) q)) := V42
    refine own_stW st42 ?_
    show own_GW p e below s _ _ _ (T42.setTop (mkF m 45 #[.val (.int gr), .val (.int rd), .val (.int sd), .val (.int (1 : Int32)), .val (.ref b36), .unset, .unset, .unset, .unset] [(.ref b42)]))
    refine own_stW (fun zt zk => XS.dup X42.here hx rfl (hb hby at_45) rfl rfl zk) ?_
    show own_GW p e below s _ _ _ (T42.setTop (mkF m 46 #[.val (.int gr), .val (.int rd), .val (.int sd), .val (.int (1 : Int32)), .val (.ref b36), .unset, .unset, .unset, .unset] [(.ref b42), (.ref b42)]))
    refine own_stW (fun zt zk => XS.iconst X42.here hx rfl (hb hby at_46) zk) ?_
    show own_GW p e below s _ _ _ (T42.setTop (mkF m 47 #[.val (.int gr), .val (.int rd), .val (.int sd), .val (.int (1 : Int32)), .val (.ref b36), .unset, .unset, .unset, .unset] [(.int (0 : Int32)), (.ref b42), (.ref b42)]))
    refine own_stW (fun zt zk => XS.bipush X42.here hx rfl (hb hby at_47) zk) ?_
    show own_GW p e below s _ _ _ (T42.setTop (mkF m 49 #[.val (.int gr), .val (.int rd), .val (.int sd), .val (.int (1 : Int32)), .val (.ref b36), .unset, .unset, .unset, .unset] [(.int (114 : Int32)), (.int (0 : Int32)), (.ref b42), (.ref b42)]))
    obtain ⟨T43, h43, X43, e43, W43, V43, st43⟩ := own_castore X42 hx hZ e42 V42a (i := 0) (by decide) (by decide) (114 : Int32) (by decide) (g := (mkF m 49 #[.val (.int gr), .val (.int rd), .val (.int sd), .val (.int (1 : Int32)), .val (.ref b36), .unset, .unset, .unset, .unset] [(.int (114 : Int32)), (.int (0 : Int32)), (.ref b42), (.ref b42)])) rfl rfl (hb hby at_49)
    refine own_stW st43 ?_
    have N43 := Fr.snoc X43 N41 ge42
    have V43a : own_A Z h43 b42 .char 3 (fun q => .int ((own_up (fun _ => (0 : Int32)) 0 (114 : Int32)) q)) := V43.congr (fun q _ => by simp only [own_up]; split <;> rfl)
    show own_GW p e below s _ _ _ (T43.setTop (mkF m 50 #[.val (.int gr), .val (.int rd), .val (.int sd), .val (.int (1 : Int32)), .val (.ref b36), .unset, .unset, .unset, .unset] [(.ref b42)]))
    refine own_stW (fun zt zk => XS.dup X43.here hx rfl (hb hby at_50) rfl rfl zk) ?_
    show own_GW p e below s _ _ _ (T43.setTop (mkF m 51 #[.val (.int gr), .val (.int rd), .val (.int sd), .val (.int (1 : Int32)), .val (.ref b36), .unset, .unset, .unset, .unset] [(.ref b42), (.ref b42)]))
    refine own_stW (fun zt zk => XS.iconst X43.here hx rfl (hb hby at_51) zk) ?_
    show own_GW p e below s _ _ _ (T43.setTop (mkF m 52 #[.val (.int gr), .val (.int rd), .val (.int sd), .val (.int (1 : Int32)), .val (.ref b36), .unset, .unset, .unset, .unset] [(.int (1 : Int32)), (.ref b42), (.ref b42)]))
    refine own_stW (fun zt zk => XS.bipush X43.here hx rfl (hb hby at_52) zk) ?_
    show own_GW p e below s _ _ _ (T43.setTop (mkF m 54 #[.val (.int gr), .val (.int rd), .val (.int sd), .val (.int (1 : Int32)), .val (.ref b36), .unset, .unset, .unset, .unset] [(.int (101 : Int32)), (.int (1 : Int32)), (.ref b42), (.ref b42)]))
    obtain ⟨T44, h44, X44, e44, W44, V44, st44⟩ := own_castore X43 hx hZ e43 V43a (i := 1) (by decide) (by decide) (101 : Int32) (by decide) (g := (mkF m 54 #[.val (.int gr), .val (.int rd), .val (.int sd), .val (.int (1 : Int32)), .val (.ref b36), .unset, .unset, .unset, .unset] [(.int (101 : Int32)), (.int (1 : Int32)), (.ref b42), (.ref b42)])) rfl rfl (hb hby at_54)
    refine own_stW st44 ?_
    have N44 := Fr.snoc X44 N43 ge42
    have V44a : own_A Z h44 b42 .char 3 (fun q => .int ((own_up (own_up (fun _ => (0 : Int32)) 0 (114 : Int32)) 1 (101 : Int32)) q)) := V44.congr (fun q _ => by simp only [own_up]; split <;> rfl)
    show own_GW p e below s _ _ _ (T44.setTop (mkF m 55 #[.val (.int gr), .val (.int rd), .val (.int sd), .val (.int (1 : Int32)), .val (.ref b36), .unset, .unset, .unset, .unset] [(.ref b42)]))
    refine own_stW (fun zt zk => XS.dup X44.here hx rfl (hb hby at_55) rfl rfl zk) ?_
    show own_GW p e below s _ _ _ (T44.setTop (mkF m 56 #[.val (.int gr), .val (.int rd), .val (.int sd), .val (.int (1 : Int32)), .val (.ref b36), .unset, .unset, .unset, .unset] [(.ref b42), (.ref b42)]))
    refine own_stW (fun zt zk => XS.iconst X44.here hx rfl (hb hby at_56) zk) ?_
    show own_GW p e below s _ _ _ (T44.setTop (mkF m 57 #[.val (.int gr), .val (.int rd), .val (.int sd), .val (.int (1 : Int32)), .val (.ref b36), .unset, .unset, .unset, .unset] [(.int (2 : Int32)), (.ref b42), (.ref b42)]))
    refine own_stW (fun zt zk => XS.bipush X44.here hx rfl (hb hby at_57) zk) ?_
    show own_GW p e below s _ _ _ (T44.setTop (mkF m 59 #[.val (.int gr), .val (.int rd), .val (.int sd), .val (.int (1 : Int32)), .val (.ref b36), .unset, .unset, .unset, .unset] [(.int (100 : Int32)), (.int (2 : Int32)), (.ref b42), (.ref b42)]))
    obtain ⟨T45, h45, X45, e45, W45, V45, st45⟩ := own_castore X44 hx hZ e44 V44a (i := 2) (by decide) (by decide) (100 : Int32) (by decide) (g := (mkF m 59 #[.val (.int gr), .val (.int rd), .val (.int sd), .val (.int (1 : Int32)), .val (.ref b36), .unset, .unset, .unset, .unset] [(.int (100 : Int32)), (.int (2 : Int32)), (.ref b42), (.ref b42)])) rfl rfl (hb hby at_59)
    refine own_stW st45 ?_
    have N45 := Fr.snoc X45 N44 ge42
    have V45a : own_A Z h45 b42 .char 3 (fun q => .int ((own_up (own_up (own_up (fun _ => (0 : Int32)) 0 (114 : Int32)) 1 (101 : Int32)) 2 (100 : Int32)) q)) := V45.congr (fun q _ => by simp only [own_up]; split <;> rfl)
    show own_GW p e below s _ _ _ (T45.setTop (mkF m 60 #[.val (.int gr), .val (.int rd), .val (.int sd), .val (.int (1 : Int32)), .val (.ref b36), .unset, .unset, .unset, .unset] [(.ref b42)]))
    refine own_stW (fun zt zk => XS.astore X45.here hx rfl (hb hby at_60) rfl rfl (l' := #[.val (.int gr), .val (.int rd), .val (.int sd), .val (.int (1 : Int32)), .val (.ref b36), .val (.ref b42), .unset, .unset, .unset]) rfl zk) ?_
    show own_GW p e below s _ _ _ (T45.setTop (mkF m 62 #[.val (.int gr), .val (.int rd), .val (.int sd), .val (.int (1 : Int32)), .val (.ref b36), .val (.ref b42), .unset, .unset, .unset] []))
    refine own_stW (fun zt zk => XS.iloadN X45.here hx rfl (hb hby at_62) rfl zk) ?_
    show own_GW p e below s _ _ _ (T45.setTop (mkF m 63 #[.val (.int gr), .val (.int rd), .val (.int sd), .val (.int (1 : Int32)), .val (.ref b36), .val (.ref b42), .unset, .unset, .unset] [(.int (1 : Int32))]))
    refine own_stW (fun zt zk => XS.ifNo X45.here hx rfl (hb hby at_63) rfl ((if0 _ _).trans (feq (by decide : ¬ ((1 : Int32) = (0 : Int32)))).1) zk) ?_
    show own_GW p e below s _ _ _ (T45.setTop (mkF m 66 #[.val (.int gr), .val (.int rd), .val (.int sd), .val (.int (1 : Int32)), .val (.ref b36), .val (.ref b42), .unset, .unset, .unset] []))
    have V47 : own_A Z h45 b36 .char 5 (fun q => .int ((own_up (own_up (own_up (own_up (own_up (fun _ => (0 : Int32)) 0 (103 : Int32)) 1 (114 : Int32)) 2 (101 : Int32)) 3 (101 : Int32)) 4 (110 : Int32)) q)) := ((((V41a.ext E42).other W43 ne42_b36).other W44 ne42_b36).other W45 ne42_b36)
    obtain ⟨T46, h46, X46, e46, E46, A46, D46, -, st46⟩ := newO X45 hx hZ hown (hw _ (List.mem_of_getElem? (i := 1) rfl)) (hw _ (List.mem_of_getElem? (i := 2) rfl)) (hw _ (List.mem_of_getElem? (i := 3) rfl)) e45 (g := (mkF m 66 #[.val (.int gr), .val (.int rd), .val (.int sd), .val (.int (1 : Int32)), .val (.ref b36), .val (.ref b42), .unset, .unset, .unset] [])) rfl (hb hby at_66) (by decide) (by decide)
    obtain ⟨b46, g46⟩ : ∃ z, z = h45.size := ⟨_, rfl⟩
    rw [← g46] at A46 D46 st46
    have ne46_b36 : b36 ≠ b46 := by rw [g46]; exact Nat.ne_of_lt V47.lt
    have ne46_b42 : b42 ≠ b46 := by rw [g46]; exact Nat.ne_of_lt V45a.lt
    have ge46 : n0 ≤ b46 := Nat.le_trans (Nat.le_trans (Nat.le_trans (Nat.le_trans (Nat.le_trans (Nat.le_trans (Nat.le_trans (Nat.le_trans (Nat.le_trans (Nat.le_trans (Nat.le_trans Z0 E36.1) (Nat.le_of_eq W37.size.symm)) (Nat.le_of_eq W38.size.symm)) (Nat.le_of_eq W39.size.symm)) (Nat.le_of_eq W40.size.symm)) (Nat.le_of_eq W41.size.symm)) E42.1) (Nat.le_of_eq W43.size.symm)) (Nat.le_of_eq W44.size.symm)) (Nat.le_of_eq W45.size.symm)) (Nat.le_of_eq g46.symm)
    have sz46 : h0.size ≤ b46 := Nat.le_trans (Nat.le_trans (Nat.le_trans (Nat.le_trans (Nat.le_trans (Nat.le_trans (Nat.le_trans (Nat.le_trans (Nat.le_trans (Nat.le_trans (Nat.le_trans (Nat.le_refl h0.size) E36.1) (Nat.le_of_eq W37.size.symm)) (Nat.le_of_eq W38.size.symm)) (Nat.le_of_eq W39.size.symm)) (Nat.le_of_eq W40.size.symm)) (Nat.le_of_eq W41.size.symm)) E42.1) (Nat.le_of_eq W43.size.symm)) (Nat.le_of_eq W44.size.symm)) (Nat.le_of_eq W45.size.symm)) (Nat.le_of_eq g46.symm)
    refine own_stW st46 ?_
    show own_GW p e below s _ _ _ (T46.setTop (mkF m 69 #[.val (.int gr), .val (.int rd), .val (.int sd), .val (.int (1 : Int32)), .val (.ref b36), .val (.ref b42), .unset, .unset, .unset] [(.ref b46)]))
    refine own_stW (fun zt zk => XS.dup X46.here hx rfl (hb hby at_69) rfl rfl zk) ?_
    show own_GW p e below s _ _ _ (T46.setTop (mkF m 70 #[.val (.int gr), .val (.int rd), .val (.int sd), .val (.int (1 : Int32)), .val (.ref b36), .val (.ref b42), .unset, .unset, .unset] [(.ref b46), (.ref b46)]))
    refine own_stW (fun zt zk => XS.aload X46.here hx rfl (hb hby at_70) rfl rfl zk) ?_
    show own_GW p e below s _ _ _ (T46.setTop (mkF m 72 #[.val (.int gr), .val (.int rd), .val (.int sd), .val (.int (1 : Int32)), .val (.ref b36), .val (.ref b42), .unset, .unset, .unset] [(.ref b36), (.ref b46), (.ref b46)]))
    have V49 : own_A Z h46 b36 .char 5 (fun q => .int ((own_up (own_up (own_up (own_up (own_up (fun _ => (0 : Int32)) 0 (103 : Int32)) 1 (114 : Int32)) 2 (101 : Int32)) 3 (101 : Int32)) 4 (110 : Int32)) q)) := (V47.ext E46)
    obtain ⟨kC48, VA48⟩ := own_A.arv V49 (z := (5 : Int32)) (by decide) (.int 0)
    have VB48 : Arv Z h46 b36 kC48 .char (5 : Int32) (own_green.map Value.int) (.int 0) := VA48
    have V50 : own_A Z h46 b42 .char 3 (fun q => .int ((own_up (own_up (own_up (fun _ => (0 : Int32)) 0 (114 : Int32)) 1 (101 : Int32)) 2 (100 : Int32)) q)) := (V45a.ext E46)
    obtain ⟨_, T48, L48, X48, ⟨rfl, F48, K48, q48_0, q48_1, t48, kb48, ge48, s48, ne48, q48_2, q48_3⟩, st48⟩ := own_callIB X46 hx hZ (y := (⟨"java/lang/String", "<init>", "([C)V"⟩ : MethodName)) (kc := 1) (ks := 5) (Q := StrChars.Road.QV Z b46 (5 : Int32) (own_green.map (fun c => c.toInt8.toInt32)) h46 n0) (a := b46) (argsL := [(.ref b36)]) (rest := [(.ref b46)]) 1 rfl hown (hw _ (List.mem_of_getElem? (i := 4) rfl)) (hw _ (List.mem_of_getElem? (i := 5) rfl)) (hw _ (List.mem_of_getElem? (i := 6) rfl)) (by decide) (StrChars.Road.backV hZ (fun d hd => hw d (own_wN d hd)) (hw _ (List.mem_of_getElem? (i := 2) rfl)) ge46 (Nat.le_trans (Nat.le_trans (Nat.le_trans (Nat.le_trans (Nat.le_trans (Nat.le_trans (Nat.le_trans (Nat.le_trans (Nat.le_trans (Nat.le_trans (Nat.le_trans Z0 E36.1) (Nat.le_of_eq W37.size.symm)) (Nat.le_of_eq W38.size.symm)) (Nat.le_of_eq W39.size.symm)) (Nat.le_of_eq W40.size.symm)) (Nat.le_of_eq W41.size.symm)) E42.1) (Nat.le_of_eq W43.size.symm)) (Nat.le_of_eq W44.size.symm)) (Nat.le_of_eq W45.size.symm)) E46.1) A46 (D46 (Or.inr (hw _ (List.mem_of_getElem? (i := 29) rfl))) (ty := (.array .byte)) (by decide)) (D46 (Or.inr (hw _ (List.mem_of_getElem? (i := 27) rfl))) (ty := .byte) (by decide)) VB48 (Sta.ext (((((((((((p1_.ext E36).wr W37 ge36).wr W38 ge36).wr W39 ge36).wr W40 ge36).wr W41 ge36).ext E42).wr W43 ge42).wr W44 ge42).wr W45 ge42).ext E46).2 p0_) p2_ (n := 5) rfl rfl (by decide) (by decide) (own_lat own_green (Or.inl rfl)).1 rfl (by decide) (by decide)) e46 (g := (mkF m 72 #[.val (.int gr), .val (.int rd), .val (.int sd), .val (.int (1 : Int32)), .val (.ref b36), .val (.ref b42), .unset, .unset, .unset] [(.ref b36), (.ref b46), (.ref b46)])) rfl (by rw [hml]; rfl) own_pd2 rfl rfl (by show 2 * 0 + _ ≤ _; exact Nat.le_of_eq rfl) (hb hby at_72) (by decide) (by decide)
    refine own_stW st48 ?_
    have N48 : Fr n0 (_ ++ L48) := Fr.app N45 F48
    have ne48_b46 : b46 ≠ t48 := Nat.ne_of_lt (Nat.lt_of_lt_of_le A46.lt s48)
    have ne48_b36 : b36 ≠ t48 := Nat.ne_of_lt (Nat.lt_of_lt_of_le V49.lt s48)
    have ne48_b42 : b42 ≠ t48 := Nat.ne_of_lt (Nat.lt_of_lt_of_le V50.lt s48)
    have sz48 : h0.size ≤ t48 := Nat.le_trans (Nat.le_trans (Nat.le_trans (Nat.le_trans (Nat.le_trans (Nat.le_trans (Nat.le_trans (Nat.le_trans (Nat.le_trans (Nat.le_trans (Nat.le_trans (Nat.le_trans (Nat.le_refl h0.size) E36.1) (Nat.le_of_eq W37.size.symm)) (Nat.le_of_eq W38.size.symm)) (Nat.le_of_eq W39.size.symm)) (Nat.le_of_eq W40.size.symm)) (Nat.le_of_eq W41.size.symm)) E42.1) (Nat.le_of_eq W43.size.symm)) (Nat.le_of_eq W44.size.symm)) (Nat.le_of_eq W45.size.symm)) E46.1) s48
    show own_GW p e below s _ _ _ (T48.setTop (mkF m 75 #[.val (.int gr), .val (.int rd), .val (.int sd), .val (.int (1 : Int32)), .val (.ref b36), .val (.ref b42), .unset, .unset, .unset] [(.ref b46)]))
    refine own_stW (fun zt zk => XS.goto X48.here hx rfl (pc0 := 75) (pc' := 87) rfl (hb hby at_75) (by decide) (by decide) zk) ?_
    show own_GW p e below s _ _ _ (T48.setTop (mkF m 87 #[.val (.int gr), .val (.int rd), .val (.int sd), .val (.int (1 : Int32)), .val (.ref b36), .val (.ref b42), .unset, .unset, .unset] [(.ref b46)]))
    refine own_stW (fun zt zk => XS.astore X48.here hx rfl (hb hby at_87) rfl rfl (l' := #[.val (.int gr), .val (.int rd), .val (.int sd), .val (.int (1 : Int32)), .val (.ref b36), .val (.ref b42), .val (.ref b46), .unset, .unset]) rfl zk) ?_
    show own_GW p e below s _ _ _ (T48.setTop (mkF m 89 #[.val (.int gr), .val (.int rd), .val (.int sd), .val (.int (1 : Int32)), .val (.ref b36), .val (.ref b42), .val (.ref b46), .unset, .unset] []))
    have V52 : own_A Z T48.heap b36 .char 5 (fun q => .int ((own_up (own_up (own_up (own_up (own_up (fun _ => (0 : Int32)) 0 (103 : Int32)) 1 (114 : Int32)) 2 (101 : Int32)) 3 (101 : Int32)) 4 (110 : Int32)) q)) := (V49.keep K48 (ninS ne46_b36 nin0))
    have V53 : own_A Z T48.heap b42 .char 3 (fun q => .int ((own_up (own_up (own_up (fun _ => (0 : Int32)) 0 (114 : Int32)) 1 (101 : Int32)) 2 (100 : Int32)) q)) := (V50.keep K48 (ninS ne46_b42 nin0))
    obtain ⟨T51, h51, X51, e51, E51, A51, D51, -, st51⟩ := newO X48 hx hZ hown (hw _ (List.mem_of_getElem? (i := 30) rfl)) (hw _ (List.mem_of_getElem? (i := 31) rfl)) (hw _ (List.mem_of_getElem? (i := 32) rfl)) rfl (g := (mkF m 89 #[.val (.int gr), .val (.int rd), .val (.int sd), .val (.int (1 : Int32)), .val (.ref b36), .val (.ref b42), .val (.ref b46), .unset, .unset] [])) rfl (hb hby at_89) (by decide) (by decide)
    obtain ⟨b51, g51⟩ : ∃ z, z = T48.heap.size := ⟨_, rfl⟩
    rw [← g51] at A51 D51 st51
    have ne51_b46 : b46 ≠ b51 := by rw [g51]; exact Nat.ne_of_lt q48_0.lt
    have ne51_b36 : b36 ≠ b51 := by rw [g51]; exact Nat.ne_of_lt V52.lt
    have ne51_b42 : b42 ≠ b51 := by rw [g51]; exact Nat.ne_of_lt V53.lt
    have ne51_t48 : t48 ≠ b51 := by rw [g51]; exact Nat.ne_of_lt q48_3.lt
    have ge51 : n0 ≤ b51 := Nat.le_trans (Nat.le_trans (Nat.le_trans (Nat.le_trans (Nat.le_trans (Nat.le_trans (Nat.le_trans (Nat.le_trans (Nat.le_trans (Nat.le_trans (Nat.le_trans (Nat.le_trans (Nat.le_trans Z0 E36.1) (Nat.le_of_eq W37.size.symm)) (Nat.le_of_eq W38.size.symm)) (Nat.le_of_eq W39.size.symm)) (Nat.le_of_eq W40.size.symm)) (Nat.le_of_eq W41.size.symm)) E42.1) (Nat.le_of_eq W43.size.symm)) (Nat.le_of_eq W44.size.symm)) (Nat.le_of_eq W45.size.symm)) E46.1) K48.1) (Nat.le_of_eq g51.symm)
    have sz51 : h0.size ≤ b51 := Nat.le_trans (Nat.le_trans (Nat.le_trans (Nat.le_trans (Nat.le_trans (Nat.le_trans (Nat.le_trans (Nat.le_trans (Nat.le_trans (Nat.le_trans (Nat.le_trans (Nat.le_trans (Nat.le_trans (Nat.le_refl h0.size) E36.1) (Nat.le_of_eq W37.size.symm)) (Nat.le_of_eq W38.size.symm)) (Nat.le_of_eq W39.size.symm)) (Nat.le_of_eq W40.size.symm)) (Nat.le_of_eq W41.size.symm)) E42.1) (Nat.le_of_eq W43.size.symm)) (Nat.le_of_eq W44.size.symm)) (Nat.le_of_eq W45.size.symm)) E46.1) K48.1) (Nat.le_of_eq g51.symm)
    refine own_stW st51 ?_
    show own_GW p e below s _ _ _ (T51.setTop (mkF m 92 #[.val (.int gr), .val (.int rd), .val (.int sd), .val (.int (1 : Int32)), .val (.ref b36), .val (.ref b42), .val (.ref b46), .unset, .unset] [(.ref b51)]))
    refine own_stW (fun zt zk => XS.dup X51.here hx rfl (hb hby at_92) rfl rfl zk) ?_
    show own_GW p e below s _ _ _ (T51.setTop (mkF m 93 #[.val (.int gr), .val (.int rd), .val (.int sd), .val (.int (1 : Int32)), .val (.ref b36), .val (.ref b42), .val (.ref b46), .unset, .unset] [(.ref b51), (.ref b51)]))
    refine own_stW (fun zt zk => XS.iloadN X51.here hx rfl (hb hby at_93) rfl zk) ?_
    show own_GW p e below s _ _ _ (T51.setTop (mkF m 94 #[.val (.int gr), .val (.int rd), .val (.int sd), .val (.int (1 : Int32)), .val (.ref b36), .val (.ref b42), .val (.ref b46), .unset, .unset] [(.int gr), (.ref b51), (.ref b51)]))
    refine own_stW (fun zt zk => XS.iloadN X51.here hx rfl (hb hby at_94) rfl zk) ?_
    show own_GW p e below s _ _ _ (T51.setTop (mkF m 95 #[.val (.int gr), .val (.int rd), .val (.int sd), .val (.int (1 : Int32)), .val (.ref b36), .val (.ref b42), .val (.ref b46), .unset, .unset] [(.int rd), (.int gr), (.ref b51), (.ref b51)]))
    obtain ⟨_, T54, L54, X54, hQ54, st54⟩ := own_callI X51 hx hZ (y := (⟨"com/example/veiled_crown/veiledcrown/engine/Markers", "<init>", "(II)V"⟩ : MethodName)) (a := b51) (argsL := [(.int gr), (.int rd)]) (rest := [(.ref b51)]) 1 rfl hown (hw _ (List.mem_of_getElem? (i := 33) rfl)) (hw _ (List.mem_of_getElem? (i := 34) rfl)) (hw _ (List.mem_of_getElem? (i := 32) rfl)) (hw _ (List.mem_of_getElem? (i := 35) rfl)) (by decide) (own_mki l Z a0 hw [] b51 gr rd h51 n0 (Nat.le_trans (Nat.le_trans (Nat.le_trans (Nat.le_trans (Nat.le_trans (Nat.le_trans (Nat.le_trans (Nat.le_trans (Nat.le_trans (Nat.le_trans (Nat.le_trans (Nat.le_trans (Nat.le_trans Z0 E36.1) (Nat.le_of_eq W37.size.symm)) (Nat.le_of_eq W38.size.symm)) (Nat.le_of_eq W39.size.symm)) (Nat.le_of_eq W40.size.symm)) (Nat.le_of_eq W41.size.symm)) E42.1) (Nat.le_of_eq W43.size.symm)) (Nat.le_of_eq W44.size.symm)) (Nat.le_of_eq W45.size.symm)) E46.1) K48.1) E51.1) A51 (D51 (Or.inr (hw _ (List.mem_of_getElem? (i := 43) rfl))) (ty := .int) (by decide)) (D51 (Or.inr (hw _ (List.mem_of_getElem? (i := 45) rfl))) (ty := .int) (by decide)) ge51) (by decide) (by decide) e51 (g := (mkF m 95 #[.val (.int gr), .val (.int rd), .val (.int sd), .val (.int (1 : Int32)), .val (.ref b36), .val (.ref b42), .val (.ref b46), .unset, .unset] [(.int rd), (.int gr), (.ref b51), (.ref b51)])) rfl (by rw [hml]; rfl) own_pd3 rfl rfl (by show 2 * 0 + _ ≤ _; exact Nat.le_of_eq rfl) (hb hby at_95) (by decide) (by decide)
    obtain ⟨rfl, N54q, K54, q54_0, q54_1⟩ := hQ54
    have N54 := Fr.app N48 N54q
    refine own_stW st54 ?_
    show own_GW p e below s _ _ _ (T54.setTop (mkF m 98 #[.val (.int gr), .val (.int rd), .val (.int sd), .val (.int (1 : Int32)), .val (.ref b36), .val (.ref b42), .val (.ref b46), .unset, .unset] [(.ref b51)]))
    refine own_stW (fun zt zk => XS.astore X54.here hx rfl (hb hby at_98) rfl rfl (l' := #[.val (.int gr), .val (.int rd), .val (.int sd), .val (.int (1 : Int32)), .val (.ref b36), .val (.ref b42), .val (.ref b46), .val (.ref b51), .unset]) rfl zk) ?_
    show own_GW p e below s _ _ _ (T54.setTop (mkF m 100 #[.val (.int gr), .val (.int rd), .val (.int sd), .val (.int (1 : Int32)), .val (.ref b36), .val (.ref b42), .val (.ref b46), .val (.ref b51), .unset] []))
    refine own_stW (fun zt zk => XS.iloadN X54.here hx rfl (hb hby at_100) rfl zk) ?_
    show own_GW p e below s _ _ _ (T54.setTop (mkF m 101 #[.val (.int gr), .val (.int rd), .val (.int sd), .val (.int (1 : Int32)), .val (.ref b36), .val (.ref b42), .val (.ref b46), .val (.ref b51), .unset] [(.int (1 : Int32))]))
    refine own_stW (fun zt zk => XS.ifNo X54.here hx rfl (hb hby at_101) rfl ((if0 _ _).trans (feq (by decide : ¬ ((1 : Int32) = (0 : Int32)))).1) zk) ?_
    show own_GW p e below s _ _ _ (T54.setTop (mkF m 104 #[.val (.int gr), .val (.int rd), .val (.int sd), .val (.int (1 : Int32)), .val (.ref b36), .val (.ref b42), .val (.ref b46), .val (.ref b51), .unset] []))
    refine own_stW (fun zt zk => XS.iloadN X54.here hx rfl (hb hby at_104) rfl zk) ?_
    show own_GW p e below s _ _ _ (T54.setTop (mkF m 105 #[.val (.int gr), .val (.int rd), .val (.int sd), .val (.int (1 : Int32)), .val (.ref b36), .val (.ref b42), .val (.ref b46), .val (.ref b51), .unset] [(.int gr)]))
    refine own_stW (fun zt zk => XS.iloadN X54.here hx rfl (hb hby at_105) rfl zk) ?_
    show own_GW p e below s _ _ _ (T54.setTop (mkF m 106 #[.val (.int gr), .val (.int rd), .val (.int sd), .val (.int (1 : Int32)), .val (.ref b36), .val (.ref b42), .val (.ref b46), .val (.ref b51), .unset] [(.int rd), (.int gr)]))
    by_cases hc106_55 : rd < gr
    · refine own_stW (fun zt zk => XS.icmpNo X54.here hx rfl (hb hby at_106) rfl (tlt hc106_55).2.2.2 zk) ?_
      show own_GW p e below s _ _ _ (T54.setTop (mkF m 109 #[.val (.int gr), .val (.int rd), .val (.int sd), .val (.int (1 : Int32)), .val (.ref b36), .val (.ref b42), .val (.ref b46), .val (.ref b51), .unset] []))
      refine own_stW (fun zt zk => XS.iconst X54.here hx rfl (hb hby at_109) zk) ?_
      show own_GW p e below s _ _ _ (T54.setTop (mkF m 110 #[.val (.int gr), .val (.int rd), .val (.int sd), .val (.int (1 : Int32)), .val (.ref b36), .val (.ref b42), .val (.ref b46), .val (.ref b51), .unset] [(.int (1 : Int32))]))
      refine own_stW (fun zt zk => XS.goto X54.here hx rfl (pc0 := 110) (pc' := 114) rfl (hb hby at_110) (by decide) (by decide) zk) ?_
      show own_GW p e below s _ _ _ (T54.setTop (mkF m 114 #[.val (.int gr), .val (.int rd), .val (.int sd), .val (.int (1 : Int32)), .val (.ref b36), .val (.ref b42), .val (.ref b46), .val (.ref b51), .unset] [(.int (1 : Int32))]))
      refine own_stW (fun zt zk => XS.istore X54.here hx rfl (hb hby at_114) rfl (l' := #[.val (.int gr), .val (.int rd), .val (.int sd), .val (.int (1 : Int32)), .val (.ref b36), .val (.ref b42), .val (.ref b46), .val (.ref b51), .val (.int (1 : Int32))]) rfl zk) ?_
      show own_GW p e below s _ _ _ (T54.setTop (mkF m 116 #[.val (.int gr), .val (.int rd), .val (.int sd), .val (.int (1 : Int32)), .val (.ref b36), .val (.ref b42), .val (.ref b46), .val (.ref b51), .val (.int (1 : Int32))] []))
      refine own_stW (fun zt zk => XS.goto X54.here hx rfl (pc0 := 116) (pc' := 131) rfl (hb hby at_116) (by decide) (by decide) zk) ?_
      show own_GW p e below s _ _ _ (T54.setTop (mkF m 131 #[.val (.int gr), .val (.int rd), .val (.int sd), .val (.int (1 : Int32)), .val (.ref b36), .val (.ref b42), .val (.ref b46), .val (.ref b51), .val (.int (1 : Int32))] []))
      refine own_stW (fun zt zk => XS.aload X54.here hx rfl (hb hby at_131) rfl rfl zk) ?_
      show own_GW p e below s _ _ _ (T54.setTop (mkF m 133 #[.val (.int gr), .val (.int rd), .val (.int sd), .val (.int (1 : Int32)), .val (.ref b36), .val (.ref b42), .val (.ref b46), .val (.ref b51), .val (.int (1 : Int32))] [(.ref b51)]))
      refine own_stW (fun zt zk => XS.aload X54.here hx rfl (hb hby at_133) rfl rfl zk) ?_
      show own_GW p e below s _ _ _ (T54.setTop (mkF m 135 #[.val (.int gr), .val (.int rd), .val (.int sd), .val (.int (1 : Int32)), .val (.ref b36), .val (.ref b42), .val (.ref b46), .val (.ref b51), .val (.int (1 : Int32))] [(.ref b46), (.ref b51)]))
      have F57 : Fld Z T54.heap b46 "java/lang/String" "value" "[B" (.ref t48) := ((q48_2.ext E51).keep K54 (ninS ne51_b46 nin0))
      have F58 : Fld Z T54.heap b46 "java/lang/String" "coder" "B" (.int (0 : Int32)) := ((q48_1.ext E51).keep K54 (ninS ne51_b46 nin0))
      have E59 : Exa Z T54.heap b46 "java/lang/String" := ((q48_0.ext E51).keep K54)
      have V60 : Arv Z T54.heap t48 kb48 .byte (5 : Int32) (own_by own_green) (.int 0) := ((q48_3.ext E51).keep K54 (ninS ne51_t48 nin0))
      have E61 : Exa Z T54.heap b51 "com/example/veiled_crown/veiledcrown/engine/Markers" := (A51.keep K54)
      obtain ⟨_, T56, L56, X56, hQ56, hS, hZ, hown, st56⟩ := own_callVI X54 hx hZ hS hI (C := "com/example/veiled_crown/veiledcrown/engine/Markers") (y := (⟨"com/example/veiled_crown/veiledcrown/engine/Markers", "leads", "(Ljava/lang/String;)Z"⟩ : MethodName)) (z := (⟨"com/example/veiled_crown/veiledcrown/engine/Markers", "leads", "(Ljava/lang/String;)Z"⟩ : MethodName)) (a := b51) (argsL := [(.ref b46)]) (rest := []) 0 hown (hw _ (List.mem_of_getElem? (i := 46) rfl)) (hw _ (List.mem_of_getElem? (i := 47) rfl)) (own_nf hZ (hw _ (List.mem_of_getElem? (i := 49) rfl))) (hw _ (List.mem_of_getElem? (i := 49) rfl)) (hw _ (List.mem_of_getElem? (i := 48) rfl)) (hw _ (List.mem_of_getElem? (i := 32) rfl)) (hw _ (List.mem_of_getElem? (i := 50) rfl)) (by decide) (own_lds l Z a0 hw [] b51 b46 t48 gr rd zz kb48 (5 : Int32) own_green T54.heap n0 (Nat.le_trans (Nat.le_trans (Nat.le_trans (Nat.le_trans (Nat.le_trans (Nat.le_trans (Nat.le_trans (Nat.le_trans (Nat.le_trans (Nat.le_trans (Nat.le_trans (Nat.le_trans (Nat.le_trans (Nat.le_trans Z0 E36.1) (Nat.le_of_eq W37.size.symm)) (Nat.le_of_eq W38.size.symm)) (Nat.le_of_eq W39.size.symm)) (Nat.le_of_eq W40.size.symm)) (Nat.le_of_eq W41.size.symm)) E42.1) (Nat.le_of_eq W43.size.symm)) (Nat.le_of_eq W44.size.symm)) (Nat.le_of_eq W45.size.symm)) E46.1) K48.1) E51.1) K54.1) E59 F57 F58 V60 q54_0 q54_1 p0_ ((((((((((((((p1_.ext E36).wr W37 ge36).wr W38 ge36).wr W39 ge36).wr W40 ge36).wr W41 ge36).ext E42).wr W43 ge42).wr W44 ge42).wr W45 ge42).ext E46).keep K48 (allS ge46 all0)).ext E51).keep K54 (allS ge51 all0)) p2_ p3_ p4_ rfl (Or.inl rfl)) (by decide) (by decide) rfl (Nat.zero_le _) E61 (g := (mkF m 135 #[.val (.int gr), .val (.int rd), .val (.int sd), .val (.int (1 : Int32)), .val (.ref b36), .val (.ref b42), .val (.ref b46), .val (.ref b51), .val (.int (1 : Int32))] [(.ref b46), (.ref b51)])) rfl (by rw [hml]; rfl) own_pd4 rfl rfl (by show 2 * 0 + _ ≤ _; exact Nat.le_of_eq rfl) (hb hby at_135) (by decide) (by decide)
      obtain ⟨rfl, N56q, K56⟩ := hQ56
      have N56 := Fr.app N54 N56q
      refine own_stW st56 ?_
      show own_GW p e below s _ _ _ (T56.setTop (mkF m 138 #[.val (.int gr), .val (.int rd), .val (.int sd), .val (.int (1 : Int32)), .val (.ref b36), .val (.ref b42), .val (.ref b46), .val (.ref b51), .val (.int (1 : Int32))] [(.int (own_b (¬ (gr = rd) ∧ ((rd < gr) ↔ (own_green = own_green)))))]))
      refine own_stW (fun zt zk => XS.iload X56.here hx rfl (hb hby at_138) rfl zk) ?_
      show own_GW p e below s _ _ _ (T56.setTop (mkF m 140 #[.val (.int gr), .val (.int rd), .val (.int sd), .val (.int (1 : Int32)), .val (.ref b36), .val (.ref b42), .val (.ref b46), .val (.ref b51), .val (.int (1 : Int32))] [(.int (1 : Int32)), (.int (own_b (¬ (gr = rd) ∧ ((rd < gr) ↔ (own_green = own_green)))))]))
      have hc140_62 : (own_b (¬ (gr = rd) ∧ ((rd < gr) ↔ (own_green = own_green)))) = (1 : Int32) := (own_b1 ((own_LBg _ _).mp hc106_55))
      refine own_stW (fun zt zk => XS.icmpNo X56.here hx rfl (hb hby at_140) rfl (teq hc140_62).2 zk) ?_
      show own_GW p e below s _ _ _ (T56.setTop (mkF m 143 #[.val (.int gr), .val (.int rd), .val (.int sd), .val (.int (1 : Int32)), .val (.ref b36), .val (.ref b42), .val (.ref b46), .val (.ref b51), .val (.int (1 : Int32))] []))
      refine own_stW (fun zt zk => XS.iconst X56.here hx rfl (hb hby at_143) zk) ?_
      show own_GW p e below s _ _ _ (T56.setTop (mkF m 144 #[.val (.int gr), .val (.int rd), .val (.int sd), .val (.int (1 : Int32)), .val (.ref b36), .val (.ref b42), .val (.ref b46), .val (.ref b51), .val (.int (1 : Int32))] [(.int (1 : Int32))]))
      refine own_stW (fun zt zk => XS.goto X56.here hx rfl (pc0 := 144) (pc' := 148) rfl (hb hby at_144) (by decide) (by decide) zk) ?_
      show own_GW p e below s _ _ _ (T56.setTop (mkF m 148 #[.val (.int gr), .val (.int rd), .val (.int sd), .val (.int (1 : Int32)), .val (.ref b36), .val (.ref b42), .val (.ref b46), .val (.ref b51), .val (.int (1 : Int32))] [(.int (1 : Int32))]))
      refine own_retZW X56 hx hlk hS (Nat.le_refl T56.heap.size) hret (by decide) (hb hby at_148) (by decide) (by decide) ?_
      show Q_own_law Z gr rd sd zz h0 n0 (some (.int (1 : Int32))) T56.heap _
      exact ⟨rfl, N56⟩
    · refine own_stW (fun zt zk => XS.icmpYes X54.here hx rfl (pc0 := 106) (pc' := 113) rfl (hb hby at_106) rfl (flt hc106_55).2.2.2 (by decide) (by decide) zk) ?_
      show own_GW p e below s _ _ _ (T54.setTop (mkF m 113 #[.val (.int gr), .val (.int rd), .val (.int sd), .val (.int (1 : Int32)), .val (.ref b36), .val (.ref b42), .val (.ref b46), .val (.ref b51), .unset] []))
      refine own_stW (fun zt zk => XS.iconst X54.here hx rfl (hb hby at_113) zk) ?_
      show own_GW p e below s _ _ _ (T54.setTop (mkF m 114 #[.val (.int gr), .val (.int rd), .val (.int sd), .val (.int (1 : Int32)), .val (.ref b36), .val (.ref b42), .val (.ref b46), .val (.ref b51), .unset] [(.int (0 : Int32))]))
      refine own_stW (fun zt zk => XS.istore X54.here hx rfl (hb hby at_114) rfl (l' := #[.val (.int gr), .val (.int rd), .val (.int sd), .val (.int (1 : Int32)), .val (.ref b36), .val (.ref b42), .val (.ref b46), .val (.ref b51), .val (.int (0 : Int32))]) rfl zk) ?_
      show own_GW p e below s _ _ _ (T54.setTop (mkF m 116 #[.val (.int gr), .val (.int rd), .val (.int sd), .val (.int (1 : Int32)), .val (.ref b36), .val (.ref b42), .val (.ref b46), .val (.ref b51), .val (.int (0 : Int32))] []))
      refine own_stW (fun zt zk => XS.goto X54.here hx rfl (pc0 := 116) (pc' := 131) rfl (hb hby at_116) (by decide) (by decide) zk) ?_
      show own_GW p e below s _ _ _ (T54.setTop (mkF m 131 #[.val (.int gr), .val (.int rd), .val (.int sd), .val (.int (1 : Int32)), .val (.ref b36), .val (.ref b42), .val (.ref b46), .val (.ref b51), .val (.int (0 : Int32))] []))
      refine own_stW (fun zt zk => XS.aload X54.here hx rfl (hb hby at_131) rfl rfl zk) ?_
      show own_GW p e below s _ _ _ (T54.setTop (mkF m 133 #[.val (.int gr), .val (.int rd), .val (.int sd), .val (.int (1 : Int32)), .val (.ref b36), .val (.ref b42), .val (.ref b46), .val (.ref b51), .val (.int (0 : Int32))] [(.ref b51)]))
      refine own_stW (fun zt zk => XS.aload X54.here hx rfl (hb hby at_133) rfl rfl zk) ?_
      show own_GW p e below s _ _ _ (T54.setTop (mkF m 135 #[.val (.int gr), .val (.int rd), .val (.int sd), .val (.int (1 : Int32)), .val (.ref b36), .val (.ref b42), .val (.ref b46), .val (.ref b51), .val (.int (0 : Int32))] [(.ref b46), (.ref b51)]))
      have F64 : Fld Z T54.heap b46 "java/lang/String" "value" "[B" (.ref t48) := ((q48_2.ext E51).keep K54 (ninS ne51_b46 nin0))
      have F65 : Fld Z T54.heap b46 "java/lang/String" "coder" "B" (.int (0 : Int32)) := ((q48_1.ext E51).keep K54 (ninS ne51_b46 nin0))
      have E66 : Exa Z T54.heap b46 "java/lang/String" := ((q48_0.ext E51).keep K54)
      have V67 : Arv Z T54.heap t48 kb48 .byte (5 : Int32) (own_by own_green) (.int 0) := ((q48_3.ext E51).keep K54 (ninS ne51_t48 nin0))
      have E68 : Exa Z T54.heap b51 "com/example/veiled_crown/veiledcrown/engine/Markers" := (A51.keep K54)
      obtain ⟨_, T63, L63, X63, hQ63, hS, hZ, hown, st63⟩ := own_callVI X54 hx hZ hS hI (C := "com/example/veiled_crown/veiledcrown/engine/Markers") (y := (⟨"com/example/veiled_crown/veiledcrown/engine/Markers", "leads", "(Ljava/lang/String;)Z"⟩ : MethodName)) (z := (⟨"com/example/veiled_crown/veiledcrown/engine/Markers", "leads", "(Ljava/lang/String;)Z"⟩ : MethodName)) (a := b51) (argsL := [(.ref b46)]) (rest := []) 0 hown (hw _ (List.mem_of_getElem? (i := 46) rfl)) (hw _ (List.mem_of_getElem? (i := 47) rfl)) (own_nf hZ (hw _ (List.mem_of_getElem? (i := 49) rfl))) (hw _ (List.mem_of_getElem? (i := 49) rfl)) (hw _ (List.mem_of_getElem? (i := 48) rfl)) (hw _ (List.mem_of_getElem? (i := 32) rfl)) (hw _ (List.mem_of_getElem? (i := 50) rfl)) (by decide) (own_lds l Z a0 hw [] b51 b46 t48 gr rd zz kb48 (5 : Int32) own_green T54.heap n0 (Nat.le_trans (Nat.le_trans (Nat.le_trans (Nat.le_trans (Nat.le_trans (Nat.le_trans (Nat.le_trans (Nat.le_trans (Nat.le_trans (Nat.le_trans (Nat.le_trans (Nat.le_trans (Nat.le_trans (Nat.le_trans Z0 E36.1) (Nat.le_of_eq W37.size.symm)) (Nat.le_of_eq W38.size.symm)) (Nat.le_of_eq W39.size.symm)) (Nat.le_of_eq W40.size.symm)) (Nat.le_of_eq W41.size.symm)) E42.1) (Nat.le_of_eq W43.size.symm)) (Nat.le_of_eq W44.size.symm)) (Nat.le_of_eq W45.size.symm)) E46.1) K48.1) E51.1) K54.1) E66 F64 F65 V67 q54_0 q54_1 p0_ ((((((((((((((p1_.ext E36).wr W37 ge36).wr W38 ge36).wr W39 ge36).wr W40 ge36).wr W41 ge36).ext E42).wr W43 ge42).wr W44 ge42).wr W45 ge42).ext E46).keep K48 (allS ge46 all0)).ext E51).keep K54 (allS ge51 all0)) p2_ p3_ p4_ rfl (Or.inl rfl)) (by decide) (by decide) rfl (Nat.zero_le _) E68 (g := (mkF m 135 #[.val (.int gr), .val (.int rd), .val (.int sd), .val (.int (1 : Int32)), .val (.ref b36), .val (.ref b42), .val (.ref b46), .val (.ref b51), .val (.int (0 : Int32))] [(.ref b46), (.ref b51)])) rfl (by rw [hml]; rfl) own_pd4 rfl rfl (by show 2 * 0 + _ ≤ _; exact Nat.le_of_eq rfl) (hb hby at_135) (by decide) (by decide)
      obtain ⟨rfl, N63q, K63⟩ := hQ63
      have N63 := Fr.app N54 N63q
      refine own_stW st63 ?_
      show own_GW p e below s _ _ _ (T63.setTop (mkF m 138 #[.val (.int gr), .val (.int rd), .val (.int sd), .val (.int (1 : Int32)), .val (.ref b36), .val (.ref b42), .val (.ref b46), .val (.ref b51), .val (.int (0 : Int32))] [(.int (own_b (¬ (gr = rd) ∧ ((rd < gr) ↔ (own_green = own_green)))))]))
      refine own_stW (fun zt zk => XS.iload X63.here hx rfl (hb hby at_138) rfl zk) ?_
      show own_GW p e below s _ _ _ (T63.setTop (mkF m 140 #[.val (.int gr), .val (.int rd), .val (.int sd), .val (.int (1 : Int32)), .val (.ref b36), .val (.ref b42), .val (.ref b46), .val (.ref b51), .val (.int (0 : Int32))] [(.int (0 : Int32)), (.int (own_b (¬ (gr = rd) ∧ ((rd < gr) ↔ (own_green = own_green)))))]))
      have hc140_69 : ¬ ((¬ (gr = rd) ∧ ((rd < gr) ↔ (own_green = own_green)))) := (fun q => hc106_55 ((own_LBg _ _).mpr q))
      refine own_stW (fun zt zk => XS.icmpNo X63.here hx rfl (hb hby at_140) rfl (teq (own_b0 hc140_69)).2 zk) ?_
      show own_GW p e below s _ _ _ (T63.setTop (mkF m 143 #[.val (.int gr), .val (.int rd), .val (.int sd), .val (.int (1 : Int32)), .val (.ref b36), .val (.ref b42), .val (.ref b46), .val (.ref b51), .val (.int (0 : Int32))] []))
      refine own_stW (fun zt zk => XS.iconst X63.here hx rfl (hb hby at_143) zk) ?_
      show own_GW p e below s _ _ _ (T63.setTop (mkF m 144 #[.val (.int gr), .val (.int rd), .val (.int sd), .val (.int (1 : Int32)), .val (.ref b36), .val (.ref b42), .val (.ref b46), .val (.ref b51), .val (.int (0 : Int32))] [(.int (1 : Int32))]))
      refine own_stW (fun zt zk => XS.goto X63.here hx rfl (pc0 := 144) (pc' := 148) rfl (hb hby at_144) (by decide) (by decide) zk) ?_
      show own_GW p e below s _ _ _ (T63.setTop (mkF m 148 #[.val (.int gr), .val (.int rd), .val (.int sd), .val (.int (1 : Int32)), .val (.ref b36), .val (.ref b42), .val (.ref b46), .val (.ref b51), .val (.int (0 : Int32))] [(.int (1 : Int32))]))
      refine own_retZW X63 hx hlk hS (Nat.le_refl T63.heap.size) hret (by decide) (hb hby at_148) (by decide) (by decide) ?_
      show Q_own_law Z gr rd sd zz h0 n0 (some (.int (1 : Int32))) T63.heap _
      exact ⟨rfl, N63⟩
set_option maxRecDepth 65536 in
set_option maxHeartbeats 40000000 in
theorem comes_1 {Post : Tables → Env → Array Value → State → Outcome → State → Prop} (hpost : ∀ tb e args s v u, (limb_1_1.after args s (.returned v) u = true ∧ limb_1_2.after args s (.returned v) u = true ∧ True) → ReturnedEndW s (.returned v) u (Jvm.fieldLocs frame_1_writes args s ++ Jvm.arrayLocs frame_1_arrays args s ++ Jvm.staticLocs frame_1_statics s) 24 1152 → Post tb e args s (.returned v) u) :
    ArmFor flags0 classFile x code maxLocals ret World_1 tables_1 room_1 Calls_1 rest_1 Pre_1 Post := by
  intro l hfl _ _ p e ha hc hk s m args below hf hA hF happ hP
  obtain ⟨hcalls, hrest, hpre⟩ := hP
  obtain ⟨-, -, -, hnamed, -, -, -, hat⟩ := (Spec.applies_iff hf).mp happ
  obtain ⟨hg, hn⟩ := and_e (Cond.before_iff.mp (show (Jvm.Cond.and given_1 narrow_1).before args s = true from hpre))
  obtain ⟨k1, k2⟩ := and_e hg
  obtain ⟨j0, i0⟩ := and_e k2
  obtain ⟨j1, i1⟩ := and_e i0
  obtain ⟨w0, w1, w2, rfl⟩ : ∃ w0 w1 w2 : Value, args = #[w0, w1, w2] := by
    have hs : args.size = 3 := by simpa [Cond.value, given_1] using k1
    obtain ⟨L⟩ := args
    match L, hs with
    | [w0, w1, w2], _ => exact ⟨w0, w1, w2, rfl⟩
  have hw := fun d (hd : d ∈ tables_1) => atoms_spec (ws := Jvm.Cond.code x code maxLocals ret :: tables_1) hat d (List.mem_cons_of_mem _ hd)
  have hfit : Fit s := fun {y c} hc i hi => by
    obtain ⟨ha, rfl⟩ := Array.getElem?_eq_some_iff.mp hc
    have q := List.all_eq_true.mp ((Array.all_eq_true_iff_forall_mem.mp hF) _ (Array.getElem_mem ha)) i (List.mem_range.mpr hi)
    simpa [Array.getElem?_eq_getElem hi] using q
  obtain ⟨y0, z0⟩ := is_v j0
  obtain rfl : w0 = (.int y0) := Option.some.inj z0
  obtain ⟨y1, z1⟩ := is_v j1
  obtain rfl : w1 = (.int y1) := Option.some.inj z1
  obtain ⟨y2, z2⟩ := is_v i1
  obtain rfl : w2 = (.int y2) := Option.some.inj z2
  obtain ⟨hsets, hown0⟩ := atoms_of _ (rest_1_c_eq ▸ (show rest_1_c.before _ s = true from hrest))
  have n5 := not_v (Cond.before_iff.mp (hsets _ (List.mem_of_getElem? (i := 2) rfl)))
  obtain ⟨zz, e10⟩ := is_v (Cond.before_iff.mp (hsets _ (List.mem_of_getElem? (i := 1) rfl)))
  have S12 : Sta s s.heap "java/lang/String" "COMPACT_STRINGS" "Z" (.int zz) := Sta.start e10 (Or.inl (hsets _ (List.mem_of_getElem? (i := 0) rfl)))
  have c17 : ¬ (zz = (0 : Int32)) := gotF (Cond.eq_ints e10 (Term.int_eval (0))) n5
  have held : Jvm.Lit.constHeld s "com/example/veiled_crown/veiledcrown/engine/Markers" 22 := hcalls.1 _ (List.mem_of_getElem? (i := 0) rfl)
  have cw := hsets _ (List.mem_of_getElem? (i := 2) rfl)
  obtain ⟨n, o, h1, h2, h3, _, L, rfl, ⟨rfl, N⟩, hq⟩ := own_law l s _ hw tables_1 y0 y1 y2 zz s.heap s.heap.size (Nat.le_refl _) S12 (Old.start s) c17 held cw p e ha hc hk s m _ below hf ((Spec.applies_iff_loose hf).mp happ).1 ⟨rfl, State.Warmed39.refl s, rfl, IB.start⟩ trivial
  refine ⟨n, _, h1, h2, h3, hpost _ _ _ _ _ _ ⟨Cond.after_iff.mpr rfl, Cond.after_iff.mpr (eq_i res_at (Term.int_eval (1)) rfl), trivial⟩ ⟨hq.1, hq.2.1, hq.2.2.1, (hq.2.2.2.sift fun y hy => Or.inr (N y hy)).mono (by decide) (by decide)⟩⟩
theorem main_1_1 : Claimed_1_1 := comes_1 fun _ _ _ _ _ _ h hF => ⟨h.1, hF⟩
theorem main_1_2 : Claimed_1_2 := comes_1 fun _ _ _ _ _ _ h hF => ⟨h.2.1, hF⟩
end Jvm.Pilot.@@N@@
namespace Jvm.Pilot.@@N@@
open Jvm Jvm.ClassFile Sem Op Lib Jvm.Free Jvm.Stand Jvm.Pilot.@@N@@.Jvm.D
/-! MADE BY PROGRAM (witnessworld.py) out of the Statement's table words and the real class files: 21 classes; the members and pool entries that the words name. The judged class is class 1, her method 1. -/
namespace start1
open Jvm.ClassFile
def u (s : String) : CpInfo := .utf8 (stringToUtf16 s)
/-- a pool by its gaps: so many unusable entries, then the entry; so many at the end -/
def gap : Nat → List CpInfo → List CpInfo
  | 0, r => r
  | n + 1, r => .unusable :: gap n r
def poolList (es : List (Nat × CpInfo)) (last : Nat) : List CpInfo := es.foldr (fun e r => gap e.1 (e.2 :: r)) (gap last [])
def pool (es : List (Nat × CpInfo)) (last : Nat) : Array CpInfo := ⟨poolList es last⟩
def fileOf (pool : Array CpInfo) (this : Nat) (attrs : Array Attribute := #[]) (ms : Array MethodInfo := #[]) (fl : Nat := 33) (sup : Nat := 0) (ifs : Array Nat := #[]) (fds : Array FieldInfo := #[]) : ClassFile where
  minorVersion := 0
  majorVersion := 65
  constantPool := pool
  accessFlags := fl
  thisClass := this
  superClass := sup
  interfaces := ifs
  fields := fds
  methods := ms
  attributes := attrs
def plain (name : String) (sup : Option ClassId) : Class where
  name := name
  kind := .ordinary
  loader := none
  accessFlags := 33
  super := sup
  interfaces := #[]
  cf := none
  fields := #[]
  methods := #[]
  instanceTypes := #[]
  staticTypes := #[]
  resolved := #[]
  callSites := []
  init := .initialized
  statics := none
  mirror := none

def pool0 : Array CpInfo := pool [(5, u "<init>"), (0, u "()V"), (1, .class_ 10), (1, u "java/lang/Object")] 113

def k0c0 : Code := { maxStack := 0, maxLocals := 1, code := object_method_1_code, exceptionTable := #[], attributes := #[] }
def k0m0 : Method := { name := "<init>", desc := "()V", sig := { parameters := [], returnType := none }, accessFlags := 1, code := some k0c0 }
/-- java/lang/Object -/
def k0 : Class := { plain "java/lang/Object" none with
  accessFlags := 33
  interfaces := #[]
  cf := some (fileOf pool0 8 #[] #[{ accessFlags := 1, nameIndex := 5, descriptorIndex := 6, attributes := #[] }] 33 0 #[] #[])
  fields := #[]
  methods := #[k0m0]
  instanceTypes := #[]
  staticTypes := #[]
  resolved := Array.replicate 124 none
  statics := none }

def pool1 : Array CpInfo := pool [(2, .class_ 4), (1, u "java/lang/Object"), (0, u "<init>"), (0, u "()V"), (0, .class_ 8), (0, u "java/lang/String"), (0, .methodref 7 10), (0, .nameAndType 5 11), (0, u "([C)V"), (0, .class_ 13), (0, u "com/example/veiled_crown/veiledcrown/engine/Markers"), (0, .methodref 12 15), (0, .nameAndType 5 16), (0, u "(II)V"), (0, .methodref 12 18), (0, .nameAndType 19 20), (0, u "leads"), (0, u "(Ljava/lang/String;)Z"), (0, .class_ 22), (0, u "com/example/veiled_crown/veiledcrown/engine/MarkersLeadsPinLaw"), (2, u "law"), (0, u "(III)Z")] 5

def k1m0 : Method := { name := "<init>", desc := "()V", sig := { parameters := [], returnType := none }, accessFlags := 2, code := none }
def k1c1 : Code := { maxStack := 4, maxLocals := 9, code := code, exceptionTable := #[], attributes := #[] }
def k1m1 : Method := { name := "law", desc := "(III)Z", sig := { parameters := [.int, .int, .int], returnType := some .boolean }, accessFlags := 9, code := some k1c1 }
/-- com/example/veiled_crown/veiledcrown/engine/MarkersLeadsPinLaw -/
def k1 : Class := { plain "com/example/veiled_crown/veiledcrown/engine/MarkersLeadsPinLaw" (some 0) with
  accessFlags := 49
  interfaces := #[]
  cf := some (fileOf pool1 21 #[] #[{ accessFlags := 2, nameIndex := 5, descriptorIndex := 6, attributes := #[] }, { accessFlags := 9, nameIndex := 25, descriptorIndex := 26, attributes := #[] }] 49 2 #[] #[])
  fields := #[]
  methods := #[k1m0, k1m1]
  instanceTypes := #[]
  staticTypes := #[]
  resolved := Array.replicate 32 none
  statics := none }

def pool2 : Array CpInfo := pool [(1, .class_ 2), (0, u "java/io/Serializable"), (0, .class_ 4), (0, u "java/lang/Object")] 2

/-- java/io/Serializable -/
def k2 : Class := { plain "java/io/Serializable" (some 0) with
  accessFlags := 1537
  interfaces := #[]
  cf := some (fileOf pool2 1 #[] #[] 1537 3 #[] #[])
  fields := #[]
  methods := #[]
  instanceTypes := #[]
  staticTypes := #[]
  resolved := Array.replicate 7 none
  statics := none }

def pool3 : Array CpInfo := pool [(1, .class_ 2), (0, u "java/lang/Comparable"), (0, .class_ 4), (0, u "java/lang/Object")] 7

/-- java/lang/Comparable -/
def k3 : Class := { plain "java/lang/Comparable" (some 0) with
  accessFlags := 1537
  interfaces := #[]
  cf := some (fileOf pool3 1 #[] #[] 1537 3 #[] #[])
  fields := #[]
  methods := #[]
  instanceTypes := #[]
  staticTypes := #[]
  resolved := Array.replicate 12 none
  statics := none }

def pool4 : Array CpInfo := pool [(2, .class_ 4), (1, u "java/lang/CharSequence"), (42, .class_ 48), (0, u "java/lang/CharSequence$1CodePointIterator"), (10, .class_ 60), (0, u "java/lang/CharSequence$1CharIterator"), (5, .class_ 67), (0, u "java/lang/Object")] 63

/-- java/lang/CharSequence -/
def k4 : Class := { plain "java/lang/CharSequence" (some 0) with
  accessFlags := 1537
  interfaces := #[]
  cf := some (fileOf pool4 2 #[.nestMembers #[47, 59]] #[] 1537 66 #[] #[])
  fields := #[]
  methods := #[]
  instanceTypes := #[]
  staticTypes := #[]
  resolved := Array.replicate 131 none
  statics := none }

def pool5 : Array CpInfo := pool [(1, .class_ 2), (0, u "java/lang/constant/Constable"), (0, .class_ 4), (0, u "java/lang/Object")] 6

/-- java/lang/constant/Constable -/
def k5 : Class := { plain "java/lang/constant/Constable" (some 0) with
  accessFlags := 1537
  interfaces := #[]
  cf := some (fileOf pool5 1 #[] #[] 1537 3 #[] #[])
  fields := #[]
  methods := #[]
  instanceTypes := #[]
  staticTypes := #[]
  resolved := Array.replicate 11 none
  statics := none }

def pool6 : Array CpInfo := pool [(1, .class_ 2), (0, u "java/lang/constant/ConstantDesc"), (0, .class_ 4), (0, u "java/lang/Object")] 32

/-- java/lang/constant/ConstantDesc -/
def k6 : Class := { plain "java/lang/constant/ConstantDesc" (some 0) with
  accessFlags := 1537
  interfaces := #[]
  cf := some (fileOf pool6 1 #[] #[] 1537 3 #[] #[])
  fields := #[]
  methods := #[]
  instanceTypes := #[]
  staticTypes := #[]
  resolved := Array.replicate 37 none
  statics := none }

def pool7 : Array CpInfo := pool [(1, .methodref 2 3), (0, .class_ 4), (0, .nameAndType 5 6), (0, u "java/lang/Object"), (0, u "<init>"), (0, u "()V"), (2, .fieldref 10 11), (0, .class_ 12), (0, .nameAndType 13 14), (0, u "java/lang/String"), (0, u "value"), (0, u "[B"), (0, .fieldref 10 16), (0, .nameAndType 17 18), (0, u "coder"), (0, u "B"), (2, u "hash"), (0, u "I"), (2, u "hashIsZero"), (0, u "Z"), (0, .methodref 10 28), (0, .nameAndType 5 29), (0, u "([CIILjava/lang/Void;)V"), (8, .fieldref 10 39), (0, .nameAndType 40 26), (0, u "COMPACT_STRINGS"), (1, .class_ 44), (1, u "java/lang/StringUTF16"), (0, u "compress"), (1, .methodref 42 48), (0, .nameAndType 49 50), (0, u "coderFromArrayLen"), (0, u "([BI)B"), (56, .class_ 109), (1, u "java/lang/StringLatin1"), (67, .methodref 42 178), (0, .nameAndType 45 179), (0, u "([CII)[B"), (361, .methodref 107 542), (0, .nameAndType 543 544), (0, u "equals"), (0, u "([B[B)Z"), (28, u "(Ljava/lang/Object;)Z"), (1, .class_ 576), (0, u "java/lang/CharSequence"), (22, u "CASE_INSENSITIVE_ORDER"), (0, u "Ljava/util/Comparator;"), (409, u "([C)V"), (90, u "serialPersistentFields"), (0, u "[Ljava/io/ObjectStreamField;"), (0, .class_ 1104), (0, u "java/lang/String$CaseInsensitiveComparator"), (1, .class_ 1107), (0, u "java/io/Serializable"), (0, .class_ 1109), (0, u "java/lang/Comparable"), (0, .class_ 1111), (0, u "java/lang/constant/Constable"), (0, .class_ 1113), (0, u "java/lang/constant/ConstantDesc"), (2, u "serialVersionUID"), (0, u "J"), (3, u "REPL"), (0, u "C"), (2, u "LATIN1"), (1, u "UTF16")] 323

def k7m0 : Method := { name := "<init>", desc := "()V", sig := { parameters := [], returnType := none }, accessFlags := 1, code := none }
def k7c1 : Code := { maxStack := 5, maxLocals := 2, code := jdk_42_method_3_code, exceptionTable := #[], attributes := #[] }
def k7m1 : Method := { name := "<init>", desc := "([C)V", sig := { parameters := [(.array .char)], returnType := none }, accessFlags := 1, code := some k7c1 }
def k7c2 : Code := { maxStack := 2, maxLocals := 3, code := jdk_42_method_66_code, exceptionTable := #[], attributes := #[] }
def k7m2 : Method := { name := "equals", desc := "(Ljava/lang/Object;)Z", sig := { parameters := [(.object "java/lang/Object")], returnType := some .boolean }, accessFlags := 1, code := some k7c2 }
def k7c3 : Code := { maxStack := 4, maxLocals := 6, code := jdk_42_method_149_code, exceptionTable := #[], attributes := #[] }
def k7m3 : Method := { name := "<init>", desc := "([CIILjava/lang/Void;)V", sig := { parameters := [(.array .char), .int, .int, (.object "java/lang/Void")], returnType := none }, accessFlags := 2, code := some k7c3 }
/-- java/lang/String -/
def k7 : Class := { plain "java/lang/String" (some 0) with
  accessFlags := 49
  interfaces := #[2, 3, 4, 5, 6]
  cf := some (fileOf pool7 10 #[.nestMembers #[1103]] #[{ accessFlags := 1, nameIndex := 5, descriptorIndex := 6, attributes := #[] }, { accessFlags := 1, nameIndex := 5, descriptorIndex := 1010, attributes := #[] }, { accessFlags := 1, nameIndex := 543, descriptorIndex := 573, attributes := #[] }, { accessFlags := 2, nameIndex := 5, descriptorIndex := 29, attributes := #[] }] 49 2 #[1106, 1108, 575, 1110, 1112] #[{ accessFlags := 18, nameIndex := 13, descriptorIndex := 14, attributes := #[] }, { accessFlags := 18, nameIndex := 17, descriptorIndex := 18, attributes := #[] }, { accessFlags := 2, nameIndex := 21, descriptorIndex := 22, attributes := #[] }, { accessFlags := 2, nameIndex := 25, descriptorIndex := 26, attributes := #[] }, { accessFlags := 26, nameIndex := 1116, descriptorIndex := 1117, attributes := #[] }, { accessFlags := 24, nameIndex := 40, descriptorIndex := 26, attributes := #[] }, { accessFlags := 26, nameIndex := 1101, descriptorIndex := 1102, attributes := #[] }, { accessFlags := 26, nameIndex := 1121, descriptorIndex := 1122, attributes := #[] }, { accessFlags := 25, nameIndex := 599, descriptorIndex := 600, attributes := #[] }, { accessFlags := 24, nameIndex := 1125, descriptorIndex := 18, attributes := #[] }, { accessFlags := 24, nameIndex := 1127, descriptorIndex := 18, attributes := #[] }])
  fields := #[{ name := "value", type := (.array .byte), accessFlags := 18, slot := 0, constantValue := 0 }, { name := "coder", type := .byte, accessFlags := 18, slot := 1, constantValue := 0 }, { name := "hash", type := .int, accessFlags := 2, slot := 2, constantValue := 0 }, { name := "hashIsZero", type := .boolean, accessFlags := 2, slot := 3, constantValue := 0 }, { name := "serialVersionUID", type := .long, accessFlags := 26, slot := 0, constantValue := 0 }, { name := "COMPACT_STRINGS", type := .boolean, accessFlags := 24, slot := 1, constantValue := 0 }, { name := "serialPersistentFields", type := (.array (.object "java/io/ObjectStreamField")), accessFlags := 26, slot := 2, constantValue := 0 }, { name := "REPL", type := .char, accessFlags := 26, slot := 3, constantValue := 0 }, { name := "CASE_INSENSITIVE_ORDER", type := (.object "java/util/Comparator"), accessFlags := 25, slot := 4, constantValue := 0 }, { name := "LATIN1", type := .byte, accessFlags := 24, slot := 5, constantValue := 0 }, { name := "UTF16", type := .byte, accessFlags := 24, slot := 6, constantValue := 0 }]
  methods := #[k7m0, k7m1, k7m2, k7m3]
  instanceTypes := #[(.array .byte), .byte, .int, .boolean]
  staticTypes := #[.long, .boolean, (.array (.object "java/io/ObjectStreamField")), .char, (.object "java/util/Comparator"), .byte, .byte]
  resolved := Array.replicate 1451 none
  statics := some 0 }

def pool8 : Array CpInfo := pool [(6, .class_ 8), (1, u "java/lang/Object"), (0, u "<init>"), (0, u "()V"), (1, .class_ 14), (1, u "java/lang/StringUTF16"), (31, u "$assertionsDisabled"), (0, u "Z"), (13, u "HI_BYTE_SHIFT"), (0, u "I"), (2, u "LO_BYTE_SHIFT"), (49, .methodref 12 116), (0, .nameAndType 117 118), (0, u "compress"), (0, u "([CI[BII)I"), (3, u "([CII)[B"), (138, u "coderFromArrayLen"), (0, u "([BI)B"), (106, .class_ 371), (1, u "java/lang/StringUTF16$LinesSpliterator"), (58, u "MAX_LENGTH"), (196, .class_ 628), (0, u "java/lang/StringUTF16$CodePointsSpliterator"), (0, .class_ 630), (0, u "java/lang/StringUTF16$CharsSpliterator")] 4

def k8m0 : Method := { name := "<init>", desc := "()V", sig := { parameters := [], returnType := none }, accessFlags := 0, code := none }
def k8c1 : Code := { maxStack := 2, maxLocals := 2, code := jdk_52_method_15_code, exceptionTable := #[], attributes := #[] }
def k8m1 : Method := { name := "coderFromArrayLen", desc := "([BI)B", sig := { parameters := [(.array .byte), .int], returnType := some .byte }, accessFlags := 8, code := some k8c1 }
def k8c2 : Code := { maxStack := 5, maxLocals := 6, code := jdk_52_method_16_code, exceptionTable := #[], attributes := #[] }
def k8m2 : Method := { name := "compress", desc := "([CII)[B", sig := { parameters := [(.array .char), .int, .int], returnType := some (.array .byte) }, accessFlags := 9, code := some k8c2 }
def k8c3 : Code := { maxStack := 3, maxLocals := 7, code := jdk_52_method_21_code, exceptionTable := #[], attributes := #[] }
def k8m3 : Method := { name := "compress", desc := "([CI[BII)I", sig := { parameters := [(.array .char), .int, (.array .byte), .int, .int], returnType := some .int }, accessFlags := 9, code := some k8c3 }
/-- java/lang/StringUTF16 -/
def k8 : Class := { plain "java/lang/StringUTF16" (some 0) with
  accessFlags := 48
  interfaces := #[]
  cf := some (fileOf pool8 12 #[.nestMembers #[627, 629, 369]] #[{ accessFlags := 0, nameIndex := 9, descriptorIndex := 10, attributes := #[] }, { accessFlags := 8, nameIndex := 261, descriptorIndex := 262, attributes := #[] }, { accessFlags := 9, nameIndex := 117, descriptorIndex := 122, attributes := #[] }, { accessFlags := 9, nameIndex := 117, descriptorIndex := 118, attributes := #[] }] 48 6 #[] #[{ accessFlags := 26, nameIndex := 61, descriptorIndex := 62, attributes := #[] }, { accessFlags := 26, nameIndex := 65, descriptorIndex := 62, attributes := #[] }, { accessFlags := 24, nameIndex := 430, descriptorIndex := 62, attributes := #[] }, { accessFlags := 4120, nameIndex := 46, descriptorIndex := 47, attributes := #[] }])
  fields := #[{ name := "HI_BYTE_SHIFT", type := .int, accessFlags := 26, slot := 0, constantValue := 0 }, { name := "LO_BYTE_SHIFT", type := .int, accessFlags := 26, slot := 1, constantValue := 0 }, { name := "MAX_LENGTH", type := .int, accessFlags := 24, slot := 2, constantValue := 0 }, { name := "$assertionsDisabled", type := .boolean, accessFlags := 4120, slot := 3, constantValue := 0 }]
  methods := #[k8m0, k8m1, k8m2, k8m3]
  instanceTypes := #[]
  staticTypes := #[.int, .int, .int, .boolean]
  resolved := Array.replicate 635 none
  statics := none }

def pool9 : Array CpInfo := pool [(1, .methodref 2 3), (0, .class_ 4), (0, .nameAndType 5 6), (0, u "java/lang/Object"), (0, u "<init>"), (0, u "()V"), (0, .class_ 8), (0, u "java/lang/Record")] 13

def k9c0 : Code := { maxStack := 1, maxLocals := 1, code := jdk_30_method_1_code, exceptionTable := #[], attributes := #[] }
def k9m0 : Method := { name := "<init>", desc := "()V", sig := { parameters := [], returnType := none }, accessFlags := 4, code := some k9c0 }
/-- java/lang/Record -/
def k9 : Class := { plain "java/lang/Record" (some 0) with
  accessFlags := 1057
  interfaces := #[]
  cf := some (fileOf pool9 7 #[] #[{ accessFlags := 4, nameIndex := 5, descriptorIndex := 6, attributes := #[] }] 1057 2 #[] #[])
  fields := #[]
  methods := #[k9m0]
  instanceTypes := #[]
  staticTypes := #[]
  resolved := Array.replicate 22 none
  statics := none }

def pool10 : Array CpInfo := pool [(1, .methodref 2 3), (0, .class_ 4), (0, .nameAndType 5 6), (0, u "java/lang/Record"), (0, u "<init>"), (0, u "()V"), (0, .fieldref 8 9), (0, .class_ 10), (0, .nameAndType 11 12), (0, u "com/example/veiled_crown/veiledcrown/engine/Markers"), (0, u "green"), (0, u "I"), (0, .fieldref 8 14), (0, .nameAndType 15 12), (0, u "red"), (6, .string 11), (5, .methodref 29 30), (0, .class_ 31), (0, .nameAndType 32 33), (0, u "java/lang/String"), (0, u "equals"), (0, u "(Ljava/lang/Object;)Z"), (24, u "(II)V"), (54, u "NAMES"), (0, u "Ljava/util/List;"), (0, u "GREEN"), (0, u "Ljava/lang/String;"), (1, u "RED"), (0, u "LEADING"), (0, u "TRAILING"), (7, u "leads"), (0, u "(Ljava/lang/String;)Z")] 55

def k10c0 : Code := { maxStack := 2, maxLocals := 3, code := prog_76_method_1_code, exceptionTable := #[], attributes := #[] }
def k10m0 : Method := { name := "<init>", desc := "(II)V", sig := { parameters := [.int, .int], returnType := none }, accessFlags := 1, code := some k10c0 }
def k10c1 : Code := { maxStack := 3, maxLocals := 2, code := prog_76_method_3_code, exceptionTable := #[], attributes := #[] }
def k10m1 : Method := { name := "leads", desc := "(Ljava/lang/String;)Z", sig := { parameters := [(.object "java/lang/String")], returnType := some .boolean }, accessFlags := 0, code := some k10c1 }
/-- com/example/veiled_crown/veiledcrown/engine/Markers -/
def k10 : Class := { plain "com/example/veiled_crown/veiledcrown/engine/Markers" (some 9) with
  accessFlags := 49
  interfaces := #[]
  cf := some (fileOf pool10 8 #[] #[{ accessFlags := 1, nameIndex := 5, descriptorIndex := 58, attributes := #[] }, { accessFlags := 0, nameIndex := 128, descriptorIndex := 129, attributes := #[] }] 49 2 #[] #[{ accessFlags := 18, nameIndex := 11, descriptorIndex := 12, attributes := #[] }, { accessFlags := 18, nameIndex := 15, descriptorIndex := 12, attributes := #[] }, { accessFlags := 25, nameIndex := 115, descriptorIndex := 116, attributes := #[] }, { accessFlags := 25, nameIndex := 118, descriptorIndex := 116, attributes := #[] }, { accessFlags := 25, nameIndex := 119, descriptorIndex := 116, attributes := #[] }, { accessFlags := 25, nameIndex := 120, descriptorIndex := 116, attributes := #[] }, { accessFlags := 25, nameIndex := 113, descriptorIndex := 114, attributes := #[] }])
  fields := #[{ name := "green", type := .int, accessFlags := 18, slot := 0, constantValue := 0 }, { name := "red", type := .int, accessFlags := 18, slot := 1, constantValue := 0 }, { name := "GREEN", type := (.object "java/lang/String"), accessFlags := 25, slot := 0, constantValue := 0 }, { name := "RED", type := (.object "java/lang/String"), accessFlags := 25, slot := 1, constantValue := 0 }, { name := "LEADING", type := (.object "java/lang/String"), accessFlags := 25, slot := 2, constantValue := 0 }, { name := "TRAILING", type := (.object "java/lang/String"), accessFlags := 25, slot := 3, constantValue := 0 }, { name := "NAMES", type := (.object "java/util/List"), accessFlags := 25, slot := 4, constantValue := 0 }]
  methods := #[k10m0, k10m1]
  instanceTypes := #[.int, .int]
  staticTypes := #[(.object "java/lang/String"), (.object "java/lang/String"), (.object "java/lang/String"), (.object "java/lang/String"), (.object "java/util/List")]
  resolved := Array.replicate 185 none
  statics := none }

def pool11 : Array CpInfo := pool [(4, .class_ 6), (1, u "java/lang/Object"), (0, u "<init>"), (0, u "()V"), (5, .class_ 16), (1, u "java/lang/StringLatin1"), (104, u "$assertionsDisabled"), (0, u "Z"), (98, .class_ 223), (1, u "java/lang/StringLatin1$LinesSpliterator"), (57, u "equals"), (0, u "([B[B)Z"), (107, .class_ 391), (0, u "java/lang/StringLatin1$CharsSpliterator")] 3

def k11m0 : Method := { name := "<init>", desc := "()V", sig := { parameters := [], returnType := none }, accessFlags := 0, code := none }
def k11c1 : Code := { maxStack := 3, maxLocals := 3, code := jdk_43_method_13_code, exceptionTable := #[], attributes := #[] }
def k11m1 : Method := { name := "equals", desc := "([B[B)Z", sig := { parameters := [(.array .byte), (.array .byte)], returnType := some .boolean }, accessFlags := 9, code := some k11c1 }
/-- java/lang/StringLatin1 -/
def k11 : Class := { plain "java/lang/StringLatin1" (some 0) with
  accessFlags := 48
  interfaces := #[]
  cf := some (fileOf pool11 14 #[.nestMembers #[390, 221]] #[{ accessFlags := 0, nameIndex := 7, descriptorIndex := 8, attributes := #[] }, { accessFlags := 9, nameIndex := 281, descriptorIndex := 282, attributes := #[] }] 48 4 #[] #[{ accessFlags := 4120, nameIndex := 121, descriptorIndex := 122, attributes := #[] }])
  fields := #[{ name := "$assertionsDisabled", type := .boolean, accessFlags := 4120, slot := 0, constantValue := 0 }]
  methods := #[k11m0, k11m1]
  instanceTypes := #[]
  staticTypes := #[.boolean]
  resolved := Array.replicate 395 none
  statics := none }

def pool12 : Array CpInfo := pool [(2, .class_ 4), (1, u "java/lang/Object"), (0, u "<init>"), (0, u "()V"), (17, .class_ 26), (1, u "jdk/internal/util/Preconditions"), (28, .class_ 56), (0, u "jdk/internal/util/Preconditions$4"), (57, .class_ 115), (0, u "jdk/internal/util/Preconditions$1"), (7, u "SIOOBE_FORMATTER"), (0, u "Ljava/util/function/BiFunction;"), (0, .class_ 126), (0, u "jdk/internal/util/Preconditions$2"), (3, u "AIOOBE_FORMATTER"), (0, .class_ 132), (0, u "jdk/internal/util/Preconditions$3"), (3, u "IOOBE_FORMATTER")] 57

def k12m0 : Method := { name := "<init>", desc := "()V", sig := { parameters := [], returnType := none }, accessFlags := 1, code := none }
/-- jdk/internal/util/Preconditions -/
def k12 : Class := { plain "jdk/internal/util/Preconditions" (some 0) with
  accessFlags := 33
  interfaces := #[]
  cf := some (fileOf pool12 24 #[.nestMembers #[55, 131, 125, 114]] #[{ accessFlags := 1, nameIndex := 5, descriptorIndex := 6, attributes := #[] }] 33 2 #[] #[{ accessFlags := 25, nameIndex := 123, descriptorIndex := 124, attributes := #[] }, { accessFlags := 25, nameIndex := 130, descriptorIndex := 124, attributes := #[] }, { accessFlags := 25, nameIndex := 136, descriptorIndex := 124, attributes := #[] }])
  fields := #[{ name := "SIOOBE_FORMATTER", type := (.object "java/util/function/BiFunction"), accessFlags := 25, slot := 0, constantValue := 0 }, { name := "AIOOBE_FORMATTER", type := (.object "java/util/function/BiFunction"), accessFlags := 25, slot := 1, constantValue := 0 }, { name := "IOOBE_FORMATTER", type := (.object "java/util/function/BiFunction"), accessFlags := 25, slot := 2, constantValue := 0 }]
  methods := #[k12m0]
  instanceTypes := #[]
  staticTypes := #[(.object "java/util/function/BiFunction"), (.object "java/util/function/BiFunction"), (.object "java/util/function/BiFunction")]
  resolved := Array.replicate 194 none
  statics := some 1 }

def pool13 : Array CpInfo := pool [(9, u "<init>"), (6, .class_ 18), (1, u "java/lang/Object"), (0, u "()V"), (1, .class_ 23), (1, u "jdk/internal/util/ArraysSupport"), (0, u "LOG2_ARRAY_LONG_INDEX_SCALE"), (0, u "I"), (2, u "U"), (0, u "Ljdk/internal/misc/Unsafe;"), (8, u "BIG_ENDIAN"), (0, u "Z"), (8, u "LOG2_BYTE_BIT_SIZE"), (4, u "LOG2_ARRAY_INT_INDEX_SCALE"), (54, u "JLA"), (0, u "Ljdk/internal/access/JavaLangAccess;"), (11, u "LOG2_ARRAY_BOOLEAN_INDEX_SCALE"), (9, u "LOG2_ARRAY_BYTE_INDEX_SCALE"), (5, u "LOG2_ARRAY_CHAR_INDEX_SCALE"), (5, u "LOG2_ARRAY_SHORT_INDEX_SCALE"), (18, u "LOG2_ARRAY_FLOAT_INDEX_SCALE"), (24, u "LOG2_ARRAY_DOUBLE_INDEX_SCALE"), (89, u "T_BOOLEAN"), (2, u "T_CHAR"), (1, u "T_FLOAT"), (1, u "T_DOUBLE"), (1, u "T_BYTE"), (1, u "T_SHORT"), (1, u "T_INT"), (1, u "T_LONG"), (1, u "SOFT_MAX_ARRAY_LENGTH")] 83

def k13m0 : Method := { name := "<init>", desc := "()V", sig := { parameters := [], returnType := none }, accessFlags := 2, code := none }
/-- jdk/internal/util/ArraysSupport -/
def k13 : Class := { plain "jdk/internal/util/ArraysSupport" (some 0) with
  accessFlags := 33
  interfaces := #[]
  cf := some (fileOf pool13 21 #[] #[{ accessFlags := 2, nameIndex := 9, descriptorIndex := 19, attributes := #[] }] 33 16 #[] #[{ accessFlags := 24, nameIndex := 28, descriptorIndex := 29, attributes := #[] }, { accessFlags := 26, nameIndex := 38, descriptorIndex := 39, attributes := #[] }, { accessFlags := 25, nameIndex := 121, descriptorIndex := 25, attributes := #[] }, { accessFlags := 25, nameIndex := 131, descriptorIndex := 25, attributes := #[] }, { accessFlags := 25, nameIndex := 137, descriptorIndex := 25, attributes := #[] }, { accessFlags := 25, nameIndex := 143, descriptorIndex := 25, attributes := #[] }, { accessFlags := 25, nameIndex := 53, descriptorIndex := 25, attributes := #[] }, { accessFlags := 25, nameIndex := 24, descriptorIndex := 25, attributes := #[] }, { accessFlags := 25, nameIndex := 162, descriptorIndex := 25, attributes := #[] }, { accessFlags := 25, nameIndex := 187, descriptorIndex := 25, attributes := #[] }, { accessFlags := 26, nameIndex := 48, descriptorIndex := 25, attributes := #[] }, { accessFlags := 25, nameIndex := 277, descriptorIndex := 25, attributes := #[] }, { accessFlags := 25, nameIndex := 280, descriptorIndex := 25, attributes := #[] }, { accessFlags := 25, nameIndex := 282, descriptorIndex := 25, attributes := #[] }, { accessFlags := 25, nameIndex := 284, descriptorIndex := 25, attributes := #[] }, { accessFlags := 25, nameIndex := 286, descriptorIndex := 25, attributes := #[] }, { accessFlags := 25, nameIndex := 288, descriptorIndex := 25, attributes := #[] }, { accessFlags := 25, nameIndex := 290, descriptorIndex := 25, attributes := #[] }, { accessFlags := 25, nameIndex := 292, descriptorIndex := 25, attributes := #[] }, { accessFlags := 26, nameIndex := 108, descriptorIndex := 109, attributes := #[] }, { accessFlags := 25, nameIndex := 294, descriptorIndex := 25, attributes := #[] }])
  fields := #[{ name := "U", type := (.object "jdk/internal/misc/Unsafe"), accessFlags := 24, slot := 0, constantValue := 0 }, { name := "BIG_ENDIAN", type := .boolean, accessFlags := 26, slot := 1, constantValue := 0 }, { name := "LOG2_ARRAY_BOOLEAN_INDEX_SCALE", type := .int, accessFlags := 25, slot := 2, constantValue := 0 }, { name := "LOG2_ARRAY_BYTE_INDEX_SCALE", type := .int, accessFlags := 25, slot := 3, constantValue := 0 }, { name := "LOG2_ARRAY_CHAR_INDEX_SCALE", type := .int, accessFlags := 25, slot := 4, constantValue := 0 }, { name := "LOG2_ARRAY_SHORT_INDEX_SCALE", type := .int, accessFlags := 25, slot := 5, constantValue := 0 }, { name := "LOG2_ARRAY_INT_INDEX_SCALE", type := .int, accessFlags := 25, slot := 6, constantValue := 0 }, { name := "LOG2_ARRAY_LONG_INDEX_SCALE", type := .int, accessFlags := 25, slot := 7, constantValue := 0 }, { name := "LOG2_ARRAY_FLOAT_INDEX_SCALE", type := .int, accessFlags := 25, slot := 8, constantValue := 0 }, { name := "LOG2_ARRAY_DOUBLE_INDEX_SCALE", type := .int, accessFlags := 25, slot := 9, constantValue := 0 }, { name := "LOG2_BYTE_BIT_SIZE", type := .int, accessFlags := 26, slot := 10, constantValue := 0 }, { name := "T_BOOLEAN", type := .int, accessFlags := 25, slot := 11, constantValue := 0 }, { name := "T_CHAR", type := .int, accessFlags := 25, slot := 12, constantValue := 0 }, { name := "T_FLOAT", type := .int, accessFlags := 25, slot := 13, constantValue := 0 }, { name := "T_DOUBLE", type := .int, accessFlags := 25, slot := 14, constantValue := 0 }, { name := "T_BYTE", type := .int, accessFlags := 25, slot := 15, constantValue := 0 }, { name := "T_SHORT", type := .int, accessFlags := 25, slot := 16, constantValue := 0 }, { name := "T_INT", type := .int, accessFlags := 25, slot := 17, constantValue := 0 }, { name := "T_LONG", type := .int, accessFlags := 25, slot := 18, constantValue := 0 }, { name := "JLA", type := (.object "jdk/internal/access/JavaLangAccess"), accessFlags := 26, slot := 19, constantValue := 0 }, { name := "SOFT_MAX_ARRAY_LENGTH", type := .int, accessFlags := 25, slot := 20, constantValue := 0 }]
  methods := #[k13m0]
  instanceTypes := #[]
  staticTypes := #[(.object "jdk/internal/misc/Unsafe"), .boolean, .int, .int, .int, .int, .int, .int, .int, .int, .int, .int, .int, .int, .int, .int, .int, .int, .int, (.object "jdk/internal/access/JavaLangAccess"), .int]
  resolved := Array.replicate 378 none
  statics := none }

def pool14 : Array CpInfo := pool [(1, u "java/lang/Cloneable"), (0, .class_ 1), (0, u "java/lang/Object"), (0, .class_ 3)] 3

/-- java/lang/Cloneable -/
def k14 : Class := { plain "java/lang/Cloneable" (some 0) with
  accessFlags := 1537
  interfaces := #[]
  cf := some (fileOf pool14 2 #[] #[] 1537 4 #[] #[])
  fields := #[]
  methods := #[]
  instanceTypes := #[]
  staticTypes := #[]
  resolved := Array.replicate 8 none
  statics := none }

/-- the primitive byte -/
def k15 : Class := { plain "byte" none with kind := .primitive 'B', accessFlags := 0x411 }
/-- [B -/
def k16 : Class := { plain "[B" (some 0) with kind := .array 15 .byte, interfaces := #[14, 2], accessFlags := 1041 }

/-- the primitive char -/
def k17 : Class := { plain "char" none with kind := .primitive 'C', accessFlags := 0x411 }
/-- [C -/
def k18 : Class := { plain "[C" (some 0) with kind := .array 17 .char, interfaces := #[14, 2], accessFlags := 1041 }

/-- the primitive int -/
def k19 : Class := { plain "int" none with kind := .primitive 'I', accessFlags := 0x411 }
/-- [I -/
def k20 : Class := { plain "[I" (some 0) with kind := .array 19 .int, interfaces := #[14, 2], accessFlags := 1041 }

def heap : Heap := #[{ cls := 7, slots := #[.long 0, .int 1, .null, .int 0, .null, .int 0, .int 0], vm := .statics 7 },
  { cls := 12, slots := #[.null, .null, .null], vm := .statics 12 }]
def classes : Array Class := #[k0, k1, k2, k3, k4, k5, k6, k7, k8, k9, k10, k11, k12, k13, k14, k15, k16, k17, k18, k19, k20]
def interned : List (Array UInt16 × Addr) := []
def slotsUsed : Nat := 10
def theMethod : MethodId := ⟨1, 1⟩
def args0 : Array Value := #[.int 5, .int 7, .int 1]
def aboutOver (below : List Frame) : State where
  vm := { classes := classes, interned := interned.toArray }
  heap := heap
  slotsUsed := slotsUsed
  threads := #[{ frames := .invoking theMethod args0 :: below }]
def below0 : List Frame := [.native { method := ⟨0, 0⟩, args := #[] }]
def about1 : State := aboutOver below0
def p0 : Program := .bare "" "" ""
def e0 : Env := launch0.env 0 0 0
theorem w_frames : about1.frames = Frame.invoking theMethod args0 :: below0 := rfl
set_option maxRecDepth 65536 in
theorem w_args : argsFit about1.vm theMethod args0 = true := by decide +kernel
set_option maxRecDepth 65536 in
theorem w_heap : heapFits about1 = true := by decide +kernel
set_option maxRecDepth 65536 in
theorem w_runnable : about1.curStatus? = some .runnable := by decide +kernel
set_option maxRecDepth 65536 in
theorem w_alone : about1.alone = true := by decide +kernel
set_option maxRecDepth 65536 in
theorem w_named : about1.methodNamed? x = some theMethod := by decide +kernel
set_option maxRecDepth 65536 in
theorem w_hears : about1.hears theMethod below0 = true := by decide +kernel
set_option maxRecDepth 65536 in
theorem w_ripe : about1.ripe theMethod args0 below0 = true := by decide +kernel
theorem w_running : about1.status = .running := rfl
set_option maxRecDepth 65536 in
theorem w_room : about1.hasRoom e0.platform room_1 = true :=
  launch0.hasRoom_least _ room_1 (by decide +kernel) (by decide +kernel) (by decide +kernel) (by decide +kernel) (by decide +kernel) (by decide +kernel)
theorem allAtoms_all (ts : List Jvm.Cond) (a : Array Jvm.Value) (st : Jvm.State) : (allAtoms ts).before a st = ts.all (fun c => c.before a st) := by
  induction ts with
  | nil => rfl
  | cons c t ih =>
    show (Jvm.Cond.and c (allAtoms t)).before a st = _
    rw [Jvm.Cond.before_and, ih, List.all_cons]
def words1 : List Jvm.Cond := Jvm.Cond.code x code maxLocals ret :: tables_1
/-- a 'code' word, met by the world's own term for the bytes: nothing is compared byte by byte -/
theorem code_word {y : MethodName} {bytes : ByteArray} {mx : Nat} {rt : Option FieldType} {a : Array Value} {s : State} {m : MethodId} {meth : Method} {c : Code} (h1 : s.methodNamed? y = some m) (h2 : s.vm.method? m = some meth) (h3 : meth.code = some c) (h4 : c.code = bytes)
    (h5 : (c.maxLocals == mx && c.exceptionTable.isEmpty && decide (c.maxStack ≤ mostOperands) && decide (meth.sig.returnType = rt) && !meth.locks && decide (parseMethodDescriptor y.desc = some meth.sig)) = true) : (Jvm.Cond.code y bytes mx rt).before a s = true := by
  simp only [Bool.and_eq_true, beq_iff_eq, Bool.not_eq_true', decide_eq_true_eq] at h5
  obtain ⟨⟨⟨⟨⟨g1, g2⟩, g3⟩, g4⟩, g5⟩, g6⟩ := h5
  simp [Cond.before, Cond.holds, Cond.value, h1, h2, h3, h4, g1, g2, g3, g4, g5, g6]
def isCode : Jvm.Cond → Bool
  | .code _ _ _ _ => true
  | _ => false
theorem all_split {L : List Jvm.Cond} {P : Jvm.Cond → Bool} (h1 : L.all (fun c => isCode c || P c) = true) (h2 : ∀ c ∈ L.filter isCode, P c = true) : L.all P = true := by
  refine List.all_eq_true.mpr fun c hc => ?_
  have h := List.all_eq_true.mp h1 c hc
  rcases Bool.eq_false_or_eq_true (isCode c) with hi | hi
  · exact h2 c (List.mem_filter.mpr ⟨hc, hi⟩)
  · simpa [hi] using h
set_option maxRecDepth 65536 in
theorem w_c0 : (Jvm.Cond.code x code maxLocals ret).before args0 about1 = true := code_word (m := ⟨1, 1⟩) (meth := k1m1) (c := k1c1) (by decide +kernel) rfl rfl rfl (by decide +kernel)
set_option maxRecDepth 65536 in
theorem w_c1 : (Jvm.Cond.code ({ cls := "java/lang/String", name := "<init>", desc := "([C)V" } : Jvm.MethodName) jdk_42_method_3_code (2 : Nat) (Option.none : Option Jvm.ClassFile.FieldType)).before args0 about1 = true := code_word (m := ⟨7, 1⟩) (meth := k7m1) (c := k7c1) (by decide +kernel) rfl rfl rfl (by decide +kernel)
set_option maxRecDepth 65536 in
theorem w_c2 : (Jvm.Cond.code ({ cls := "java/lang/String", name := "<init>", desc := "([CIILjava/lang/Void;)V" } : Jvm.MethodName) jdk_42_method_149_code (6 : Nat) (Option.none : Option Jvm.ClassFile.FieldType)).before args0 about1 = true := code_word (m := ⟨7, 3⟩) (meth := k7m3) (c := k7c3) (by decide +kernel) rfl rfl rfl (by decide +kernel)
set_option maxRecDepth 65536 in
theorem w_c3 : (Jvm.Cond.code ({ cls := "java/lang/Object", name := "<init>", desc := "()V" } : Jvm.MethodName) object_method_1_code (1 : Nat) (Option.none : Option Jvm.ClassFile.FieldType)).before args0 about1 = true := code_word (m := ⟨0, 0⟩) (meth := k0m0) (c := k0c0) (by decide +kernel) rfl rfl rfl (by decide +kernel)
set_option maxRecDepth 65536 in
theorem w_c4 : (Jvm.Cond.code ({ cls := "java/lang/StringUTF16", name := "compress", desc := "([CII)[B" } : Jvm.MethodName) jdk_52_method_16_code (6 : Nat) (Option.some (Jvm.ClassFile.FieldType.array Jvm.ClassFile.FieldType.byte))).before args0 about1 = true := code_word (m := ⟨8, 2⟩) (meth := k8m2) (c := k8c2) (by decide +kernel) rfl rfl rfl (by decide +kernel)
set_option maxRecDepth 65536 in
theorem w_c5 : (Jvm.Cond.code ({ cls := "java/lang/StringUTF16", name := "compress", desc := "([CI[BII)I" } : Jvm.MethodName) jdk_52_method_21_code (7 : Nat) (Option.some Jvm.ClassFile.FieldType.int)).before args0 about1 = true := code_word (m := ⟨8, 3⟩) (meth := k8m3) (c := k8c3) (by decide +kernel) rfl rfl rfl (by decide +kernel)
set_option maxRecDepth 65536 in
theorem w_c6 : (Jvm.Cond.code ({ cls := "java/lang/StringUTF16", name := "coderFromArrayLen", desc := "([BI)B" } : Jvm.MethodName) jdk_52_method_15_code (2 : Nat) (Option.some Jvm.ClassFile.FieldType.byte)).before args0 about1 = true := code_word (m := ⟨8, 1⟩) (meth := k8m1) (c := k8c1) (by decide +kernel) rfl rfl rfl (by decide +kernel)
set_option maxRecDepth 65536 in
theorem w_c7 : (Jvm.Cond.code ({ cls := "com/example/veiled_crown/veiledcrown/engine/Markers", name := "<init>", desc := "(II)V" } : Jvm.MethodName) prog_76_method_1_code (3 : Nat) (Option.none : Option Jvm.ClassFile.FieldType)).before args0 about1 = true := code_word (m := ⟨10, 0⟩) (meth := k10m0) (c := k10c0) (by decide +kernel) rfl rfl rfl (by decide +kernel)
set_option maxRecDepth 65536 in
theorem w_c8 : (Jvm.Cond.code ({ cls := "java/lang/Record", name := "<init>", desc := "()V" } : Jvm.MethodName) jdk_30_method_1_code (1 : Nat) (Option.none : Option Jvm.ClassFile.FieldType)).before args0 about1 = true := code_word (m := ⟨9, 0⟩) (meth := k9m0) (c := k9c0) (by decide +kernel) rfl rfl rfl (by decide +kernel)
set_option maxRecDepth 65536 in
theorem w_c9 : (Jvm.Cond.code ({ cls := "com/example/veiled_crown/veiledcrown/engine/Markers", name := "leads", desc := "(Ljava/lang/String;)Z" } : Jvm.MethodName) prog_76_method_3_code (2 : Nat) (Option.some Jvm.ClassFile.FieldType.boolean)).before args0 about1 = true := code_word (m := ⟨10, 1⟩) (meth := k10m1) (c := k10c1) (by decide +kernel) rfl rfl rfl (by decide +kernel)
set_option maxRecDepth 65536 in
theorem w_c10 : (Jvm.Cond.code ({ cls := "java/lang/String", name := "equals", desc := "(Ljava/lang/Object;)Z" } : Jvm.MethodName) jdk_42_method_66_code (3 : Nat) (Option.some Jvm.ClassFile.FieldType.boolean)).before args0 about1 = true := code_word (m := ⟨7, 2⟩) (meth := k7m2) (c := k7c2) (by decide +kernel) rfl rfl rfl (by decide +kernel)
set_option maxRecDepth 65536 in
theorem w_c11 : (Jvm.Cond.code ({ cls := "java/lang/StringLatin1", name := "equals", desc := "([B[B)Z" } : Jvm.MethodName) jdk_43_method_13_code (3 : Nat) (Option.some Jvm.ClassFile.FieldType.boolean)).before args0 about1 = true := code_word (m := ⟨11, 1⟩) (meth := k11m1) (c := k11c1) (by decide +kernel) rfl rfl rfl (by decide +kernel)
def codes1 : List Jvm.Cond := [Jvm.Cond.code x code maxLocals ret, Jvm.Cond.code ({ cls := "java/lang/String", name := "<init>", desc := "([C)V" } : Jvm.MethodName) jdk_42_method_3_code (2 : Nat) (Option.none : Option Jvm.ClassFile.FieldType), Jvm.Cond.code ({ cls := "java/lang/String", name := "<init>", desc := "([CIILjava/lang/Void;)V" } : Jvm.MethodName) jdk_42_method_149_code (6 : Nat) (Option.none : Option Jvm.ClassFile.FieldType), Jvm.Cond.code ({ cls := "java/lang/Object", name := "<init>", desc := "()V" } : Jvm.MethodName) object_method_1_code (1 : Nat) (Option.none : Option Jvm.ClassFile.FieldType), Jvm.Cond.code ({ cls := "java/lang/StringUTF16", name := "compress", desc := "([CII)[B" } : Jvm.MethodName) jdk_52_method_16_code (6 : Nat) (Option.some (Jvm.ClassFile.FieldType.array Jvm.ClassFile.FieldType.byte)), Jvm.Cond.code ({ cls := "java/lang/StringUTF16", name := "compress", desc := "([CI[BII)I" } : Jvm.MethodName) jdk_52_method_21_code (7 : Nat) (Option.some Jvm.ClassFile.FieldType.int), Jvm.Cond.code ({ cls := "java/lang/StringUTF16", name := "coderFromArrayLen", desc := "([BI)B" } : Jvm.MethodName) jdk_52_method_15_code (2 : Nat) (Option.some Jvm.ClassFile.FieldType.byte), Jvm.Cond.code ({ cls := "com/example/veiled_crown/veiledcrown/engine/Markers", name := "<init>", desc := "(II)V" } : Jvm.MethodName) prog_76_method_1_code (3 : Nat) (Option.none : Option Jvm.ClassFile.FieldType), Jvm.Cond.code ({ cls := "java/lang/Record", name := "<init>", desc := "()V" } : Jvm.MethodName) jdk_30_method_1_code (1 : Nat) (Option.none : Option Jvm.ClassFile.FieldType), Jvm.Cond.code ({ cls := "com/example/veiled_crown/veiledcrown/engine/Markers", name := "leads", desc := "(Ljava/lang/String;)Z" } : Jvm.MethodName) prog_76_method_3_code (2 : Nat) (Option.some Jvm.ClassFile.FieldType.boolean), Jvm.Cond.code ({ cls := "java/lang/String", name := "equals", desc := "(Ljava/lang/Object;)Z" } : Jvm.MethodName) jdk_42_method_66_code (3 : Nat) (Option.some Jvm.ClassFile.FieldType.boolean), Jvm.Cond.code ({ cls := "java/lang/StringLatin1", name := "equals", desc := "([B[B)Z" } : Jvm.MethodName) jdk_43_method_13_code (3 : Nat) (Option.some Jvm.ClassFile.FieldType.boolean)]
set_option maxRecDepth 65536 in
theorem codes_eq : words1.filter isCode = codes1 := rfl
theorem w_codes : ∀ c ∈ words1.filter isCode, c.before args0 about1 = true := by
  rw [codes_eq]
  intro c hc
  simp only [codes1, List.mem_cons, List.not_mem_nil, or_false] at hc
  rcases hc with rfl | rfl | rfl | rfl | rfl | rfl | rfl | rfl | rfl | rfl | rfl | rfl
  · exact w_c0
  · exact w_c1
  · exact w_c2
  · exact w_c3
  · exact w_c4
  · exact w_c5
  · exact w_c6
  · exact w_c7
  · exact w_c8
  · exact w_c9
  · exact w_c10
  · exact w_c11
set_option maxRecDepth 65536 in
theorem w_t1 : (words1.take 24).all (fun c => isCode c || c.before args0 about1) = true := by decide +kernel
set_option maxRecDepth 65536 in
theorem w_t2 : ((words1.drop 24).take 24).all (fun c => isCode c || c.before args0 about1) = true := by decide +kernel
set_option maxRecDepth 65536 in
theorem w_t3 : ((words1.drop 24).drop 24).all (fun c => isCode c || c.before args0 about1) = true := by decide +kernel
theorem w_tables : (allAtoms (Jvm.Cond.code x code maxLocals ret :: tables_1)).before args0 about1 = true := by
  rw [allAtoms_all]
  show words1.all (fun c => c.before args0 about1) = true
  refine all_split ?_ w_codes
  rw [← List.take_append_drop 24 words1, List.all_append, w_t1, ← List.take_append_drop 24 (words1.drop 24), List.all_append, w_t2, w_t3]
  rfl
set_option maxRecDepth 65536 in
theorem w_rest : rest_1_c.before args0 about1 = true := by decide +kernel
set_option maxRecDepth 65536 in
theorem w_case : (Jvm.Cond.and given_1 narrow_1).before args0 about1 = true := by decide +kernel
set_option maxRecDepth 65536 in
theorem w_consts : constsHeld consts_1 about1 := Jvm.Lit.constsHeldB_iff.mp (by decide +kernel)
theorem w_applies : (headSpec (Jvm.Cond.code x code maxLocals ret :: tables_1) room_1).applies x e0.platform about1 = true :=
  (Spec.applies_iff w_frames).mpr ⟨w_running, w_runnable, w_alone, w_named, w_hears, w_ripe, w_room, w_tables⟩
theorem atStart : AtStart classFile x code maxLocals ret World_1 tables_1 room_1 Calls_1 rest_1 Pre_1 launch0 p0 e0 about1 theMethod args0 below0 :=
  ⟨lists_1, trivial, launch0.admits_env _ _ _, launch0.least_env, fairChoices_fair.cas, fairChoices_fair.clock, w_frames, w_args, w_heap, w_applies, ⟨w_consts, trivial⟩, w_rest, w_case⟩
end start1
theorem witness_1 : WitnessClaimed_1 := ⟨start1.p0, start1.e0, start1.about1, start1.theMethod, start1.args0, start1.below0, start1.atStart⟩
end Jvm.Pilot.@@N@@
