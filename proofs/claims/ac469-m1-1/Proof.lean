import JvmDerived
import JvmDerived.Pilot.@@N@@Statement
import JvmDerived.Pilot.@@N@@Code
set_option linter.unusedVariables false
set_option linter.unusedSimpArgs false
@@BLOCK:NumsL.lean.txt@@
/- laws to paste: Road.backV (cut by pick.py; bodies as the Statement names them) -/
namespace Jvm.Pilot.@@N@@
namespace StrChars
open Jvm Sem ClassFile Op Lib Jvm.Stand Jvm.Free.XT Jvm.Free.ALB Jvm.Free.JM Jvm.Free
open Jvm.Lib.Cold (StaticIs)
/-- a char array whose places are chars -/
def Ch (a : Addr) (A : Cell) (U : State) : Prop := Arr .char a A U ∧ Typed .char A
theorem Ch.mv {a : Addr} {A : Cell} {U U' : State} (h : Ch a A U) (hal : U.vm.Alike U'.vm) (hh : U'.heap = U.heap) : Ch a A U' := ⟨h.1.mv hal hh, h.2⟩
theorem Ch.keep {a : Addr} {A : Cell} {U U' : State} (h : Ch a A U) (hal : U.vm.Alike U'.vm) (hk : U'.heap[a]? = some A) : Ch a A U' := ⟨h.1.keep hal hk, h.2⟩
/-- what place i of a char[]'s cell holds -/
def cv (A : Cell) (i : Nat) : Int32 := match A.slots[i]? with | some (.int x) => x | _ => 0
theorem Ch.get {a : Addr} {A : Cell} {U : State} (h : Ch a A U) {i : Nat} (hi : i < A.slots.size) : A.slots[i]? = some (.int (cv A i)) := by
  have e := Array.getElem?_eq_getElem hi
  have f := h.2 i _ e
  unfold cv; rw [e]
  generalize A.slots[i] = v at f
  cases v <;> simp [fits] at f ⊢
/-- the byte that i2b leaves of a char -/
def lo8 (x : Int32) : Int32 := x.toInt8.toInt32
theorem fits_lo8 (y : Int32) : fits .byte (.int (lo8 y)) = true := by
  have h1 := y.toInt8.le_toInt
  have h2 := y.toInt8.toInt_lt
  simp only [lo8, fits, Bool.and_eq_true, decide_eq_true_eq, Int32.le_iff_toInt_le, Int8.toInt_toInt32, show (-128 : Int32).toInt = -128 from by decide, show (127 : Int32).toInt = 127 from by decide]
  omega
/-- A' is A but that each place j of lo .. hi - 1 holds f j -/
def Laid (A A' : Cell) (lo hi : Nat) (f : Nat → Value) : Prop := A'.cls = A.cls ∧ A'.vm = A.vm ∧ A'.slots.size = A.slots.size ∧ ∀ i, A'.slots[i]? = if lo ≤ i ∧ i < hi then some (f i) else A.slots[i]?
theorem Laid.zero (A : Cell) (lo : Nat) (f : Nat → Value) : Laid A A lo (lo + 0) f := ⟨rfl, rfl, rfl, fun i => by rw [if_neg (by omega)]⟩
theorem Laid.step {A Ak : Cell} {lo k : Nat} {f : Nat → Value} {v : Value} (h : Laid A Ak lo k f) (hlo : lo ≤ k) (hk : k < Ak.slots.size) (hv : v = f k) : Laid A (Ak.setSlot k v) lo (k + 1) f := by
  refine ⟨h.1, h.2.1, by simpa [Cell.setSlot] using h.2.2.1, fun i => ?_⟩
  by_cases e : k = i
  · subst e; rw [Cell.slots_setSlot_self v hk, if_pos (by omega), hv]
  · rw [Cell.slots_setSlot_ne v e, h.2.2.2 i]
    by_cases q : lo ≤ i ∧ i < k
    · rw [if_pos q, if_pos (by omega)]
    · rw [if_neg q, if_neg (by omega)]
def U16 : String := "java/lang/StringUTF16"
namespace Cmp5
def yN : MethodName := ⟨"java/lang/StringUTF16", "compress", "([CI[BII)I"⟩
abbrev yB : ByteArray := jdk_52_method_21_code
theorem d0 : decode yB 0 = .ok (.iconst 0, 1) := by decide +kernel
theorem d1 : decode yB 1 = .ok (.istore 5, 2) := by decide +kernel
theorem d3 : decode yB 3 = .ok (.iload 5, 2) := by decide +kernel
theorem d5 : decode yB 5 = .ok (.iload 4, 2) := by decide +kernel
theorem d7 : decode yB 7 = .ok (.if_icmp (.ge) 37, 3) := by decide +kernel
theorem d10 : decode yB 10 = .ok (.aload_n 0, 1) := by decide +kernel
theorem d11 : decode yB 11 = .ok (.iload_n 1, 1) := by decide +kernel
theorem d12 : decode yB 12 = .ok (.caload, 1) := by decide +kernel
theorem d13 : decode yB 13 = .ok (.istore 6, 2) := by decide +kernel
theorem d15 : decode yB 15 = .ok (.iload 6, 2) := by decide +kernel
theorem d17 : decode yB 17 = .ok (.sipush 255, 3) := by decide +kernel
theorem d20 : decode yB 20 = .ok (.if_icmp (.le) 6, 3) := by decide +kernel
theorem d26 : decode yB 26 = .ok (.aload_n 2, 1) := by decide +kernel
theorem d27 : decode yB 27 = .ok (.iload_n 3, 1) := by decide +kernel
theorem d28 : decode yB 28 = .ok (.iload 6, 2) := by decide +kernel
theorem d30 : decode yB 30 = .ok (.i2b, 1) := by decide +kernel
theorem d31 : decode yB 31 = .ok (.bastore, 1) := by decide +kernel
theorem d32 : decode yB 32 = .ok (.iinc 1 1, 3) := by decide +kernel
theorem d35 : decode yB 35 = .ok (.iinc 3 1, 3) := by decide +kernel
theorem d38 : decode yB 38 = .ok (.iinc 5 1, 3) := by decide +kernel
theorem d41 : decode yB 41 = .ok (.goto (-38), 3) := by decide +kernel
theorem d44 : decode yB 44 = .ok (.iload 4, 2) := by decide +kernel
theorem d46 : decode yB 46 = .ok (.ireturn, 1) := by decide +kernel
def site : List Cond := []
def tab : Cond := tabOf yN yB 7 (some .int) site
def P (b : Addr) (A : Cell) (d : Addr) (B : Cell) (o q len : Nat) (args : Array Value) (s : State) : Prop := args = #[.ref b, .int (Int32.ofNat o), .ref d, .int (Int32.ofNat q), .int (Int32.ofNat len)] ∧ Ch b A s ∧ Arr .byte d B s ∧ b ≠ d ∧ o + len ≤ A.slots.size ∧ q + len ≤ B.slots.size ∧ ∀ i, i < len → ¬ 255 < cv A (o + i)
def E (b : Addr) (A : Cell) (d : Addr) (B : Cell) (o q len : Nat) (r : Option Value) (s u : State) : Prop := r = some (.int (Int32.ofNat len)) ∧ ∃ B', Put d B' s u ∧ Laid B B' q (q + len) (fun j => Value.int (lo8 (cv A (o + (j - q)))))
/-- no char of the range above 255: len; the places written hold each char's low byte -/
theorem law (l : Launch) (b : Addr) (A : Cell) (d : Addr) (B : Cell) (o q len : Nat) : Law l yN 5 5 0 0 yB 7 (some .int) site (P b A d B o q len) (E b A d B o q len) (copyLocs d q len) 0 0 := by
  refine Law.of_walk (plainFor_of_name (by decide +kernel)) (by decide +kernel) (by decide +kernel) (by decide) (fun _ _ h => by rw [h.1]; rfl) (fun _ U U' hal hh h => ⟨h.1, h.2.1.mv hal hh, h.2.2.1.mv hal hh, h.2.2.2⟩) (fun r U U' V V' h1 hal h2 h => ⟨h.1, h.2.elim fun B' q => ⟨B', q.1.mv h1 h2, q.2⟩⟩) ?_
  intro p e s m args below meth c s₁ X0 hexec hbytes hml hret hlk hnm hown hh0 W hP
  obtain ⟨rfl, hA, hB, hne, l1, l2, hp⟩ := hP
  have c1 : Steps p.tables e below (s₁.setTop (entryFrame m #[.ref b, .int (Int32.ofNat o), .ref d, .int (Int32.ofNat q), .int (Int32.ofNat len)] 7)) (s₁.setTop (mkF m 0 #[.val (.ref b), .val (.int (Int32.ofNat o)), .val (.ref d), .val (.int (Int32.ofNat q)), .val (.int (Int32.ofNat len)), .unset, .unset] [])) := entry rfl
  have hA0 := hA.1.mv X0.warmed.alike hh0
  have hB0 := hB.mv X0.warmed.alike hh0
  have a31 := hA.1.2.2.2
  have c2 : Steps p.tables e below (s₁.setTop (entryFrame m #[.ref b, .int (Int32.ofNat o), .ref d, .int (Int32.ofNat q), .int (Int32.ofNat len)] 7)) (s₁.setTop (mkF m 3 #[.val (.ref b), .val (.int (Int32.ofNat o)), .val (.ref d), .val (.int (Int32.ofNat q)), .val (.int (Int32.ofNat len)), .val (.int 0), .unset] [])) := c1.trans (by
    refine iconstV X0.here hexec rfl 0 (hb hbytes d0) (by decide) ?_
    refine XS.istore X0.here hexec rfl (hb hbytes d1) rfl rfl ?_
    exact Steps.refl _)
  have loop : ∀ (r i : Nat), i + r = len → ∀ (z : Slot), (z = .unset ∨ ∃ w, z = .val w ∧ w.category = 1) → ∀ (Tl : State) (Bk : Cell), Stand p l e { frames := 0, locals := 0, cells := 0, slots := 0 } s m #[.ref b, .int (Int32.ofNat o), .ref d, .int (Int32.ofNat q), .int (Int32.ofNat len)] below meth c Tl ([] ++ copyLocs d q i) 0 0 → Put d Bk s₁ Tl → Laid B Bk q (q + i) (fun j => Value.int (lo8 (cv A (o + (j - q))))) →
      Steps p.tables e below (s₁.setTop (entryFrame m #[.ref b, .int (Int32.ofNat o), .ref d, .int (Int32.ofNat q), .int (Int32.ofNat len)] 7)) (Tl.setTop (mkF m 3 #[.val (.ref b), .val (.int (Int32.ofNat (o + i))), .val (.ref d), .val (.int (Int32.ofNat (q + i))), .val (.int (Int32.ofNat len)), .val (.int (Int32.ofNat i)), z] [])) → ∃ (T' : State) (B' : Cell) (z' : Slot), Stand p l e { frames := 0, locals := 0, cells := 0, slots := 0 } s m #[.ref b, .int (Int32.ofNat o), .ref d, .int (Int32.ofNat q), .int (Int32.ofNat len)] below meth c T' ([] ++ copyLocs d q len) 0 0 ∧ Put d B' s₁ T' ∧ Laid B B' q (q + len) (fun j => Value.int (lo8 (cv A (o + (j - q))))) ∧
      Steps p.tables e below (s₁.setTop (entryFrame m #[.ref b, .int (Int32.ofNat o), .ref d, .int (Int32.ofNat q), .int (Int32.ofNat len)] 7)) (T'.setTop (mkF m 3 #[.val (.ref b), .val (.int (Int32.ofNat (o + len))), .val (.ref d), .val (.int (Int32.ofNat (q + len))), .val (.int (Int32.ofNat len)), .val (.int (Int32.ofNat len)), z'] [])) := by
    intro r
    induction r with
    | zero =>
      intro i hi z hz Tl Bk Xl pl fl cl
      have hil : i = len := by omega
      rw [hil] at Xl fl cl
      exact ⟨Tl, Bk, z, Xl, pl, fl, cl⟩
    | succ r ih =>
      intro i hi z hz Tl Bk Xl pl fl cl
      have all := X0.warmed.alike.symm.trans Xl.warmed.alike
      have hAl := hA0.keep all (pl.other hne hA0.1)
      have hBk := hB0.like all pl.1 fl.1 fl.2.1 fl.2.2.1
      have hlt : q + i < Bk.slots.size := by rw [fl.2.2.1]; omega
      have c3 : Steps p.tables e below (s₁.setTop (entryFrame m #[.ref b, .int (Int32.ofNat o), .ref d, .int (Int32.ofNat q), .int (Int32.ofNat len)] 7)) (Tl.setTop (mkF m 12 #[.val (.ref b), .val (.int (Int32.ofNat (o + i))), .val (.ref d), .val (.int (Int32.ofNat (q + i))), .val (.int (Int32.ofNat len)), .val (.int (Int32.ofNat i)), z] [.int (Int32.ofNat (o + i)), .ref b])) := cl.trans (by
        refine XS.iload Xl.here hexec rfl (hb hbytes d3) rfl ?_
        refine XS.iload Xl.here hexec rfl (hb hbytes d5) rfl ?_
        refine XS.icmpNo Xl.here hexec rfl (hb hbytes d7) rfl (ii_ge_f (lt32 (by omega) (by omega))) ?_
        refine XS.aloadN Xl.here hexec rfl (hb hbytes d10) rfl rfl ?_
        refine XS.iloadN Xl.here hexec rfl (hb hbytes d11) rfl ?_
        exact Steps.refl _)
      have c4 : Steps p.tables e below (s₁.setTop (entryFrame m #[.ref b, .int (Int32.ofNat o), .ref d, .int (Int32.ofNat q), .int (Int32.ofNat len)] 7)) (Tl.setTop (mkF m 13 #[.val (.ref b), .val (.int (Int32.ofNat (o + i))), .val (.ref d), .val (.int (Int32.ofNat (q + i))), .val (.int (Int32.ofNat len)), .val (.int (Int32.ofNat i)), z] [.int (cv A (o + i))])) := c3.trans (by
        refine Xl.aget hexec hAl rfl (hA.get (i := o + i) (by omega)) rfl rfl (hb hbytes d12) ?_
        exact Steps.refl _)
      have c5 : Steps p.tables e below (s₁.setTop (entryFrame m #[.ref b, .int (Int32.ofNat o), .ref d, .int (Int32.ofNat q), .int (Int32.ofNat len)] 7)) (Tl.setTop (mkF m 15 #[.val (.ref b), .val (.int (Int32.ofNat (o + i))), .val (.ref d), .val (.int (Int32.ofNat (q + i))), .val (.int (Int32.ofNat len)), .val (.int (Int32.ofNat i)), .val (.int (cv A (o + i)))] [])) := c4.trans (by
        refine XS.istoreS Xl.here hexec rfl (hb hbytes d13) rfl rfl hz ?_
        exact Steps.refl _)
      have c6 : Steps p.tables e below (s₁.setTop (entryFrame m #[.ref b, .int (Int32.ofNat o), .ref d, .int (Int32.ofNat q), .int (Int32.ofNat len)] 7)) (Tl.setTop (mkF m 31 #[.val (.ref b), .val (.int (Int32.ofNat (o + i))), .val (.ref d), .val (.int (Int32.ofNat (q + i))), .val (.int (Int32.ofNat len)), .val (.int (Int32.ofNat i)), .val (.int (cv A (o + i)))] [.int (lo8 (cv A (o + i))), .int (Int32.ofNat (q + i)), .ref d])) := c5.trans (by
        refine XS.iload Xl.here hexec rfl (hb hbytes d15) rfl ?_
        refine sipushV Xl.here hexec rfl 255 (hb hbytes d17) (by decide) ?_
        refine XS.icmpYes Xl.here hexec rfl (pc0 := 20) rfl (hb hbytes d20) rfl (ii_le_t (hp i (by omega))) (by decide) rfl ?_
        refine XS.aloadN Xl.here hexec rfl (hb hbytes d26) rfl rfl ?_
        refine XS.iloadN Xl.here hexec rfl (hb hbytes d27) rfl ?_
        refine XS.iload Xl.here hexec rfl (hb hbytes d28) rfl ?_
        refine i2b Xl.here hexec rfl (hb hbytes d30) rfl ?_
        exact Steps.refl _)
      obtain ⟨T7, X7, p7, st7⟩ := Xl.aput hexec hBk rfl hlt rfl (fits_lo8 (cv A (o + i))) (g := (mkF m 31 #[.val (.ref b), .val (.int (Int32.ofNat (o + i))), .val (.ref d), .val (.int (Int32.ofNat (q + i))), .val (.int (Int32.ofNat len)), .val (.int (Int32.ofNat i)), .val (.int (cv A (o + i)))] [.int (lo8 (cv A (o + i))), .int (Int32.ofNat (q + i)), .ref d])) rfl (rest := []) rfl (hb hbytes d31)
      have c8 : Steps p.tables e below (s₁.setTop (entryFrame m #[.ref b, .int (Int32.ofNat o), .ref d, .int (Int32.ofNat q), .int (Int32.ofNat len)] 7)) (T7.setTop (mkF m 32 #[.val (.ref b), .val (.int (Int32.ofNat (o + i))), .val (.ref d), .val (.int (Int32.ofNat (q + i))), .val (.int (Int32.ofNat len)), .val (.int (Int32.ofNat i)), .val (.int (cv A (o + i)))] [])) := c6.trans (st7 _ (Steps.refl _))
      have c9 : Steps p.tables e below (s₁.setTop (entryFrame m #[.ref b, .int (Int32.ofNat o), .ref d, .int (Int32.ofNat q), .int (Int32.ofNat len)] 7)) (T7.setTop (mkF m 3 #[.val (.ref b), .val (.int (Int32.ofNat (o + i) + 1)), .val (.ref d), .val (.int (Int32.ofNat (q + i) + 1)), .val (.int (Int32.ofNat len)), .val (.int (Int32.ofNat i + 1)), .val (.int (cv A (o + i)))] [])) := c8.trans (by
        refine iincV X7.here hexec rfl 1 (hb hbytes d32) (by decide) rfl rfl ?_
        refine iincV X7.here hexec rfl 1 (hb hbytes d35) (by decide) rfl rfl ?_
        refine iincV X7.here hexec rfl 1 (hb hbytes d38) (by decide) rfl rfl ?_
        refine XS.goto X7.here hexec rfl (pc0 := 41) rfl (hb hbytes d41) (by decide) rfl ?_
        exact Steps.refl _)
      have c10 : Steps p.tables e below (s₁.setTop (entryFrame m #[.ref b, .int (Int32.ofNat o), .ref d, .int (Int32.ofNat q), .int (Int32.ofNat len)] 7)) (T7.setTop (mkF m 3 #[.val (.ref b), .val (.int (Int32.ofNat (o + (i + 1)))), .val (.ref d), .val (.int (Int32.ofNat (q + (i + 1)))), .val (.int (Int32.ofNat len)), .val (.int (Int32.ofNat (i + 1))), .val (.int (cv A (o + i)))] [])) := by
        have := c9
        rw [succ32, succ32, succ32] at this
        exact this
      exact ih (i + 1) (by omega) _ (Or.inr ⟨_, rfl, rfl⟩) T7 _ (by rw [copyLocs_step, ← List.append_assoc]; exact X7) (pl.trans p7) (fl.step (by omega) hlt (by simp)) c10
  obtain ⟨T9, B9, z9, X9, p9, f9, g9⟩ := loop len 0 (by omega) .unset (Or.inl rfl) s₁ B (by simpa [copyLocs] using X0) ⟨hB0.1, fun _ _ => rfl, rfl⟩ (Laid.zero _ _ _) c2
  have c11 : Steps p.tables e below (s₁.setTop (entryFrame m #[.ref b, .int (Int32.ofNat o), .ref d, .int (Int32.ofNat q), .int (Int32.ofNat len)] 7)) (T9.setTop (mkF m 46 #[.val (.ref b), .val (.int (Int32.ofNat (o + len))), .val (.ref d), .val (.int (Int32.ofNat (q + len))), .val (.int (Int32.ofNat len)), .val (.int (Int32.ofNat len)), z9] [.int (Int32.ofNat len)])) := g9.trans (by
    refine XS.iload X9.here hexec rfl (hb hbytes d3) rfl ?_
    refine XS.iload X9.here hexec rfl (hb hbytes d5) rfl ?_
    refine XS.icmpYes X9.here hexec rfl (pc0 := 7) rfl (hb hbytes d7) rfl (ii_ge_t (nlt32 (by omega) (Nat.le_refl _))) (by decide) rfl ?_
    refine XS.iload X9.here hexec rfl (hb hbytes d44) rfl ?_
    exact Steps.refl _)
  exact ⟨T9, some (.int (Int32.ofNat len)), _, _, _, X9, by simp, rfl, rfl, (fun h => by cases h), ⟨rfl, B9, p9.from hh0, f9⟩, fun fs hl => c11.trans (X9.ireturnOut hexec hret rfl (Or.inl rfl) (hb hbytes d46) hl)⟩
end Cmp5
namespace Cmp3
def yN : MethodName := ⟨"java/lang/StringUTF16", "compress", "([CII)[B"⟩
abbrev yB : ByteArray := jdk_52_method_16_code
theorem d0 : decode yB 0 = .ok (.iload_n 2, 1) := by decide +kernel
theorem d1 : decode yB 1 = .ok (.newarray .byte, 2) := by decide +kernel
theorem d3 : decode yB 3 = .ok (.astore_n 3, 1) := by decide +kernel
theorem d4 : decode yB 4 = .ok (.aload_n 0, 1) := by decide +kernel
theorem d5 : decode yB 5 = .ok (.iload_n 1, 1) := by decide +kernel
theorem d6 : decode yB 6 = .ok (.aload_n 3, 1) := by decide +kernel
theorem d7 : decode yB 7 = .ok (.iconst 0, 1) := by decide +kernel
theorem d8 : decode yB 8 = .ok (.iload_n 2, 1) := by decide +kernel
theorem d9 : decode yB 9 = .ok (.invokestatic 115, 3) := by decide +kernel
theorem d12 : decode yB 12 = .ok (.istore 4, 2) := by decide +kernel
theorem d14 : decode yB 14 = .ok (.iload 4, 2) := by decide +kernel
theorem d16 : decode yB 16 = .ok (.iload_n 2, 1) := by decide +kernel
theorem d17 : decode yB 17 = .ok (.if_icmp (.eq) 40, 3) := by decide +kernel
theorem d57 : decode yB 57 = .ok (.aload_n 3, 1) := by decide +kernel
theorem d58 : decode yB 58 = .ok (.areturn, 1) := by decide +kernel
def site : List Cond := [.arrayClass .byte, Cmp5.tab] ++ staticW U16 115 Cmp5.yN
def tab : Cond := tabOf yN yB 6 (some (.array .byte)) site
def P (b : Addr) (A : Cell) (o len : Nat) (args : Array Value) (s : State) : Prop := args = #[.ref b, .int (Int32.ofNat o), .int (Int32.ofNat len)] ∧ Ch b A s ∧ o + len ≤ A.slots.size ∧ len ≤ 536870912 ∧ ∀ i, i < len → ¬ 255 < cv A (o + i)
def E (b : Addr) (A : Cell) (o len : Nat) (r : Option Value) (s u : State) : Prop := NewArr .byte "[B" len (fun j => .int (lo8 (cv A (o + j)))) r s u ∧ u.heap.size = s.heap.size + 1
/-- no char of the range above 255: a new byte[] of their low bytes -/
theorem law (l : Launch) (b : Addr) (A : Cell) (o len : Nat) : Law l yN 3 3 1 18 yB 6 (some (.array .byte)) site (P b A o len) (E b A o len) [] 1 len := by
  refine Law.of_walk (plainFor_of_name (by decide +kernel)) (by decide +kernel) (by decide +kernel) (by decide) (fun _ _ h => by rw [h.1]; rfl) (fun _ U U' hal hh h => ⟨h.1, h.2.1.mv hal hh, h.2.2⟩) (fun r U U' V V' h1 hal h2 h => ⟨NewArr.mv r U U' V V' h1 hal h2 h.1, by rw [h1, h2]; exact h.2⟩) ?_
  intro p e s m args below meth c s₁ X0 hexec hbytes hml hret hlk hnm hown hh0 W hP
  obtain ⟨rfl, hA, l1, l2, hp⟩ := hP
  have a31 := hA.1.2.2.2
  have c1 : Steps p.tables e below (s₁.setTop (entryFrame m #[.ref b, .int (Int32.ofNat o), .int (Int32.ofNat len)] 6)) (s₁.setTop (mkF m 0 #[.val (.ref b), .val (.int (Int32.ofNat o)), .val (.int (Int32.ofNat len)), .unset, .unset, .unset] [])) := entry rfl
  have c2 : Steps p.tables e below (s₁.setTop (entryFrame m #[.ref b, .int (Int32.ofNat o), .int (Int32.ofNat len)] 6)) (s₁.setTop (mkF m 1 #[.val (.ref b), .val (.int (Int32.ofNat o)), .val (.int (Int32.ofNat len)), .unset, .unset, .unset] [.int (Int32.ofNat len)])) := c1.trans (by
    refine XS.iloadN X0.here hexec rfl (hb hbytes d0) rfl ?_
    exact Steps.refl _)
  obtain ⟨T3, B3, X3, ba3, bs3, bv3, bh3, bf3, st3⟩ := X0.anew hexec (atype := .byte) (wk W (.arrayClass .byte)) rfl (by show len * 1 ≤ _; omega) (by omega) (g := (mkF m 1 #[.val (.ref b), .val (.int (Int32.ofNat o)), .val (.int (Int32.ofNat len)), .unset, .unset, .unset] [.int (Int32.ofNat len)])) rfl (hb hbytes d1) (rest := []) rfl (Nat.le_refl _) (by show 0 + len ≤ len; omega)
  rw [hh0] at ba3 st3
  have kp3 : XT.Kept s T3 := (XT.Kept.of_eq hh0).push bh3
  have hA3 := hA.keep X3.warmed.alike (kp3 _ _ hA.1.1)
  have hne : b ≠ s.heap.size := hA.1.ne
  have c4 : Steps p.tables e below (s₁.setTop (entryFrame m #[.ref b, .int (Int32.ofNat o), .int (Int32.ofNat len)] 6)) (T3.setTop (mkF m 3 #[.val (.ref b), .val (.int (Int32.ofNat o)), .val (.int (Int32.ofNat len)), .unset, .unset, .unset] [.ref s.heap.size])) := c2.trans (st3 _ (Steps.refl _))
  have c5 : Steps p.tables e below (s₁.setTop (entryFrame m #[.ref b, .int (Int32.ofNat o), .int (Int32.ofNat len)] 6)) (T3.setTop (mkF m 9 #[.val (.ref b), .val (.int (Int32.ofNat o)), .val (.int (Int32.ofNat len)), .val (.ref s.heap.size), .unset, .unset] [.int (Int32.ofNat len), .int 0, .ref s.heap.size, .int (Int32.ofNat o), .ref b])) := c4.trans (by
    refine XS.astoreN X3.here hexec rfl (hb hbytes d3) rfl rfl rfl ?_
    refine XS.aloadN X3.here hexec rfl (hb hbytes d4) rfl rfl ?_
    refine XS.iloadN X3.here hexec rfl (hb hbytes d5) rfl ?_
    refine XS.aloadN X3.here hexec rfl (hb hbytes d6) rfl rfl ?_
    refine iconstV X3.here hexec rfl 0 (hb hbytes d7) (by decide) ?_
    refine XS.iloadN X3.here hexec rfl (hb hbytes d8) rfl ?_
    exact Steps.refl _)
  obtain ⟨v6, T6, X6, E6, g6⟩ := X3.callS hexec (Cmp5.law l b A s.heap.size B3 o 0 len) hown (wks W (staticW U16 115 Cmp5.yN)) (wk W Cmp5.tab) (W := 0) (Nat.le_of_ble_eq_true rfl) (Nat.le_of_ble_eq_true rfl) (Nat.le_refl _) (by show 0 + len + 0 ≤ len; omega) (g := (mkF m 9 #[.val (.ref b), .val (.int (Int32.ofNat o)), .val (.int (Int32.ofNat len)), .val (.ref s.heap.size), .unset, .unset] [.int (Int32.ofNat len), .int (Int32.ofNat 0), .ref s.heap.size, .int (Int32.ofNat o), .ref b])) rfl (by rw [hml]; rfl) c5 (argsL := [.ref b, .int (Int32.ofNat o), .ref s.heap.size, .int (Int32.ofNat 0), .int (Int32.ofNat len)]) (rest := []) rfl rfl (by show 2 * 0 + 0 ≤ _; decide) (hb hbytes d9) (⟨rfl, hA3, ba3, hne, l1, by rw [bs3]; simp, hp⟩)
  obtain ⟨rfl, B6, p6, f6⟩ := E6
  have c7 : Steps p.tables e below (s₁.setTop (entryFrame m #[.ref b, .int (Int32.ofNat o), .int (Int32.ofNat len)] 6)) (T6.setTop (mkF m 12 #[.val (.ref b), .val (.int (Int32.ofNat o)), .val (.int (Int32.ofNat len)), .val (.ref s.heap.size), .unset, .unset] [.int (Int32.ofNat len)])) := g6
  have c8 : Steps p.tables e below (s₁.setTop (entryFrame m #[.ref b, .int (Int32.ofNat o), .int (Int32.ofNat len)] 6)) (T6.setTop (mkF m 58 #[.val (.ref b), .val (.int (Int32.ofNat o)), .val (.int (Int32.ofNat len)), .val (.ref s.heap.size), .val (.int (Int32.ofNat len)), .unset] [.ref s.heap.size])) := c7.trans (by
    refine XS.istore X6.here hexec rfl (hb hbytes d12) rfl rfl ?_
    refine XS.iload X6.here hexec rfl (hb hbytes d14) rfl ?_
    refine XS.iloadN X6.here hexec rfl (hb hbytes d16) rfl ?_
    refine XS.icmpYes X6.here hexec rfl (pc0 := 17) rfl (hb hbytes d17) rfl (ii_eq_t rfl) (by decide) rfl ?_
    refine XS.aloadN X6.here hexec rfl (hb hbytes d57) rfl rfl ?_
    exact Steps.refl _)
  have X8 := X6.wide (L' := []) (cells' := 1) (slots' := len) (fun x hx hlt => by
    simp only [List.nil_append, copyLocs, List.mem_map, List.mem_range] at hx
    obtain ⟨i, -, rfl⟩ := hx
    exact absurd hlt (Nat.lt_irrefl _)) (Nat.le_refl _) (by omega)
  exact ⟨T6, some (.ref s.heap.size), _, _, _, X8, rfl, rfl, rfl, (fun h => by cases h), ⟨⟨rfl, B6, ba3.like (X3.warmed.alike.symm.trans X6.warmed.alike) p6.1 f6.1 f6.2.1 f6.2.2.1, f6.2.1.trans bv3, by rw [X6.warmed.alike.findClass, f6.1]; exact bf3, by rw [f6.2.2.1, bs3]; simp, fun j hj => by rw [f6.2.2.2 j, if_pos (by omega)]; rfl, kp3.put p6 (Nat.le_refl _)⟩, by rw [p6.2.2, bh3, hh0]; simp⟩, fun fs hl => c8.trans (X8.areturnOut hexec rfl hret rfl (hb hbytes d58) hl)⟩
end Cmp3
namespace CodL
def yN : MethodName := ⟨"java/lang/StringUTF16", "coderFromArrayLen", "([BI)B"⟩
abbrev yB : ByteArray := jdk_52_method_15_code
theorem d0 : decode yB 0 = .ok (.iload_n 1, 1) := by decide +kernel
theorem d1 : decode yB 1 = .ok (.aload_n 0, 1) := by decide +kernel
theorem d2 : decode yB 2 = .ok (.arraylength, 1) := by decide +kernel
theorem d3 : decode yB 3 = .ok (.isub, 1) := by decide +kernel
theorem d4 : decode yB 4 = .ok (.bipush 31, 2) := by decide +kernel
theorem d6 : decode yB 6 = .ok (.iushr, 1) := by decide +kernel
theorem d7 : decode yB 7 = .ok (.i2b, 1) := by decide +kernel
theorem d8 : decode yB 8 = .ok (.ireturn, 1) := by decide +kernel
def site : List Cond := []
def tab : Cond := tabOf yN yB 2 (some .byte) site
def P (d : Addr) (B : Cell) (args : Array Value) (s : State) : Prop := args = #[.ref d, .int (Int32.ofNat B.slots.size)] ∧ Arr .byte d B s
def E (r : Option Value) (s u : State) : Prop := XT.PureE (some (.int 0)) r s u
/-- an array as long as the number of chars: LATIN1 -/
theorem law (l : Launch) (d : Addr) (B : Cell) : Law l yN 2 2 0 0 yB 2 (some .byte) site (P d B) E [] 0 0 := by
  refine Law.of_walk (plainFor_of_name (by decide +kernel)) (by decide +kernel) (by decide +kernel) (by decide) (fun _ _ h => by rw [h.1]; rfl) (fun _ U U' hal hh h => ⟨h.1, h.2.mv hal hh⟩) (fun r U U' V V' h1 hal h2 h => XT.PureE.mv r U U' V V' h1 hal h2 h) ?_
  intro p e s m args below meth c s₁ X0 hexec hbytes hml hret hlk hnm hown hh0 W hP
  obtain ⟨rfl, hB⟩ := hP
  have hB0 := hB.mv X0.warmed.alike hh0
  have c1 : Steps p.tables e below (s₁.setTop (entryFrame m #[.ref d, .int (Int32.ofNat B.slots.size)] 2)) (s₁.setTop (mkF m 0 #[.val (.ref d), .val (.int (Int32.ofNat B.slots.size))] [])) := entry rfl
  have c2 : Steps p.tables e below (s₁.setTop (entryFrame m #[.ref d, .int (Int32.ofNat B.slots.size)] 2)) (s₁.setTop (mkF m 2 #[.val (.ref d), .val (.int (Int32.ofNat B.slots.size))] [.ref d, .int (Int32.ofNat B.slots.size)])) := c1.trans (by
    refine XS.iloadN X0.here hexec rfl (hb hbytes d0) rfl ?_
    refine XS.aloadN X0.here hexec rfl (hb hbytes d1) rfl rfl ?_
    exact Steps.refl _)
  have c3 : Steps p.tables e below (s₁.setTop (entryFrame m #[.ref d, .int (Int32.ofNat B.slots.size)] 2)) (s₁.setTop (mkF m 8 #[.val (.ref d), .val (.int (Int32.ofNat B.slots.size))] [.int (lo8 (ushr (Int32.ofNat B.slots.size - Int32.ofNat B.slots.size) 31))])) := c2.trans (by
    refine X0.alen hexec hB0 rfl rfl (hb hbytes d2) ?_
    refine XS.isub X0.here hexec rfl (hb hbytes d3) rfl ?_
    refine bipushV X0.here hexec rfl 31 (hb hbytes d4) (by decide) ?_
    refine iushr X0.here hexec rfl (hb hbytes d6) rfl ?_
    refine i2b X0.here hexec rfl (hb hbytes d7) rfl ?_
    exact Steps.refl _)
  have e0 : lo8 (ushr (Int32.ofNat B.slots.size - Int32.ofNat B.slots.size) 31) = 0 := by rw [Int32.sub_self]; decide
  rw [e0] at c3
  exact ⟨s₁, some (.int 0), _, _, _, X0, rfl, rfl, rfl, (fun h => by cases h), ⟨rfl, hh0⟩, fun fs hl => c3.trans (X0.ireturnOut hexec hret rfl (Or.inr (Or.inr (Or.inl rfl))) (hb hbytes d8) hl)⟩
end CodL
/-- the String at a is Latin-1 over a new byte[] (the heap's one new cell): the low bytes of the len chars of A from o on; every cell but a is kept -/
def Got (a : Addr) (D : Cell) (fV fC : Field) (A : Cell) (o len : Nat) (r : Option Value) (s u : State) : Prop := r = none ∧ ∃ D' V : Cell, Blank "java/lang/String" a D' u ∧ Same D D' [fV.slot, fC.slot] ∧ D'.slots[fV.slot]? = some (.ref s.heap.size) ∧ D'.slots[fC.slot]? = some (.int 0) ∧ Arr .byte s.heap.size V u ∧ V.vm = .none ∧ u.vm.findClass "[B" = some V.cls ∧ V.slots.size = len ∧ (∀ j, j < len → V.slots[j]? = some (.int (lo8 (cv A (o + j))))) ∧ (∀ (y : Addr) (c : Cell), y ≠ a → s.heap[y]? = some c → u.heap[y]? = some c) ∧ u.heap.size = s.heap.size + 1
theorem Got.mv {a : Addr} {D A : Cell} {fV fC : Field} {o len : Nat} : ∀ r (U U' V V' : State), U'.heap = U.heap → V.vm.Alike V'.vm → V'.heap = V.heap → Got a D fV fC A o len r U V → Got a D fV fC A o len r U' V' :=
  fun r U U' V V' h1 hal h2 ⟨e0, D', X, a1, a2, a3, a4, a5, a6, a7, a8, a9, a10, a11⟩ => ⟨e0, D', X, a1.mv hal h2, a2, by rw [h1]; exact a3, a4, by rw [h1]; exact a5.mv hal h2, a6, by rw [hal.findClass]; exact a7, a8, a9, by rw [h1, h2]; exact a10, by rw [h1, h2]; exact a11⟩
namespace New4
def yN : MethodName := ⟨"java/lang/String", "<init>", "([CIILjava/lang/Void;)V"⟩
abbrev yB : ByteArray := jdk_42_method_149_code
theorem d0 : decode yB 0 = .ok (.aload_n 0, 1) := by decide +kernel
theorem d1 : decode yB 1 = .ok (.invokespecial 1, 3) := by decide +kernel
theorem d4 : decode yB 4 = .ok (.iload_n 3, 1) := by decide +kernel
theorem d5 : decode yB 5 = .ok (.ifCond (.ne) 22, 3) := by decide +kernel
theorem d27 : decode yB 27 = .ok (.getstatic 38, 3) := by decide +kernel
theorem d30 : decode yB 30 = .ok (.ifCond (.eq) 28, 3) := by decide +kernel
theorem d33 : decode yB 33 = .ok (.aload_n 1, 1) := by decide +kernel
theorem d34 : decode yB 34 = .ok (.iload_n 2, 1) := by decide +kernel
theorem d35 : decode yB 35 = .ok (.iload_n 3, 1) := by decide +kernel
theorem d36 : decode yB 36 = .ok (.invokestatic 177, 3) := by decide +kernel
theorem d39 : decode yB 39 = .ok (.astore 5, 2) := by decide +kernel
theorem d41 : decode yB 41 = .ok (.aload_n 0, 1) := by decide +kernel
theorem d42 : decode yB 42 = .ok (.aload 5, 2) := by decide +kernel
theorem d44 : decode yB 44 = .ok (.iload_n 3, 1) := by decide +kernel
theorem d45 : decode yB 45 = .ok (.invokestatic 47, 3) := by decide +kernel
theorem d48 : decode yB 48 = .ok (.putfield 15, 3) := by decide +kernel
theorem d51 : decode yB 51 = .ok (.aload_n 0, 1) := by decide +kernel
theorem d52 : decode yB 52 = .ok (.aload 5, 2) := by decide +kernel
theorem d54 : decode yB 54 = .ok (.putfield 9, 3) := by decide +kernel
theorem d57 : decode yB 57 = .ok (.return_, 1) := by decide +kernel
def site : List Cond := [.fieldLink "java/lang/String" 38 "java/lang/String" "COMPACT_STRINGS" "Z", Cmp3.tab, CodL.tab, .laysFinal "java/lang/String" "java/lang/String" "value" "[B", .fieldLink "java/lang/String" 9 "java/lang/String" "value" "[B", .laysFinal "java/lang/String" "java/lang/String" "coder" "B", .fieldLink "java/lang/String" 15 "java/lang/String" "coder" "B"] ++ objW "java/lang/String" 1 ++ staticW "java/lang/String" 177 Cmp3.yN ++ staticW "java/lang/String" 47 CodL.yN
def tab : Cond := tabOf yN yB 6 none site
def P (a : Addr) (D : Cell) (fV fC : Field) (b : Addr) (A : Cell) (z : Int32) (o len : Nat) (args : Array Value) (s : State) : Prop := args = #[.ref a, .ref b, .int (Int32.ofNat o), .int (Int32.ofNat len), .null] ∧ Blank "java/lang/String" a D s ∧ Found "java/lang/String" "value" "[B" fV s ∧ Found "java/lang/String" "coder" "B" fC s ∧ Ch b A s ∧ StaticIs s "java/lang/String" "COMPACT_STRINGS" "Z" (.int z) ∧ ¬ z = 0 ∧ 0 < len ∧ o + len ≤ A.slots.size ∧ len ≤ 536870912 ∧ ∀ i, i < len → ¬ 255 < cv A (o + i)
def E (a : Addr) (D : Cell) (fV fC : Field) (A : Cell) (o len : Nat) (r : Option Value) (s u : State) : Prop := Got a D fV fC A o len r s u
/-- len > 0, no char of the range above 255: a Latin-1 String of their low bytes -/
theorem law (l : Launch) (a : Addr) (D : Cell) (fV fC : Field) (b : Addr) (A : Cell) (z : Int32) (o len : Nat) : Law l yN 5 4 2 35 yB 6 none site (P a D fV fC b A z o len) (E a D fV fC A o len) [⟨a, fC.slot⟩, ⟨a, fV.slot⟩] 1 len := by
  refine Law.of_walk (plainFor_of_name (by decide +kernel)) (by decide +kernel) (by decide +kernel) (by decide) (fun _ _ h => by rw [h.1]; rfl) (fun _ U U' hal hh h => ⟨h.1, h.2.1.mv hal hh, h.2.2.1.al hal, h.2.2.2.1.al hal, h.2.2.2.2.1.mv hal hh, h.2.2.2.2.2.1.there hal hh, h.2.2.2.2.2.2⟩) (fun r U U' V V' h1 hal h2 h => Got.mv r U U' V V' h1 hal h2 h) ?_
  intro p e s m args below meth c s₁ X0 hexec hbytes hml hret hlk hnm hown hh0 W hP
  obtain ⟨rfl, hB, f1, f2, hA, s1, hz, l0, l1, l2, hp⟩ := hP
  have a31 := hA.1.2.2.2
  have c1 : Steps p.tables e below (s₁.setTop (entryFrame m #[.ref a, .ref b, .int (Int32.ofNat o), .int (Int32.ofNat len), .null] 6)) (s₁.setTop (mkF m 0 #[.val (.ref a), .val (.ref b), .val (.int (Int32.ofNat o)), .val (.int (Int32.ofNat len)), .val .null, .unset] [])) := entry rfl
  have c2 : Steps p.tables e below (s₁.setTop (entryFrame m #[.ref a, .ref b, .int (Int32.ofNat o), .int (Int32.ofNat len), .null] 6)) (s₁.setTop (mkF m 1 #[.val (.ref a), .val (.ref b), .val (.int (Int32.ofNat o)), .val (.int (Int32.ofNat len)), .val .null, .unset] [.ref a])) := c1.trans (by
    refine XS.aloadN X0.here hexec rfl (hb hbytes d0) rfl rfl ?_
    exact Steps.refl _)
  obtain ⟨T3, X3, q3, st3⟩ := X0.oinit hexec hown (wks W (objW "java/lang/String" 1)) (g := (mkF m 1 #[.val (.ref a), .val (.ref b), .val (.int (Int32.ofNat o)), .val (.int (Int32.ofNat len)), .val .null, .unset] [.ref a])) rfl (by rw [hml]; rfl) (rest := []) rfl (hb hbytes d1) (W := 0) (by show 2 * 0 + 0 ≤ _; decide) (Nat.le_of_ble_eq_true rfl) (Nat.le_of_ble_eq_true rfl)
  have hh3 := q3.trans hh0
  have c4 : Steps p.tables e below (s₁.setTop (entryFrame m #[.ref a, .ref b, .int (Int32.ofNat o), .int (Int32.ofNat len), .null] 6)) (T3.setTop (mkF m 27 #[.val (.ref a), .val (.ref b), .val (.int (Int32.ofNat o)), .val (.int (Int32.ofNat len)), .val .null, .unset] [])) := (c2.trans (st3 _ (Steps.refl _))).trans (by
    refine XS.iloadN X3.here hexec rfl (hb hbytes d4) rfl ?_
    refine XS.ifYes X3.here hexec rfl (pc0 := 5) rfl (hb hbytes d5) rfl (i0_ne_t (nz32 (by omega) l0)) (by decide) rfl ?_
    exact Steps.refl _)
  obtain ⟨T5, X5, q5, st5⟩ := X3.sget hexec hown (wk W (.fieldLink "java/lang/String" 38 "java/lang/String" "COMPACT_STRINGS" "Z")) s1 (fun _ _ h => by rw [hh3]; exact h) (g := (mkF m 27 #[.val (.ref a), .val (.ref b), .val (.int (Int32.ofNat o)), .val (.int (Int32.ofNat len)), .val .null, .unset] [])) rfl (hb hbytes d27)
  have hh5 := q5.trans hh3
  have c6 : Steps p.tables e below (s₁.setTop (entryFrame m #[.ref a, .ref b, .int (Int32.ofNat o), .int (Int32.ofNat len), .null] 6)) (T5.setTop (mkF m 30 #[.val (.ref a), .val (.ref b), .val (.int (Int32.ofNat o)), .val (.int (Int32.ofNat len)), .val .null, .unset] [.int z])) := c4.trans (st5 _ (Steps.refl _))
  have c7 : Steps p.tables e below (s₁.setTop (entryFrame m #[.ref a, .ref b, .int (Int32.ofNat o), .int (Int32.ofNat len), .null] 6)) (T5.setTop (mkF m 36 #[.val (.ref a), .val (.ref b), .val (.int (Int32.ofNat o)), .val (.int (Int32.ofNat len)), .val .null, .unset] [.int (Int32.ofNat len), .int (Int32.ofNat o), .ref b])) := c6.trans (by
    refine XS.ifNo X5.here hexec rfl (hb hbytes d30) rfl (i0_eq_f hz) ?_
    refine XS.aloadN X5.here hexec rfl (hb hbytes d33) rfl rfl ?_
    refine XS.iloadN X5.here hexec rfl (hb hbytes d34) rfl ?_
    refine XS.iloadN X5.here hexec rfl (hb hbytes d35) rfl ?_
    exact Steps.refl _)
  obtain ⟨v8, T8, X8, E8, g8⟩ := X5.callS hexec (Cmp3.law l b A o len) hown (wks W (staticW "java/lang/String" 177 Cmp3.yN)) (wk W Cmp3.tab) (W := 0) (Nat.le_of_ble_eq_true rfl) (Nat.le_of_ble_eq_true rfl) (Nat.le_refl _) (by show 0 + len ≤ len; omega) (g := (mkF m 36 #[.val (.ref a), .val (.ref b), .val (.int (Int32.ofNat o)), .val (.int (Int32.ofNat len)), .val .null, .unset] [.int (Int32.ofNat len), .int (Int32.ofNat o), .ref b])) rfl (by rw [hml]; rfl) c7 (argsL := [.ref b, .int (Int32.ofNat o), .int (Int32.ofNat len)]) (rest := []) rfl rfl (by show 2 * 0 + 0 ≤ _; decide) (hb hbytes d36) (⟨rfl, hA.mv X5.warmed.alike hh5, l1, l2, hp⟩)
  obtain ⟨e8, z8⟩ := E8
  obtain ⟨rfl, N, n1, n2, n3, n4, n5, n6⟩ := NewArr.mv _ T5 s _ _ hh5.symm (Vm.Alike.refl _) rfl e8
  rw [hh5] at z8
  have hB1 := hB.keep X8.warmed.alike (n6 _ _ hB.1)
  have hne : s.heap.size ≠ a := (Nat.ne_of_lt (Array.getElem?_eq_some_iff.mp hB.1).1).symm
  have c9 : Steps p.tables e below (s₁.setTop (entryFrame m #[.ref a, .ref b, .int (Int32.ofNat o), .int (Int32.ofNat len), .null] 6)) (T8.setTop (mkF m 39 #[.val (.ref a), .val (.ref b), .val (.int (Int32.ofNat o)), .val (.int (Int32.ofNat len)), .val .null, .unset] [.ref s.heap.size])) := g8
  have c10 : Steps p.tables e below (s₁.setTop (entryFrame m #[.ref a, .ref b, .int (Int32.ofNat o), .int (Int32.ofNat len), .null] 6)) (T8.setTop (mkF m 45 #[.val (.ref a), .val (.ref b), .val (.int (Int32.ofNat o)), .val (.int (Int32.ofNat len)), .val .null, .val (.ref s.heap.size)] [.int (Int32.ofNat N.slots.size), .ref s.heap.size, .ref a])) := by
    have hc : Steps p.tables e below (s₁.setTop (entryFrame m #[.ref a, .ref b, .int (Int32.ofNat o), .int (Int32.ofNat len), .null] 6)) (T8.setTop (mkF m 45 #[.val (.ref a), .val (.ref b), .val (.int (Int32.ofNat o)), .val (.int (Int32.ofNat len)), .val .null, .val (.ref s.heap.size)] [.int (Int32.ofNat len), .ref s.heap.size, .ref a])) := c9.trans (by
      refine XS.astore X8.here hexec rfl (hb hbytes d39) rfl rfl rfl ?_
      refine XS.aloadN X8.here hexec rfl (hb hbytes d41) rfl rfl ?_
      refine XS.aload X8.here hexec rfl (hb hbytes d42) rfl rfl ?_
      refine XS.iloadN X8.here hexec rfl (hb hbytes d44) rfl ?_
      exact Steps.refl _)
    rw [n4]; exact hc
  obtain ⟨v11, T11, X11, E11, g11⟩ := X8.callS hexec (CodL.law l s.heap.size N) hown (wks W (staticW "java/lang/String" 47 CodL.yN)) (wk W CodL.tab) (W := 1) (Nat.le_of_ble_eq_true rfl) (Nat.le_of_ble_eq_true rfl) (Nat.le_refl _) (by show 0 + len + 0 ≤ len; omega) (g := (mkF m 45 #[.val (.ref a), .val (.ref b), .val (.int (Int32.ofNat o)), .val (.int (Int32.ofNat len)), .val .null, .val (.ref s.heap.size)] [.int (Int32.ofNat N.slots.size), .ref s.heap.size, .ref a])) rfl (by rw [hml]; rfl) c10 (argsL := [.ref s.heap.size, .int (Int32.ofNat N.slots.size)]) (rest := [.ref a]) rfl rfl (by show 2 * 0 + (1 + 0) ≤ _; decide) (hb hbytes d45) (⟨rfl, n1⟩)
  obtain ⟨rfl, q11⟩ := E11
  have hB11 := hB1.mv (X8.warmed.alike.symm.trans X11.warmed.alike) q11
  have c12 : Steps p.tables e below (s₁.setTop (entryFrame m #[.ref a, .ref b, .int (Int32.ofNat o), .int (Int32.ofNat len), .null] 6)) (T11.setTop (mkF m 48 #[.val (.ref a), .val (.ref b), .val (.int (Int32.ofNat o)), .val (.int (Int32.ofNat len)), .val .null, .val (.ref s.heap.size)] [.int 0, .ref a])) := g11
  obtain ⟨T13, X13, p13, bl13, sl13, st13⟩ := X11.finit hexec hown (wk W (.fieldLink "java/lang/String" 15 "java/lang/String" "coder" "B")) (Or.inr ⟨_, (wk W (.laysFinal "java/lang/String" "java/lang/String" "coder" "B"))⟩) (Or.inl ⟨rfl, hnm⟩) f2 (Or.inl rfl) hB11 (t := .byte) (by decide +kernel) rfl (g := (mkF m 48 #[.val (.ref a), .val (.ref b), .val (.int (Int32.ofNat o)), .val (.int (Int32.ofNat len)), .val .null, .val (.ref s.heap.size)] [.int 0, .ref a])) rfl (rest := []) rfl (hb hbytes d48)
  have c14 : Steps p.tables e below (s₁.setTop (entryFrame m #[.ref a, .ref b, .int (Int32.ofNat o), .int (Int32.ofNat len), .null] 6)) (T13.setTop (mkF m 54 #[.val (.ref a), .val (.ref b), .val (.int (Int32.ofNat o)), .val (.int (Int32.ofNat len)), .val .null, .val (.ref s.heap.size)] [.ref s.heap.size, .ref a])) := (c12.trans (st13 _ (Steps.refl _))).trans (by
    refine XS.aloadN X13.here hexec rfl (hb hbytes d51) rfl rfl ?_
    refine XS.aload X13.here hexec rfl (hb hbytes d52) rfl rfl ?_
    exact Steps.refl _)
  obtain ⟨T15, X15, p15, bl15, sl15, st15⟩ := X13.finit hexec hown (wk W (.fieldLink "java/lang/String" 9 "java/lang/String" "value" "[B")) (Or.inr ⟨_, (wk W (.laysFinal "java/lang/String" "java/lang/String" "value" "[B"))⟩) (Or.inl ⟨rfl, hnm⟩) f1 (Or.inl rfl) bl13 (t := (.array .byte)) (by decide +kernel) rfl (g := (mkF m 54 #[.val (.ref a), .val (.ref b), .val (.int (Int32.ofNat o)), .val (.int (Int32.ofNat len)), .val .null, .val (.ref s.heap.size)] [.ref s.heap.size, .ref a])) rfl (rest := []) rfl (hb hbytes d54)
  have c16 : Steps p.tables e below (s₁.setTop (entryFrame m #[.ref a, .ref b, .int (Int32.ofNat o), .int (Int32.ofNat len), .null] 6)) (T15.setTop (mkF m 57 #[.val (.ref a), .val (.ref b), .val (.int (Int32.ofNat o)), .val (.int (Int32.ofNat len)), .val .null, .val (.ref s.heap.size)] [])) := c14.trans (st15 _ (Steps.refl _))
  have ap := apart (Or.inr ⟨_, (wk W (.laysFinal "java/lang/String" "java/lang/String" "value" "[B"))⟩) (Or.inr ⟨_, (wk W (.laysFinal "java/lang/String" "java/lang/String" "coder" "B"))⟩) f1 f2 (t₁ := .array .byte) (t₂ := .byte) (by decide +kernel) (by decide +kernel) (by decide)
  have al := X8.warmed.alike.symm.trans X15.warmed.alike
  have n7 : T11.heap[s.heap.size]? = some N := by rw [q11]; exact n1.1
  exact ⟨T15, none, _, _, _, X15, by simp, rfl, by omega, (fun _ => rfl), ⟨rfl, _, N, bl15, ((Same.refl D _).set _ (by simp)).set _ (by simp), sl15, (Cell.slots_setSlot_ne _ ap).trans sl13, n1.keep al (p15.other hne (p13.other hne n7)), n2, by rw [al.findClass]; exact n3, n4, n5, fun y c h1 h2 => p15.other h1 (p13.other h1 (by rw [q11]; exact n6 y c h2)), by rw [p15.2.2, p13.2.2, q11]; exact z8⟩, fun fs hl => c16.trans (X15.returnOut hexec hret (hb hbytes d57) hl)⟩
end New4
namespace New1
def yN : MethodName := ⟨"java/lang/String", "<init>", "([C)V"⟩
abbrev yB : ByteArray := jdk_42_method_3_code
theorem d0 : decode yB 0 = .ok (.aload_n 0, 1) := by decide +kernel
theorem d1 : decode yB 1 = .ok (.aload_n 1, 1) := by decide +kernel
theorem d2 : decode yB 2 = .ok (.iconst 0, 1) := by decide +kernel
theorem d3 : decode yB 3 = .ok (.aload_n 1, 1) := by decide +kernel
theorem d4 : decode yB 4 = .ok (.arraylength, 1) := by decide +kernel
theorem d5 : decode yB 5 = .ok (.aconst_null, 1) := by decide +kernel
theorem d6 : decode yB 6 = .ok (.invokespecial 27, 3) := by decide +kernel
theorem d9 : decode yB 9 = .ok (.return_, 1) := by decide +kernel
def site : List Cond := [New4.tab] ++ initW "java/lang/String" 27 New4.yN
def tab : Cond := tabOf yN yB 2 none site
def P (a : Addr) (D : Cell) (fV fC : Field) (b : Addr) (A : Cell) (z : Int32) (args : Array Value) (s : State) : Prop := args = #[.ref a, .ref b] ∧ Blank "java/lang/String" a D s ∧ Found "java/lang/String" "value" "[B" fV s ∧ Found "java/lang/String" "coder" "B" fC s ∧ Ch b A s ∧ StaticIs s "java/lang/String" "COMPACT_STRINGS" "Z" (.int z) ∧ ¬ z = 0 ∧ 0 < A.slots.size ∧ A.slots.size ≤ 536870912 ∧ ∀ i, i < A.slots.size → ¬ 255 < cv A i
def E (a : Addr) (D : Cell) (fV fC : Field) (A : Cell) (r : Option Value) (s u : State) : Prop := Got a D fV fC A 0 A.slots.size r s u
/-- new String(chars), not empty, no char above 255: a Latin-1 String of their low bytes -/
theorem law (l : Launch) (a : Addr) (D : Cell) (fV fC : Field) (b : Addr) (A : Cell) (z : Int32) : Law l yN 2 1 3 52 yB 2 none site (P a D fV fC b A z) (E a D fV fC A) [⟨a, fC.slot⟩, ⟨a, fV.slot⟩] 1 A.slots.size := by
  refine Law.of_walk (plainFor_of_name (by decide +kernel)) (by decide +kernel) (by decide +kernel) (by decide) (fun _ _ h => by rw [h.1]; rfl) (fun _ U U' hal hh h => ⟨h.1, h.2.1.mv hal hh, h.2.2.1.al hal, h.2.2.2.1.al hal, h.2.2.2.2.1.mv hal hh, h.2.2.2.2.2.1.there hal hh, h.2.2.2.2.2.2⟩) (fun r U U' V V' h1 hal h2 h => Got.mv r U U' V V' h1 hal h2 h) ?_
  intro p e s m args below meth c s₁ X0 hexec hbytes hml hret hlk hnm hown hh0 W hP
  obtain ⟨rfl, hB, f1, f2, hA, s1, hz, l0, l2, hp⟩ := hP
  have c1 : Steps p.tables e below (s₁.setTop (entryFrame m #[.ref a, .ref b] 2)) (s₁.setTop (mkF m 0 #[.val (.ref a), .val (.ref b)] [])) := entry rfl
  have c2 : Steps p.tables e below (s₁.setTop (entryFrame m #[.ref a, .ref b] 2)) (s₁.setTop (mkF m 6 #[.val (.ref a), .val (.ref b)] [.null, .int (Int32.ofNat A.slots.size), .int 0, .ref b, .ref a])) := c1.trans (by
    refine XS.aloadN X0.here hexec rfl (hb hbytes d0) rfl rfl ?_
    refine XS.aloadN X0.here hexec rfl (hb hbytes d1) rfl rfl ?_
    refine iconstV X0.here hexec rfl 0 (hb hbytes d2) (by decide) ?_
    refine XS.aloadN X0.here hexec rfl (hb hbytes d3) rfl rfl ?_
    refine X0.alen hexec (hA.1.mv X0.warmed.alike hh0) rfl rfl (hb hbytes d4) ?_
    refine XS.aconstNull X0.here hexec rfl (hb hbytes d5) ?_
    exact Steps.refl _)
  obtain ⟨v3, T3, X3, E3, g3⟩ := X0.callN hexec (New4.law l a D fV fC b A z 0 A.slots.size) rfl hown (wks W (initW "java/lang/String" 27 New4.yN)) (W New4.tab (by simp only [site, List.mem_cons, List.mem_append, true_or, or_true])) (W := 0) (Nat.le_of_ble_eq_true rfl) (Nat.le_of_ble_eq_true rfl) (Nat.le_refl _) (by show 0 + A.slots.size ≤ A.slots.size; omega) (g := (mkF m 6 #[.val (.ref a), .val (.ref b)] [.null, .int (Int32.ofNat A.slots.size), .int (Int32.ofNat 0), .ref b, .ref a])) rfl (by rw [hml]; rfl) c2 (argsL := [.ref b, .int (Int32.ofNat 0), .int (Int32.ofNat A.slots.size), .null]) (rest := []) rfl rfl (by show 2 * 0 + 0 ≤ _; decide) (hb hbytes d6) (⟨rfl, hB.mv X0.warmed.alike hh0, f1.al X0.warmed.alike, f2.al X0.warmed.alike, hA.mv X0.warmed.alike hh0, s1.there X0.warmed.alike hh0, hz, l0, by omega, l2, fun i hi => by rw [Nat.zero_add]; exact hp i hi⟩)
  have e0 := Got.mv _ s₁ s _ _ hh0.symm (Vm.Alike.refl _) rfl E3
  obtain rfl := e0.1
  have c4 : Steps p.tables e below (s₁.setTop (entryFrame m #[.ref a, .ref b] 2)) (T3.setTop (mkF m 9 #[.val (.ref a), .val (.ref b)] [])) := g3
  exact ⟨T3, none, _, _, _, X3, by simp, rfl, by omega, (fun _ => rfl), e0, fun fs hl => c4.trans (X3.returnOut hexec hret (hb hbytes d9) hl)⟩
theorem pays {l : Launch} {R : Room} {p : Program} {e : Env} {below : List Frame} {s : State} {sargs : Array Value} {len W : Nat} (a : Addr) (D : Cell) (fV fC : Field) (b : Addr) (A : Cell) (z : Int32) (htab : tab.before sargs s = true) (hfr : 4 ≤ R.frames) (hlo : W + 65 ≤ R.locals) :
    Back l R p e below s sargs yN len W (fun A₁ a₁ => A₁.cells + 1 ≤ R.cells ∧ A₁.slots + A.slots.size ≤ R.slots ∧ P a D fV fC b A z a₁ A₁.U) (fun A₁ _ v₁ B₁ => E a D fV fC A v₁ A₁.U B₁.U ∧ B₁.locs = A₁.locs ++ [⟨a, fC.slot⟩, ⟨a, fV.slot⟩] ∧ B₁.cells = A₁.cells + 1 ∧ B₁.slots = A₁.slots + A.slots.size) :=
  (law l a D fV fC b A z).pays htab hfr (by omega)
end New1
end StrChars
namespace StrChars.Road
open Jvm Sem ClassFile Op Lib Jvm.Stand Jvm.Free Jvm.Free.XT
open Jvm.Lib.Cold (StaticIs)
abbrev ST : String := "java/lang/String"
/-- every table word that New1's law asks, flat -/
abbrev words : List Jvm.Cond := [.code New1.yN New1.yB 2 none, .initialized ST, .methodLink ST 27 New4.yN, .instanceMethod New4.yN,
  .code New4.yN New4.yB 6 none, .fieldLink ST 38 ST "COMPACT_STRINGS" "Z", .laysFinal ST ST "value" "[B", .fieldLink ST 9 ST "value" "[B", .laysFinal ST ST "coder" "B", .fieldLink ST 15 ST "coder" "B",
  .methodLink ST 1 Lib.objectInit, .instanceMethod Lib.objectInit, .code Lib.objectInit ⟨#[0xb1]⟩ 1 none, .methodLink ST 177 Cmp3.yN, .static Cmp3.yN, .methodLink ST 47 CodL.yN, .static CodL.yN,
  .code Cmp3.yN Cmp3.yB 6 (some (.array .byte)), .initialized U16, .arrayClass .byte, .methodLink U16 115 Cmp5.yN, .static Cmp5.yN, .code Cmp5.yN Cmp5.yB 7 (some .int), .code CodL.yN CodL.yB 2 (some .byte)]
theorem tab_of {a : Array Value} {s : State} (h : ∀ w ∈ words, w.before a s = true) : New1.tab.before a s = true := by
  have h5 : Cmp5.tab.before a s = true := unparts (wk h (.code Cmp5.yN Cmp5.yB 7 (some .int))) (wks h (.initialized Cmp5.yN.cls :: Cmp5.site))
  have hc : CodL.tab.before a s = true := unparts (wk h (.code CodL.yN CodL.yB 2 (some .byte))) (wks h (.initialized CodL.yN.cls :: CodL.site))
  have q5 : ∀ w ∈ Cmp5.tab :: words, w.before a s = true := fun w hw => (List.mem_cons.mp hw).elim (fun e => e ▸ h5) (h w)
  have h3 : Cmp3.tab.before a s = true := unparts (wk q5 (.code Cmp3.yN Cmp3.yB 6 (some (.array .byte)))) (wks q5 (.initialized Cmp3.yN.cls :: Cmp3.site))
  have q3 : ∀ w ∈ Cmp3.tab :: CodL.tab :: words, w.before a s = true := fun w hw => (List.mem_cons.mp hw).elim (fun e => e ▸ h3) fun hw => (List.mem_cons.mp hw).elim (fun e => e ▸ hc) (h w)
  have h4 : New4.tab.before a s = true := unparts (wk q3 (.code New4.yN New4.yB 6 none)) (wks q3 (.initialized New4.yN.cls :: New4.site))
  have q4 : ∀ w ∈ New4.tab :: words, w.before a s = true := fun w hw => (List.mem_cons.mp hw).elim (fun e => e ▸ h4) (h w)
  exact unparts (wk q4 (.code New1.yN New1.yB 2 none)) (wks q4 (.initialized New1.yN.cls :: New1.site))
/-- the words ride from the start Z to the walk's own state -/
theorem moved {Z s : State} {a0 args : Array Value} (hZ : Z.Warmed39 s.vm) (hw : ∀ d ∈ words, d.before a0 Z = true) : ∀ d ∈ words, d.before args s = true := fun d hd => by
  have q := hw d hd
  have t : ∀ d ∈ words, d = .arrayClass .byte ∨ (d.onTables && d.keepsFace) = true := by decide +kernel
  rcases t d hd with rfl | t
  · exact RoadKit.mvA hZ q
  · exact RoadKit.mv hZ q t
/-- WHAT COMES BACK, over the tables of the start Z: h the heap at the call, h' behind it -/
def Q (Z : State) (x : Addr) (A : Cell) (h : Heap) (v : Option Value) (h' : Heap) (L : List Loc) : Prop := v = none ∧ (∀ y ∈ L, y.base = x) ∧ RoadKit.Keep h h' [x] ∧ h'.size = h.size + 1 ∧ RoadKit.Exa Z h' x ST ∧ RoadKit.Fld Z h' x ST "value" "[B" (.ref h.size) ∧ RoadKit.Fld Z h' x ST "coder" "B" (.int 0) ∧
  (∃ V : Cell, RoadKit.Arr Z h' h.size V .byte ∧ V.vm = .none ∧ Z.vm.findClass "[B" = some V.cls ∧ V.slots.size = A.slots.size ∧ ∀ j, j < A.slots.size → V.slots[j]? = some (.int (lo8 (cv A j)))) ∧
  ∀ (O n d : String) (w : Value), RoadKit.Fld Z h x O n d w → RoadKit.slotOf Z O n d ≠ RoadKit.slotOf Z ST "value" "[B" → RoadKit.slotOf Z O n d ≠ RoadKit.slotOf Z ST "coder" "B" → RoadKit.Fld Z h' x O n d w
/-- **new String(chars) AT A CALL, IN THE ROAD'S FORM**: for specialBack behind newO: x the fresh String, b the char[] with the cell A -/
theorem back {p : Program} {l : Launch} {e : Env} {R : Room} {s : State} {args : Array Value} {below : List Frame} {len W : Nat} {Z : State} {a0 : Array Value} {h : Heap} (hZ : Z.Warmed39 s.vm) (hw : ∀ d ∈ words, d.before a0 Z = true) {kI : Nat} (wi : (Jvm.Cond.instantiable ST kI).before a0 Z = true)
    {x b : Addr} {A : Cell} {z : Int32} {v0 c0 : Value} (E : RoadKit.Exa Z h x ST) (V : RoadKit.Fld Z h x ST "value" "[B" v0) (C : RoadKit.Fld Z h x ST "coder" "B" c0) (K : RoadKit.Arr Z h b A .char) (hty : Typed .char A) (S : RoadKit.Sta Z h ST "COMPACT_STRINGS" "Z" (.int z)) (hz : ¬ z = 0)
    (l0 : 0 < A.slots.size) (l2 : A.slots.size ≤ 536870912) (hp : ∀ i, i < A.slots.size → ¬ 255 < cv A i) (hfr : 4 ≤ R.frames) (hlo : W + 65 ≤ R.locals) :
    Back l R p e below s args New1.yN len W (fun P a => a = #[.ref x, .ref b] ∧ P.U.heap = h ∧ P.cells + 1 ≤ R.cells ∧ P.slots + A.slots.size ≤ R.slots)
      (fun P _ v B => ∃ L, Q Z x A h v B.U.heap L ∧ B.locs = P.locs ++ L ∧ B.cells = P.cells + 1 ∧ B.slots = P.slots + A.slots.size) := by
  intro m meth c P g ig mk a X hg hsize hdg hW hn hp'
  obtain ⟨rfl, rfl, r1, r2⟩ := hp'
  have al : Z.vm.Alike P.U.vm := hZ.alike.trans X.warmed.alike
  obtain ⟨D, cfV, kV, iV, fV, hD, gV, stV, knV, obV, asV, slV⟩ := id V
  obtain ⟨D', cfC, kC, iC, fC, hD', gC, stC, -, -, asC, slC⟩ := id C
  cases hD.symm.trans hD'
  obtain ⟨D2, kD, e1, e2, e3, e4, e5⟩ := id E
  cases hD.symm.trans e1
  obtain ⟨c2, k2, i1, i2, i3, -⟩ := Cond.instantiable_spec wi
  cases e2.symm.trans i1
  cases e3.symm.trans i2
  obtain ⟨kU, u1, u2⟩ := al.2.2 _ _ e3
  have hB : Blank ST x D P.U := ⟨hD, ⟨knV, fun q hq => by rw [hq] at obV; cases obV⟩, by rw [al.findClass]; exact e2, kU, u1, by rw [u2]; exact i3, by rw [u2]; exact e5 i3⟩
  have F1 : Found ST "value" "[B" fV P.U := ⟨SBG.found_only al ⟨cfV, kV, iV, gV⟩, stV⟩
  have F2 : Found ST "coder" "B" fC P.U := ⟨SBG.found_only al ⟨cfC, kC, iC, gC⟩, stC⟩
  have hA : Ch b A P.U := ⟨⟨K.1, State.isArrayOf_alike al K.2.1, K.2.2, by omega⟩, hty⟩
  have hS : StaticIs P.U ST "COMPACT_STRINGS" "Z" (.int z) := by
    obtain ⟨cfS, iS, kS, fS, st, cS, t1, t2, t3, t4, t5, t6, t7⟩ := S
    exact StaticIs.there (s := { Z with heap := P.U.heap }) ⟨cfS, iS, kS, fS, st, cS, t1, t2, t3, t4, t5, (fun q => by rw [q] at t6; cases t6), t7⟩ al rfl
  obtain ⟨v, B, X', ⟨⟨hv, E', V', q1, q2, q3, q4, q5, q6, q7, q8, q9, q10, q11⟩, hl, hc, hs⟩, st⟩ := New1.pays x D fV fC b A z (tab_of (moved hZ hw)) hfr hlo m meth c P g ig mk _ X hg hsize hdg hW hn ⟨r1, r2, rfl, hB, F1, F2, hA, hS, hz, l0, l2, hp⟩
  have al' : Z.vm.Alike B.U.vm := hZ.alike.trans X'.warmed.alike
  have hsz : E'.slots.size = D.slots.size := by
    obtain ⟨-, -, -, kB, w1, w2, w3⟩ := q1
    obtain ⟨kB', y1, y2⟩ := al'.2.2 _ _ e3
    rw [q2.2.1] at w1
    cases w1.symm.trans y1
    rw [w3, e5 i3, y2]
  refine ⟨v, B, X', ⟨_, ⟨hv, ?_, ⟨by omega, fun y cy hy hn' => q10 y cy (by simpa using hn') hy, fun y cy hy => ?_⟩, q11, ⟨E', _, q1.1, by rw [q2.2.1]; exact e2, by rw [q2.2.1]; exact e3, by rw [q2.1]; exact obV, fun _ => by rw [hsz]; exact e5 i3⟩,
    ⟨E', cfV, kV, iV, fV, q1.1, gV, stV, by rw [q2.1]; exact knV, by rw [q2.1]; exact obV, by rw [q2.2.1]; exact asV, q3⟩, ⟨E', cfC, kC, iC, fC, q1.1, gC, stC, by rw [q2.1]; exact knV, by rw [q2.1]; exact obV, by rw [q2.2.1]; exact asC, q4⟩,
    ⟨V', ⟨q5.1, State.isArrayOf_alike al'.symm q5.2.1, q5.2.2.1⟩, q6, by rw [← al'.findClass]; exact q7, q8, fun j hj => by have := q9 j hj; rwa [Nat.zero_add] at this⟩, fun O n d w F n1 n2 => ?_⟩, hl, hc, hs⟩, st⟩
  · intro y hy
    simp only [List.mem_cons, List.not_mem_nil, or_false] at hy
    rcases hy with rfl | rfl <;> rfl
  · by_cases q : y = x
    · subst q
      cases hD.symm.trans hy
      exact ⟨E', q1.1, q2.2.1, q2.1, hsz⟩
    · exact ⟨cy, q10 y cy q hy, rfl, rfl, rfl⟩
  · obtain ⟨D3, cf, k, i, f, g1, g2, g3, g4, g5, g6, g7⟩ := F
    cases hD.symm.trans g1
    simp only [RoadKit.slotOf, g2, gV, gC, Option.map_some, Option.getD_some] at n1 n2
    exact ⟨E', cf, k, i, f, q1.1, g2, g3, by rw [q2.1]; exact g4, by rw [q2.1]; exact g5, by rw [q2.2.1]; exact g6, by rw [q2.2.2 f.slot (by simp [n1, n2])]; exact g7⟩
end StrChars.Road
namespace StrChars.Road
open Jvm Sem ClassFile Op Lib Jvm.Stand Jvm.Free Jvm.Free.XT
/-- WHAT COMES BACK, the byte[] as a list of values -/
def QA (Z : State) (x : Addr) (zn : Int32) (cs : List Int32) (h : Heap) (v : Option Value) (h' : Heap) (L : List Loc) : Prop := v = none ∧ (∀ y ∈ L, y.base = x) ∧ RoadKit.Keep h h' [x] ∧ h'.size = h.size + 1 ∧ RoadKit.Exa Z h' x ST ∧ RoadKit.Fld Z h' x ST "value" "[B" (.ref h.size) ∧ RoadKit.Fld Z h' x ST "coder" "B" (.int 0) ∧
  (∃ kb, Z.vm.findClass "[B" = some kb ∧ RoadKit.Arv Z h' h.size kb .byte zn (cs.map fun c => .int (lo8 c)) (.int 0)) ∧
  ∀ (O n d : String) (w : Value), RoadKit.Fld Z h x O n d w → RoadKit.slotOf Z O n d ≠ RoadKit.slotOf Z ST "value" "[B" → RoadKit.slotOf Z O n d ≠ RoadKit.slotOf Z ST "coder" "B" → RoadKit.Fld Z h' x O n d w
/-- **new String(chars) AT A CALL, THE ARRAYS AS LISTS**: the char[] at b holds cs, not empty, no char above 255 -/
theorem backArv {p : Program} {l : Launch} {e : Env} {R : Room} {s : State} {args : Array Value} {below : List Frame} {len W : Nat} {Z : State} {a0 : Array Value} {h : Heap} (hZ : Z.Warmed39 s.vm) (hw : ∀ d ∈ words, d.before a0 Z = true) {kI : Nat} (wi : (Jvm.Cond.instantiable ST kI).before a0 Z = true)
    {x b : Addr} {k : ClassId} {zn z : Int32} {cs : List Int32} {dv v0 c0 : Value} (E : RoadKit.Exa Z h x ST) (V : RoadKit.Fld Z h x ST "value" "[B" v0) (C : RoadKit.Fld Z h x ST "coder" "B" c0) (K : RoadKit.Arv Z h b k .char zn (cs.map Value.int) dv) (S : RoadKit.Sta Z h ST "COMPACT_STRINGS" "Z" (.int z)) (hz : ¬ z = 0)
    (hlen : zn.toNatClampNeg = cs.length) (h0 : 0 < cs.length) (hbig : cs.length ≤ 536870912) (hall : ∀ c ∈ cs, ¬ 255 < c) (hfr : 4 ≤ R.frames) (hlo : W + 65 ≤ R.locals) :
    Back l R p e below s args New1.yN len W (fun P a => a = #[.ref x, .ref b] ∧ P.U.heap = h ∧ P.cells + 1 ≤ R.cells ∧ P.slots + cs.length ≤ R.slots)
      (fun P _ v B => ∃ L, QA Z x zn cs h v B.U.heap L ∧ B.locs = P.locs ++ L ∧ B.cells = P.cells + 1 ∧ B.slots = P.slots + cs.length) := by
  obtain ⟨A, K1, K2, K3, K4, K5, K6⟩ := K
  have e : A.slots.size = cs.length := K3.trans hlen
  have hat : ∀ (i : Nat) (hi : i < cs.length), A.slots[i]? = some (.int cs[i]) := fun i hi => by rw [K5 i (by omega)]; simp [List.getD_eq_getElem?_getD, hi]
  have hcv : ∀ (i : Nat) (hi : i < cs.length), cv A i = cs[i] := fun i hi => by unfold cv; rw [hat i hi]
  have hty : Typed .char A := fun i v hv => by
    have hi : i < A.slots.size := (Array.getElem?_eq_some_iff.mp hv).1
    have q := K5 i hi
    rw [hv] at q
    rw [Option.some.inj q]
    exact K6 i hi
  refine Back.mono (back hZ hw wi E V C K1 hty S hz (by omega) (by omega) (fun i hi => by rw [hcv i (by omega)]; exact hall _ (List.getElem_mem _)) hfr hlo) (fun P a hp => ⟨hp.1, hp.2.1, hp.2.2.1, by rw [e]; exact hp.2.2.2⟩) (fun P a v B hp hq => ?_)
  obtain ⟨L, ⟨q1, q2, q3, q4, q5, q6, q7, ⟨V', v1, v2, v3, v4, v5⟩, q9⟩, hl, hc, hs⟩ := hq
  refine ⟨L, ⟨q1, q2, q3, q4, q5, q6, q7, ⟨V'.cls, v3, V', v1, rfl, by rw [v4, e, hlen], K4, fun i hi => ?_, fun i hi => ?_⟩, q9⟩, hl, hc, by rw [hs, e]⟩
  · have hi' : i < cs.length := by omega
    rw [v5 i (by omega), hcv i hi']; simp [List.getD_eq_getElem?_getD, hi']
  · have hi' : i < cs.length := by omega
    simp only [List.getD_eq_getElem?_getD, List.getElem?_map, List.getElem?_eq_getElem hi', Option.map_some, Option.getD_some]
    exact fits_lo8 _
end StrChars.Road
namespace StrChars.Road
open Jvm Sem ClassFile Op Lib Jvm.Stand Jvm.Free Jvm.Free.XT
/-- WHAT COMES BACK, in the writer's own shape -/
def QV (Z : State) (x : Addr) (N : Int32) (bs : List Int32) (h : Heap) (n0 : Nat) (v : Option Value) (h' : Heap) (L : List Loc) : Prop := v = none ∧ RoadKit.Fr n0 L ∧ RoadKit.Keep h h' [x] ∧ RoadKit.Exa Z h' x ST ∧ RoadKit.Fld Z h' x ST "coder" "B" (.int 0) ∧
  ∃ (t : Addr) (kb : ClassId), n0 ≤ t ∧ h.size ≤ t ∧ ¬ t = x ∧ RoadKit.Fld Z h' x ST "value" "[B" (.ref t) ∧ RoadKit.Arv Z h' t kb .byte N (bs.map Value.int) (.int 0)
/-- **new String(chars) AT A CALL, FOR THE WRITER**: a char[] of n known ints, each 0 to 255 -/
theorem backV {p : Program} {l : Launch} {e : Env} {R : Room} {s : State} {args : Array Value} {below : List Frame} {len W : Nat} {Z : State} {a0 : Array Value} {h : Heap} (hZ : Z.Warmed39 s.vm) (hw : ∀ d ∈ words, d.before a0 Z = true) {kI : Nat} (wi : (Jvm.Cond.instantiable ST kI).before a0 Z = true)
    {x b : Addr} {kC : ClassId} {cs bs : List Int32} {d v0 c0 : Value} {z N : Int32} {n n0 : Nat} (hx0 : n0 ≤ x) (hh0 : n0 ≤ h.size) (E : RoadKit.Exa Z h x ST) (V : RoadKit.Fld Z h x ST "value" "[B" v0) (C : RoadKit.Fld Z h x ST "coder" "B" c0) (K : RoadKit.Arv Z h b kC .char N (cs.map Value.int) d) (S : RoadKit.Sta Z h ST "COMPACT_STRINGS" "Z" (.int z)) (hz : ¬ z = 0)
    (hn : cs.length = n) (hN : N = Int32.ofNat n) (l0 : 0 < n) (l2 : n ≤ 4000) (hp : ∀ c ∈ cs, ¬ c < 0 ∧ ¬ (255 : Int32) < c) (hb : bs = cs.map (fun c => c.toInt8.toInt32)) (hfr : 4 ≤ R.frames) (hlo : W + 65 ≤ R.locals) :
    Back l R p e below s args (⟨"java/lang/String", "<init>", "([C)V"⟩ : MethodName) len W (fun P a => a = #[.ref x, .ref b] ∧ P.U.heap = h ∧ P.cells + 1 ≤ R.cells ∧ P.slots + n ≤ R.slots)
      (fun P _ v B => ∃ L, QV Z x N bs h n0 v B.U.heap L ∧ B.locs = P.locs ++ L ∧ B.cells = P.cells + 1 ∧ B.slots = P.slots + n) := by
  subst hn hN hb
  refine Back.mono (backArv hZ hw wi E V C K S hz (n32 (by omega)) l0 (by omega) (fun c hc => (hp c hc).2) hfr hlo) (fun P a hp => hp) (fun P a v B hp hq => ?_)
  obtain ⟨L, ⟨q1, q2, q3, q4, q5, q6, q7, ⟨kb, v1, v2⟩, q9⟩, hl, hc, hs⟩ := hq
  exact ⟨L, ⟨q1, fun y hy => by rw [q2 y hy]; exact hx0, q3, q5, q7, h.size, kb, hh0, Nat.le_refl _, Nat.ne_of_gt E.lt, q6, by rw [List.map_map]; exact v2⟩, hl, hc, hs⟩
end StrChars.Road
end Jvm.Pilot.@@N@@

namespace Jvm.Pilot.@@N@@
open Jvm Jvm.ClassFile Sem Op Lib Jvm.Free Jvm.Stand Jvm.LawKit Jvm.RoadKit Bundle Jvm.Free.SB Jvm.Free.SBG Jvm.Pilot.@@N@@.Jvm.D
section own_kit
variable {p : Program} {l : Launch} {e : Env} {R : Room} {s : State} {m : MethodId} {args : Array Value} {below : List Frame} {meth : Method} {c : Code} {T T' : State} {locs : List Loc} {cells slots : Nat}
/-- from the frame g over the state T the run comes to an end of which K speaks -/
def Go (p : Program) (e : Env) (below : List Frame) (T : State) (g : JFrame) (K : Outcome → State → Prop) : Prop :=
  ∃ s₂ o, Steps p.tables e below (T.setTop g) s₂ ∧ s₂.status = .running ∧ Ended s₂ below o ∧ K o s₂
def KQ (s : State) (Q : Option Value → Heap → List Loc → Prop) (k n : Nat) (o : Outcome) (U : State) : Prop :=
  ∃ v L, o = .returned v ∧ Q v U.heap L ∧ FrameEnd s o U L k n
theorem Go.of {g g' : JFrame} {K : Outcome → State → Prop} (h : ∀ t, Steps p.tables e below (T'.setTop g') t → Steps p.tables e below (T.setTop g) t) (k : Go p e below T' g' K) : Go p e below T g K := by
  obtain ⟨s₂, o, h1, h2⟩ := k
  exact ⟨s₂, o, h _ h1, h2⟩
theorem Go.cast {g g' : JFrame} {K : Outcome → State → Prop} (q : g = g') (k : Go p e below T g' K) : Go p e below T g K := q ▸ k
theorem Go.ret0 (X : Stand p l e R s m args below meth c T locs cells slots) (hx : p.tables.exec = Jvm.exec) (hret : meth.sig.returnType = none) (hlk : meth.locks = false) {pc : Nat} {Ls : Array Slot} {Q : Option Value → Heap → List Loc → Prop} {k n : Nat} {h : Heap}
    (hd : decode c.code pc = .ok (.return_, 1)) (eT : T.heap = h) (hk : cells ≤ k) (hn : slots ≤ n) (hq : Q none h locs) : Go p e below T (mkF m pc Ls []) (KQ s Q k n) := by
  obtain ⟨fs, hr, hrun, hended, hW, hsame⟩ := X.leave (v := none) (fun _ => rfl) hlk
  exact ⟨_, _, X.returnOut hx hret hd hr, hrun, hended, _, _, rfl, by show Q none T.heap _; rw [eT]; exact hq, ⟨_, rfl⟩, hW, hsame.mono hk hn⟩
theorem Go.retV (X : Stand p l e R s m args below meth c T locs cells slots) (hx : p.tables.exec = Jvm.exec) {t : FieldType} {w : Value} {i : Instr} {rest : List Value} (hret : meth.sig.returnType = some t) (hlk : meth.locks = false) {pc : Nat} {Ls : Array Slot} {Q : Option Value → Heap → List Loc → Prop} {k n : Nat} {h : Heap} (hn0 : narrow t w = w)
    (hi : (i = .ireturn ∧ (t = .int ∨ t = .boolean ∨ t = .byte ∨ t = .char ∨ t = .short) ∧ ∃ z, w = .int z) ∨ (i = .lreturn ∧ t = .long ∧ ∃ z, w = .long z) ∨ (i = .dreturn ∧ t = .double ∧ ∃ z, w = .double z) ∨ (i = .freturn ∧ t = .float ∧ ∃ z, w = .float z) ∨ (i = .areturn ∧ t.isReference = true ∧ w.isRef = true))
    (hd : decode c.code pc = .ok (i, 1)) (eT : T.heap = h) (hk : cells ≤ k) (hn : slots ≤ n) (hq : Q (some w) h locs) : Go p e below T (mkF m pc Ls (w :: rest)) (KQ s Q k n) := by
  obtain ⟨fs, hr, hrun, hended, hW, hsame⟩ := X.leave (v := some w) (fun h => by rw [hret] at h; cases h) hlk
  exact ⟨_, _, retOut X hx hret hn0 hi hd hr, hrun, hended, _, _, rfl, by show Q (some w) T.heap _; rw [eT]; exact hq, ⟨_, rfl⟩, hW, hsame.mono hk hn⟩
theorem Go.retI (X : Stand p l e R s m args below meth c T locs cells slots) (hx : p.tables.exec = Jvm.exec) {z : Int32} {rest : List Value} (hret : meth.sig.returnType = some .int) (hlk : meth.locks = false) {pc : Nat} {Ls : Array Slot} {Q : Option Value → Heap → List Loc → Prop} {k n : Nat} {h : Heap}
    (hd : decode c.code pc = .ok (.ireturn, 1)) (eT : T.heap = h) (hk : cells ≤ k) (hn : slots ≤ n) (hq : Q (some (.int z)) h locs) : Go p e below T (mkF m pc Ls (.int z :: rest)) (KQ s Q k n) :=
  Go.retV X hx hret hlk rfl (Or.inl ⟨rfl, Or.inl rfl, z, rfl⟩) hd eT hk hn hq
theorem Go.retJ (X : Stand p l e R s m args below meth c T locs cells slots) (hx : p.tables.exec = Jvm.exec) {z : Int64} {rest : List Value} (hret : meth.sig.returnType = some .long) (hlk : meth.locks = false) {pc : Nat} {Ls : Array Slot} {Q : Option Value → Heap → List Loc → Prop} {k n : Nat} {h : Heap}
    (hd : decode c.code pc = .ok (.lreturn, 1)) (eT : T.heap = h) (hk : cells ≤ k) (hn : slots ≤ n) (hq : Q (some (.long z)) h locs) : Go p e below T (mkF m pc Ls (.long z :: rest)) (KQ s Q k n) :=
  Go.retV X hx hret hlk rfl (Or.inr (Or.inl ⟨rfl, rfl, z, rfl⟩)) hd eT hk hn hq
theorem narrow_ref {t : FieldType} {w : Value} (ht : t.isReference = true) (hw : w.isRef = true) : narrow t w = w := by
  rcases ref_cases hw with rfl | ⟨z, rfl⟩ <;> cases t <;> first | rfl | (cases ht; done)
theorem Go.retA (X : Stand p l e R s m args below meth c T locs cells slots) (hx : p.tables.exec = Jvm.exec) {t : FieldType} {w : Value} {rest : List Value} (hret : meth.sig.returnType = some t) (hlk : meth.locks = false) {pc : Nat} {Ls : Array Slot} {Q : Option Value → Heap → List Loc → Prop} {k n : Nat} {h : Heap} (ht : t.isReference = true) (hw : w.isRef = true)
    (hd : decode c.code pc = .ok (.areturn, 1)) (eT : T.heap = h) (hk : cells ≤ k) (hn : slots ≤ n) (hq : Q (some w) h locs) : Go p e below T (mkF m pc Ls (w :: rest)) (KQ s Q k n) :=
  Go.retV X hx hret hlk (narrow_ref ht hw) (Or.inr (Or.inr (Or.inr (Or.inr ⟨rfl, ht, hw⟩)))) hd eT hk hn hq
theorem Go.retN (X : Stand p l e R s m args below meth c T locs cells slots) (hx : p.tables.exec = Jvm.exec) {t : FieldType} {z : Int32} {rest : List Value} (hret : meth.sig.returnType = some t) (hlk : meth.locks = false) {pc : Nat} {Ls : Array Slot} {Q : Option Value → Heap → List Loc → Prop} {k n : Nat} {h : Heap} (ht : t = .boolean ∨ t = .byte ∨ t = .char ∨ t = .short)
    (hd : decode c.code pc = .ok (.ireturn, 1)) (eT : T.heap = h) (hk : cells ≤ k) (hn : slots ≤ n) (hq : Q (some (.int (nar t z))) h locs) : Go p e below T (mkF m pc Ls (.int z :: rest)) (KQ s Q k n) := by
  obtain ⟨fs, hr, hrun, hended, hW, hsame⟩ := X.leave (v := some (.int (nar t z))) (fun h => by rw [hret] at h; cases h) hlk
  exact ⟨_, _, Jvm.RoadKit.retN X hx hret ht hd hr, hrun, hended, _, _, rfl, by show Q _ T.heap _; rw [eT]; exact hq, ⟨_, rfl⟩, hW, hsame.mono hk hn⟩
/-- the contract of one body, at the arguments as and the heap h0 -/
abbrev Ctr (l : Launch) (Z : State) (y : MethodName) (bytes : ByteArray) (mx : Nat) (rt : Option FieldType) (ws : List Jvm.Cond) (R : Room) (as : Array Value) (h0 : Heap) (Q : Option Value → Heap → List Loc → Prop) : Prop :=
  MetFree l y (head1 (Jvm.Cond.code y bytes mx rt :: ws) R) (fun a U => a = as ∧ Z.Warmed39 U.vm ∧ U.heap = h0) (fun _ _ _ _ _ => True) (fun _ U o U' => ∃ v L, o = .returned v ∧ Q v U'.heap L ∧ FrameEnd U o U' L R.cells R.slots)
theorem Ctr.intro {Z : State} {y : MethodName} {bytes : ByteArray} {mx : Nat} {rt : Option FieldType} {ws : List Jvm.Cond} {as : Array Value} {h0 : Heap} {Q : Option Value → Heap → List Loc → Prop} (hpl : plainFor y = true)
    (body : ∀ (p : Program) (e : Env) (s : State) (m : MethodId) (below : List Frame) (meth : Method) (c : Code) (s₁ : State), p.tables.exec = Jvm.exec → c.code = bytes → c.maxLocals = mx → s.vm.findClass y.cls = some m.cls → meth.name = y.name → meth.sig.returnType = rt → meth.locks = false → Z.Warmed39 s.vm →
      Stand p l e R s m as below meth c s₁ [] 0 0 → s₁.heap = h0 → Go p e below s₁ (entryFrame m as mx) (KQ s Q R.cells R.slots)) : Ctr l Z y bytes mx rt ws R as h0 Q := by
  refine MetFree.of_bodySF hpl hisR ?_
  intro p e s m args below meth c s₁ Bd hml0 hP hK
  obtain ⟨rfl, hZ, hh⟩ := hP
  obtain ⟨s₂, o, h1, h2, h3, h4⟩ := body p e s m below meth c s₁ Bd.exec Bd.bytes hml0 (findClass_of_methodNamed Bd.named) (name_of_methodNamed Bd.named Bd.method).1 Bd.returns Bd.notSynchronized hZ (Stand.of_body Bd) (by rw [← hh, Bd.state]; rfl)
  exact ⟨s₂, o, h1, h2, h3, h4⟩
end own_kit
theorem own_mask31 (x : Int32) : 0 ≤ (x &&& 2147483647).toInt ∧ (x &&& 2147483647).toInt < 2 ^ 31 := by
  have e : (x &&& 2147483647).toInt = x.toInt % 2 ^ 31 := Jvm.Kit.i32_mask x 2147483647 (k := 31) (by decide) (by decide)
  omega
theorem own_rem {x y : Int32} (hx : 0 ≤ x.toInt) (hy : 0 < y.toInt) : 0 ≤ (x % y).toInt ∧ (x % y).toInt < y.toInt := by
  have e : (x % y).toInt = x.toInt.tmod y.toInt := Int32.toInt_mod x y
  rw [Int.tmod_eq_emod_of_nonneg hx] at e
  have h1 := Int.emod_nonneg x.toInt (show y.toInt ≠ 0 by omega)
  have h2 := Int.emod_lt_of_pos x.toInt hy
  omega
theorem own_lt {a b : Int32} : a < b ↔ a.toInt < b.toInt := Int32.lt_iff_toInt_lt
theorem own_eq {a b : Int32} : a = b ↔ a.toInt = b.toInt := Int32.toInt_inj.symm
theorem own_or' {args : Array Value} {first s : State} {o : Option Outcome} {idx : List Nat} {G Y : Jvm.Cond} {P : Prop} [Decidable P] (h : (Jvm.Cond.or G Y).value args first o s idx = some true) (hG : G.value args first o s idx = some (decide P)) (hn : ¬ P) : Y.value args first o s idx = some true := by
  simpa [Cond.value, hG, hn] using h
theorem own_len {Z : State} {args : Array Value} {t : Term} {a : Addr} {cl : Cell} {ty : FieldType} {n : Int32} (ea : t.eval args Z none [] Z = some (.ref a)) (A : Arr Z Z.heap a cl ty) (h : (Term.length t).eval args Z none [] Z = some (.int n)) : cl.slots.size = n.toNatClampNeg ∧ ¬ n < 0 := by
  have ha := A.fin (Vm.Alike.refl _)
  by_cases p : cl.slots.size < 2 ^ 31
  · have e := (len_f ea ha p).symm.trans h
    have e2 : cl.slots.size.toInt32 = n := Value.int.inj (Option.some.inj e)
    have e3 := len_toInt p
    rw [e2] at e3
    refine ⟨by simp only [Int32.toNatClampNeg, e3]; rfl, by rw [Int32.lt_iff_toInt_lt, e3]; simp⟩
  · simp [Term.eval, ea, ha, p] at h
theorem own_at {Z : State} {args : Array Value} {t F : Term} {a : Addr} {cl : Cell} {ty : FieldType} {j y : Int32} (et : ∀ idx, t.eval args Z none idx Z = some (.ref a)) (A : Arr Z Z.heap a cl ty) (nn : ¬ j < 0) (hF : F.eval args Z none [j.toNatClampNeg] Z = some (.int y))
    (h : (Jvm.Cond.eq (.elem t (.index 0)) F).value args Z none Z [j.toNatClampNeg] = some true) : cl.slots[j.toNatClampNeg]? = some (.int y) :=
  (elem_f (et _) (idx_at nn) (A.fin (Vm.Alike.refl _)) nn).symm.trans (eqv_i hF h)
theorem own_nlt {a b : Int32} : ¬ a < b ↔ b.toInt ≤ a.toInt := by rw [own_lt]; omega
theorem own_le {a b : Int32} : a ≤ b ↔ a.toInt ≤ b.toInt := Int32.le_iff_toInt_le
theorem own_clamp {j n : Int32} {k : Nat} (h0 : ¬ j < 0) (h1 : j < n) (hk : k = n.toNatClampNeg) : j.toNatClampNeg < k := by
  rw [own_lt] at h0 h1; subst hk
  have : (0 : Int32).toInt = 0 := by decide
  simp only [Int32.toNatClampNeg]; omega

theorem k0 : (0 : Int32).toInt = 0 := by decide
theorem k1 : (1 : Int32).toInt = 1 := by decide
theorem k255 : (255 : Int32).toInt = 255 := by decide
theorem k65535 : (65535 : Int32).toInt = 65535 := by decide

abbrev chr (c : Int32) : Prop := ¬ c < 0 ∧ ¬ (255 : Int32) < c
theorem own_ch (y : Int32) : chr ((y &&& 255).toUInt32.toUInt16.toUInt32.toInt32) := by
  rw [i2c_mask]
  have e : (y &&& 255).toInt = y.toInt % 2 ^ 8 := Jvm.Kit.i32_mask y 255 (k := 8) (by decide) (by decide)
  constructor
  · rw [own_lt, k0]; omega
  · rw [own_lt, k255]; omega
theorem own_nar {c : Int32} (h : chr c) : nar .char c = c := by
  obtain ⟨h1, h2⟩ := h
  rw [own_lt, k0] at h1; rw [own_lt, k255] at h2
  show c.toUInt32.toUInt16.toUInt32.toInt32 = c
  have e : c &&& 255 = c := by
    have q : (c &&& 255).toInt = c.toInt % 2 ^ 8 := Jvm.Kit.i32_mask c 255 (k := 8) (by decide) (by decide)
    rw [own_eq, q]; omega
  rw [← e]; exact i2c_mask c
theorem own_up {cs : List Int32} (h : ∀ c ∈ cs, chr c) : ∀ c ∈ cs, ¬ c < 0 ∧ ¬ (65535 : Int32) < c := fun c hc => ⟨(h c hc).1, fun q => (h c hc).2 (by rw [own_lt, k255]; rw [own_lt, k65535] at q; omega)⟩


abbrev Sts := Nat → Addr
def MirO (Z : State) (C : String) (mr : Addr) : Prop := ∃ (c : ClassId) (k : Class), Z.vm.findClass C = some c ∧ Z.vm.classes[c]? = some k ∧ k.mirror = some mr
/-- the statics that the lists read, as they stood when the law began -/
def JS (Z : State) (j : Sts) : Prop := (Sta Z Z.heap "java/util/ArrayList" "DEFAULTCAPACITY_EMPTY_ELEMENTDATA" "[Ljava/lang/Object;" (.ref (j 0))) ∧ (∃ k, Arv Z Z.heap (j 0) k (.object "java/lang/Object") 0 [] .null) ∧ (Sta Z Z.heap "java/util/ImmutableCollections" "EMPTY_LIST" "Ljava/util/ImmutableCollections$ListN;" (.ref (j 1))) ∧ (Exa Z Z.heap (j 1) "java/util/ImmutableCollections$ListN") ∧ (Fld Z Z.heap (j 1) "java/util/ImmutableCollections$ListN" "allowNulls" "Z" (.int 0)) ∧ (Sta Z Z.heap "java/util/ImmutableCollections" "EMPTY" "Ljava/lang/Object;" (.ref (j 2))) ∧ (Sta Z Z.heap "org/quorumweave/Segment$State" "OPEN" "Lorg/quorumweave/Segment$State;" (.ref (j 3))) ∧ (MirO Z "[Ljava/lang/Object;" (j 4))
theorem JS.sd {Z : State} {j : Sts} (J : JS Z j) : Sta Z Z.heap "java/util/ArrayList" "DEFAULTCAPACITY_EMPTY_ELEMENTDATA" "[Ljava/lang/Object;" (.ref (j 0)) := J.1
theorem JS.vd {Z : State} {j : Sts} (J : JS Z j) : ∃ k, Arv Z Z.heap (j 0) k (.object "java/lang/Object") 0 [] .null := J.2.1
theorem JS.se {Z : State} {j : Sts} (J : JS Z j) : Sta Z Z.heap "java/util/ImmutableCollections" "EMPTY_LIST" "Ljava/util/ImmutableCollections$ListN;" (.ref (j 1)) := J.2.2.1
theorem JS.ee {Z : State} {j : Sts} (J : JS Z j) : Exa Z Z.heap (j 1) "java/util/ImmutableCollections$ListN" := J.2.2.2.1
theorem JS.an {Z : State} {j : Sts} (J : JS Z j) : Fld Z Z.heap (j 1) "java/util/ImmutableCollections$ListN" "allowNulls" "Z" (.int 0) := J.2.2.2.2.1
theorem JS.sx {Z : State} {j : Sts} (J : JS Z j) : Sta Z Z.heap "java/util/ImmutableCollections" "EMPTY" "Ljava/lang/Object;" (.ref (j 2)) := J.2.2.2.2.2.1
theorem JS.so {Z : State} {j : Sts} (J : JS Z j) : Sta Z Z.heap "org/quorumweave/Segment$State" "OPEN" "Lorg/quorumweave/Segment$State;" (.ref (j 3)) := J.2.2.2.2.2.2.1
theorem JS.mo {Z : State} {j : Sts} (J : JS Z j) : MirO Z "[Ljava/lang/Object;" (j 4) := J.2.2.2.2.2.2.2
section own_lists
variable {p : Program} {l : Launch} {e : Env} {R : Room} {s : State} {m : MethodId} {args : Array Value} {below : List Frame} {meth : Method} {c : Code} {T : State} {locs : List Loc} {cells slots : Nat} {Z : State} {h : Heap} {a : Addr} {a0 : Array Value}
theorem own_inst {K : String} {n : Nat} (w : (Jvm.Cond.instantiable K n).before a0 Z = true) : ∃ t kt, Z.vm.findClass K = some t ∧ Z.vm.classes[t]? = some kt ∧ kt.kind = .ordinary ∧ kt.isInterface = false := by
  cases hc : Z.vm.findClass K with
  | none => simp [Cond.before, Cond.holds, Cond.value, hc] at w
  | some t =>
    cases hk : Z.vm.classes[t]? with
    | none => simp [Cond.before, Cond.holds, Cond.value, hc, hk] at w
    | some kt =>
      simp [Cond.before, Cond.holds, Cond.value, hc, hk] at w
      exact ⟨t, kt, rfl, hk, w.1.1.1, w.1.1.2.1⟩
theorem own_root {O K : String} {n : Nat} (w0 : (Jvm.Cond.noSuperclass O).before a0 Z = true) (wk : (Jvm.Cond.instantiable K n).before a0 Z = true) (hn : O ≠ K) : NS Z O K := by
  obtain ⟨t, kt, g0, -⟩ := own_inst wk
  obtain ⟨c, k, h1, h2, h3, -, -⟩ := Cond.noSuperclass_spec w0
  have ne := ids_ne h1 g0 hn
  refine ⟨c, t, h1, g0, fun fuel => ?_⟩
  cases fuel with
  | zero => rfl
  | succ f => simp [Vm.isSubclassAux, ne, h2, h3]
theorem own_not {C S K : String} {n : Nat} (w : (Jvm.Cond.superclass C S).before a0 Z = true) (wk : (Jvm.Cond.instantiable K n).before a0 Z = true) (nn : NS Z C K) (hn : C ≠ K) : ∃ c t, Z.vm.findClass C = some c ∧ Z.vm.findClass K = some t ∧ Z.vm.assignable c t = false := by
  obtain ⟨t, kt, g0, g2, g5, g6⟩ := own_inst wk
  obtain ⟨c, t', h0, g0', n3⟩ := nn
  cases g0.symm.trans g0'
  obtain ⟨p, k, kp, h1, h2, h3, h4, h5, -, h7⟩ := Cond.superclass_spec h0 w
  have ne := ids_ne h0 g0 hn
  refine ⟨c, t, h0, g0, ?_⟩
  show Z.vm.assignableAux (255 + 1) c t = false
  simp [Vm.assignableAux, ne, h2, g2, h5, g5, g6, Vm.isSubclass, n3]
theorem own_ldcM (X : Stand p l e R s m args below meth c T locs cells slots) (hx : p.tables.exec = Jvm.exec) (hZ : Z.Warmed39 s.vm) {own C : String} {index : Nat} (hown : s.vm.findClass own = some m.cls) (w : (Jvm.Cond.classLink own index C).before a0 Z = true) (eT : T.heap = h) {mr : Addr} (M : MirO Z C mr)
    {g : JFrame} (hg : g.method = m) (hd : decode c.code g.pc = .ok (.ldc index, 2)) : ∃ T', Stand p l e R s m args below meth c T' locs cells slots ∧ T'.heap = h ∧ ∀ target, Steps p.tables e below (T'.setTop { g with pc := g.pc + 2, stack := .ref mr :: g.stack }) target → Steps p.tables e below (T.setTop g) target := by
  obtain ⟨cc, kc, m1, m2, m3⟩ := M
  obtain ⟨k', q, ek⟩ := hZ.alike.2.2 _ _ m2
  obtain ⟨vm', X', st⟩ := X.ldcMirror hx hown (mv hZ w) (a := mr) (by simp only [Term.eval, Option.bind_eq_bind, Option.bind_eq_some_iff, Option.pure_def, Option.some.injEq]; exact ⟨cc, by rw [hZ.alike.findClass]; exact m1, k', q, mr, by rw [ek]; exact m3, rfl⟩) hg hd
  exact ⟨_, X', eT, st⟩
theorem own_gcls (X : Stand p l e R s m args below meth c T locs cells slots) (hx : p.tables.exec = Jvm.exec) (hZ : Z.Warmed39 s.vm) {own C : String} {index : Nat} (hown : s.vm.findClass own = some m.cls)
    (w1 : (Jvm.Cond.methodLink own index ⟨"java/lang/Object", "getClass", "()Ljava/lang/Class;"⟩).before a0 Z = true) (w2 : (Jvm.Cond.declares ⟨"java/lang/Object", "getClass", "()Ljava/lang/Class;"⟩).before a0 Z = true) (w3 : (Jvm.Cond.noSuperclass "java/lang/Object").before a0 Z = true) (w4 : (Jvm.Cond.selects C ⟨"java/lang/Object", "getClass", "()Ljava/lang/Class;"⟩ ⟨"java/lang/Object", "getClass", "()Ljava/lang/Class;"⟩).before a0 Z = true)
    (w5 : (Jvm.Cond.instanceMethod ⟨"java/lang/Object", "getClass", "()Ljava/lang/Class;"⟩).before a0 Z = true) (w6 : (Jvm.Cond.native ⟨"java/lang/Object", "getClass", "()Ljava/lang/Class;"⟩).before a0 Z = true) (eT : T.heap = h) (E : Exa Z h a C) {mr : Addr} (M : MirO Z C mr)
    {g : JFrame} (hg : g.method = m) (hsize : g.locals.size = c.maxLocals) {rest : List Value} (hs : g.stack = .ref a :: rest) (hd : decode c.code g.pc = .ok (.invokevirtual index, 3)) (hf : 1 ≤ R.frames) {W : Nat} (hW : 2 * g.monitorRoom + (rest.map fun v => v.category).sum ≤ W) (hl : W + (nativeFrameWords "java/lang/Object" "getClass" 1 + 11) ≤ R.locals) :
    ∃ T', Stand p l e R s m args below meth c T' locs cells slots ∧ T'.heap = h ∧ ∀ target, Steps p.tables e below (T'.setTop { g with pc := g.pc + 3, stack := .ref mr :: rest }) target → Steps p.tables e below (T.setTop g) target := by
  obtain ⟨cB, kB, i1, i2, i3⟩ := isOf hZ eT E
  obtain ⟨cc, kc, m1, m2, m3⟩ := M
  rw [hZ.alike.findClass] at i1
  cases i1.symm.trans m1
  obtain ⟨k', q, ek⟩ := hZ.alike.2.2 _ _ m2
  obtain ⟨vm', X', st⟩ := X.getClassOf hx hown (mvT hZ w1) (mvT hZ w2) (nf_top (args := #[]) (mvT hZ w3)) (mvT hZ w4) (mvT hZ w5) (mvT hZ w6) (by rw [hZ.alike.findClass]; exact m1) i3 q (by rw [ek]; exact m3) hg hsize hs hd hf (by omega)
  exact ⟨_, X', eT, st⟩
end own_lists
def fEx (v : Int64) : Int32 := if (0 : Int32) < lcmpW v 0 then 1 else 0

theorem no1 {Z : State} {a0 : Array Value} (hw : ∀ d ∈ tables_1, d.before a0 Z = true) : ∃ c t, Z.vm.findClass "java/util/ArrayList" = some c ∧ Z.vm.findClass "java/util/ImmutableCollections$List12" = some t ∧ Z.vm.assignable c t = false := own_not (hw _ (List.mem_of_getElem? (i := 75) rfl)) (hw _ (List.mem_of_getElem? (i := 210) rfl)) (NS.step (hw _ (List.mem_of_getElem? (i := 75) rfl)) (NS.step (hw _ (List.mem_of_getElem? (i := 76) rfl)) (NS.step (hw _ (List.mem_of_getElem? (i := 77) rfl)) (own_root (hw _ (List.mem_of_getElem? (i := 78) rfl)) (hw _ (List.mem_of_getElem? (i := 210) rfl)) (by decide)) (by decide)) (by decide)) (by decide)) (by decide)
theorem no2 {Z : State} {a0 : Array Value} (hw : ∀ d ∈ tables_1, d.before a0 Z = true) : ∃ c t, Z.vm.findClass "java/util/ArrayList" = some c ∧ Z.vm.findClass "java/util/ImmutableCollections$ListN" = some t ∧ Z.vm.assignable c t = false := NS.no (hw _ (List.mem_of_getElem? (i := 75) rfl)) (hw _ (List.mem_of_getElem? (i := 112) rfl)) (NS.step (hw _ (List.mem_of_getElem? (i := 75) rfl)) (NS.step (hw _ (List.mem_of_getElem? (i := 76) rfl)) (NS.step (hw _ (List.mem_of_getElem? (i := 77) rfl)) (NS.root (hw _ (List.mem_of_getElem? (i := 78) rfl)) (hw _ (List.mem_of_getElem? (i := 112) rfl)) (by decide)) (by decide)) (by decide)) (by decide)) (by decide)
theorem no3 {Z : State} {a0 : Array Value} (hw : ∀ d ∈ tables_1, d.before a0 Z = true) : ∃ c t, Z.vm.findClass "java/util/ImmutableCollections$ListN" = some c ∧ Z.vm.findClass "java/util/ImmutableCollections$List12" = some t ∧ Z.vm.assignable c t = false := own_not (hw _ (List.mem_of_getElem? (i := 112) rfl)) (hw _ (List.mem_of_getElem? (i := 210) rfl)) (NS.step (hw _ (List.mem_of_getElem? (i := 112) rfl)) (NS.step (hw _ (List.mem_of_getElem? (i := 113) rfl)) (NS.step (hw _ (List.mem_of_getElem? (i := 114) rfl)) (NS.step (hw _ (List.mem_of_getElem? (i := 77) rfl)) (own_root (hw _ (List.mem_of_getElem? (i := 78) rfl)) (hw _ (List.mem_of_getElem? (i := 210) rfl)) (by decide)) (by decide)) (by decide)) (by decide)) (by decide)) (by decide)
theorem d9_0 : decode jdk_22_method_1_code 0 = .ok (.aload_n 0, 1) := by decide +kernel
theorem d9_1 : decode jdk_22_method_1_code 1 = .ok (.invokespecial 1, 3) := by decide +kernel
theorem d9_4 : decode jdk_22_method_1_code 4 = .ok (.return_, 1) := by decide +kernel
theorem own_pn0 : plainName "java/util/AbstractCollection" = true := by first | (simp [plainName, overriddenIn]; done) | decide +kernel
theorem own_ef_rmAC (m : MethodId) (x0 : Addr) : entryFrame m #[(.ref x0)] 1 = mkF m 0 #[.val (.ref x0)] [] := by first | (simp [entryFrame, mkF, argsToLocals, Value.category]; done) | rfl
def Q_rmAC (Z : State) (x0 : Addr) (h0 : Heap) (n0 : Nat) : Option Value → Heap → List Loc → Prop := fun v h L => v = none ∧ Fr n0 L ∧ h = h0
set_option maxRecDepth 65536 in
set_option maxHeartbeats 40000000 in
theorem rmAC (l : Launch) (Z : State) (a0 : Array Value) (hw : ∀ d ∈ tables_1, d.before a0 Z = true) (ws : List Jvm.Cond) (x0 : Addr) (h0 : Heap) (n0 : Nat) (Z0 : n0 ≤ h0.size)  :
    Ctr l Z (⟨"java/util/AbstractCollection", "<init>", "()V"⟩ : MethodName) jdk_22_method_1_code 1 none ws ({ frames := 1, cells := 0, slots := 0, locals := 12 } : Room) #[(.ref x0)] h0 (Q_rmAC Z x0 h0 n0) := by
  refine Ctr.intro (plainFor_of_name own_pn0) ?_
  intro p e s m below meth c s₁ hx hby hml hown hnm hret hlk hZ X0 e0
  have hown : s.vm.findClass "java/util/AbstractCollection" = some m.cls := hown
  have hml : c.maxLocals = 1 := hml
  have N0 := Fr.nil n0
  refine Go.cast (own_ef_rmAC m x0) ?_
  show Go p e below s₁ (mkF m 0 #[.val (.ref x0)] []) _
  refine Go.of (fun _ k => XS.aloadN X0.here hx rfl (hb hby d9_0) rfl rfl  k) ?_
  show Go p e below s₁ (mkF m 1 #[.val (.ref x0)] [(.ref x0)]) _
  obtain ⟨T1, X1, e1, st1⟩ := initO X0 hx hZ hown (hw _ (List.mem_of_getElem? (i := 48) rfl)) (hw _ (List.mem_of_getElem? (i := 12) rfl)) (hw _ (List.mem_of_getElem? (i := 13) rfl)) e0 (g := (mkF m 1 #[.val (.ref x0)] [(.ref x0)])) rfl (by rw [hml]; rfl) rfl (hb hby d9_1) (by decide) (W := 0) (by show 2 * 0 + _ ≤ _; exact Nat.le_of_eq rfl) (by decide)
  refine Go.of (fun _ k => st1 _ k) ?_
  show Go p e below T1 (mkF m 4 #[.val (.ref x0)] []) _
  refine Go.ret0 X1 hx hret hlk (hb hby d9_4) e1 (by decide) (by decide) ?_
  exact ⟨rfl, N0, rfl⟩
theorem d32_0 : decode jdk_47_method_1_code 0 = .ok (.aload_n 0, 1) := by decide +kernel
theorem d32_1 : decode jdk_47_method_1_code 1 = .ok (.invokespecial 1, 3) := by decide +kernel
theorem own_pd0 : parseMethodDescriptor "()V" = some ⟨[], none⟩ := by decide +kernel
theorem d32_4 : decode jdk_47_method_1_code 4 = .ok (.return_, 1) := by decide +kernel
theorem own_pn1 : plainName "java/util/ImmutableCollections$AbstractImmutableCollection" = true := by first | (simp [plainName, overriddenIn]; done) | decide +kernel
theorem own_ef_rmAIC (m : MethodId) (x0 : Addr) : entryFrame m #[(.ref x0)] 1 = mkF m 0 #[.val (.ref x0)] [] := by first | (simp [entryFrame, mkF, argsToLocals, Value.category]; done) | rfl
def Q_rmAIC (Z : State) (x0 : Addr) (h0 : Heap) (n0 : Nat) : Option Value → Heap → List Loc → Prop := fun v h L => v = none ∧ Fr n0 L ∧ h = h0
set_option maxRecDepth 65536 in
set_option maxHeartbeats 40000000 in
theorem rmAIC (l : Launch) (Z : State) (a0 : Array Value) (hw : ∀ d ∈ tables_1, d.before a0 Z = true) (ws : List Jvm.Cond) (x0 : Addr) (h0 : Heap) (n0 : Nat) (Z0 : n0 ≤ h0.size)  :
    Ctr l Z (⟨"java/util/ImmutableCollections$AbstractImmutableCollection", "<init>", "()V"⟩ : MethodName) jdk_47_method_1_code 1 none ws ({ frames := 2, cells := 0, slots := 0, locals := 24 } : Room) #[(.ref x0)] h0 (Q_rmAIC Z x0 h0 n0) := by
  refine Ctr.intro (plainFor_of_name own_pn1) ?_
  intro p e s m below meth c s₁ hx hby hml hown hnm hret hlk hZ X0 e0
  have hown : s.vm.findClass "java/util/ImmutableCollections$AbstractImmutableCollection" = some m.cls := hown
  have hml : c.maxLocals = 1 := hml
  have N0 := Fr.nil n0
  refine Go.cast (own_ef_rmAIC m x0) ?_
  show Go p e below s₁ (mkF m 0 #[.val (.ref x0)] []) _
  refine Go.of (fun _ k => XS.aloadN X0.here hx rfl (hb hby d32_0) rfl rfl  k) ?_
  show Go p e below s₁ (mkF m 1 #[.val (.ref x0)] [(.ref x0)]) _
  obtain ⟨_, _, ⟨T1, L1, kq1, nq1⟩, -, X1, ⟨Lc1, hQ1, l1, y1, z1⟩, st1⟩ := X0.specialBack hx (y := (⟨"java/util/AbstractCollection", "<init>", "()V"⟩ : MethodName)) rfl hown (mvT hZ (hw _ (List.mem_of_getElem? (i := 228) rfl))) (mvT hZ (hw _ (List.mem_of_getElem? (i := 43) rfl))) (mvT hZ (hw _ (List.mem_of_getElem? (i := 47) rfl))) (by decide) (backOf (W := 0) (rmAC l Z a0 hw [] x0 h0 n0 Z0) hZ (hw _ (List.mem_of_getElem? (i := 47) rfl)) (hw _ (List.mem_of_getElem? (i := 46) rfl)) (by decide) (by decide)) (g := (mkF m 1 #[.val (.ref x0)] [(.ref x0)])) rfl (by rw [hml]; rfl) (Steps.refl _) (a := x0) (argsL := []) (rest := []) (lenOf own_pd0 rfl) rfl (by show 2 * 0 + _ ≤ _; exact Nat.le_of_eq rfl) (hb hby d32_1) (fun _ _ => ⟨rfl, e0, (by decide : 0 + 0 ≤ _), (by decide : 0 + 0 ≤ _)⟩)
  dsimp only [Pt.U, Pt.locs, Pt.cells, Pt.slots] at X1 l1 y1 z1 st1 hQ1
  subst l1 y1 z1
  obtain ⟨rfl, Nq1, e1⟩ := hQ1
  have e1 := e1.trans rfl
  have N1 := Fr.app N0 Nq1
  refine Go.of (fun _ k => st1.trans k) ?_
  show Go p e below T1 (mkF m 4 #[.val (.ref x0)] []) _
  refine Go.ret0 X1 hx hret hlk (hb hby d32_4) e1 (by decide) (by decide) ?_
  exact ⟨rfl, N1, rfl⟩
theorem d31_0 : decode jdk_46_method_1_code 0 = .ok (.aload_n 0, 1) := by decide +kernel
theorem d31_1 : decode jdk_46_method_1_code 1 = .ok (.invokespecial 1, 3) := by decide +kernel
theorem d31_4 : decode jdk_46_method_1_code 4 = .ok (.return_, 1) := by decide +kernel
theorem own_pn2 : plainName "java/util/ImmutableCollections$AbstractImmutableList" = true := by first | (simp [plainName, overriddenIn]; done) | decide +kernel
theorem own_ef_rmAIL (m : MethodId) (x0 : Addr) : entryFrame m #[(.ref x0)] 1 = mkF m 0 #[.val (.ref x0)] [] := by first | (simp [entryFrame, mkF, argsToLocals, Value.category]; done) | rfl
def Q_rmAIL (Z : State) (x0 : Addr) (h0 : Heap) (n0 : Nat) : Option Value → Heap → List Loc → Prop := fun v h L => v = none ∧ Fr n0 L ∧ h = h0
set_option maxRecDepth 65536 in
set_option maxHeartbeats 40000000 in
theorem rmAIL (l : Launch) (Z : State) (a0 : Array Value) (hw : ∀ d ∈ tables_1, d.before a0 Z = true) (ws : List Jvm.Cond) (x0 : Addr) (h0 : Heap) (n0 : Nat) (Z0 : n0 ≤ h0.size)  :
    Ctr l Z (⟨"java/util/ImmutableCollections$AbstractImmutableList", "<init>", "()V"⟩ : MethodName) jdk_46_method_1_code 1 none ws ({ frames := 3, cells := 0, slots := 0, locals := 36 } : Room) #[(.ref x0)] h0 (Q_rmAIL Z x0 h0 n0) := by
  refine Ctr.intro (plainFor_of_name own_pn2) ?_
  intro p e s m below meth c s₁ hx hby hml hown hnm hret hlk hZ X0 e0
  have hown : s.vm.findClass "java/util/ImmutableCollections$AbstractImmutableList" = some m.cls := hown
  have hml : c.maxLocals = 1 := hml
  have N0 := Fr.nil n0
  refine Go.cast (own_ef_rmAIL m x0) ?_
  show Go p e below s₁ (mkF m 0 #[.val (.ref x0)] []) _
  refine Go.of (fun _ k => XS.aloadN X0.here hx rfl (hb hby d31_0) rfl rfl  k) ?_
  show Go p e below s₁ (mkF m 1 #[.val (.ref x0)] [(.ref x0)]) _
  obtain ⟨_, _, ⟨T1, L1, kq1, nq1⟩, -, X1, ⟨Lc1, hQ1, l1, y1, z1⟩, st1⟩ := X0.specialBack hx (y := (⟨"java/util/ImmutableCollections$AbstractImmutableCollection", "<init>", "()V"⟩ : MethodName)) rfl hown (mvT hZ (hw _ (List.mem_of_getElem? (i := 222) rfl))) (mvT hZ (hw _ (List.mem_of_getElem? (i := 223) rfl))) (mvT hZ (hw _ (List.mem_of_getElem? (i := 227) rfl))) (by decide) (backOf (W := 0) (rmAIC l Z a0 hw [] x0 h0 n0 Z0) hZ (hw _ (List.mem_of_getElem? (i := 227) rfl)) (hw _ (List.mem_of_getElem? (i := 226) rfl)) (by decide) (by decide)) (g := (mkF m 1 #[.val (.ref x0)] [(.ref x0)])) rfl (by rw [hml]; rfl) (Steps.refl _) (a := x0) (argsL := []) (rest := []) (lenOf own_pd0 rfl) rfl (by show 2 * 0 + _ ≤ _; exact Nat.le_of_eq rfl) (hb hby d31_1) (fun _ _ => ⟨rfl, e0, (by decide : 0 + 0 ≤ _), (by decide : 0 + 0 ≤ _)⟩)
  dsimp only [Pt.U, Pt.locs, Pt.cells, Pt.slots] at X1 l1 y1 z1 st1 hQ1
  subst l1 y1 z1
  obtain ⟨rfl, Nq1, e1⟩ := hQ1
  have e1 := e1.trans rfl
  have N1 := Fr.app N0 Nq1
  refine Go.of (fun _ k => st1.trans k) ?_
  show Go p e below T1 (mkF m 4 #[.val (.ref x0)] []) _
  refine Go.ret0 X1 hx hret hlk (hb hby d31_4) e1 (by decide) (by decide) ?_
  exact ⟨rfl, N1, rfl⟩
theorem d11_0 : decode jdk_30_method_1_code 0 = .ok (.aload_n 0, 1) := by decide +kernel
theorem d11_1 : decode jdk_30_method_1_code 1 = .ok (.invokespecial 1, 3) := by decide +kernel
theorem d11_4 : decode jdk_30_method_1_code 4 = .ok (.return_, 1) := by decide +kernel
theorem own_pn3 : plainName "java/lang/Record" = true := by first | (simp [plainName, overriddenIn]; done) | decide +kernel
theorem own_ef_rmRec (m : MethodId) (x0 : Addr) : entryFrame m #[(.ref x0)] 1 = mkF m 0 #[.val (.ref x0)] [] := by first | (simp [entryFrame, mkF, argsToLocals, Value.category]; done) | rfl
def Q_rmRec (Z : State) (x0 : Addr) (h0 : Heap) (n0 : Nat) : Option Value → Heap → List Loc → Prop := fun v h L => v = none ∧ Fr n0 L ∧ h = h0
set_option maxRecDepth 65536 in
set_option maxHeartbeats 40000000 in
theorem rmRec (l : Launch) (Z : State) (a0 : Array Value) (hw : ∀ d ∈ tables_1, d.before a0 Z = true) (ws : List Jvm.Cond) (x0 : Addr) (h0 : Heap) (n0 : Nat) (Z0 : n0 ≤ h0.size)  :
    Ctr l Z (⟨"java/lang/Record", "<init>", "()V"⟩ : MethodName) jdk_30_method_1_code 1 none ws ({ frames := 1, cells := 0, slots := 0, locals := 12 } : Room) #[(.ref x0)] h0 (Q_rmRec Z x0 h0 n0) := by
  refine Ctr.intro (plainFor_of_name own_pn3) ?_
  intro p e s m below meth c s₁ hx hby hml hown hnm hret hlk hZ X0 e0
  have hown : s.vm.findClass "java/lang/Record" = some m.cls := hown
  have hml : c.maxLocals = 1 := hml
  have N0 := Fr.nil n0
  refine Go.cast (own_ef_rmRec m x0) ?_
  show Go p e below s₁ (mkF m 0 #[.val (.ref x0)] []) _
  refine Go.of (fun _ k => XS.aloadN X0.here hx rfl (hb hby d11_0) rfl rfl  k) ?_
  show Go p e below s₁ (mkF m 1 #[.val (.ref x0)] [(.ref x0)]) _
  obtain ⟨T1, X1, e1, st1⟩ := initO X0 hx hZ hown (hw _ (List.mem_of_getElem? (i := 65) rfl)) (hw _ (List.mem_of_getElem? (i := 12) rfl)) (hw _ (List.mem_of_getElem? (i := 13) rfl)) e0 (g := (mkF m 1 #[.val (.ref x0)] [(.ref x0)])) rfl (by rw [hml]; rfl) rfl (hb hby d11_1) (by decide) (W := 0) (by show 2 * 0 + _ ≤ _; exact Nat.le_of_eq rfl) (by decide)
  refine Go.of (fun _ k => st1 _ k) ?_
  show Go p e below T1 (mkF m 4 #[.val (.ref x0)] []) _
  refine Go.ret0 X1 hx hret hlk (hb hby d11_4) e1 (by decide) (by decide) ?_
  exact ⟨rfl, N0, rfl⟩
theorem d8_0 : decode jdk_39_method_1_code 0 = .ok (.aload_n 0, 1) := by decide +kernel
theorem d8_1 : decode jdk_39_method_1_code 1 = .ok (.invokespecial 1, 3) := by decide +kernel
theorem d8_4 : decode jdk_39_method_1_code 4 = .ok (.aload_n 0, 1) := by decide +kernel
theorem d8_5 : decode jdk_39_method_1_code 5 = .ok (.iconst 0, 1) := by decide +kernel
theorem d8_6 : decode jdk_39_method_1_code 6 = .ok (.putfield 7, 3) := by decide +kernel
theorem d8_9 : decode jdk_39_method_1_code 9 = .ok (.return_, 1) := by decide +kernel
theorem own_pn4 : plainName "java/util/AbstractList" = true := by first | (simp [plainName, overriddenIn]; done) | decide +kernel
theorem own_ef_rmAB (m : MethodId) (x0 : Addr) : entryFrame m #[(.ref x0)] 1 = mkF m 0 #[.val (.ref x0)] [] := by first | (simp [entryFrame, mkF, argsToLocals, Value.category]; done) | rfl
def Q_rmAB (Z : State) (x0 : Addr) (h0 : Heap) (n0 : Nat) : Option Value → Heap → List Loc → Prop := fun v h L => v = none ∧ Fr n0 L ∧ Keep h0 h [x0] ∧ Exa Z h x0 "java/util/ArrayList" ∧ Fld Z h x0 "java/util/AbstractList" "modCount" "I" (.int (0 : Int32)) ∧ Fld Z h x0 "java/util/ArrayList" "elementData" "[Ljava/lang/Object;" .null ∧ Fld Z h x0 "java/util/ArrayList" "size" "I" (.int (0 : Int32))
set_option maxRecDepth 65536 in
set_option maxHeartbeats 40000000 in
theorem rmAB (l : Launch) (Z : State) (a0 : Array Value) (hw : ∀ d ∈ tables_1, d.before a0 Z = true) (ws : List Jvm.Cond) (x0 : Addr) (h0 : Heap) (n0 : Nat) (Z0 : n0 ≤ h0.size) (g0 : n0 ≤ x0) (E_x0 : Exa Z h0 x0 "java/util/ArrayList") (Fm : Fld Z h0 x0 "java/util/AbstractList" "modCount" "I" (.int (0 : Int32))) (Fe : Fld Z h0 x0 "java/util/ArrayList" "elementData" "[Ljava/lang/Object;" .null) (Fs : Fld Z h0 x0 "java/util/ArrayList" "size" "I" (.int (0 : Int32))) :
    Ctr l Z (⟨"java/util/AbstractList", "<init>", "()V"⟩ : MethodName) jdk_39_method_1_code 1 none ws ({ frames := 2, cells := 0, slots := 0, locals := 24 } : Room) #[(.ref x0)] h0 (Q_rmAB Z x0 h0 n0) := by
  refine Ctr.intro (plainFor_of_name own_pn4) ?_
  intro p e s m below meth c s₁ hx hby hml hown hnm hret hlk hZ X0 e0
  have hown : s.vm.findClass "java/util/AbstractList" = some m.cls := hown
  have hml : c.maxLocals = 1 := hml
  have N0 := Fr.nil n0
  refine Go.cast (own_ef_rmAB m x0) ?_
  have KK := Keep.refl h0 [x0]
  show Go p e below s₁ (mkF m 0 #[.val (.ref x0)] []) _
  refine Go.of (fun _ k => XS.aloadN X0.here hx rfl (hb hby d8_0) rfl rfl  k) ?_
  show Go p e below s₁ (mkF m 1 #[.val (.ref x0)] [(.ref x0)]) _
  obtain ⟨_, _, ⟨T1, L1, kq1, nq1⟩, -, X1, ⟨Lc1, hQ1, l1, y1, z1⟩, st1⟩ := X0.specialBack hx (y := (⟨"java/util/AbstractCollection", "<init>", "()V"⟩ : MethodName)) rfl hown (mvT hZ (hw _ (List.mem_of_getElem? (i := 42) rfl))) (mvT hZ (hw _ (List.mem_of_getElem? (i := 43) rfl))) (mvT hZ (hw _ (List.mem_of_getElem? (i := 47) rfl))) (by decide) (backOf (W := 0) (rmAC l Z a0 hw [] x0 h0 n0 Z0) hZ (hw _ (List.mem_of_getElem? (i := 47) rfl)) (hw _ (List.mem_of_getElem? (i := 46) rfl)) (by decide) (by decide)) (g := (mkF m 1 #[.val (.ref x0)] [(.ref x0)])) rfl (by rw [hml]; rfl) (Steps.refl _) (a := x0) (argsL := []) (rest := []) (lenOf own_pd0 rfl) rfl (by show 2 * 0 + _ ≤ _; exact Nat.le_of_eq rfl) (hb hby d8_1) (fun _ _ => ⟨rfl, e0, (by decide : 0 + 0 ≤ _), (by decide : 0 + 0 ≤ _)⟩)
  dsimp only [Pt.U, Pt.locs, Pt.cells, Pt.slots] at X1 l1 y1 z1 st1 hQ1
  subst l1 y1 z1
  obtain ⟨rfl, Nq1, e1⟩ := hQ1
  have e1 := e1.trans rfl
  have N1 := Fr.app N0 Nq1
  refine Go.of (fun _ k => st1.trans k) ?_
  show Go p e below T1 (mkF m 4 #[.val (.ref x0)] []) _
  refine Go.of (fun _ k => XS.aloadN X1.here hx rfl (hb hby d8_4) rfl rfl  k) ?_
  show Go p e below T1 (mkF m 5 #[.val (.ref x0)] [(.ref x0)]) _
  refine Go.of (fun _ k => XS.iconst X1.here hx rfl (hb hby d8_5) k) ?_
  show Go p e below T1 (mkF m 6 #[.val (.ref x0)] [(.int (0 : Int32)), (.ref x0)]) _
  obtain ⟨T2, h2, X2, e2, W2, st2⟩ := putF X1 hx hZ hown (host := "") (Or.inl (hw _ (List.mem_of_getElem? (i := 49) rfl))) Via.refl e1 Fm E_x0 (Or.inl (hw _ (List.mem_of_getElem? (i := 50) rfl))) (hw _ (List.mem_of_getElem? (i := 31) rfl)) (ty := .int) (by decide) rfl rfl (g := (mkF m 6 #[.val (.ref x0)] [(.int (0 : Int32)), (.ref x0)])) rfl rfl (hb hby d8_6)
  have N2 := Fr.snoc X2 N1 g0
  have Fm := Fm.same W2
  have Z0 := Nat.le_trans Z0 (Keep.of_wr W2).1
  have KK := KK.wr W2 (Or.inl (List.mem_of_getElem? (i := 0) rfl))
  have E_x0 := E_x0.wr W2
  have Fe := Fe.other W2 (Or.inr (slot_ne (Or.inl (hw _ (List.mem_of_getElem? (i := 53) rfl))) (Or.inl (hw _ (List.mem_of_getElem? (i := 50) rfl))) (by decide) (t := (.array (.object "java/lang/Object"))) (t' := .int) (by decide) (by decide)))
  have Fs := Fs.other W2 (Or.inr (slot_ne (Or.inl (hw _ (List.mem_of_getElem? (i := 90) rfl))) (Or.inl (hw _ (List.mem_of_getElem? (i := 50) rfl))) (by decide) (t := .int) (t' := .int) (by decide) (by decide)))
  refine Go.of (fun _ k => st2 _ k) ?_
  show Go p e below T2 (mkF m 9 #[.val (.ref x0)] []) _
  refine Go.ret0 X2 hx hret hlk (hb hby d8_9) e2 (by decide) (by decide) ?_
  exact ⟨rfl, N2, KK, E_x0, Fm, Fe, Fs⟩
theorem d7_0 : decode jdk_38_method_2_code 0 = .ok (.aload_n 0, 1) := by decide +kernel
theorem d7_1 : decode jdk_38_method_2_code 1 = .ok (.invokespecial 1, 3) := by decide +kernel
theorem d7_4 : decode jdk_38_method_2_code 4 = .ok (.aload_n 0, 1) := by decide +kernel
theorem d7_5 : decode jdk_38_method_2_code 5 = .ok (.getstatic 39, 3) := by decide +kernel
theorem d7_8 : decode jdk_38_method_2_code 8 = .ok (.putfield 9, 3) := by decide +kernel
theorem d7_11 : decode jdk_38_method_2_code 11 = .ok (.return_, 1) := by decide +kernel
theorem own_pn5 : plainName "java/util/ArrayList" = true := by first | (simp [plainName, overriddenIn]; done) | decide +kernel
theorem own_ef_rmAL (m : MethodId) (x0 : Addr) : entryFrame m #[(.ref x0)] 1 = mkF m 0 #[.val (.ref x0)] [] := by first | (simp [entryFrame, mkF, argsToLocals, Value.category]; done) | rfl
def Q_rmAL (Z : State) (x0 : Addr) (j : Sts) (h0 : Heap) (n0 : Nat) : Option Value → Heap → List Loc → Prop := fun v h L => v = none ∧ Fr n0 L ∧ Keep h0 h [x0] ∧ Exa Z h x0 "java/util/ArrayList" ∧ Fld Z h x0 "java/util/AbstractList" "modCount" "I" (.int (0 : Int32)) ∧ Fld Z h x0 "java/util/ArrayList" "elementData" "[Ljava/lang/Object;" (.ref (j 0)) ∧ Fld Z h x0 "java/util/ArrayList" "size" "I" (.int (0 : Int32))
set_option maxRecDepth 65536 in
set_option maxHeartbeats 40000000 in
theorem rmAL (l : Launch) (Z : State) (a0 : Array Value) (hw : ∀ d ∈ tables_1, d.before a0 Z = true) (ws : List Jvm.Cond) (x0 : Addr) (j : Sts) (h0 : Heap) (n0 : Nat) (Z0 : n0 ≤ h0.size) (g0 : n0 ≤ x0) (OL : Old Z n0 h0) (J : JS Z j) (E_x0 : Exa Z h0 x0 "java/util/ArrayList") (Fm : Fld Z h0 x0 "java/util/AbstractList" "modCount" "I" (.int (0 : Int32))) (Fe : Fld Z h0 x0 "java/util/ArrayList" "elementData" "[Ljava/lang/Object;" .null) (Fs : Fld Z h0 x0 "java/util/ArrayList" "size" "I" (.int (0 : Int32))) :
    Ctr l Z (⟨"java/util/ArrayList", "<init>", "()V"⟩ : MethodName) jdk_38_method_2_code 1 none ws ({ frames := 3, cells := 0, slots := 0, locals := 36 } : Room) #[(.ref x0)] h0 (Q_rmAL Z x0 j h0 n0) := by
  refine Ctr.intro (plainFor_of_name own_pn5) ?_
  intro p e s m below meth c s₁ hx hby hml hown hnm hret hlk hZ X0 e0
  have hown : s.vm.findClass "java/util/ArrayList" = some m.cls := hown
  have hml : c.maxLocals = 1 := hml
  have N0 := Fr.nil n0
  refine Go.cast (own_ef_rmAL m x0) ?_
  have KK := Keep.refl h0 [x0]
  show Go p e below s₁ (mkF m 0 #[.val (.ref x0)] []) _
  refine Go.of (fun _ k => XS.aloadN X0.here hx rfl (hb hby d7_0) rfl rfl  k) ?_
  show Go p e below s₁ (mkF m 1 #[.val (.ref x0)] [(.ref x0)]) _
  obtain ⟨_, _, ⟨T1, L1, kq1, nq1⟩, -, X1, ⟨Lc1, hQ1, l1, y1, z1⟩, st1⟩ := X0.specialBack hx (y := (⟨"java/util/AbstractList", "<init>", "()V"⟩ : MethodName)) rfl hown (mvT hZ (hw _ (List.mem_of_getElem? (i := 36) rfl))) (mvT hZ (hw _ (List.mem_of_getElem? (i := 37) rfl))) (mvT hZ (hw _ (List.mem_of_getElem? (i := 41) rfl))) (by decide) (backOf (W := 0) (rmAB l Z a0 hw [] x0 h0 n0 Z0 g0 E_x0 Fm Fe Fs) hZ (hw _ (List.mem_of_getElem? (i := 41) rfl)) (hw _ (List.mem_of_getElem? (i := 40) rfl)) (by decide) (by decide)) (g := (mkF m 1 #[.val (.ref x0)] [(.ref x0)])) rfl (by rw [hml]; rfl) (Steps.refl _) (a := x0) (argsL := []) (rest := []) (lenOf own_pd0 rfl) rfl (by show 2 * 0 + _ ≤ _; exact Nat.le_of_eq rfl) (hb hby d7_1) (fun _ _ => ⟨rfl, e0, (by decide : 0 + 0 ≤ _), (by decide : 0 + 0 ≤ _)⟩)
  dsimp only [Pt.U, Pt.locs, Pt.cells, Pt.slots] at X1 l1 y1 z1 st1 hQ1
  subst l1 y1 z1
  obtain ⟨rfl, Nq1, Kq1, fq1_0, fq1_1, fq1_2, fq1_3⟩ := hQ1
  have N1 := Fr.app N0 Nq1
  have Z0 := Nat.le_trans Z0 Kq1.1
  have OL := OL.keep Kq1 (allS g0 all0)
  have KK := KK.trans Kq1 (allS (Or.inl (List.mem_of_getElem? (i := 0) rfl)) all0)
  have E_x0 := fq1_0
  have Fm := fq1_1
  have Fe := fq1_2
  have Fs := fq1_3
  refine Go.of (fun _ k => st1.trans k) ?_
  show Go p e below T1 (mkF m 4 #[.val (.ref x0)] []) _
  refine Go.of (fun _ k => XS.aloadN X1.here hx rfl (hb hby d7_4) rfl rfl  k) ?_
  show Go p e below T1 (mkF m 5 #[.val (.ref x0)] [(.ref x0)]) _
  obtain ⟨T2, X2, e2, st2⟩ := getS2 X1 hx hZ hown (host := "") (Or.inl (hw _ (List.mem_of_getElem? (i := 51) rfl))) Via.refl rfl (J.sd.ext OL.2) (g := (mkF m 5 #[.val (.ref x0)] [(.ref x0)])) rfl (hb hby d7_5)
  refine Go.of (fun _ k => st2 _ k) ?_
  show Go p e below T2 (mkF m 8 #[.val (.ref x0)] [(.ref (j 0)), (.ref x0)]) _
  obtain ⟨T3, h3, X3, e3, W3, st3⟩ := putF X2 hx hZ hown (host := "") (Or.inl (hw _ (List.mem_of_getElem? (i := 52) rfl))) Via.refl e2 Fe E_x0 (Or.inl (hw _ (List.mem_of_getElem? (i := 53) rfl))) (hw _ (List.mem_of_getElem? (i := 31) rfl)) (ty := (.array (.object "java/lang/Object"))) (by decide) rfl rfl (g := (mkF m 8 #[.val (.ref x0)] [(.ref (j 0)), (.ref x0)])) rfl rfl (hb hby d7_8)
  have N3 := Fr.snoc X3 N1 g0
  have Fe := Fe.same W3
  have Z0 := Nat.le_trans Z0 (Keep.of_wr W3).1
  have OL := OL.wr W3 g0
  have KK := KK.wr W3 (Or.inl (List.mem_of_getElem? (i := 0) rfl))
  have E_x0 := E_x0.wr W3
  have Fm := Fm.other W3 (Or.inr (slot_ne (Or.inl (hw _ (List.mem_of_getElem? (i := 50) rfl))) (Or.inl (hw _ (List.mem_of_getElem? (i := 53) rfl))) (by decide) (t := .int) (t' := (.array (.object "java/lang/Object"))) (by decide) (by decide)))
  have Fs := Fs.other W3 (Or.inr (slot_ne (Or.inl (hw _ (List.mem_of_getElem? (i := 90) rfl))) (Or.inl (hw _ (List.mem_of_getElem? (i := 53) rfl))) (by decide) (t := .int) (t' := (.array (.object "java/lang/Object"))) (by decide) (by decide)))
  refine Go.of (fun _ k => st3 _ k) ?_
  show Go p e below T3 (mkF m 11 #[.val (.ref x0)] []) _
  refine Go.ret0 X3 hx hret hlk (hb hby d7_11) e3 (by decide) (by decide) ?_
  exact ⟨rfl, N3, KK, E_x0, Fm, Fe, Fs⟩
theorem d14_0 : decode jdk_38_method_9_code 0 = .ok (.aload_n 0, 1) := by decide +kernel
theorem d14_1 : decode jdk_38_method_9_code 1 = .ok (.getfield 48, 3) := by decide +kernel
theorem d14_4 : decode jdk_38_method_9_code 4 = .ok (.ifCond .ne 7, 3) := by decide +kernel
theorem d14_7 : decode jdk_38_method_9_code 7 = .ok (.iconst 1, 1) := by decide +kernel
theorem d14_8 : decode jdk_38_method_9_code 8 = .ok (.goto 4, 3) := by decide +kernel
theorem d14_12 : decode jdk_38_method_9_code 12 = .ok (.ireturn, 1) := by decide +kernel
theorem own_ef_rmIE0 (m : MethodId) (x0 : Addr) : entryFrame m #[(.ref x0)] 1 = mkF m 0 #[.val (.ref x0)] [] := by first | (simp [entryFrame, mkF, argsToLocals, Value.category]; done) | rfl
def Q_rmIE0 (Z : State) (x0 : Addr) (h0 : Heap) (n0 : Nat) : Option Value → Heap → List Loc → Prop := fun v h L => v = some (.int 1) ∧ Fr n0 L ∧ h = h0
set_option maxRecDepth 65536 in
set_option maxHeartbeats 40000000 in
theorem rmIE0 (l : Launch) (Z : State) (a0 : Array Value) (hw : ∀ d ∈ tables_1, d.before a0 Z = true) (ws : List Jvm.Cond) (x0 : Addr) (h0 : Heap) (n0 : Nat) (Z0 : n0 ≤ h0.size) (Fs : Fld Z h0 x0 "java/util/ArrayList" "size" "I" (.int 0)) :
    Ctr l Z (⟨"java/util/ArrayList", "isEmpty", "()Z"⟩ : MethodName) jdk_38_method_9_code 1 (some .boolean) ws ({ frames := 0, cells := 0, slots := 0, locals := 0 } : Room) #[(.ref x0)] h0 (Q_rmIE0 Z x0 h0 n0) := by
  refine Ctr.intro (plainFor_of_name own_pn5) ?_
  intro p e s m below meth c s₁ hx hby hml hown hnm hret hlk hZ X0 e0
  have hown : s.vm.findClass "java/util/ArrayList" = some m.cls := hown
  have hml : c.maxLocals = 1 := hml
  have N0 := Fr.nil n0
  refine Go.cast (own_ef_rmIE0 m x0) ?_
  have KK := Keep.refl h0 []
  show Go p e below s₁ (mkF m 0 #[.val (.ref x0)] []) _
  refine Go.of (fun _ k => XS.aloadN X0.here hx rfl (hb hby d14_0) rfl rfl  k) ?_
  show Go p e below s₁ (mkF m 1 #[.val (.ref x0)] [(.ref x0)]) _
  obtain ⟨T1, X1, e1, st1⟩ := getF X0 hx hZ hown (host := "") (Or.inl (hw _ (List.mem_of_getElem? (i := 89) rfl))) Via.refl e0 Fs (g := (mkF m 1 #[.val (.ref x0)] [(.ref x0)])) rfl rfl (hb hby d14_1)
  refine Go.of (fun _ k => st1 _ k) ?_
  show Go p e below T1 (mkF m 4 #[.val (.ref x0)] [(.int (0 : Int32))]) _
  refine Go.of (fun _ k => XS.ifNo X1.here hx rfl (hb hby d14_4) rfl ((if0 _ _).trans (teq (show (0 : Int32) = (0 : Int32) from (by decide))).2) k) ?_
  show Go p e below T1 (mkF m 7 #[.val (.ref x0)] []) _
  refine Go.of (fun _ k => XS.iconst X1.here hx rfl (hb hby d14_7) k) ?_
  show Go p e below T1 (mkF m 8 #[.val (.ref x0)] [(.int (1 : Int32))]) _
  refine Go.of (fun _ k => XS.goto X1.here hx rfl (pc0 := 8) (pc' := 12) rfl (hb hby d14_8) (by decide) (by decide) k) ?_
  show Go p e below T1 (mkF m 12 #[.val (.ref x0)] [(.int (1 : Int32))]) _
  refine Go.retN X1 hx (t := .boolean) hret hlk (by simp) (hb hby d14_12) e1 (by decide) (by decide) ?_
  exact ⟨rfl, N0, rfl⟩
theorem d14_11 : decode jdk_38_method_9_code 11 = .ok (.iconst 0, 1) := by decide +kernel
theorem own_ef_rmIE1 (m : MethodId) (x0 : Addr) : entryFrame m #[(.ref x0)] 1 = mkF m 0 #[.val (.ref x0)] [] := by first | (simp [entryFrame, mkF, argsToLocals, Value.category]; done) | rfl
def Q_rmIE1 (Z : State) (x0 : Addr) (h0 : Heap) (n0 : Nat) : Option Value → Heap → List Loc → Prop := fun v h L => v = some (.int 0) ∧ Fr n0 L ∧ h = h0
set_option maxRecDepth 65536 in
set_option maxHeartbeats 40000000 in
theorem rmIE1 (l : Launch) (Z : State) (a0 : Array Value) (hw : ∀ d ∈ tables_1, d.before a0 Z = true) (ws : List Jvm.Cond) (x0 : Addr) (h0 : Heap) (n0 : Nat) (Z0 : n0 ≤ h0.size) (Fs : Fld Z h0 x0 "java/util/ArrayList" "size" "I" (.int 1)) :
    Ctr l Z (⟨"java/util/ArrayList", "isEmpty", "()Z"⟩ : MethodName) jdk_38_method_9_code 1 (some .boolean) ws ({ frames := 0, cells := 0, slots := 0, locals := 0 } : Room) #[(.ref x0)] h0 (Q_rmIE1 Z x0 h0 n0) := by
  refine Ctr.intro (plainFor_of_name own_pn5) ?_
  intro p e s m below meth c s₁ hx hby hml hown hnm hret hlk hZ X0 e0
  have hown : s.vm.findClass "java/util/ArrayList" = some m.cls := hown
  have hml : c.maxLocals = 1 := hml
  have N0 := Fr.nil n0
  refine Go.cast (own_ef_rmIE1 m x0) ?_
  have KK := Keep.refl h0 []
  show Go p e below s₁ (mkF m 0 #[.val (.ref x0)] []) _
  refine Go.of (fun _ k => XS.aloadN X0.here hx rfl (hb hby d14_0) rfl rfl  k) ?_
  show Go p e below s₁ (mkF m 1 #[.val (.ref x0)] [(.ref x0)]) _
  obtain ⟨T1, X1, e1, st1⟩ := getF X0 hx hZ hown (host := "") (Or.inl (hw _ (List.mem_of_getElem? (i := 89) rfl))) Via.refl e0 Fs (g := (mkF m 1 #[.val (.ref x0)] [(.ref x0)])) rfl rfl (hb hby d14_1)
  refine Go.of (fun _ k => st1 _ k) ?_
  show Go p e below T1 (mkF m 4 #[.val (.ref x0)] [(.int (1 : Int32))]) _
  refine Go.of (fun _ k => XS.ifYes X1.here hx rfl (pc0 := 4) (pc' := 11) rfl (hb hby d14_4) rfl ((if0 _ _).trans (feq (show ¬ ((1 : Int32) = (0 : Int32)) from (by decide))).2) (by decide) (by decide) k) ?_
  show Go p e below T1 (mkF m 11 #[.val (.ref x0)] []) _
  refine Go.of (fun _ k => XS.iconst X1.here hx rfl (hb hby d14_11) k) ?_
  show Go p e below T1 (mkF m 12 #[.val (.ref x0)] [(.int (0 : Int32))]) _
  refine Go.retN X1 hx (t := .boolean) hret hlk (by simp) (hb hby d14_12) e1 (by decide) (by decide) ?_
  exact ⟨rfl, N0, rfl⟩
theorem d15_0 : decode jdk_40_method_36_code 0 = .ok (.getstatic 90, 3) := by decide +kernel
theorem d15_3 : decode jdk_40_method_36_code 3 = .ok (.areturn, 1) := by decide +kernel
theorem own_pn6 : plainName "java/util/List" = true := by first | (simp [plainName, overriddenIn]; done) | decide +kernel
theorem own_ef_rmOf0 (m : MethodId)  : entryFrame m #[] 0 = mkF m 0 #[] [] := by first | (simp [entryFrame, mkF, argsToLocals, Value.category]; done) | rfl
def Q_rmOf0 (Z : State) (j : Sts) (h0 : Heap) (n0 : Nat) : Option Value → Heap → List Loc → Prop := fun v h L => v = some (.ref (j 1)) ∧ Fr n0 L ∧ h = h0
set_option maxRecDepth 65536 in
set_option maxHeartbeats 40000000 in
theorem rmOf0 (l : Launch) (Z : State) (a0 : Array Value) (hw : ∀ d ∈ tables_1, d.before a0 Z = true) (ws : List Jvm.Cond) (j : Sts) (h0 : Heap) (n0 : Nat) (Z0 : n0 ≤ h0.size) (OL : Old Z n0 h0) (J : JS Z j) :
    Ctr l Z (⟨"java/util/List", "of", "()Ljava/util/List;"⟩ : MethodName) jdk_40_method_36_code 0 (some (.object "java/util/List")) ws ({ frames := 0, cells := 0, slots := 0, locals := 0 } : Room) #[] h0 (Q_rmOf0 Z j h0 n0) := by
  refine Ctr.intro (plainFor_of_name own_pn6) ?_
  intro p e s m below meth c s₁ hx hby hml hown hnm hret hlk hZ X0 e0
  have hown : s.vm.findClass "java/util/List" = some m.cls := hown
  have hml : c.maxLocals = 0 := hml
  have N0 := Fr.nil n0
  refine Go.cast (own_ef_rmOf0 m ) ?_
  have KK := Keep.refl h0 []
  show Go p e below s₁ (mkF m 0 #[] []) _
  obtain ⟨T1, X1, e1, st1⟩ := getS2 X0 hx hZ hown (host := "") (Or.inl (hw _ (List.mem_of_getElem? (i := 94) rfl))) Via.refl e0 (J.se.ext OL.2) (g := (mkF m 0 #[] [])) rfl (hb hby d15_0)
  refine Go.of (fun _ k => st1 _ k) ?_
  show Go p e below T1 (mkF m 3 #[] [(.ref (j 1))]) _
  refine Go.retA X1 hx hret hlk rfl rfl (hb hby d15_3) e1 (by decide) (by decide) ?_
  exact ⟨rfl, N0, rfl⟩
theorem d16_0 : decode prog_14_method_3_code 0 = .ok (.aload_n 0, 1) := by decide +kernel
theorem d16_1 : decode prog_14_method_3_code 1 = .ok (.getfield 19, 3) := by decide +kernel
theorem d16_4 : decode prog_14_method_3_code 4 = .ok (.lconst 0, 1) := by decide +kernel
theorem d16_5 : decode prog_14_method_3_code 5 = .ok (.lcmp, 1) := by decide +kernel
theorem d16_6 : decode prog_14_method_3_code 6 = .ok (.ifCond .le 7, 3) := by decide +kernel
theorem d16_9 : decode prog_14_method_3_code 9 = .ok (.iconst 1, 1) := by decide +kernel
theorem d16_10 : decode prog_14_method_3_code 10 = .ok (.goto 4, 3) := by decide +kernel
theorem d16_14 : decode prog_14_method_3_code 14 = .ok (.ireturn, 1) := by decide +kernel
theorem d16_13 : decode prog_14_method_3_code 13 = .ok (.iconst 0, 1) := by decide +kernel
theorem own_pn7 : plainName "org/quorumweave/LogMetadata" = true := by first | (simp [plainName, overriddenIn]; done) | decide +kernel
theorem own_ef_rmEx (m : MethodId) (x0 : Addr) : entryFrame m #[(.ref x0)] 1 = mkF m 0 #[.val (.ref x0)] [] := by first | (simp [entryFrame, mkF, argsToLocals, Value.category]; done) | rfl
def Q_rmEx (Z : State) (x0 : Addr) (ver : Int64) (h0 : Heap) (n0 : Nat) : Option Value → Heap → List Loc → Prop := fun v h L => v = some (.int (fEx ver)) ∧ Fr n0 L ∧ h = h0
set_option maxRecDepth 65536 in
set_option maxHeartbeats 40000000 in
theorem rmEx (l : Launch) (Z : State) (a0 : Array Value) (hw : ∀ d ∈ tables_1, d.before a0 Z = true) (ws : List Jvm.Cond) (x0 : Addr) (ver : Int64) (h0 : Heap) (n0 : Nat) (Z0 : n0 ≤ h0.size) (Fv : Fld Z h0 x0 "org/quorumweave/LogMetadata" "version" "J" (.long ver)) :
    Ctr l Z (⟨"org/quorumweave/LogMetadata", "exists", "()Z"⟩ : MethodName) prog_14_method_3_code 1 (some .boolean) ws ({ frames := 0, cells := 0, slots := 0, locals := 0 } : Room) #[(.ref x0)] h0 (Q_rmEx Z x0 ver h0 n0) := by
  refine Ctr.intro (plainFor_of_name own_pn7) ?_
  intro p e s m below meth c s₁ hx hby hml hown hnm hret hlk hZ X0 e0
  have hown : s.vm.findClass "org/quorumweave/LogMetadata" = some m.cls := hown
  have hml : c.maxLocals = 1 := hml
  have N0 := Fr.nil n0
  refine Go.cast (own_ef_rmEx m x0) ?_
  have KK := Keep.refl h0 []
  show Go p e below s₁ (mkF m 0 #[.val (.ref x0)] []) _
  refine Go.of (fun _ k => XS.aloadN X0.here hx rfl (hb hby d16_0) rfl rfl  k) ?_
  show Go p e below s₁ (mkF m 1 #[.val (.ref x0)] [(.ref x0)]) _
  obtain ⟨T1, X1, e1, st1⟩ := getF X0 hx hZ hown (host := "") (Or.inl (hw _ (List.mem_of_getElem? (i := 97) rfl))) Via.refl e0 Fv (g := (mkF m 1 #[.val (.ref x0)] [(.ref x0)])) rfl rfl (hb hby d16_1)
  refine Go.of (fun _ k => st1 _ k) ?_
  show Go p e below T1 (mkF m 4 #[.val (.ref x0)] [(.long ver)]) _
  refine Go.of (fun _ k => XS.lconst X1.here hx rfl (hb hby d16_4) k) ?_
  show Go p e below T1 (mkF m 5 #[.val (.ref x0)] [(.long (0 : Int64)), (.long ver)]) _
  refine Go.of (fun _ k => XS.lcmp X1.here hx rfl (hb hby d16_5) rfl k) ?_
  show Go p e below T1 (mkF m 6 #[.val (.ref x0)] [(.int (lcmpW ver (0 : Int64)))]) _
  by_cases hc6_0 : (0 : Int32) < (lcmpW ver (0 : Int64))
  · refine Go.of (fun _ k => XS.ifNo X1.here hx rfl (hb hby d16_6) rfl ((if0 _ _).trans (tlt hc6_0).2.2.2) k) ?_
    show Go p e below T1 (mkF m 9 #[.val (.ref x0)] []) _
    refine Go.of (fun _ k => XS.iconst X1.here hx rfl (hb hby d16_9) k) ?_
    show Go p e below T1 (mkF m 10 #[.val (.ref x0)] [(.int (1 : Int32))]) _
    refine Go.of (fun _ k => XS.goto X1.here hx rfl (pc0 := 10) (pc' := 14) rfl (hb hby d16_10) (by decide) (by decide) k) ?_
    show Go p e below T1 (mkF m 14 #[.val (.ref x0)] [(.int (1 : Int32))]) _
    refine Go.retN X1 hx (t := .boolean) hret hlk (by simp) (hb hby d16_14) e1 (by decide) (by decide) ?_
    exact ⟨show some (Value.int (1 : Int32)) = _ from by simp [fEx, *], N0, rfl⟩
  · refine Go.of (fun _ k => XS.ifYes X1.here hx rfl (pc0 := 6) (pc' := 13) rfl (hb hby d16_6) rfl ((if0 _ _).trans (flt hc6_0).2.2.2) (by decide) (by decide) k) ?_
    show Go p e below T1 (mkF m 13 #[.val (.ref x0)] []) _
    refine Go.of (fun _ k => XS.iconst X1.here hx rfl (hb hby d16_13) k) ?_
    show Go p e below T1 (mkF m 14 #[.val (.ref x0)] [(.int (0 : Int32))]) _
    refine Go.retN X1 hx (t := .boolean) hret hlk (by simp) (hb hby d16_14) e1 (by decide) (by decide) ?_
    exact ⟨show some (Value.int (0 : Int32)) = _ from by simp [fEx, *], N0, rfl⟩
theorem d28_0 : decode jdk_29_method_69_code 0 = .ok (.iload_n 0, 1) := by decide +kernel
theorem d28_1 : decode jdk_29_method_69_code 1 = .ok (.iload_n 1, 1) := by decide +kernel
theorem d28_2 : decode jdk_29_method_69_code 2 = .ok (.if_icmp .gt 7, 3) := by decide +kernel
theorem d28_9 : decode jdk_29_method_69_code 9 = .ok (.iload_n 1, 1) := by decide +kernel
theorem d28_10 : decode jdk_29_method_69_code 10 = .ok (.ireturn, 1) := by decide +kernel
theorem own_ef_rmMin (m : MethodId) (x0 : Int32) (x1 : Int32) : entryFrame m #[(.int x0), (.int x1)] 2 = mkF m 0 #[.val (.int x0), .val (.int x1)] [] := by first | (simp [entryFrame, mkF, argsToLocals, Value.category]; done) | rfl
def Q_rmMin (Z : State) (x0 x1 : Int32) (h0 : Heap) (n0 : Nat) : Option Value → Heap → List Loc → Prop := fun v h L => v = some (.int x1) ∧ Fr n0 L ∧ h = h0
set_option maxRecDepth 65536 in
set_option maxHeartbeats 40000000 in
theorem rmMin (l : Launch) (Z : State) (a0 : Array Value) (hw : ∀ d ∈ tables_1, d.before a0 Z = true) (ws : List Jvm.Cond) (x0 x1 : Int32) (h0 : Heap) (n0 : Nat) (Z0 : n0 ≤ h0.size) (hm : x1 < x0) :
    Ctr l Z (⟨"java/lang/Math", "min", "(II)I"⟩ : MethodName) jdk_29_method_69_code 2 (some .int) ws ({ frames := 0, cells := 0, slots := 0, locals := 0 } : Room) #[(.int x0), (.int x1)] h0 (Q_rmMin Z x0 x1 h0 n0) := by
  refine Ctr.intro (Jvm.Free.JP.mathPlain rfl (by decide +kernel)) ?_
  intro p e s m below meth c s₁ hx hby hml hown hnm hret hlk hZ X0 e0
  have hown : s.vm.findClass "java/lang/Math" = some m.cls := hown
  have hml : c.maxLocals = 2 := hml
  have N0 := Fr.nil n0
  refine Go.cast (own_ef_rmMin m x0 x1) ?_
  show Go p e below s₁ (mkF m 0 #[.val (.int x0), .val (.int x1)] []) _
  refine Go.of (fun _ k => XS.iloadN X0.here hx rfl (hb hby d28_0) rfl  k) ?_
  show Go p e below s₁ (mkF m 1 #[.val (.int x0), .val (.int x1)] [(.int x0)]) _
  refine Go.of (fun _ k => XS.iloadN X0.here hx rfl (hb hby d28_1) rfl  k) ?_
  show Go p e below s₁ (mkF m 2 #[.val (.int x0), .val (.int x1)] [(.int x1), (.int x0)]) _
  refine Go.of (fun _ k => XS.icmpYes X0.here hx rfl (pc0 := 2) (pc' := 9) rfl (hb hby d28_2) rfl (tlt (show x1 < x0 from hm)).2.2.1 (by decide) (by decide) k) ?_
  show Go p e below s₁ (mkF m 9 #[.val (.int x0), .val (.int x1)] []) _
  refine Go.of (fun _ k => XS.iloadN X0.here hx rfl (hb hby d28_9) rfl  k) ?_
  show Go p e below s₁ (mkF m 10 #[.val (.int x0), .val (.int x1)] [(.int x1)]) _
  refine Go.retI X0 hx hret hlk (hb hby d28_10) e0 (by decide) (by decide) ?_
  exact ⟨rfl, N0, rfl⟩
theorem d24_0 : decode jdk_29_method_65_code 0 = .ok (.iload_n 0, 1) := by decide +kernel
theorem d24_1 : decode jdk_29_method_65_code 1 = .ok (.iload_n 1, 1) := by decide +kernel
theorem d24_2 : decode jdk_29_method_65_code 2 = .ok (.if_icmp .lt 7, 3) := by decide +kernel
theorem d24_5 : decode jdk_29_method_65_code 5 = .ok (.iload_n 0, 1) := by decide +kernel
theorem d24_6 : decode jdk_29_method_65_code 6 = .ok (.goto 4, 3) := by decide +kernel
theorem d24_10 : decode jdk_29_method_65_code 10 = .ok (.ireturn, 1) := by decide +kernel
theorem own_ef_rmMax (m : MethodId) (x0 : Int32) (x1 : Int32) : entryFrame m #[(.int x0), (.int x1)] 2 = mkF m 0 #[.val (.int x0), .val (.int x1)] [] := by first | (simp [entryFrame, mkF, argsToLocals, Value.category]; done) | rfl
def Q_rmMax (Z : State) (x0 x1 : Int32) (h0 : Heap) (n0 : Nat) : Option Value → Heap → List Loc → Prop := fun v h L => v = some (.int x0) ∧ Fr n0 L ∧ h = h0
set_option maxRecDepth 65536 in
set_option maxHeartbeats 40000000 in
theorem rmMax (l : Launch) (Z : State) (a0 : Array Value) (hw : ∀ d ∈ tables_1, d.before a0 Z = true) (ws : List Jvm.Cond) (x0 x1 : Int32) (h0 : Heap) (n0 : Nat) (Z0 : n0 ≤ h0.size) (hm : ¬ x0 < x1) :
    Ctr l Z (⟨"java/lang/Math", "max", "(II)I"⟩ : MethodName) jdk_29_method_65_code 2 (some .int) ws ({ frames := 0, cells := 0, slots := 0, locals := 0 } : Room) #[(.int x0), (.int x1)] h0 (Q_rmMax Z x0 x1 h0 n0) := by
  refine Ctr.intro (Jvm.Free.JP.mathPlain rfl (by decide +kernel)) ?_
  intro p e s m below meth c s₁ hx hby hml hown hnm hret hlk hZ X0 e0
  have hown : s.vm.findClass "java/lang/Math" = some m.cls := hown
  have hml : c.maxLocals = 2 := hml
  have N0 := Fr.nil n0
  refine Go.cast (own_ef_rmMax m x0 x1) ?_
  show Go p e below s₁ (mkF m 0 #[.val (.int x0), .val (.int x1)] []) _
  refine Go.of (fun _ k => XS.iloadN X0.here hx rfl (hb hby d24_0) rfl  k) ?_
  show Go p e below s₁ (mkF m 1 #[.val (.int x0), .val (.int x1)] [(.int x0)]) _
  refine Go.of (fun _ k => XS.iloadN X0.here hx rfl (hb hby d24_1) rfl  k) ?_
  show Go p e below s₁ (mkF m 2 #[.val (.int x0), .val (.int x1)] [(.int x1), (.int x0)]) _
  refine Go.of (fun _ k => XS.icmpNo X0.here hx rfl (hb hby d24_2) rfl (flt (show ¬ (x0 < x1) from hm)).1 k) ?_
  show Go p e below s₁ (mkF m 5 #[.val (.int x0), .val (.int x1)] []) _
  refine Go.of (fun _ k => XS.iloadN X0.here hx rfl (hb hby d24_5) rfl  k) ?_
  show Go p e below s₁ (mkF m 6 #[.val (.int x0), .val (.int x1)] [(.int x0)]) _
  refine Go.of (fun _ k => XS.goto X0.here hx rfl (pc0 := 6) (pc' := 10) rfl (hb hby d24_6) (by decide) (by decide) k) ?_
  show Go p e below s₁ (mkF m 10 #[.val (.int x0), .val (.int x1)] [(.int x0)]) _
  refine Go.retI X0 hx hret hlk (hb hby d24_10) e0 (by decide) (by decide) ?_
  exact ⟨rfl, N0, rfl⟩
theorem d33_0 : decode jdk_31_method_10_code 0 = .ok (.aload_n 0, 1) := by decide +kernel
theorem d33_1 : decode jdk_31_method_10_code 1 = .ok (.ifnonnull 11, 3) := by decide +kernel
theorem d33_12 : decode jdk_31_method_10_code 12 = .ok (.aload_n 0, 1) := by decide +kernel
theorem d33_13 : decode jdk_31_method_10_code 13 = .ok (.areturn, 1) := by decide +kernel
theorem own_pn8 : plainName "java/util/Objects" = true := by first | (simp [plainName, overriddenIn]; done) | decide +kernel
theorem own_ef_rmRN (m : MethodId) (x0 : Addr) : entryFrame m #[(.ref x0)] 1 = mkF m 0 #[.val (.ref x0)] [] := by first | (simp [entryFrame, mkF, argsToLocals, Value.category]; done) | rfl
def Q_rmRN (Z : State) (x0 : Addr) (h0 : Heap) (n0 : Nat) : Option Value → Heap → List Loc → Prop := fun v h L => v = some (.ref x0) ∧ Fr n0 L ∧ h = h0
set_option maxRecDepth 65536 in
set_option maxHeartbeats 40000000 in
theorem rmRN (l : Launch) (Z : State) (a0 : Array Value) (hw : ∀ d ∈ tables_1, d.before a0 Z = true) (ws : List Jvm.Cond) (x0 : Addr) (h0 : Heap) (n0 : Nat) (Z0 : n0 ≤ h0.size)  :
    Ctr l Z (⟨"java/util/Objects", "requireNonNull", "(Ljava/lang/Object;)Ljava/lang/Object;"⟩ : MethodName) jdk_31_method_10_code 1 (some (.object "java/lang/Object")) ws ({ frames := 0, cells := 0, slots := 0, locals := 0 } : Room) #[(.ref x0)] h0 (Q_rmRN Z x0 h0 n0) := by
  refine Ctr.intro (plainFor_of_name own_pn8) ?_
  intro p e s m below meth c s₁ hx hby hml hown hnm hret hlk hZ X0 e0
  have hown : s.vm.findClass "java/util/Objects" = some m.cls := hown
  have hml : c.maxLocals = 1 := hml
  have N0 := Fr.nil n0
  refine Go.cast (own_ef_rmRN m x0) ?_
  show Go p e below s₁ (mkF m 0 #[.val (.ref x0)] []) _
  refine Go.of (fun _ k => XS.aloadN X0.here hx rfl (hb hby d33_0) rfl rfl  k) ?_
  show Go p e below s₁ (mkF m 1 #[.val (.ref x0)] [(.ref x0)]) _
  refine Go.of (fun _ k => XS.ifnonnullYes X0.here hx rfl (pc0 := 1) (pc' := 12) rfl (hb hby d33_1) rfl (by decide) (by decide) k) ?_
  show Go p e below s₁ (mkF m 12 #[.val (.ref x0)] []) _
  refine Go.of (fun _ k => XS.aloadN X0.here hx rfl (hb hby d33_12) rfl rfl  k) ?_
  show Go p e below s₁ (mkF m 13 #[.val (.ref x0)] [(.ref x0)]) _
  refine Go.retA X0 hx hret hlk rfl rfl (hb hby d33_13) e0 (by decide) (by decide) ?_
  exact ⟨rfl, N0, rfl⟩
theorem d30_0 : decode jdk_44_method_1_code 0 = .ok (.aload_n 0, 1) := by decide +kernel
theorem d30_1 : decode jdk_44_method_1_code 1 = .ok (.invokespecial 1, 3) := by decide +kernel
theorem d30_4 : decode jdk_44_method_1_code 4 = .ok (.aload_n 0, 1) := by decide +kernel
theorem d30_5 : decode jdk_44_method_1_code 5 = .ok (.aload_n 1, 1) := by decide +kernel
theorem d30_6 : decode jdk_44_method_1_code 6 = .ok (.invokestatic 7, 3) := by decide +kernel
theorem own_pd1 : parseMethodDescriptor "(Ljava/lang/Object;)Ljava/lang/Object;" = some ⟨[(.object "java/lang/Object")], some (.object "java/lang/Object")⟩ := by decide +kernel
theorem d30_9 : decode jdk_44_method_1_code 9 = .ok (.putfield 13, 3) := by decide +kernel
theorem d30_12 : decode jdk_44_method_1_code 12 = .ok (.aload_n 0, 1) := by decide +kernel
theorem d30_13 : decode jdk_44_method_1_code 13 = .ok (.getstatic 19, 3) := by decide +kernel
theorem d30_16 : decode jdk_44_method_1_code 16 = .ok (.putfield 24, 3) := by decide +kernel
theorem d30_19 : decode jdk_44_method_1_code 19 = .ok (.return_, 1) := by decide +kernel
theorem own_pn9 : plainName "java/util/ImmutableCollections$List12" = true := by first | (simp [plainName, overriddenIn]; done) | decide +kernel
theorem own_ef_rmL12 (m : MethodId) (x0 : Addr) (x1 : Addr) : entryFrame m #[(.ref x0), (.ref x1)] 2 = mkF m 0 #[.val (.ref x0), .val (.ref x1)] [] := by first | (simp [entryFrame, mkF, argsToLocals, Value.category]; done) | rfl
def Q_rmL12 (Z : State) (x0 x1 : Addr) (j : Sts) (h0 : Heap) (n0 : Nat) : Option Value → Heap → List Loc → Prop := fun v h L => v = none ∧ Fr n0 L ∧ Keep h0 h [x0]
set_option maxRecDepth 65536 in
set_option maxHeartbeats 40000000 in
theorem rmL12 (l : Launch) (Z : State) (a0 : Array Value) (hw : ∀ d ∈ tables_1, d.before a0 Z = true) (ws : List Jvm.Cond) (x0 x1 : Addr) (j : Sts) (h0 : Heap) (n0 : Nat) (Z0 : n0 ≤ h0.size) (g0 : n0 ≤ x0) (OL : Old Z n0 h0) (J : JS Z j) (E_x0 : Exa Z h0 x0 "java/util/ImmutableCollections$List12") (F0 : Fld Z h0 x0 "java/util/ImmutableCollections$List12" "e0" "Ljava/lang/Object;" .null) (F1 : Fld Z h0 x0 "java/util/ImmutableCollections$List12" "e1" "Ljava/lang/Object;" .null) :
    Ctr l Z (⟨"java/util/ImmutableCollections$List12", "<init>", "(Ljava/lang/Object;)V"⟩ : MethodName) jdk_44_method_1_code 2 none ws ({ frames := 4, cells := 0, slots := 0, locals := 48 } : Room) #[(.ref x0), (.ref x1)] h0 (Q_rmL12 Z x0 x1 j h0 n0) := by
  refine Ctr.intro (plainFor_of_name own_pn9) ?_
  intro p e s m below meth c s₁ hx hby hml hown hnm hret hlk hZ X0 e0
  have hown : s.vm.findClass "java/util/ImmutableCollections$List12" = some m.cls := hown
  have hml : c.maxLocals = 2 := hml
  have N0 := Fr.nil n0
  refine Go.cast (own_ef_rmL12 m x0 x1) ?_
  have KK := Keep.refl h0 [x0]
  show Go p e below s₁ (mkF m 0 #[.val (.ref x0), .val (.ref x1)] []) _
  refine Go.of (fun _ k => XS.aloadN X0.here hx rfl (hb hby d30_0) rfl rfl  k) ?_
  show Go p e below s₁ (mkF m 1 #[.val (.ref x0), .val (.ref x1)] [(.ref x0)]) _
  obtain ⟨_, _, ⟨T1, L1, kq1, nq1⟩, -, X1, ⟨Lc1, hQ1, l1, y1, z1⟩, st1⟩ := X0.specialBack hx (y := (⟨"java/util/ImmutableCollections$AbstractImmutableList", "<init>", "()V"⟩ : MethodName)) rfl hown (mvT hZ (hw _ (List.mem_of_getElem? (i := 216) rfl))) (mvT hZ (hw _ (List.mem_of_getElem? (i := 217) rfl))) (mvT hZ (hw _ (List.mem_of_getElem? (i := 221) rfl))) (by decide) (backOf (W := 0) (rmAIL l Z a0 hw [] x0 h0 n0 Z0) hZ (hw _ (List.mem_of_getElem? (i := 221) rfl)) (hw _ (List.mem_of_getElem? (i := 220) rfl)) (by decide) (by decide)) (g := (mkF m 1 #[.val (.ref x0), .val (.ref x1)] [(.ref x0)])) rfl (by rw [hml]; rfl) (Steps.refl _) (a := x0) (argsL := []) (rest := []) (lenOf own_pd0 rfl) rfl (by show 2 * 0 + _ ≤ _; exact Nat.le_of_eq rfl) (hb hby d30_1) (fun _ _ => ⟨rfl, e0, (by decide : 0 + 0 ≤ _), (by decide : 0 + 0 ≤ _)⟩)
  dsimp only [Pt.U, Pt.locs, Pt.cells, Pt.slots] at X1 l1 y1 z1 st1 hQ1
  subst l1 y1 z1
  obtain ⟨rfl, Nq1, e1⟩ := hQ1
  have e1 := e1.trans rfl
  have N1 := Fr.app N0 Nq1
  refine Go.of (fun _ k => st1.trans k) ?_
  show Go p e below T1 (mkF m 4 #[.val (.ref x0), .val (.ref x1)] []) _
  refine Go.of (fun _ k => XS.aloadN X1.here hx rfl (hb hby d30_4) rfl rfl  k) ?_
  show Go p e below T1 (mkF m 5 #[.val (.ref x0), .val (.ref x1)] [(.ref x0)]) _
  refine Go.of (fun _ k => XS.aloadN X1.here hx rfl (hb hby d30_5) rfl rfl  k) ?_
  show Go p e below T1 (mkF m 6 #[.val (.ref x0), .val (.ref x1)] [(.ref x1), (.ref x0)]) _
  obtain ⟨_, _, ⟨T2, L2, kq2, nq2⟩, -, X2, ⟨Lc2, hQ2, l2, y2, z2⟩, st2⟩ := Jvm.LawKit.callS X1 hx (y := (⟨"java/util/Objects", "requireNonNull", "(Ljava/lang/Object;)Ljava/lang/Object;"⟩ : MethodName)) hown (mvT hZ (hw _ (List.mem_of_getElem? (i := 230) rfl))) (mvT hZ (hw _ (List.mem_of_getElem? (i := 231) rfl))) (mvT hZ (hw _ (List.mem_of_getElem? (i := 232) rfl))) (mvT hZ (hw _ (List.mem_of_getElem? (i := 233) rfl))) (by decide) (backOf (W := 1) (rmRN l Z a0 hw [] x1 h0 n0 Z0) hZ (hw _ (List.mem_of_getElem? (i := 233) rfl)) (hw _ (List.mem_of_getElem? (i := 232) rfl)) (by decide) (by decide)) (g := (mkF m 6 #[.val (.ref x0), .val (.ref x1)] [(.ref x1), (.ref x0)])) rfl (by rw [hml]; rfl) (argsL := [(.ref x1)]) (rest := [(.ref x0)]) (lenOf own_pd1 rfl) rfl (by show 2 * 0 + _ ≤ _; exact Nat.le_of_eq rfl) (hb hby d30_6) (fun _ _ => ⟨rfl, e1, (by decide : 0 + 0 ≤ _), (by decide : 0 + 0 ≤ _)⟩)
  dsimp only [Pt.U, Pt.locs, Pt.cells, Pt.slots] at X2 l2 y2 z2 st2 hQ2
  subst l2 y2 z2
  obtain ⟨rfl, Nq2, e2⟩ := hQ2
  have e2 := e2.trans rfl
  have N2 := Fr.app N1 Nq2
  refine Go.of (fun _ k => st2 _ k) ?_
  show Go p e below T2 (mkF m 9 #[.val (.ref x0), .val (.ref x1)] [(.ref x1), (.ref x0)]) _
  obtain ⟨T3, h3, X3, e3, W3, st3⟩ := putF X2 hx hZ hown (host := "") (Or.inl (hw _ (List.mem_of_getElem? (i := 234) rfl))) Via.refl e2 F0 E_x0 (Or.inr ⟨(hw _ (List.mem_of_getElem? (i := 235) rfl)), rfl, hnm⟩) (hw _ (List.mem_of_getElem? (i := 210) rfl)) (ty := (.object "java/lang/Object")) (by decide) rfl rfl (g := (mkF m 9 #[.val (.ref x0), .val (.ref x1)] [(.ref x1), (.ref x0)])) rfl rfl (hb hby d30_9)
  have N3 := Fr.snoc X3 N2 g0
  have F0 := F0.same W3
  have Z0 := Nat.le_trans Z0 (Keep.of_wr W3).1
  have OL := OL.wr W3 g0
  have KK := KK.wr W3 (Or.inl (List.mem_of_getElem? (i := 0) rfl))
  have E_x0 := E_x0.wr W3
  have F1 := F1.other W3 (Or.inr (slot_ne (Or.inr (hw _ (List.mem_of_getElem? (i := 238) rfl))) (Or.inr (hw _ (List.mem_of_getElem? (i := 235) rfl))) (by decide) (t := (.object "java/lang/Object")) (t' := (.object "java/lang/Object")) (by decide) (by decide)))
  refine Go.of (fun _ k => st3 _ k) ?_
  show Go p e below T3 (mkF m 12 #[.val (.ref x0), .val (.ref x1)] []) _
  refine Go.of (fun _ k => XS.aloadN X3.here hx rfl (hb hby d30_12) rfl rfl  k) ?_
  show Go p e below T3 (mkF m 13 #[.val (.ref x0), .val (.ref x1)] [(.ref x0)]) _
  obtain ⟨T4, X4, e4, st4⟩ := getS2 X3 hx hZ hown (Or.inr (hw _ (List.mem_of_getElem? (i := 236) rfl))) Via.refl e3 (J.sx.ext OL.2) (g := (mkF m 13 #[.val (.ref x0), .val (.ref x1)] [(.ref x0)])) rfl (hb hby d30_13)
  refine Go.of (fun _ k => st4 _ k) ?_
  show Go p e below T4 (mkF m 16 #[.val (.ref x0), .val (.ref x1)] [(.ref (j 2)), (.ref x0)]) _
  obtain ⟨T5, h5, X5, e5, W5, st5⟩ := putF X4 hx hZ hown (host := "") (Or.inl (hw _ (List.mem_of_getElem? (i := 237) rfl))) Via.refl e4 F1 E_x0 (Or.inr ⟨(hw _ (List.mem_of_getElem? (i := 238) rfl)), rfl, hnm⟩) (hw _ (List.mem_of_getElem? (i := 210) rfl)) (ty := (.object "java/lang/Object")) (by decide) rfl rfl (g := (mkF m 16 #[.val (.ref x0), .val (.ref x1)] [(.ref (j 2)), (.ref x0)])) rfl rfl (hb hby d30_16)
  have N5 := Fr.snoc X5 N3 g0
  have F1 := F1.same W5
  have Z0 := Nat.le_trans Z0 (Keep.of_wr W5).1
  have OL := OL.wr W5 g0
  have KK := KK.wr W5 (Or.inl (List.mem_of_getElem? (i := 0) rfl))
  have E_x0 := E_x0.wr W5
  have F0 := F0.other W5 (Or.inr (slot_ne (Or.inr (hw _ (List.mem_of_getElem? (i := 235) rfl))) (Or.inr (hw _ (List.mem_of_getElem? (i := 238) rfl))) (by decide) (t := (.object "java/lang/Object")) (t' := (.object "java/lang/Object")) (by decide) (by decide)))
  refine Go.of (fun _ k => st5 _ k) ?_
  show Go p e below T5 (mkF m 19 #[.val (.ref x0), .val (.ref x1)] []) _
  refine Go.ret0 X5 hx hret hlk (hb hby d30_19) e5 (by decide) (by decide) ?_
  exact ⟨rfl, N5, KK⟩
theorem d29_0 : decode jdk_40_method_47_code 0 = .ok (.aload_n 0, 1) := by decide +kernel
theorem d29_1 : decode jdk_40_method_47_code 1 = .ok (.arraylength, 1) := by decide +kernel
theorem d29_2 : decode jdk_40_method_47_code 2 = .ok (.tableswitch 57 0 2 #[26, 32, 43], 26) := by decide +kernel
theorem d29_34 : decode jdk_40_method_47_code 34 = .ok (.new 96, 3) := by decide +kernel
theorem d29_37 : decode jdk_40_method_47_code 37 = .ok (.dup, 1) := by decide +kernel
theorem d29_38 : decode jdk_40_method_47_code 38 = .ok (.aload_n 0, 1) := by decide +kernel
theorem d29_39 : decode jdk_40_method_47_code 39 = .ok (.iconst 0, 1) := by decide +kernel
theorem d29_40 : decode jdk_40_method_47_code 40 = .ok (.aaload, 1) := by decide +kernel
theorem d29_41 : decode jdk_40_method_47_code 41 = .ok (.invokespecial 98, 3) := by decide +kernel
theorem own_pd2 : parseMethodDescriptor "(Ljava/lang/Object;)V" = some ⟨[(.object "java/lang/Object")], none⟩ := by decide +kernel
theorem d29_44 : decode jdk_40_method_47_code 44 = .ok (.areturn, 1) := by decide +kernel
theorem own_ef_rmOf1 (m : MethodId) (x0 : Addr) : entryFrame m #[(.ref x0)] 2 = mkF m 0 #[.val (.ref x0), .unset] [] := by first | (simp [entryFrame, mkF, argsToLocals, Value.category]; done) | rfl
def Q_rmOf1 (Z : State) (x0 y : Addr) (kc : ClassId) (j : Sts) (h0 : Heap) (n0 : Nat) : Option Value → Heap → List Loc → Prop := fun v h L => ∃ r, v = some (.ref r) ∧ Fr n0 L ∧ Keep h0 h []
set_option maxRecDepth 65536 in
set_option maxHeartbeats 40000000 in
theorem rmOf1 (l : Launch) (Z : State) (a0 : Array Value) (hw : ∀ d ∈ tables_1, d.before a0 Z = true) (ws : List Jvm.Cond) (x0 y : Addr) (kc : ClassId) (j : Sts) (h0 : Heap) (n0 : Nat) (Z0 : n0 ≤ h0.size) (OL : Old Z n0 h0) (J : JS Z j) (Vc : Arv Z h0 x0 kc (.object "java/lang/Object") 1 [.ref y] .null) :
    Ctr l Z (⟨"java/util/List", "of", "([Ljava/lang/Object;)Ljava/util/List;"⟩ : MethodName) jdk_40_method_47_code 2 (some (.object "java/util/List")) ws ({ frames := 5, cells := 1, slots := 2, locals := 62 } : Room) #[(.ref x0)] h0 (Q_rmOf1 Z x0 y kc j h0 n0) := by
  refine Ctr.intro (plainFor_of_name own_pn6) ?_
  intro p e s m below meth c s₁ hx hby hml hown hnm hret hlk hZ X0 e0
  have hown : s.vm.findClass "java/util/List" = some m.cls := hown
  have hml : c.maxLocals = 2 := hml
  have N0 := Fr.nil n0
  refine Go.cast (own_ef_rmOf1 m x0) ?_
  have KK := Keep.refl h0 []
  show Go p e below s₁ (mkF m 0 #[.val (.ref x0), .unset] []) _
  refine Go.of (fun _ k => XS.aloadN X0.here hx rfl (hb hby d29_0) rfl rfl  k) ?_
  show Go p e below s₁ (mkF m 1 #[.val (.ref x0), .unset] [(.ref x0)]) _
  obtain ⟨cL1, AL1, -, SL1, -, -, -⟩ := id Vc
  refine Go.of (fun _ k => X0.arraylength hx (by rw [e0]; exact AL1.1) (State.isArrayOf_alike hZ.alike AL1.2.1) (g := (mkF m 1 #[.val (.ref x0), .unset] [(.ref x0)])) rfl rfl (hb hby d29_1) _ k) ?_
  rw [len_of SL1 (by decide)]
  show Go p e below s₁ (mkF m 2 #[.val (.ref x0), .unset] [(.int (1 : Int32))]) _
  refine Go.of (fun _ k => XS.tswIn X0.here hx rfl (pc0 := 2) (pc' := 34) (o := 32) rfl (hb hby d29_2) rfl (by decide) (by decide) (by decide) (by decide) k) ?_
  show Go p e below s₁ (mkF m 34 #[.val (.ref x0), .unset] []) _
  obtain ⟨T2, h2, X2, e2, E2, A2, D2, -, st2⟩ := newO X0 hx hZ hown (hw _ (List.mem_of_getElem? (i := 209) rfl)) (hw _ (List.mem_of_getElem? (i := 210) rfl)) (hw _ (List.mem_of_getElem? (i := 211) rfl)) e0 (g := (mkF m 34 #[.val (.ref x0), .unset] [])) rfl (hb hby d29_34) (by decide) (by decide)
  obtain ⟨ad2, g2⟩ : ∃ z, z = h0.size := ⟨_, rfl⟩
  rw [← g2] at A2 D2 st2
  have ne_x0_ad2 : x0 ≠ ad2 := Nat.ne_of_lt (Nat.lt_of_lt_of_le Vc.lt (Nat.le_of_eq g2.symm))
  have ge_ad2 : n0 ≤ ad2 := Nat.le_trans Z0 (Nat.le_of_eq g2.symm)
  have sz_ad2 : h0.size ≤ ad2 := Nat.le_trans KK.1 (Nat.le_of_eq g2.symm)
  have Z0 := Nat.le_trans Z0 E2.1
  have OL := OL.ext E2
  have KK := KK.ext E2
  have Vc := Vc.ext E2
  have E_ad2 := A2
  have F_e0_ad2 : Fld Z h2 ad2 "java/util/ImmutableCollections$List12" "e0" "Ljava/lang/Object;" .null := D2 (Or.inr (hw _ (List.mem_of_getElem? (i := 235) rfl))) (ty := (.object "java/lang/Object")) (by decide)
  have F_e1_ad2 : Fld Z h2 ad2 "java/util/ImmutableCollections$List12" "e1" "Ljava/lang/Object;" .null := D2 (Or.inr (hw _ (List.mem_of_getElem? (i := 238) rfl))) (ty := (.object "java/lang/Object")) (by decide)
  refine Go.of (fun _ k => st2 _ k) ?_
  show Go p e below T2 (mkF m 37 #[.val (.ref x0), .unset] [(.ref ad2)]) _
  refine Go.of (fun _ k => XS.dup X2.here hx rfl (hb hby d29_37) rfl rfl k) ?_
  show Go p e below T2 (mkF m 38 #[.val (.ref x0), .unset] [(.ref ad2), (.ref ad2)]) _
  refine Go.of (fun _ k => XS.aloadN X2.here hx rfl (hb hby d29_38) rfl rfl  k) ?_
  show Go p e below T2 (mkF m 39 #[.val (.ref x0), .unset] [(.ref x0), (.ref ad2), (.ref ad2)]) _
  refine Go.of (fun _ k => XS.iconst X2.here hx rfl (hb hby d29_39) k) ?_
  show Go p e below T2 (mkF m 40 #[.val (.ref x0), .unset] [(.int (0 : Int32)), (.ref x0), (.ref ad2), (.ref ad2)]) _
  obtain ⟨cA3, AA3, -, SA3, -, HA3, -⟩ := id Vc
  refine Go.of (fun _ k => X2.aaload hx (j := (0 : Int32)) (v := (.ref y)) (by rw [e2]; exact AA3.1) (State.isArrayOf_alike hZ.alike AA3.2.1) rfl AA3.2.2 (inb_of SA3 ⟨by decide, by decide⟩) (Has.at HA3 (inb_of SA3 ⟨by decide, by decide⟩) rfl) (g := (mkF m 40 #[.val (.ref x0), .unset] [(.int (0 : Int32)), (.ref x0), (.ref ad2), (.ref ad2)])) rfl rfl (hb hby d29_40) _ k) ?_
  show Go p e below T2 (mkF m 41 #[.val (.ref x0), .unset] [(.ref y), (.ref ad2), (.ref ad2)]) _
  obtain ⟨_, _, ⟨T4, L4, kq4, nq4⟩, -, X4, ⟨Lc4, hQ4, l4, y4, z4⟩, st4⟩ := X2.specialBack hx (y := (⟨"java/util/ImmutableCollections$List12", "<init>", "(Ljava/lang/Object;)V"⟩ : MethodName)) rfl hown (mvT hZ (hw _ (List.mem_of_getElem? (i := 212) rfl))) (mvT hZ (hw _ (List.mem_of_getElem? (i := 213) rfl))) (mvT hZ (hw _ (List.mem_of_getElem? (i := 215) rfl))) (by decide) (backOf (W := 1) (rmL12 l Z a0 hw [] ad2 y j h2 n0 Z0 ge_ad2 OL J E_ad2 F_e0_ad2 F_e1_ad2) hZ (hw _ (List.mem_of_getElem? (i := 215) rfl)) (hw _ (List.mem_of_getElem? (i := 211) rfl)) (by decide) (by decide)) (g := (mkF m 41 #[.val (.ref x0), .unset] [(.ref y), (.ref ad2), (.ref ad2)])) rfl (by rw [hml]; rfl) (Steps.refl _) (a := ad2) (argsL := [(.ref y)]) (rest := [(.ref ad2)]) (lenOf own_pd2 rfl) rfl (by show 2 * 0 + _ ≤ _; exact Nat.le_of_eq rfl) (hb hby d29_41) (fun _ _ => ⟨rfl, e2, (by decide : 1 + 0 ≤ _), (by decide : 2 + 0 ≤ _)⟩)
  dsimp only [Pt.U, Pt.locs, Pt.cells, Pt.slots] at X4 l4 y4 z4 st4 hQ4
  subst l4 y4 z4
  obtain ⟨rfl, Nq4, Kq4⟩ := hQ4
  have N4 := Fr.app N0 Nq4
  have Z0 := Nat.le_trans Z0 Kq4.1
  have OL := OL.keep Kq4 (allS ge_ad2 all0)
  have KK := KK.trans Kq4 (allS (Or.inr sz_ad2) all0)
  have Vc := Vc.keep Kq4 (ninS ne_x0_ad2 nin0)
  have E_ad2 := E_ad2.keep Kq4
  refine Go.of (fun _ k => st4.trans k) ?_
  show Go p e below T4 (mkF m 44 #[.val (.ref x0), .unset] [(.ref ad2)]) _
  refine Go.retA X4 hx hret hlk rfl rfl (hb hby d29_44) rfl (by decide) (by decide) ?_
  exact ⟨_, rfl, N4, KK⟩
theorem d27_0 : decode jdk_65_method_120_code 0 = .ok (.aload_n 2, 1) := by decide +kernel
theorem d27_1 : decode jdk_65_method_120_code 1 = .ok (.ldc 110, 2) := by decide +kernel
theorem d27_3 : decode jdk_65_method_120_code 3 = .ok (.if_acmp .ne 10, 3) := by decide +kernel
theorem d27_6 : decode jdk_65_method_120_code 6 = .ok (.iload_n 1, 1) := by decide +kernel
theorem d27_7 : decode jdk_65_method_120_code 7 = .ok (.anewarray 2, 3) := by decide +kernel
theorem d27_10 : decode jdk_65_method_120_code 10 = .ok (.goto 14, 3) := by decide +kernel
theorem d27_24 : decode jdk_65_method_120_code 24 = .ok (.astore_n 3, 1) := by decide +kernel
theorem d27_25 : decode jdk_65_method_120_code 25 = .ok (.aload_n 0, 1) := by decide +kernel
theorem d27_26 : decode jdk_65_method_120_code 26 = .ok (.iconst 0, 1) := by decide +kernel
theorem d27_27 : decode jdk_65_method_120_code 27 = .ok (.aload_n 3, 1) := by decide +kernel
theorem d27_28 : decode jdk_65_method_120_code 28 = .ok (.iconst 0, 1) := by decide +kernel
theorem d27_29 : decode jdk_65_method_120_code 29 = .ok (.aload_n 0, 1) := by decide +kernel
theorem d27_30 : decode jdk_65_method_120_code 30 = .ok (.arraylength, 1) := by decide +kernel
theorem d27_31 : decode jdk_65_method_120_code 31 = .ok (.iload_n 1, 1) := by decide +kernel
theorem d27_32 : decode jdk_65_method_120_code 32 = .ok (.invokestatic 304, 3) := by decide +kernel
theorem own_pd3 : parseMethodDescriptor "(II)I" = some ⟨[.int, .int], some .int⟩ := by decide +kernel
theorem d27_35 : decode jdk_65_method_120_code 35 = .ok (.invokestatic 150, 3) := by decide +kernel
theorem d27_38 : decode jdk_65_method_120_code 38 = .ok (.aload_n 3, 1) := by decide +kernel
theorem d27_39 : decode jdk_65_method_120_code 39 = .ok (.areturn, 1) := by decide +kernel
theorem own_pn10 : plainName "java/util/Arrays" = true := by first | (simp [plainName, overriddenIn]; done) | decide +kernel
theorem own_ef_rmC3 (m : MethodId) (b : Addr) (x2 : Addr) : entryFrame m #[(.ref b), (.int (1 : Int32)), (.ref x2)] 4 = mkF m 0 #[.val (.ref b), .val (.int (1 : Int32)), .val (.ref x2), .unset] [] := by first | (simp [entryFrame, mkF, argsToLocals, Value.category]; done) | rfl
def Q_rmC3 (Z : State) (b x2 y : Addr) (kb : ClassId) (h0 : Heap) (n0 : Nat) : Option Value → Heap → List Loc → Prop := fun v h L => ∃ (r : Addr) (kr : ClassId), v = some (.ref r) ∧ Fr n0 L ∧ Keep h0 h [] ∧ Arv Z h r kr (.object "java/lang/Object") 1 [.ref y] .null
set_option maxRecDepth 65536 in
set_option maxHeartbeats 40000000 in
theorem rmC3 (l : Launch) (Z : State) (a0 : Array Value) (hw : ∀ d ∈ tables_1, d.before a0 Z = true) (ws : List Jvm.Cond) (b x2 y : Addr) (kb : ClassId) (h0 : Heap) (n0 : Nat) (Z0 : n0 ≤ h0.size) (OL : Old Z n0 h0) (MO : MirO Z "[Ljava/lang/Object;" x2) (Vb : Arv Z h0 b kb (.object "java/lang/Object") 10 [.ref y, .null, .null, .null, .null, .null, .null, .null, .null, .null] .null) (E_y : Exa Z h0 y "org/quorumweave/Segment") :
    Ctr l Z (⟨"java/util/Arrays", "copyOf", "([Ljava/lang/Object;ILjava/lang/Class;)[Ljava/lang/Object;"⟩ : MethodName) jdk_65_method_120_code 4 (some (.array (.object "java/lang/Object"))) ws ({ frames := 1, cells := 1, slots := 1, locals := 18 } : Room) #[(.ref b), (.int (1 : Int32)), (.ref x2)] h0 (Q_rmC3 Z b x2 y kb h0 n0) := by
  refine Ctr.intro (plainFor_of_name own_pn10) ?_
  intro p e s m below meth c s₁ hx hby hml hown hnm hret hlk hZ X0 e0
  have hown : s.vm.findClass "java/util/Arrays" = some m.cls := hown
  have hml : c.maxLocals = 4 := hml
  have N0 := Fr.nil n0
  refine Go.cast (own_ef_rmC3 m b x2) ?_
  have KK := Keep.refl h0 []
  show Go p e below s₁ (mkF m 0 #[.val (.ref b), .val (.int (1 : Int32)), .val (.ref x2), .unset] []) _
  refine Go.of (fun _ k => XS.aloadN X0.here hx rfl (hb hby d27_0) rfl rfl  k) ?_
  show Go p e below s₁ (mkF m 1 #[.val (.ref b), .val (.int (1 : Int32)), .val (.ref x2), .unset] [(.ref x2)]) _
  obtain ⟨T1, X1, e1, st1⟩ := own_ldcM X0 hx hZ hown (hw _ (List.mem_of_getElem? (i := 197) rfl)) e0 MO (g := (mkF m 1 #[.val (.ref b), .val (.int (1 : Int32)), .val (.ref x2), .unset] [(.ref x2)])) rfl (hb hby d27_1)
  refine Go.of (fun _ k => st1 _ k) ?_
  show Go p e below T1 (mkF m 3 #[.val (.ref b), .val (.int (1 : Int32)), .val (.ref x2), .unset] [(.ref x2), (.ref x2)]) _
  refine Go.of (fun _ k => Jvm.RoadKit.acmp (g := (mkF m 3 #[.val (.ref b), .val (.int (1 : Int32)), .val (.ref x2), .unset] [(.ref x2), (.ref x2)])) X1 hx rfl rfl rfl (pc0 := 3) (pc' := 6) (same := true) rfl (hb hby d27_3) rfl (decide_eq_true rfl) (by decide) (by decide) k) ?_
  show Go p e below T1 (mkF m 6 #[.val (.ref b), .val (.int (1 : Int32)), .val (.ref x2), .unset] []) _
  refine Go.of (fun _ k => XS.iloadN X1.here hx rfl (hb hby d27_6) rfl  k) ?_
  show Go p e below T1 (mkF m 7 #[.val (.ref b), .val (.int (1 : Int32)), .val (.ref x2), .unset] [(.int (1 : Int32))]) _
  obtain ⟨T2, h2, kc2, X2, e2, E2, A2, Ov2, st2⟩ := newR X1 hx hZ hown (hw _ (List.mem_of_getElem? (i := 198) rfl)) (hw _ (List.mem_of_getElem? (i := 174) rfl)) e1 (g := (mkF m 7 #[.val (.ref b), .val (.int (1 : Int32)), .val (.ref x2), .unset] [(.int (1 : Int32))])) rfl (hb hby d27_7) rfl (by decide) (cap := 1) (by decide) (by decide) (by decide) (by decide)
  obtain ⟨ad2, g2⟩ : ∃ z, z = h0.size := ⟨_, rfl⟩
  rw [← g2] at A2 st2
  have ne_y_ad2 : y ≠ ad2 := Nat.ne_of_lt (Nat.lt_of_lt_of_le E_y.lt (Nat.le_of_eq g2.symm))
  have ne_b_ad2 : b ≠ ad2 := Nat.ne_of_lt (Nat.lt_of_lt_of_le Vb.lt (Nat.le_of_eq g2.symm))
  have ge_ad2 : n0 ≤ ad2 := Nat.le_trans Z0 (Nat.le_of_eq g2.symm)
  have sz_ad2 : h0.size ≤ ad2 := Nat.le_trans KK.1 (Nat.le_of_eq g2.symm)
  have Z0 := Nat.le_trans Z0 E2.1
  have OL := OL.ext E2
  have KK := KK.ext E2
  have E_y := E_y.ext E2
  have Vb := Vb.ext E2
  have V_ad2 : Arv Z h2 ad2 kc2 (.object "java/lang/Object") (1 : Int32) [.null] .null := (Arv.new A2 (by decide)).pad (pad_rep [] .null 1)
  refine Go.of (fun _ k => st2 _ k) ?_
  show Go p e below T2 (mkF m 10 #[.val (.ref b), .val (.int (1 : Int32)), .val (.ref x2), .unset] [(.ref ad2)]) _
  refine Go.of (fun _ k => XS.goto X2.here hx rfl (pc0 := 10) (pc' := 24) rfl (hb hby d27_10) (by decide) (by decide) k) ?_
  show Go p e below T2 (mkF m 24 #[.val (.ref b), .val (.int (1 : Int32)), .val (.ref x2), .unset] [(.ref ad2)]) _
  refine Go.of (fun _ k => XS.astoreN X2.here hx rfl (hb hby d27_24) rfl rfl (l' := #[.val (.ref b), .val (.int (1 : Int32)), .val (.ref x2), .val (.ref ad2)]) rfl k) ?_
  show Go p e below T2 (mkF m 25 #[.val (.ref b), .val (.int (1 : Int32)), .val (.ref x2), .val (.ref ad2)] []) _
  refine Go.of (fun _ k => XS.aloadN X2.here hx rfl (hb hby d27_25) rfl rfl  k) ?_
  show Go p e below T2 (mkF m 26 #[.val (.ref b), .val (.int (1 : Int32)), .val (.ref x2), .val (.ref ad2)] [(.ref b)]) _
  refine Go.of (fun _ k => XS.iconst X2.here hx rfl (hb hby d27_26) k) ?_
  show Go p e below T2 (mkF m 27 #[.val (.ref b), .val (.int (1 : Int32)), .val (.ref x2), .val (.ref ad2)] [(.int (0 : Int32)), (.ref b)]) _
  refine Go.of (fun _ k => XS.aloadN X2.here hx rfl (hb hby d27_27) rfl rfl  k) ?_
  show Go p e below T2 (mkF m 28 #[.val (.ref b), .val (.int (1 : Int32)), .val (.ref x2), .val (.ref ad2)] [(.ref ad2), (.int (0 : Int32)), (.ref b)]) _
  refine Go.of (fun _ k => XS.iconst X2.here hx rfl (hb hby d27_28) k) ?_
  show Go p e below T2 (mkF m 29 #[.val (.ref b), .val (.int (1 : Int32)), .val (.ref x2), .val (.ref ad2)] [(.int (0 : Int32)), (.ref ad2), (.int (0 : Int32)), (.ref b)]) _
  refine Go.of (fun _ k => XS.aloadN X2.here hx rfl (hb hby d27_29) rfl rfl  k) ?_
  show Go p e below T2 (mkF m 30 #[.val (.ref b), .val (.int (1 : Int32)), .val (.ref x2), .val (.ref ad2)] [(.ref b), (.int (0 : Int32)), (.ref ad2), (.int (0 : Int32)), (.ref b)]) _
  obtain ⟨cL3, AL3, -, SL3, -, -, -⟩ := id Vb
  refine Go.of (fun _ k => X2.arraylength hx (by rw [e2]; exact AL3.1) (State.isArrayOf_alike hZ.alike AL3.2.1) (g := (mkF m 30 #[.val (.ref b), .val (.int (1 : Int32)), .val (.ref x2), .val (.ref ad2)] [(.ref b), (.int (0 : Int32)), (.ref ad2), (.int (0 : Int32)), (.ref b)])) rfl rfl (hb hby d27_30) _ k) ?_
  rw [len_of SL3 (by decide)]
  show Go p e below T2 (mkF m 31 #[.val (.ref b), .val (.int (1 : Int32)), .val (.ref x2), .val (.ref ad2)] [(.int (10 : Int32)), (.int (0 : Int32)), (.ref ad2), (.int (0 : Int32)), (.ref b)]) _
  refine Go.of (fun _ k => XS.iloadN X2.here hx rfl (hb hby d27_31) rfl  k) ?_
  show Go p e below T2 (mkF m 32 #[.val (.ref b), .val (.int (1 : Int32)), .val (.ref x2), .val (.ref ad2)] [(.int (1 : Int32)), (.int (10 : Int32)), (.int (0 : Int32)), (.ref ad2), (.int (0 : Int32)), (.ref b)]) _
  obtain ⟨_, _, ⟨T4, L4, kq4, nq4⟩, -, X4, ⟨Lc4, hQ4, l4, y4, z4⟩, st4⟩ := Jvm.LawKit.callS X2 hx (y := (⟨"java/lang/Math", "min", "(II)I"⟩ : MethodName)) hown (mvT hZ (hw _ (List.mem_of_getElem? (i := 199) rfl))) (mvT hZ (hw _ (List.mem_of_getElem? (i := 200) rfl))) (mvT hZ (hw _ (List.mem_of_getElem? (i := 171) rfl))) (mvT hZ (hw _ (List.mem_of_getElem? (i := 201) rfl))) (by decide) (backOf (W := 4) (rmMin l Z a0 hw [] (10 : Int32) (1 : Int32) h2 n0 Z0 (by decide)) hZ (hw _ (List.mem_of_getElem? (i := 201) rfl)) (hw _ (List.mem_of_getElem? (i := 171) rfl)) (by decide) (by decide)) (g := (mkF m 32 #[.val (.ref b), .val (.int (1 : Int32)), .val (.ref x2), .val (.ref ad2)] [(.int (1 : Int32)), (.int (10 : Int32)), (.int (0 : Int32)), (.ref ad2), (.int (0 : Int32)), (.ref b)])) rfl (by rw [hml]; rfl) (argsL := [(.int (10 : Int32)), (.int (1 : Int32))]) (rest := [(.int (0 : Int32)), (.ref ad2), (.int (0 : Int32)), (.ref b)]) (lenOf own_pd3 rfl) rfl (by show 2 * 0 + _ ≤ _; exact Nat.le_of_eq rfl) (hb hby d27_32) (fun _ _ => ⟨rfl, e2, (by decide : 1 + 0 ≤ _), (by decide : 1 + 0 ≤ _)⟩)
  dsimp only [Pt.U, Pt.locs, Pt.cells, Pt.slots] at X4 l4 y4 z4 st4 hQ4
  subst l4 y4 z4
  obtain ⟨rfl, Nq4, e4⟩ := hQ4
  have e4 := e4.trans rfl
  have N4 := Fr.app N0 Nq4
  refine Go.of (fun _ k => st4 _ k) ?_
  show Go p e below T4 (mkF m 35 #[.val (.ref b), .val (.int (1 : Int32)), .val (.ref x2), .val (.ref ad2)] [(.int (1 : Int32)), (.int (0 : Int32)), (.ref ad2), (.int (0 : Int32)), (.ref b)]) _
  obtain ⟨cS5, AS5, qS5, -⟩ := id V_ad2
  obtain ⟨T5, h5, L5, X5, e5, N5, Kq5, Vq5, st5⟩ := cpA X4 hx hZ hown (hw _ (List.mem_of_getElem? (i := 202) rfl)) (hw _ (List.mem_of_getElem? (i := 205) rfl)) (hw _ (List.mem_of_getElem? (i := 203) rfl)) (hw _ (List.mem_of_getElem? (i := 204) rfl)) e4 Vb V_ad2 (us := [.ref y]) (Or.inr ⟨rfl, rfl, ⟨Sto.ofV AS5 qS5 Ov2 (Ins.of_exa E_y (hw _ (List.mem_of_getElem? (i := 175) rfl))), trivial⟩⟩) (by decide) (by decide) (by decide) (by decide) (by decide) rfl (by decide) N4 ge_ad2 (g := (mkF m 35 #[.val (.ref b), .val (.int (1 : Int32)), .val (.ref x2), .val (.ref ad2)] [(.int (1 : Int32)), (.int (0 : Int32)), (.ref ad2), (.int (0 : Int32)), (.ref b)])) rfl (by rw [hml]; rfl) rfl (hb hby d27_35) (by decide) (W := 0) (by show 2 * 0 + _ ≤ _; exact Nat.le_of_eq rfl) (by decide)
  refine Go.of (fun _ k => st5 _ k) ?_
  have Z0 := Nat.le_trans Z0 Kq5.1
  have OL := OL.keep Kq5 (allS ge_ad2 all0)
  have KK := KK.trans Kq5 (allS (Or.inr sz_ad2) all0)
  have E_y := E_y.keep Kq5
  have Vb := Vb.keep Kq5 (ninS ne_b_ad2 nin0)
  have V_ad2 : Arv Z h5 ad2 kc2 (.object "java/lang/Object") (1 : Int32) [.ref y] .null := Vq5
  show Go p e below T5 (mkF m 38 #[.val (.ref b), .val (.int (1 : Int32)), .val (.ref x2), .val (.ref ad2)] []) _
  refine Go.of (fun _ k => XS.aloadN X5.here hx rfl (hb hby d27_38) rfl rfl  k) ?_
  show Go p e below T5 (mkF m 39 #[.val (.ref b), .val (.int (1 : Int32)), .val (.ref x2), .val (.ref ad2)] [(.ref ad2)]) _
  refine Go.retA X5 hx hret hlk rfl rfl (hb hby d27_39) e5 (by decide) (by decide) ?_
  exact ⟨_, _, rfl, N5, KK, V_ad2⟩
theorem d26_0 : decode jdk_65_method_119_code 0 = .ok (.aload_n 0, 1) := by decide +kernel
theorem d26_1 : decode jdk_65_method_119_code 1 = .ok (.iload_n 1, 1) := by decide +kernel
theorem d26_2 : decode jdk_65_method_119_code 2 = .ok (.aload_n 0, 1) := by decide +kernel
theorem d26_3 : decode jdk_65_method_119_code 3 = .ok (.invokevirtual 86, 3) := by decide +kernel
theorem d26_6 : decode jdk_65_method_119_code 6 = .ok (.invokestatic 300, 3) := by decide +kernel
theorem own_pd4 : parseMethodDescriptor "([Ljava/lang/Object;ILjava/lang/Class;)[Ljava/lang/Object;" = some ⟨[(.array (.object "java/lang/Object")), .int, (.object "java/lang/Class")], some (.array (.object "java/lang/Object"))⟩ := by decide +kernel
theorem d26_9 : decode jdk_65_method_119_code 9 = .ok (.areturn, 1) := by decide +kernel
theorem own_ef_rmC2 (m : MethodId) (b : Addr) : entryFrame m #[(.ref b), (.int (1 : Int32))] 2 = mkF m 0 #[.val (.ref b), .val (.int (1 : Int32))] [] := by first | (simp [entryFrame, mkF, argsToLocals, Value.category]; done) | rfl
def Q_rmC2 (Z : State) (b y : Addr) (kb : ClassId) (j : Sts) (h0 : Heap) (n0 : Nat) : Option Value → Heap → List Loc → Prop := fun v h L => ∃ (r : Addr) (kr : ClassId), v = some (.ref r) ∧ Fr n0 L ∧ Keep h0 h [] ∧ Arv Z h r kr (.object "java/lang/Object") 1 [.ref y] .null
set_option maxRecDepth 65536 in
set_option maxHeartbeats 40000000 in
theorem rmC2 (l : Launch) (Z : State) (a0 : Array Value) (hw : ∀ d ∈ tables_1, d.before a0 Z = true) (ws : List Jvm.Cond) (b y : Addr) (kb : ClassId) (j : Sts) (h0 : Heap) (n0 : Nat) (Z0 : n0 ≤ h0.size) (OL : Old Z n0 h0) (J : JS Z j) (Vb : Arv Z h0 b kb (.object "java/lang/Object") 10 [.ref y, .null, .null, .null, .null, .null, .null, .null, .null, .null] .null) (E_y : Exa Z h0 y "org/quorumweave/Segment") (E_b : Exa Z h0 b "[Ljava/lang/Object;") :
    Ctr l Z (⟨"java/util/Arrays", "copyOf", "([Ljava/lang/Object;I)[Ljava/lang/Object;"⟩ : MethodName) jdk_65_method_119_code 2 (some (.array (.object "java/lang/Object"))) ws ({ frames := 2, cells := 1, slots := 1, locals := 33 } : Room) #[(.ref b), (.int (1 : Int32))] h0 (Q_rmC2 Z b y kb j h0 n0) := by
  refine Ctr.intro (plainFor_of_name own_pn10) ?_
  intro p e s m below meth c s₁ hx hby hml hown hnm hret hlk hZ X0 e0
  have hown : s.vm.findClass "java/util/Arrays" = some m.cls := hown
  have hml : c.maxLocals = 2 := hml
  have N0 := Fr.nil n0
  refine Go.cast (own_ef_rmC2 m b) ?_
  have KK := Keep.refl h0 []
  show Go p e below s₁ (mkF m 0 #[.val (.ref b), .val (.int (1 : Int32))] []) _
  refine Go.of (fun _ k => XS.aloadN X0.here hx rfl (hb hby d26_0) rfl rfl  k) ?_
  show Go p e below s₁ (mkF m 1 #[.val (.ref b), .val (.int (1 : Int32))] [(.ref b)]) _
  refine Go.of (fun _ k => XS.iloadN X0.here hx rfl (hb hby d26_1) rfl  k) ?_
  show Go p e below s₁ (mkF m 2 #[.val (.ref b), .val (.int (1 : Int32))] [(.int (1 : Int32)), (.ref b)]) _
  refine Go.of (fun _ k => XS.aloadN X0.here hx rfl (hb hby d26_2) rfl rfl  k) ?_
  show Go p e below s₁ (mkF m 3 #[.val (.ref b), .val (.int (1 : Int32))] [(.ref b), (.int (1 : Int32)), (.ref b)]) _
  obtain ⟨T1, X1, e1, st1⟩ := own_gcls X0 hx hZ hown (hw _ (List.mem_of_getElem? (i := 188) rfl)) (hw _ (List.mem_of_getElem? (i := 189) rfl)) (hw _ (List.mem_of_getElem? (i := 78) rfl)) (hw _ (List.mem_of_getElem? (i := 191) rfl)) (hw _ (List.mem_of_getElem? (i := 190) rfl)) (hw _ (List.mem_of_getElem? (i := 192) rfl)) e0 E_b J.mo (g := (mkF m 3 #[.val (.ref b), .val (.int (1 : Int32))] [(.ref b), (.int (1 : Int32)), (.ref b)])) rfl (by rw [hml]; rfl) rfl (hb hby d26_3) (by decide) (W := 2) (by show 2 * 0 + _ ≤ _; exact Nat.le_of_eq rfl) (by decide)
  refine Go.of (fun _ k => st1 _ k) ?_
  show Go p e below T1 (mkF m 6 #[.val (.ref b), .val (.int (1 : Int32))] [(.ref (j 4)), (.int (1 : Int32)), (.ref b)]) _
  obtain ⟨_, _, ⟨T2, L2, kq2, nq2⟩, -, X2, ⟨Lc2, hQ2, l2, y2, z2⟩, st2⟩ := Jvm.LawKit.callS X1 hx (y := (⟨"java/util/Arrays", "copyOf", "([Ljava/lang/Object;ILjava/lang/Class;)[Ljava/lang/Object;"⟩ : MethodName)) hown (mvT hZ (hw _ (List.mem_of_getElem? (i := 194) rfl))) (mvT hZ (hw _ (List.mem_of_getElem? (i := 195) rfl))) (mvT hZ (hw _ (List.mem_of_getElem? (i := 186) rfl))) (mvT hZ (hw _ (List.mem_of_getElem? (i := 196) rfl))) (by decide) (backOf (W := 0) (rmC3 l Z a0 hw [] b (j 4) y kb h0 n0 Z0 OL J.mo Vb E_y) hZ (hw _ (List.mem_of_getElem? (i := 196) rfl)) (hw _ (List.mem_of_getElem? (i := 186) rfl)) (by decide) (by decide)) (g := (mkF m 6 #[.val (.ref b), .val (.int (1 : Int32))] [(.ref (j 4)), (.int (1 : Int32)), (.ref b)])) rfl (by rw [hml]; rfl) (argsL := [(.ref b), (.int (1 : Int32)), (.ref (j 4))]) (rest := []) (lenOf own_pd4 rfl) rfl (by show 2 * 0 + _ ≤ _; exact Nat.le_of_eq rfl) (hb hby d26_6) (fun _ _ => ⟨rfl, e1, (by decide : 0 + 1 ≤ _), (by decide : 0 + 1 ≤ _)⟩)
  dsimp only [Pt.U, Pt.locs, Pt.cells, Pt.slots] at X2 l2 y2 z2 st2 hQ2
  subst l2 y2 z2
  obtain ⟨r, kr, rfl, Nq2, Kq2, fq2_0⟩ := hQ2
  have N2 := Fr.app N0 Nq2
  have Z0 := Nat.le_trans Z0 Kq2.1
  have OL := OL.keep Kq2 all0
  have KK := KK.trans Kq2 all0
  have E_y := E_y.keep Kq2
  have E_b := E_b.keep Kq2
  have Vb := Vb.keep Kq2 nin0
  have Vr := fq2_0
  refine Go.of (fun _ k => st2 _ k) ?_
  show Go p e below T2 (mkF m 9 #[.val (.ref b), .val (.int (1 : Int32))] [(.ref r)]) _
  refine Go.retA X2 hx hret hlk rfl rfl (hb hby d26_9) rfl (by decide) (by decide) ?_
  exact ⟨_, _, rfl, N2, KK, Vr⟩
theorem d25_0 : decode jdk_38_method_16_code 0 = .ok (.aload_n 0, 1) := by decide +kernel
theorem d25_1 : decode jdk_38_method_16_code 1 = .ok (.getfield 9, 3) := by decide +kernel
theorem d25_4 : decode jdk_38_method_16_code 4 = .ok (.aload_n 0, 1) := by decide +kernel
theorem d25_5 : decode jdk_38_method_16_code 5 = .ok (.getfield 48, 3) := by decide +kernel
theorem d25_8 : decode jdk_38_method_16_code 8 = .ok (.invokestatic 66, 3) := by decide +kernel
theorem own_pd5 : parseMethodDescriptor "([Ljava/lang/Object;I)[Ljava/lang/Object;" = some ⟨[(.array (.object "java/lang/Object")), .int], some (.array (.object "java/lang/Object"))⟩ := by decide +kernel
theorem d25_11 : decode jdk_38_method_16_code 11 = .ok (.areturn, 1) := by decide +kernel
theorem own_ef_rmTA (m : MethodId) (x0 : Addr) : entryFrame m #[(.ref x0)] 1 = mkF m 0 #[.val (.ref x0)] [] := by first | (simp [entryFrame, mkF, argsToLocals, Value.category]; done) | rfl
def Q_rmTA (Z : State) (x0 b y : Addr) (kb : ClassId) (j : Sts) (h0 : Heap) (n0 : Nat) : Option Value → Heap → List Loc → Prop := fun v h L => ∃ (r : Addr) (kr : ClassId), v = some (.ref r) ∧ Fr n0 L ∧ Keep h0 h [] ∧ Arv Z h r kr (.object "java/lang/Object") 1 [.ref y] .null
set_option maxRecDepth 65536 in
set_option maxHeartbeats 40000000 in
theorem rmTA (l : Launch) (Z : State) (a0 : Array Value) (hw : ∀ d ∈ tables_1, d.before a0 Z = true) (ws : List Jvm.Cond) (x0 b y : Addr) (kb : ClassId) (j : Sts) (h0 : Heap) (n0 : Nat) (Z0 : n0 ≤ h0.size) (OL : Old Z n0 h0) (J : JS Z j) (Fe : Fld Z h0 x0 "java/util/ArrayList" "elementData" "[Ljava/lang/Object;" (.ref b)) (Fs : Fld Z h0 x0 "java/util/ArrayList" "size" "I" (.int 1))  (Vb : Arv Z h0 b kb (.object "java/lang/Object") 10 [.ref y, .null, .null, .null, .null, .null, .null, .null, .null, .null] .null) (E_y : Exa Z h0 y "org/quorumweave/Segment") (E_b : Exa Z h0 b "[Ljava/lang/Object;") :
    Ctr l Z (⟨"java/util/ArrayList", "toArray", "()[Ljava/lang/Object;"⟩ : MethodName) jdk_38_method_16_code 1 (some (.array (.object "java/lang/Object"))) ws ({ frames := 3, cells := 1, slots := 1, locals := 46 } : Room) #[(.ref x0)] h0 (Q_rmTA Z x0 b y kb j h0 n0) := by
  refine Ctr.intro (plainFor_of_name own_pn5) ?_
  intro p e s m below meth c s₁ hx hby hml hown hnm hret hlk hZ X0 e0
  have hown : s.vm.findClass "java/util/ArrayList" = some m.cls := hown
  have hml : c.maxLocals = 1 := hml
  have N0 := Fr.nil n0
  refine Go.cast (own_ef_rmTA m x0) ?_
  have KK := Keep.refl h0 []
  show Go p e below s₁ (mkF m 0 #[.val (.ref x0)] []) _
  refine Go.of (fun _ k => XS.aloadN X0.here hx rfl (hb hby d25_0) rfl rfl  k) ?_
  show Go p e below s₁ (mkF m 1 #[.val (.ref x0)] [(.ref x0)]) _
  obtain ⟨T1, X1, e1, st1⟩ := getF X0 hx hZ hown (host := "") (Or.inl (hw _ (List.mem_of_getElem? (i := 52) rfl))) Via.refl e0 Fe (g := (mkF m 1 #[.val (.ref x0)] [(.ref x0)])) rfl rfl (hb hby d25_1)
  refine Go.of (fun _ k => st1 _ k) ?_
  show Go p e below T1 (mkF m 4 #[.val (.ref x0)] [(.ref b)]) _
  refine Go.of (fun _ k => XS.aloadN X1.here hx rfl (hb hby d25_4) rfl rfl  k) ?_
  show Go p e below T1 (mkF m 5 #[.val (.ref x0)] [(.ref x0), (.ref b)]) _
  obtain ⟨T2, X2, e2, st2⟩ := getF X1 hx hZ hown (host := "") (Or.inl (hw _ (List.mem_of_getElem? (i := 89) rfl))) Via.refl e1 Fs (g := (mkF m 5 #[.val (.ref x0)] [(.ref x0), (.ref b)])) rfl rfl (hb hby d25_5)
  refine Go.of (fun _ k => st2 _ k) ?_
  show Go p e below T2 (mkF m 8 #[.val (.ref x0)] [(.int (1 : Int32)), (.ref b)]) _
  obtain ⟨_, _, ⟨T3, L3, kq3, nq3⟩, -, X3, ⟨Lc3, hQ3, l3, y3, z3⟩, st3⟩ := Jvm.LawKit.callS X2 hx (y := (⟨"java/util/Arrays", "copyOf", "([Ljava/lang/Object;I)[Ljava/lang/Object;"⟩ : MethodName)) hown (mvT hZ (hw _ (List.mem_of_getElem? (i := 184) rfl))) (mvT hZ (hw _ (List.mem_of_getElem? (i := 185) rfl))) (mvT hZ (hw _ (List.mem_of_getElem? (i := 186) rfl))) (mvT hZ (hw _ (List.mem_of_getElem? (i := 187) rfl))) (by decide) (backOf (W := 0) (rmC2 l Z a0 hw [] b y kb j h0 n0 Z0 OL J Vb E_y E_b) hZ (hw _ (List.mem_of_getElem? (i := 187) rfl)) (hw _ (List.mem_of_getElem? (i := 186) rfl)) (by decide) (by decide)) (g := (mkF m 8 #[.val (.ref x0)] [(.int (1 : Int32)), (.ref b)])) rfl (by rw [hml]; rfl) (argsL := [(.ref b), (.int (1 : Int32))]) (rest := []) (lenOf own_pd5 rfl) rfl (by show 2 * 0 + _ ≤ _; exact Nat.le_of_eq rfl) (hb hby d25_8) (fun _ _ => ⟨rfl, e2, (by decide : 0 + 1 ≤ _), (by decide : 0 + 1 ≤ _)⟩)
  dsimp only [Pt.U, Pt.locs, Pt.cells, Pt.slots] at X3 l3 y3 z3 st3 hQ3
  subst l3 y3 z3
  obtain ⟨r, kr, rfl, Nq3, Kq3, fq3_0⟩ := hQ3
  have N3 := Fr.app N0 Nq3
  have Z0 := Nat.le_trans Z0 Kq3.1
  have OL := OL.keep Kq3 all0
  have KK := KK.trans Kq3 all0
  have E_y := E_y.keep Kq3
  have E_b := E_b.keep Kq3
  have Fe := Fe.keep Kq3 nin0
  have Fs := Fs.keep Kq3 nin0
  have Vb := Vb.keep Kq3 nin0
  have Vr := fq3_0
  refine Go.of (fun _ k => st3 _ k) ?_
  show Go p e below T3 (mkF m 11 #[.val (.ref x0)] [(.ref r)]) _
  refine Go.retA X3 hx hret hlk rfl rfl (hb hby d25_11) rfl (by decide) (by decide) ?_
  exact ⟨_, _, rfl, N3, KK, Vr⟩
theorem d13_0 : decode jdk_56_method_3_code 0 = .ok (.aload_n 0, 1) := by decide +kernel
theorem d13_1 : decode jdk_56_method_3_code 1 = .ok (.instanceof 10, 3) := by decide +kernel
theorem d13_4 : decode jdk_56_method_3_code 4 = .ok (.ifCond .ne 22, 3) := by decide +kernel
theorem d13_7 : decode jdk_56_method_3_code 7 = .ok (.aload_n 0, 1) := by decide +kernel
theorem d13_8 : decode jdk_56_method_3_code 8 = .ok (.instanceof 12, 3) := by decide +kernel
theorem d13_11 : decode jdk_56_method_3_code 11 = .ok (.ifCond .eq 20, 3) := by decide +kernel
theorem d13_31 : decode jdk_56_method_3_code 31 = .ok (.aload_n 0, 1) := by decide +kernel
theorem d13_32 : decode jdk_56_method_3_code 32 = .ok (.invokeinterface 20 1, 5) := by decide +kernel
theorem own_pd6 : parseMethodDescriptor "()Z" = some ⟨[], some .boolean⟩ := by decide +kernel
theorem d13_37 : decode jdk_56_method_3_code 37 = .ok (.ifCond .eq 7, 3) := by decide +kernel
theorem d13_40 : decode jdk_56_method_3_code 40 = .ok (.invokestatic 26, 3) := by decide +kernel
theorem own_pd7 : parseMethodDescriptor "()Ljava/util/List;" = some ⟨[], some (.object "java/util/List")⟩ := by decide +kernel
theorem d13_43 : decode jdk_56_method_3_code 43 = .ok (.areturn, 1) := by decide +kernel
theorem own_pn11 : plainName "java/util/ImmutableCollections" = true := by first | (simp [plainName, overriddenIn]; done) | decide +kernel
theorem own_ef_rmLCa (m : MethodId) (x0 : Addr) : entryFrame m #[(.ref x0)] 2 = mkF m 0 #[.val (.ref x0), .unset] [] := by first | (simp [entryFrame, mkF, argsToLocals, Value.category]; done) | rfl
def Q_rmLCa (Z : State) (x0 : Addr) (j : Sts) (h0 : Heap) (n0 : Nat) : Option Value → Heap → List Loc → Prop := fun v h L => v = some (.ref (j 1)) ∧ Fr n0 L ∧ h = h0
set_option maxRecDepth 65536 in
set_option maxHeartbeats 40000000 in
theorem rmLCa (l : Launch) (Z : State) (a0 : Array Value) (hw : ∀ d ∈ tables_1, d.before a0 Z = true) (ws : List Jvm.Cond) (x0 : Addr) (j : Sts) (h0 : Heap) (n0 : Nat) (Z0 : n0 ≤ h0.size) (OL : Old Z n0 h0) (J : JS Z j) (E_x0 : Exa Z h0 x0 "java/util/ArrayList") (Fs : Fld Z h0 x0 "java/util/ArrayList" "size" "I" (.int 0)) :
    Ctr l Z (⟨"java/util/ImmutableCollections", "listCopy", "(Ljava/util/Collection;)Ljava/util/List;"⟩ : MethodName) jdk_56_method_3_code 2 (some (.object "java/util/List")) ws ({ frames := 1, cells := 0, slots := 0, locals := 12 } : Room) #[(.ref x0)] h0 (Q_rmLCa Z x0 j h0 n0) := by
  refine Ctr.intro (plainFor_of_name own_pn11) ?_
  intro p e s m below meth c s₁ hx hby hml hown hnm hret hlk hZ X0 e0
  have hown : s.vm.findClass "java/util/ImmutableCollections" = some m.cls := hown
  have hml : c.maxLocals = 2 := hml
  have N0 := Fr.nil n0
  refine Go.cast (own_ef_rmLCa m x0) ?_
  have KK := Keep.refl h0 []
  show Go p e below s₁ (mkF m 0 #[.val (.ref x0), .unset] []) _
  refine Go.of (fun _ k => XS.aloadN X0.here hx rfl (hb hby d13_0) rfl rfl  k) ?_
  show Go p e below s₁ (mkF m 1 #[.val (.ref x0), .unset] [(.ref x0)]) _
  obtain ⟨T1, X1, e1, st1⟩ := instNo X0 hx hZ hown (hw _ (List.mem_of_getElem? (i := 74) rfl)) e0 E_x0 (no1 hw) (g := (mkF m 1 #[.val (.ref x0), .unset] [(.ref x0)])) rfl rfl (hb hby d13_1)
  refine Go.of (fun _ k => st1 _ k) ?_
  show Go p e below T1 (mkF m 4 #[.val (.ref x0), .unset] [(.int (0 : Int32))]) _
  refine Go.of (fun _ k => XS.ifNo X1.here hx rfl (hb hby d13_4) rfl ((if0 _ _).trans (teq (show (0 : Int32) = (0 : Int32) from (by decide))).2) k) ?_
  show Go p e below T1 (mkF m 7 #[.val (.ref x0), .unset] []) _
  refine Go.of (fun _ k => XS.aloadN X1.here hx rfl (hb hby d13_7) rfl rfl  k) ?_
  show Go p e below T1 (mkF m 8 #[.val (.ref x0), .unset] [(.ref x0)]) _
  obtain ⟨T2, X2, e2, st2⟩ := instNo X1 hx hZ hown (hw _ (List.mem_of_getElem? (i := 79) rfl)) e1 E_x0 (no2 hw) (g := (mkF m 8 #[.val (.ref x0), .unset] [(.ref x0)])) rfl rfl (hb hby d13_8)
  refine Go.of (fun _ k => st2 _ k) ?_
  show Go p e below T2 (mkF m 11 #[.val (.ref x0), .unset] [(.int (0 : Int32))]) _
  refine Go.of (fun _ k => XS.ifYes X2.here hx rfl (pc0 := 11) (pc' := 31) rfl (hb hby d13_11) rfl ((if0 _ _).trans (teq (show (0 : Int32) = (0 : Int32) from (by decide))).1) (by decide) (by decide) k) ?_
  show Go p e below T2 (mkF m 31 #[.val (.ref x0), .unset] []) _
  refine Go.of (fun _ k => XS.aloadN X2.here hx rfl (hb hby d13_31) rfl rfl  k) ?_
  show Go p e below T2 (mkF m 32 #[.val (.ref x0), .unset] [(.ref x0)]) _
  obtain ⟨cq3, kq3, q3a, q3b, q3c⟩ := isOf hZ e2 E_x0
  obtain ⟨_, _, ⟨T3, L3, kq3, nq3⟩, -, X3, ⟨Lc3, hQ3, l3, y3, z3⟩, st3⟩ := X2.interfaceBack hx (xi := (⟨"java/util/Collection", "isEmpty", "()Z"⟩ : MethodName)) (y := (⟨"java/util/ArrayList", "isEmpty", "()Z"⟩ : MethodName)) hown (mvT hZ (hw _ (List.mem_of_getElem? (i := 80) rfl))) (mvT hZ (hw _ (List.mem_of_getElem? (i := 81) rfl))) (mvT hZ (hw _ (List.mem_of_getElem? (i := 82) rfl))) (mvT hZ (hw _ (List.mem_of_getElem? (i := 83) rfl))) (mvT hZ (hw _ (List.mem_of_getElem? (i := 84) rfl))) (mvT hZ (hw _ (List.mem_of_getElem? (i := 85) rfl))) (mvT hZ (hw _ (List.mem_of_getElem? (i := 86) rfl))) (mvT hZ (hw _ (List.mem_of_getElem? (i := 87) rfl))) (by decide) (backOf (W := 0) (rmIE0 l Z a0 hw [] x0 h0 n0 Z0 Fs) hZ (hw _ (List.mem_of_getElem? (i := 88) rfl)) (hw _ (List.mem_of_getElem? (i := 32) rfl)) (by decide) (by decide)) q3a q3b q3c (g := (mkF m 32 #[.val (.ref x0), .unset] [(.ref x0)])) rfl (by rw [hml]; rfl) (Steps.refl _) (argsL := []) (rest := []) (lenOf own_pd6 rfl) rfl (by show 2 * 0 + _ ≤ _; exact Nat.le_of_eq rfl) (hb hby d13_32) (fun _ _ => ⟨rfl, e2, (by decide : 0 + 0 ≤ _), (by decide : 0 + 0 ≤ _)⟩)
  dsimp only [Pt.U, Pt.locs, Pt.cells, Pt.slots] at X3 l3 y3 z3 st3 hQ3
  subst l3 y3 z3
  obtain ⟨rfl, Nq3, e3⟩ := hQ3
  have e3 := e3.trans rfl
  have N3 := Fr.app N0 Nq3
  refine Go.of (fun _ k => st3.trans k) ?_
  show Go p e below T3 (mkF m 37 #[.val (.ref x0), .unset] [(.int (1 : Int32))]) _
  refine Go.of (fun _ k => XS.ifNo X3.here hx rfl (hb hby d13_37) rfl ((if0 _ _).trans (feq (show ¬ ((1 : Int32) = (0 : Int32)) from (by decide))).1) k) ?_
  show Go p e below T3 (mkF m 40 #[.val (.ref x0), .unset] []) _
  obtain ⟨_, _, ⟨T4, L4, kq4, nq4⟩, -, X4, ⟨Lc4, hQ4, l4, y4, z4⟩, st4⟩ := Jvm.LawKit.callS X3 hx (y := (⟨"java/util/List", "of", "()Ljava/util/List;"⟩ : MethodName)) hown (mvT hZ (hw _ (List.mem_of_getElem? (i := 91) rfl))) (mvT hZ (hw _ (List.mem_of_getElem? (i := 92) rfl))) (mvT hZ (hw _ (List.mem_of_getElem? (i := 68) rfl))) (mvT hZ (hw _ (List.mem_of_getElem? (i := 93) rfl))) (by decide) (backOf (W := 0) (rmOf0 l Z a0 hw [] j h0 n0 Z0 OL J) hZ (hw _ (List.mem_of_getElem? (i := 93) rfl)) (hw _ (List.mem_of_getElem? (i := 68) rfl)) (by decide) (by decide)) (g := (mkF m 40 #[.val (.ref x0), .unset] [])) rfl (by rw [hml]; rfl) (argsL := []) (rest := []) (lenOf own_pd7 rfl) rfl (by show 2 * 0 + _ ≤ _; exact Nat.le_of_eq rfl) (hb hby d13_40) (fun _ _ => ⟨rfl, e3, (by decide : 0 + 0 ≤ _), (by decide : 0 + 0 ≤ _)⟩)
  dsimp only [Pt.U, Pt.locs, Pt.cells, Pt.slots] at X4 l4 y4 z4 st4 hQ4
  subst l4 y4 z4
  obtain ⟨rfl, Nq4, e4⟩ := hQ4
  have e4 := e4.trans rfl
  have N4 := Fr.app N3 Nq4
  refine Go.of (fun _ k => st4 _ k) ?_
  show Go p e below T4 (mkF m 43 #[.val (.ref x0), .unset] [(.ref (j 1))]) _
  refine Go.retA X4 hx hret hlk rfl rfl (hb hby d13_43) e4 (by decide) (by decide) ?_
  exact ⟨rfl, N4, rfl⟩
theorem d12_0 : decode jdk_40_method_48_code 0 = .ok (.aload_n 0, 1) := by decide +kernel
theorem d12_1 : decode jdk_40_method_48_code 1 = .ok (.invokestatic 112, 3) := by decide +kernel
theorem own_pd8 : parseMethodDescriptor "(Ljava/util/Collection;)Ljava/util/List;" = some ⟨[(.object "java/util/Collection")], some (.object "java/util/List")⟩ := by decide +kernel
theorem d12_4 : decode jdk_40_method_48_code 4 = .ok (.areturn, 1) := by decide +kernel
theorem own_ef_rmCOa (m : MethodId) (x0 : Addr) : entryFrame m #[(.ref x0)] 1 = mkF m 0 #[.val (.ref x0)] [] := by first | (simp [entryFrame, mkF, argsToLocals, Value.category]; done) | rfl
def Q_rmCOa (Z : State) (x0 : Addr) (j : Sts) (h0 : Heap) (n0 : Nat) : Option Value → Heap → List Loc → Prop := fun v h L => v = some (.ref (j 1)) ∧ Fr n0 L ∧ h = h0
set_option maxRecDepth 65536 in
set_option maxHeartbeats 40000000 in
theorem rmCOa (l : Launch) (Z : State) (a0 : Array Value) (hw : ∀ d ∈ tables_1, d.before a0 Z = true) (ws : List Jvm.Cond) (x0 : Addr) (j : Sts) (h0 : Heap) (n0 : Nat) (Z0 : n0 ≤ h0.size) (OL : Old Z n0 h0) (J : JS Z j) (E_x0 : Exa Z h0 x0 "java/util/ArrayList") (Fs : Fld Z h0 x0 "java/util/ArrayList" "size" "I" (.int 0)) :
    Ctr l Z (⟨"java/util/List", "copyOf", "(Ljava/util/Collection;)Ljava/util/List;"⟩ : MethodName) jdk_40_method_48_code 1 (some (.object "java/util/List")) ws ({ frames := 2, cells := 0, slots := 0, locals := 25 } : Room) #[(.ref x0)] h0 (Q_rmCOa Z x0 j h0 n0) := by
  refine Ctr.intro (plainFor_of_name own_pn6) ?_
  intro p e s m below meth c s₁ hx hby hml hown hnm hret hlk hZ X0 e0
  have hown : s.vm.findClass "java/util/List" = some m.cls := hown
  have hml : c.maxLocals = 1 := hml
  have N0 := Fr.nil n0
  refine Go.cast (own_ef_rmCOa m x0) ?_
  show Go p e below s₁ (mkF m 0 #[.val (.ref x0)] []) _
  refine Go.of (fun _ k => XS.aloadN X0.here hx rfl (hb hby d12_0) rfl rfl  k) ?_
  show Go p e below s₁ (mkF m 1 #[.val (.ref x0)] [(.ref x0)]) _
  obtain ⟨_, _, ⟨T1, L1, kq1, nq1⟩, -, X1, ⟨Lc1, hQ1, l1, y1, z1⟩, st1⟩ := Jvm.LawKit.callS X0 hx (y := (⟨"java/util/ImmutableCollections", "listCopy", "(Ljava/util/Collection;)Ljava/util/List;"⟩ : MethodName)) hown (mvT hZ (hw _ (List.mem_of_getElem? (i := 70) rfl))) (mvT hZ (hw _ (List.mem_of_getElem? (i := 71) rfl))) (mvT hZ (hw _ (List.mem_of_getElem? (i := 72) rfl))) (mvT hZ (hw _ (List.mem_of_getElem? (i := 73) rfl))) (by decide) (backOf (W := 0) (rmLCa l Z a0 hw [] x0 j h0 n0 Z0 OL J E_x0 Fs) hZ (hw _ (List.mem_of_getElem? (i := 73) rfl)) (hw _ (List.mem_of_getElem? (i := 72) rfl)) (by decide) (by decide)) (g := (mkF m 1 #[.val (.ref x0)] [(.ref x0)])) rfl (by rw [hml]; rfl) (argsL := [(.ref x0)]) (rest := []) (lenOf own_pd8 rfl) rfl (by show 2 * 0 + _ ≤ _; exact Nat.le_of_eq rfl) (hb hby d12_1) (fun _ _ => ⟨rfl, e0, (by decide : 0 + 0 ≤ _), (by decide : 0 + 0 ≤ _)⟩)
  dsimp only [Pt.U, Pt.locs, Pt.cells, Pt.slots] at X1 l1 y1 z1 st1 hQ1
  subst l1 y1 z1
  obtain ⟨rfl, Nq1, e1⟩ := hQ1
  have e1 := e1.trans rfl
  have N1 := Fr.app N0 Nq1
  refine Go.of (fun _ k => st1 _ k) ?_
  show Go p e below T1 (mkF m 4 #[.val (.ref x0)] [(.ref (j 1))]) _
  refine Go.retA X1 hx hret hlk rfl rfl (hb hby d12_4) e1 (by decide) (by decide) ?_
  exact ⟨rfl, N1, rfl⟩
theorem d13_44 : decode jdk_56_method_3_code 44 = .ok (.aload_n 0, 1) := by decide +kernel
theorem d13_45 : decode jdk_56_method_3_code 45 = .ok (.invokeinterface 30 1, 5) := by decide +kernel
theorem own_pd9 : parseMethodDescriptor "()[Ljava/lang/Object;" = some ⟨[], some (.array (.object "java/lang/Object"))⟩ := by decide +kernel
theorem d13_50 : decode jdk_56_method_3_code 50 = .ok (.invokestatic 34, 3) := by decide +kernel
theorem own_pd10 : parseMethodDescriptor "([Ljava/lang/Object;)Ljava/util/List;" = some ⟨[(.array (.object "java/lang/Object"))], some (.object "java/util/List")⟩ := by decide +kernel
theorem d13_53 : decode jdk_56_method_3_code 53 = .ok (.areturn, 1) := by decide +kernel
theorem own_ef_rmLCb (m : MethodId) (x0 : Addr) : entryFrame m #[(.ref x0)] 2 = mkF m 0 #[.val (.ref x0), .unset] [] := by first | (simp [entryFrame, mkF, argsToLocals, Value.category]; done) | rfl
def Q_rmLCb (Z : State) (x0 b y : Addr) (kb : ClassId) (j : Sts) (h0 : Heap) (n0 : Nat) : Option Value → Heap → List Loc → Prop := fun v h L => ∃ r, v = some (.ref r) ∧ Fr n0 L ∧ Keep h0 h []
set_option maxRecDepth 65536 in
set_option maxHeartbeats 40000000 in
theorem rmLCb (l : Launch) (Z : State) (a0 : Array Value) (hw : ∀ d ∈ tables_1, d.before a0 Z = true) (ws : List Jvm.Cond) (x0 b y : Addr) (kb : ClassId) (j : Sts) (h0 : Heap) (n0 : Nat) (Z0 : n0 ≤ h0.size) (OL : Old Z n0 h0) (J : JS Z j) (E_x0 : Exa Z h0 x0 "java/util/ArrayList") (Fe : Fld Z h0 x0 "java/util/ArrayList" "elementData" "[Ljava/lang/Object;" (.ref b)) (Fs : Fld Z h0 x0 "java/util/ArrayList" "size" "I" (.int 1))  (Vb : Arv Z h0 b kb (.object "java/lang/Object") 10 [.ref y, .null, .null, .null, .null, .null, .null, .null, .null, .null] .null) (E_y : Exa Z h0 y "org/quorumweave/Segment") (E_b : Exa Z h0 b "[Ljava/lang/Object;") :
    Ctr l Z (⟨"java/util/ImmutableCollections", "listCopy", "(Ljava/util/Collection;)Ljava/util/List;"⟩ : MethodName) jdk_56_method_3_code 2 (some (.object "java/util/List")) ws ({ frames := 6, cells := 2, slots := 3, locals := 75 } : Room) #[(.ref x0)] h0 (Q_rmLCb Z x0 b y kb j h0 n0) := by
  refine Ctr.intro (plainFor_of_name own_pn11) ?_
  intro p e s m below meth c s₁ hx hby hml hown hnm hret hlk hZ X0 e0
  have hown : s.vm.findClass "java/util/ImmutableCollections" = some m.cls := hown
  have hml : c.maxLocals = 2 := hml
  have N0 := Fr.nil n0
  refine Go.cast (own_ef_rmLCb m x0) ?_
  have KK := Keep.refl h0 []
  show Go p e below s₁ (mkF m 0 #[.val (.ref x0), .unset] []) _
  refine Go.of (fun _ k => XS.aloadN X0.here hx rfl (hb hby d13_0) rfl rfl  k) ?_
  show Go p e below s₁ (mkF m 1 #[.val (.ref x0), .unset] [(.ref x0)]) _
  obtain ⟨T1, X1, e1, st1⟩ := instNo X0 hx hZ hown (hw _ (List.mem_of_getElem? (i := 74) rfl)) e0 E_x0 (no1 hw) (g := (mkF m 1 #[.val (.ref x0), .unset] [(.ref x0)])) rfl rfl (hb hby d13_1)
  refine Go.of (fun _ k => st1 _ k) ?_
  show Go p e below T1 (mkF m 4 #[.val (.ref x0), .unset] [(.int (0 : Int32))]) _
  refine Go.of (fun _ k => XS.ifNo X1.here hx rfl (hb hby d13_4) rfl ((if0 _ _).trans (teq (show (0 : Int32) = (0 : Int32) from (by decide))).2) k) ?_
  show Go p e below T1 (mkF m 7 #[.val (.ref x0), .unset] []) _
  refine Go.of (fun _ k => XS.aloadN X1.here hx rfl (hb hby d13_7) rfl rfl  k) ?_
  show Go p e below T1 (mkF m 8 #[.val (.ref x0), .unset] [(.ref x0)]) _
  obtain ⟨T2, X2, e2, st2⟩ := instNo X1 hx hZ hown (hw _ (List.mem_of_getElem? (i := 79) rfl)) e1 E_x0 (no2 hw) (g := (mkF m 8 #[.val (.ref x0), .unset] [(.ref x0)])) rfl rfl (hb hby d13_8)
  refine Go.of (fun _ k => st2 _ k) ?_
  show Go p e below T2 (mkF m 11 #[.val (.ref x0), .unset] [(.int (0 : Int32))]) _
  refine Go.of (fun _ k => XS.ifYes X2.here hx rfl (pc0 := 11) (pc' := 31) rfl (hb hby d13_11) rfl ((if0 _ _).trans (teq (show (0 : Int32) = (0 : Int32) from (by decide))).1) (by decide) (by decide) k) ?_
  show Go p e below T2 (mkF m 31 #[.val (.ref x0), .unset] []) _
  refine Go.of (fun _ k => XS.aloadN X2.here hx rfl (hb hby d13_31) rfl rfl  k) ?_
  show Go p e below T2 (mkF m 32 #[.val (.ref x0), .unset] [(.ref x0)]) _
  obtain ⟨cq3, kq3, q3a, q3b, q3c⟩ := isOf hZ e2 E_x0
  obtain ⟨_, _, ⟨T3, L3, kq3, nq3⟩, -, X3, ⟨Lc3, hQ3, l3, y3, z3⟩, st3⟩ := X2.interfaceBack hx (xi := (⟨"java/util/Collection", "isEmpty", "()Z"⟩ : MethodName)) (y := (⟨"java/util/ArrayList", "isEmpty", "()Z"⟩ : MethodName)) hown (mvT hZ (hw _ (List.mem_of_getElem? (i := 80) rfl))) (mvT hZ (hw _ (List.mem_of_getElem? (i := 81) rfl))) (mvT hZ (hw _ (List.mem_of_getElem? (i := 82) rfl))) (mvT hZ (hw _ (List.mem_of_getElem? (i := 83) rfl))) (mvT hZ (hw _ (List.mem_of_getElem? (i := 84) rfl))) (mvT hZ (hw _ (List.mem_of_getElem? (i := 85) rfl))) (mvT hZ (hw _ (List.mem_of_getElem? (i := 86) rfl))) (mvT hZ (hw _ (List.mem_of_getElem? (i := 87) rfl))) (by decide) (backOf (W := 0) (rmIE1 l Z a0 hw [] x0 h0 n0 Z0 Fs) hZ (hw _ (List.mem_of_getElem? (i := 88) rfl)) (hw _ (List.mem_of_getElem? (i := 32) rfl)) (by decide) (by decide)) q3a q3b q3c (g := (mkF m 32 #[.val (.ref x0), .unset] [(.ref x0)])) rfl (by rw [hml]; rfl) (Steps.refl _) (argsL := []) (rest := []) (lenOf own_pd6 rfl) rfl (by show 2 * 0 + _ ≤ _; exact Nat.le_of_eq rfl) (hb hby d13_32) (fun _ _ => ⟨rfl, e2, (by decide : 0 + 0 ≤ _), (by decide : 0 + 0 ≤ _)⟩)
  dsimp only [Pt.U, Pt.locs, Pt.cells, Pt.slots] at X3 l3 y3 z3 st3 hQ3
  subst l3 y3 z3
  obtain ⟨rfl, Nq3, e3⟩ := hQ3
  have e3 := e3.trans rfl
  have N3 := Fr.app N0 Nq3
  refine Go.of (fun _ k => st3.trans k) ?_
  show Go p e below T3 (mkF m 37 #[.val (.ref x0), .unset] [(.int (0 : Int32))]) _
  refine Go.of (fun _ k => XS.ifYes X3.here hx rfl (pc0 := 37) (pc' := 44) rfl (hb hby d13_37) rfl ((if0 _ _).trans (teq (show (0 : Int32) = (0 : Int32) from (by decide))).1) (by decide) (by decide) k) ?_
  show Go p e below T3 (mkF m 44 #[.val (.ref x0), .unset] []) _
  refine Go.of (fun _ k => XS.aloadN X3.here hx rfl (hb hby d13_44) rfl rfl  k) ?_
  show Go p e below T3 (mkF m 45 #[.val (.ref x0), .unset] [(.ref x0)]) _
  obtain ⟨cq4, kq4, q4a, q4b, q4c⟩ := isOf hZ e3 E_x0
  obtain ⟨_, _, ⟨T4, L4, kq4, nq4⟩, -, X4, ⟨Lc4, hQ4, l4, y4, z4⟩, st4⟩ := X3.interfaceBack hx (xi := (⟨"java/util/Collection", "toArray", "()[Ljava/lang/Object;"⟩ : MethodName)) (y := (⟨"java/util/ArrayList", "toArray", "()[Ljava/lang/Object;"⟩ : MethodName)) hown (mvT hZ (hw _ (List.mem_of_getElem? (i := 176) rfl))) (mvT hZ (hw _ (List.mem_of_getElem? (i := 177) rfl))) (mvT hZ (hw _ (List.mem_of_getElem? (i := 178) rfl))) (mvT hZ (hw _ (List.mem_of_getElem? (i := 179) rfl))) (mvT hZ (hw _ (List.mem_of_getElem? (i := 180) rfl))) (mvT hZ (hw _ (List.mem_of_getElem? (i := 181) rfl))) (mvT hZ (hw _ (List.mem_of_getElem? (i := 182) rfl))) (mvT hZ (hw _ (List.mem_of_getElem? (i := 87) rfl))) (by decide) (backOf (W := 0) (rmTA l Z a0 hw [] x0 b y kb j h0 n0 Z0 OL J Fe Fs Vb E_y E_b) hZ (hw _ (List.mem_of_getElem? (i := 183) rfl)) (hw _ (List.mem_of_getElem? (i := 32) rfl)) (by decide) (by decide)) q4a q4b q4c (g := (mkF m 45 #[.val (.ref x0), .unset] [(.ref x0)])) rfl (by rw [hml]; rfl) (Steps.refl _) (argsL := []) (rest := []) (lenOf own_pd9 rfl) rfl (by show 2 * 0 + _ ≤ _; exact Nat.le_of_eq rfl) (hb hby d13_45) (fun _ _ => ⟨rfl, e3, (by decide : 0 + 1 ≤ _), (by decide : 0 + 1 ≤ _)⟩)
  dsimp only [Pt.U, Pt.locs, Pt.cells, Pt.slots] at X4 l4 y4 z4 st4 hQ4
  subst l4 y4 z4
  obtain ⟨r, kr, rfl, Nq4, Kq4, fq4_0⟩ := hQ4
  have N4 := Fr.app N3 Nq4
  have Z0 := Nat.le_trans Z0 Kq4.1
  have OL := OL.keep Kq4 all0
  have KK := KK.trans Kq4 all0
  have E_x0 := E_x0.keep Kq4
  have E_y := E_y.keep Kq4
  have E_b := E_b.keep Kq4
  have Fe := Fe.keep Kq4 nin0
  have Fs := Fs.keep Kq4 nin0
  have Vb := Vb.keep Kq4 nin0
  have Vr := fq4_0
  refine Go.of (fun _ k => st4.trans k) ?_
  show Go p e below T4 (mkF m 50 #[.val (.ref x0), .unset] [(.ref r)]) _
  obtain ⟨_, _, ⟨T5, L5, kq5, nq5⟩, -, X5, ⟨Lc5, hQ5, l5, y5, z5⟩, st5⟩ := Jvm.LawKit.callS X4 hx (y := (⟨"java/util/List", "of", "([Ljava/lang/Object;)Ljava/util/List;"⟩ : MethodName)) hown (mvT hZ (hw _ (List.mem_of_getElem? (i := 206) rfl))) (mvT hZ (hw _ (List.mem_of_getElem? (i := 207) rfl))) (mvT hZ (hw _ (List.mem_of_getElem? (i := 68) rfl))) (mvT hZ (hw _ (List.mem_of_getElem? (i := 208) rfl))) (by decide) (backOf (W := 0) (rmOf1 l Z a0 hw [] r y kr j T4.heap n0 Z0 OL J Vr) hZ (hw _ (List.mem_of_getElem? (i := 208) rfl)) (hw _ (List.mem_of_getElem? (i := 68) rfl)) (by decide) (by decide)) (g := (mkF m 50 #[.val (.ref x0), .unset] [(.ref r)])) rfl (by rw [hml]; rfl) (argsL := [(.ref r)]) (rest := []) (lenOf own_pd10 rfl) rfl (by show 2 * 0 + _ ≤ _; exact Nat.le_of_eq rfl) (hb hby d13_50) (fun _ _ => ⟨rfl, rfl, (by decide : 1 + 1 ≤ _), (by decide : 1 + 2 ≤ _)⟩)
  dsimp only [Pt.U, Pt.locs, Pt.cells, Pt.slots] at X5 l5 y5 z5 st5 hQ5
  subst l5 y5 z5
  obtain ⟨r2, rfl, Nq5, Kq5⟩ := hQ5
  have N5 := Fr.app N4 Nq5
  have Z0 := Nat.le_trans Z0 Kq5.1
  have OL := OL.keep Kq5 all0
  have KK := KK.trans Kq5 all0
  have E_x0 := E_x0.keep Kq5
  have E_y := E_y.keep Kq5
  have E_b := E_b.keep Kq5
  have Fe := Fe.keep Kq5 nin0
  have Fs := Fs.keep Kq5 nin0
  have Vb := Vb.keep Kq5 nin0
  have Vr := Vr.keep Kq5 nin0
  refine Go.of (fun _ k => st5 _ k) ?_
  show Go p e below T5 (mkF m 53 #[.val (.ref x0), .unset] [(.ref r2)]) _
  refine Go.retA X5 hx hret hlk rfl rfl (hb hby d13_53) rfl (by decide) (by decide) ?_
  exact ⟨_, rfl, N5, KK⟩
theorem own_ef_rmCOb (m : MethodId) (x0 : Addr) : entryFrame m #[(.ref x0)] 1 = mkF m 0 #[.val (.ref x0)] [] := by first | (simp [entryFrame, mkF, argsToLocals, Value.category]; done) | rfl
def Q_rmCOb (Z : State) (x0 b y : Addr) (kb : ClassId) (j : Sts) (h0 : Heap) (n0 : Nat) : Option Value → Heap → List Loc → Prop := fun v h L => ∃ r, v = some (.ref r) ∧ Fr n0 L ∧ Keep h0 h []
set_option maxRecDepth 65536 in
set_option maxHeartbeats 40000000 in
theorem rmCOb (l : Launch) (Z : State) (a0 : Array Value) (hw : ∀ d ∈ tables_1, d.before a0 Z = true) (ws : List Jvm.Cond) (x0 b y : Addr) (kb : ClassId) (j : Sts) (h0 : Heap) (n0 : Nat) (Z0 : n0 ≤ h0.size) (OL : Old Z n0 h0) (J : JS Z j) (E_x0 : Exa Z h0 x0 "java/util/ArrayList") (Fe : Fld Z h0 x0 "java/util/ArrayList" "elementData" "[Ljava/lang/Object;" (.ref b)) (Fs : Fld Z h0 x0 "java/util/ArrayList" "size" "I" (.int 1))  (Vb : Arv Z h0 b kb (.object "java/lang/Object") 10 [.ref y, .null, .null, .null, .null, .null, .null, .null, .null, .null] .null) (E_y : Exa Z h0 y "org/quorumweave/Segment") (E_b : Exa Z h0 b "[Ljava/lang/Object;") :
    Ctr l Z (⟨"java/util/List", "copyOf", "(Ljava/util/Collection;)Ljava/util/List;"⟩ : MethodName) jdk_40_method_48_code 1 (some (.object "java/util/List")) ws ({ frames := 7, cells := 2, slots := 3, locals := 88 } : Room) #[(.ref x0)] h0 (Q_rmCOb Z x0 b y kb j h0 n0) := by
  refine Ctr.intro (plainFor_of_name own_pn6) ?_
  intro p e s m below meth c s₁ hx hby hml hown hnm hret hlk hZ X0 e0
  have hown : s.vm.findClass "java/util/List" = some m.cls := hown
  have hml : c.maxLocals = 1 := hml
  have N0 := Fr.nil n0
  refine Go.cast (own_ef_rmCOb m x0) ?_
  have KK := Keep.refl h0 []
  show Go p e below s₁ (mkF m 0 #[.val (.ref x0)] []) _
  refine Go.of (fun _ k => XS.aloadN X0.here hx rfl (hb hby d12_0) rfl rfl  k) ?_
  show Go p e below s₁ (mkF m 1 #[.val (.ref x0)] [(.ref x0)]) _
  obtain ⟨_, _, ⟨T1, L1, kq1, nq1⟩, -, X1, ⟨Lc1, hQ1, l1, y1, z1⟩, st1⟩ := Jvm.LawKit.callS X0 hx (y := (⟨"java/util/ImmutableCollections", "listCopy", "(Ljava/util/Collection;)Ljava/util/List;"⟩ : MethodName)) hown (mvT hZ (hw _ (List.mem_of_getElem? (i := 70) rfl))) (mvT hZ (hw _ (List.mem_of_getElem? (i := 71) rfl))) (mvT hZ (hw _ (List.mem_of_getElem? (i := 72) rfl))) (mvT hZ (hw _ (List.mem_of_getElem? (i := 73) rfl))) (by decide) (backOf (W := 0) (rmLCb l Z a0 hw [] x0 b y kb j h0 n0 Z0 OL J E_x0 Fe Fs Vb E_y E_b) hZ (hw _ (List.mem_of_getElem? (i := 73) rfl)) (hw _ (List.mem_of_getElem? (i := 72) rfl)) (by decide) (by decide)) (g := (mkF m 1 #[.val (.ref x0)] [(.ref x0)])) rfl (by rw [hml]; rfl) (argsL := [(.ref x0)]) (rest := []) (lenOf own_pd8 rfl) rfl (by show 2 * 0 + _ ≤ _; exact Nat.le_of_eq rfl) (hb hby d12_1) (fun _ _ => ⟨rfl, e0, (by decide : 0 + 2 ≤ _), (by decide : 0 + 3 ≤ _)⟩)
  dsimp only [Pt.U, Pt.locs, Pt.cells, Pt.slots] at X1 l1 y1 z1 st1 hQ1
  subst l1 y1 z1
  obtain ⟨r2, rfl, Nq1, Kq1⟩ := hQ1
  have N1 := Fr.app N0 Nq1
  have Z0 := Nat.le_trans Z0 Kq1.1
  have OL := OL.keep Kq1 all0
  have KK := KK.trans Kq1 all0
  refine Go.of (fun _ k => st1 _ k) ?_
  show Go p e below T1 (mkF m 4 #[.val (.ref x0)] [(.ref r2)]) _
  refine Go.retA X1 hx hret hlk rfl rfl (hb hby d12_4) rfl (by decide) (by decide) ?_
  exact ⟨_, rfl, N1, KK⟩
theorem d13_14 : decode jdk_56_method_3_code 14 = .ok (.aload_n 0, 1) := by decide +kernel
theorem d13_15 : decode jdk_56_method_3_code 15 = .ok (.checkcast 12, 3) := by decide +kernel
theorem d13_18 : decode jdk_56_method_3_code 18 = .ok (.astore_n 1, 1) := by decide +kernel
theorem d13_19 : decode jdk_56_method_3_code 19 = .ok (.aload_n 1, 1) := by decide +kernel
theorem d13_20 : decode jdk_56_method_3_code 20 = .ok (.getfield 14, 3) := by decide +kernel
theorem d13_23 : decode jdk_56_method_3_code 23 = .ok (.ifCond .ne 8, 3) := by decide +kernel
theorem d13_26 : decode jdk_56_method_3_code 26 = .ok (.aload_n 0, 1) := by decide +kernel
theorem d13_27 : decode jdk_56_method_3_code 27 = .ok (.checkcast 18, 3) := by decide +kernel
theorem d13_30 : decode jdk_56_method_3_code 30 = .ok (.areturn, 1) := by decide +kernel
theorem own_ef_rmLCc (m : MethodId) (x0 : Addr) : entryFrame m #[(.ref x0)] 2 = mkF m 0 #[.val (.ref x0), .unset] [] := by first | (simp [entryFrame, mkF, argsToLocals, Value.category]; done) | rfl
def Q_rmLCc (Z : State) (x0 : Addr) (h0 : Heap) (n0 : Nat) : Option Value → Heap → List Loc → Prop := fun v h L => v = some (.ref x0) ∧ Fr n0 L ∧ h = h0
set_option maxRecDepth 65536 in
set_option maxHeartbeats 40000000 in
theorem rmLCc (l : Launch) (Z : State) (a0 : Array Value) (hw : ∀ d ∈ tables_1, d.before a0 Z = true) (ws : List Jvm.Cond) (x0 : Addr) (h0 : Heap) (n0 : Nat) (Z0 : n0 ≤ h0.size) (E_x0 : Exa Z h0 x0 "java/util/ImmutableCollections$ListN") (Fa : Fld Z h0 x0 "java/util/ImmutableCollections$ListN" "allowNulls" "Z" (.int 0)) :
    Ctr l Z (⟨"java/util/ImmutableCollections", "listCopy", "(Ljava/util/Collection;)Ljava/util/List;"⟩ : MethodName) jdk_56_method_3_code 2 (some (.object "java/util/List")) ws ({ frames := 0, cells := 0, slots := 0, locals := 0 } : Room) #[(.ref x0)] h0 (Q_rmLCc Z x0 h0 n0) := by
  refine Ctr.intro (plainFor_of_name own_pn11) ?_
  intro p e s m below meth c s₁ hx hby hml hown hnm hret hlk hZ X0 e0
  have hown : s.vm.findClass "java/util/ImmutableCollections" = some m.cls := hown
  have hml : c.maxLocals = 2 := hml
  have N0 := Fr.nil n0
  refine Go.cast (own_ef_rmLCc m x0) ?_
  have KK := Keep.refl h0 []
  show Go p e below s₁ (mkF m 0 #[.val (.ref x0), .unset] []) _
  refine Go.of (fun _ k => XS.aloadN X0.here hx rfl (hb hby d13_0) rfl rfl  k) ?_
  show Go p e below s₁ (mkF m 1 #[.val (.ref x0), .unset] [(.ref x0)]) _
  obtain ⟨T1, X1, e1, st1⟩ := instNo X0 hx hZ hown (hw _ (List.mem_of_getElem? (i := 74) rfl)) e0 E_x0 (no3 hw) (g := (mkF m 1 #[.val (.ref x0), .unset] [(.ref x0)])) rfl rfl (hb hby d13_1)
  refine Go.of (fun _ k => st1 _ k) ?_
  show Go p e below T1 (mkF m 4 #[.val (.ref x0), .unset] [(.int (0 : Int32))]) _
  refine Go.of (fun _ k => XS.ifNo X1.here hx rfl (hb hby d13_4) rfl ((if0 _ _).trans (teq (show (0 : Int32) = (0 : Int32) from (by decide))).2) k) ?_
  show Go p e below T1 (mkF m 7 #[.val (.ref x0), .unset] []) _
  refine Go.of (fun _ k => XS.aloadN X1.here hx rfl (hb hby d13_7) rfl rfl  k) ?_
  show Go p e below T1 (mkF m 8 #[.val (.ref x0), .unset] [(.ref x0)]) _
  obtain ⟨T2, X2, e2, st2⟩ := instY X1 hx hZ hown (hw _ (List.mem_of_getElem? (i := 79) rfl)) e1 (Ins.self E_x0) (g := (mkF m 8 #[.val (.ref x0), .unset] [(.ref x0)])) rfl rfl (hb hby d13_8)
  refine Go.of (fun _ k => st2 _ k) ?_
  show Go p e below T2 (mkF m 11 #[.val (.ref x0), .unset] [(.int (1 : Int32))]) _
  refine Go.of (fun _ k => XS.ifNo X2.here hx rfl (hb hby d13_11) rfl ((if0 _ _).trans (feq (show ¬ ((1 : Int32) = (0 : Int32)) from (by decide))).1) k) ?_
  show Go p e below T2 (mkF m 14 #[.val (.ref x0), .unset] []) _
  refine Go.of (fun _ k => XS.aloadN X2.here hx rfl (hb hby d13_14) rfl rfl  k) ?_
  show Go p e below T2 (mkF m 15 #[.val (.ref x0), .unset] [(.ref x0)]) _
  obtain ⟨T3, X3, e3, st3⟩ := castY X2 hx hZ hown (hw _ (List.mem_of_getElem? (i := 79) rfl)) e2 (Ins.self E_x0) (g := (mkF m 15 #[.val (.ref x0), .unset] [(.ref x0)])) rfl rfl (hb hby d13_15)
  refine Go.of (fun _ k => st3 _ k) ?_
  show Go p e below T3 (mkF m 18 #[.val (.ref x0), .unset] [(.ref x0)]) _
  refine Go.of (fun _ k => XS.astoreN X3.here hx rfl (hb hby d13_18) rfl rfl (l' := #[.val (.ref x0), .val (.ref x0)]) rfl k) ?_
  show Go p e below T3 (mkF m 19 #[.val (.ref x0), .val (.ref x0)] []) _
  refine Go.of (fun _ k => XS.aloadN X3.here hx rfl (hb hby d13_19) rfl rfl  k) ?_
  show Go p e below T3 (mkF m 20 #[.val (.ref x0), .val (.ref x0)] [(.ref x0)]) _
  obtain ⟨T4, X4, e4, st4⟩ := getF X3 hx hZ hown (Or.inr (hw _ (List.mem_of_getElem? (i := 116) rfl))) Via.refl e3 Fa (g := (mkF m 20 #[.val (.ref x0), .val (.ref x0)] [(.ref x0)])) rfl rfl (hb hby d13_20)
  refine Go.of (fun _ k => st4 _ k) ?_
  show Go p e below T4 (mkF m 23 #[.val (.ref x0), .val (.ref x0)] [(.int (0 : Int32))]) _
  refine Go.of (fun _ k => XS.ifNo X4.here hx rfl (hb hby d13_23) rfl ((if0 _ _).trans (teq (show (0 : Int32) = (0 : Int32) from (by decide))).2) k) ?_
  show Go p e below T4 (mkF m 26 #[.val (.ref x0), .val (.ref x0)] []) _
  refine Go.of (fun _ k => XS.aloadN X4.here hx rfl (hb hby d13_26) rfl rfl  k) ?_
  show Go p e below T4 (mkF m 27 #[.val (.ref x0), .val (.ref x0)] [(.ref x0)]) _
  obtain ⟨T5, X5, e5, st5⟩ := castY X4 hx hZ hown (hw _ (List.mem_of_getElem? (i := 118) rfl)) e4 (Ins.of_exa E_x0 (hw _ (List.mem_of_getElem? (i := 119) rfl))) (g := (mkF m 27 #[.val (.ref x0), .val (.ref x0)] [(.ref x0)])) rfl rfl (hb hby d13_27)
  refine Go.of (fun _ k => st5 _ k) ?_
  show Go p e below T5 (mkF m 30 #[.val (.ref x0), .val (.ref x0)] [(.ref x0)]) _
  refine Go.retA X5 hx hret hlk rfl rfl (hb hby d13_30) e5 (by decide) (by decide) ?_
  exact ⟨rfl, N0, rfl⟩
theorem own_ef_rmCOc (m : MethodId) (x0 : Addr) : entryFrame m #[(.ref x0)] 1 = mkF m 0 #[.val (.ref x0)] [] := by first | (simp [entryFrame, mkF, argsToLocals, Value.category]; done) | rfl
def Q_rmCOc (Z : State) (x0 : Addr) (h0 : Heap) (n0 : Nat) : Option Value → Heap → List Loc → Prop := fun v h L => v = some (.ref x0) ∧ Fr n0 L ∧ h = h0
set_option maxRecDepth 65536 in
set_option maxHeartbeats 40000000 in
theorem rmCOc (l : Launch) (Z : State) (a0 : Array Value) (hw : ∀ d ∈ tables_1, d.before a0 Z = true) (ws : List Jvm.Cond) (x0 : Addr) (h0 : Heap) (n0 : Nat) (Z0 : n0 ≤ h0.size) (E_x0 : Exa Z h0 x0 "java/util/ImmutableCollections$ListN") (Fa : Fld Z h0 x0 "java/util/ImmutableCollections$ListN" "allowNulls" "Z" (.int 0)) :
    Ctr l Z (⟨"java/util/List", "copyOf", "(Ljava/util/Collection;)Ljava/util/List;"⟩ : MethodName) jdk_40_method_48_code 1 (some (.object "java/util/List")) ws ({ frames := 1, cells := 0, slots := 0, locals := 13 } : Room) #[(.ref x0)] h0 (Q_rmCOc Z x0 h0 n0) := by
  refine Ctr.intro (plainFor_of_name own_pn6) ?_
  intro p e s m below meth c s₁ hx hby hml hown hnm hret hlk hZ X0 e0
  have hown : s.vm.findClass "java/util/List" = some m.cls := hown
  have hml : c.maxLocals = 1 := hml
  have N0 := Fr.nil n0
  refine Go.cast (own_ef_rmCOc m x0) ?_
  show Go p e below s₁ (mkF m 0 #[.val (.ref x0)] []) _
  refine Go.of (fun _ k => XS.aloadN X0.here hx rfl (hb hby d12_0) rfl rfl  k) ?_
  show Go p e below s₁ (mkF m 1 #[.val (.ref x0)] [(.ref x0)]) _
  obtain ⟨_, _, ⟨T1, L1, kq1, nq1⟩, -, X1, ⟨Lc1, hQ1, l1, y1, z1⟩, st1⟩ := Jvm.LawKit.callS X0 hx (y := (⟨"java/util/ImmutableCollections", "listCopy", "(Ljava/util/Collection;)Ljava/util/List;"⟩ : MethodName)) hown (mvT hZ (hw _ (List.mem_of_getElem? (i := 70) rfl))) (mvT hZ (hw _ (List.mem_of_getElem? (i := 71) rfl))) (mvT hZ (hw _ (List.mem_of_getElem? (i := 72) rfl))) (mvT hZ (hw _ (List.mem_of_getElem? (i := 73) rfl))) (by decide) (backOf (W := 0) (rmLCc l Z a0 hw [] x0 h0 n0 Z0 E_x0 Fa) hZ (hw _ (List.mem_of_getElem? (i := 73) rfl)) (hw _ (List.mem_of_getElem? (i := 72) rfl)) (by decide) (by decide)) (g := (mkF m 1 #[.val (.ref x0)] [(.ref x0)])) rfl (by rw [hml]; rfl) (argsL := [(.ref x0)]) (rest := []) (lenOf own_pd8 rfl) rfl (by show 2 * 0 + _ ≤ _; exact Nat.le_of_eq rfl) (hb hby d12_1) (fun _ _ => ⟨rfl, e0, (by decide : 0 + 0 ≤ _), (by decide : 0 + 0 ≤ _)⟩)
  dsimp only [Pt.U, Pt.locs, Pt.cells, Pt.slots] at X1 l1 y1 z1 st1 hQ1
  subst l1 y1 z1
  obtain ⟨rfl, Nq1, e1⟩ := hQ1
  have e1 := e1.trans rfl
  have N1 := Fr.app N0 Nq1
  refine Go.of (fun _ k => st1 _ k) ?_
  show Go p e below T1 (mkF m 4 #[.val (.ref x0)] [(.ref x0)]) _
  refine Go.retA X1 hx hret hlk rfl rfl (hb hby d12_4) e1 (by decide) (by decide) ?_
  exact ⟨rfl, N1, rfl⟩
theorem d10_0 : decode prog_14_method_1_code 0 = .ok (.aload_n 0, 1) := by decide +kernel
theorem d10_1 : decode prog_14_method_1_code 1 = .ok (.invokespecial 1, 3) := by decide +kernel
theorem d10_4 : decode prog_14_method_1_code 4 = .ok (.aload 4, 2) := by decide +kernel
theorem d10_6 : decode prog_14_method_1_code 6 = .ok (.invokestatic 7, 3) := by decide +kernel
theorem d10_9 : decode prog_14_method_1_code 9 = .ok (.astore 4, 2) := by decide +kernel
theorem d10_11 : decode prog_14_method_1_code 11 = .ok (.aload_n 0, 1) := by decide +kernel
theorem d10_12 : decode prog_14_method_1_code 12 = .ok (.aload_n 1, 1) := by decide +kernel
theorem d10_13 : decode prog_14_method_1_code 13 = .ok (.putfield 13, 3) := by decide +kernel
theorem d10_16 : decode prog_14_method_1_code 16 = .ok (.aload_n 0, 1) := by decide +kernel
theorem d10_17 : decode prog_14_method_1_code 17 = .ok (.lload_n 2, 1) := by decide +kernel
theorem d10_18 : decode prog_14_method_1_code 18 = .ok (.putfield 19, 3) := by decide +kernel
theorem d10_21 : decode prog_14_method_1_code 21 = .ok (.aload_n 0, 1) := by decide +kernel
theorem d10_22 : decode prog_14_method_1_code 22 = .ok (.aload 4, 2) := by decide +kernel
theorem d10_24 : decode prog_14_method_1_code 24 = .ok (.putfield 23, 3) := by decide +kernel
theorem d10_27 : decode prog_14_method_1_code 27 = .ok (.return_, 1) := by decide +kernel
theorem own_ef_rmLMa (m : MethodId) (x0 : Addr) (x1 : Addr) (x2 : Int64) (x3 : Addr) : entryFrame m #[(.ref x0), (.ref x1), (.long x2), (.ref x3)] 5 = mkF m 0 #[.val (.ref x0), .val (.ref x1), .val (.long x2), .second, .val (.ref x3)] [] := by first | (simp [entryFrame, mkF, argsToLocals, Value.category]; done) | rfl
def Q_rmLMa (Z : State) (x0 x1 : Addr) (x2 : Int64) (x3 : Addr) (j : Sts) (h0 : Heap) (n0 : Nat) : Option Value → Heap → List Loc → Prop := fun v h L => v = none ∧ Fr n0 L ∧ Keep h0 h [x0] ∧ Exa Z h x0 "org/quorumweave/LogMetadata" ∧ Fld Z h x0 "org/quorumweave/LogMetadata" "version" "J" (.long x2)
set_option maxRecDepth 65536 in
set_option maxHeartbeats 40000000 in
theorem rmLMa (l : Launch) (Z : State) (a0 : Array Value) (hw : ∀ d ∈ tables_1, d.before a0 Z = true) (ws : List Jvm.Cond) (x0 x1 : Addr) (x2 : Int64) (x3 : Addr) (j : Sts) (h0 : Heap) (n0 : Nat) (Z0 : n0 ≤ h0.size) (g0 : n0 ≤ x0) (OL : Old Z n0 h0) (J : JS Z j) (E_x0 : Exa Z h0 x0 "org/quorumweave/LogMetadata") (Fn : Fld Z h0 x0 "org/quorumweave/LogMetadata" "name" "Ljava/lang/String;" .null) (Fv : Fld Z h0 x0 "org/quorumweave/LogMetadata" "version" "J" (.long (0 : Int64))) (Fg : Fld Z h0 x0 "org/quorumweave/LogMetadata" "segments" "Ljava/util/List;" .null) (E_l : Exa Z h0 x3 "java/util/ArrayList") (Fs : Fld Z h0 x3 "java/util/ArrayList" "size" "I" (.int 0)) :
    Ctr l Z (⟨"org/quorumweave/LogMetadata", "<init>", "(Ljava/lang/String;JLjava/util/List;)V"⟩ : MethodName) prog_14_method_1_code 5 none ws ({ frames := 3, cells := 0, slots := 0, locals := 37 } : Room) #[(.ref x0), (.ref x1), (.long x2), (.ref x3)] h0 (Q_rmLMa Z x0 x1 x2 x3 j h0 n0) := by
  refine Ctr.intro (plainFor_of_name own_pn7) ?_
  intro p e s m below meth c s₁ hx hby hml hown hnm hret hlk hZ X0 e0
  have hown : s.vm.findClass "org/quorumweave/LogMetadata" = some m.cls := hown
  have hml : c.maxLocals = 5 := hml
  have N0 := Fr.nil n0
  refine Go.cast (own_ef_rmLMa m x0 x1 x2 x3) ?_
  have KK := Keep.refl h0 [x0]
  show Go p e below s₁ (mkF m 0 #[.val (.ref x0), .val (.ref x1), .val (.long x2), .second, .val (.ref x3)] []) _
  refine Go.of (fun _ k => XS.aloadN X0.here hx rfl (hb hby d10_0) rfl rfl  k) ?_
  show Go p e below s₁ (mkF m 1 #[.val (.ref x0), .val (.ref x1), .val (.long x2), .second, .val (.ref x3)] [(.ref x0)]) _
  obtain ⟨_, _, ⟨T1, L1, kq1, nq1⟩, -, X1, ⟨Lc1, hQ1, l1, y1, z1⟩, st1⟩ := X0.specialBack hx (y := (⟨"java/lang/Record", "<init>", "()V"⟩ : MethodName)) rfl hown (mvT hZ (hw _ (List.mem_of_getElem? (i := 60) rfl))) (mvT hZ (hw _ (List.mem_of_getElem? (i := 61) rfl))) (mvT hZ (hw _ (List.mem_of_getElem? (i := 64) rfl))) (by decide) (backOf (W := 0) (rmRec l Z a0 hw [] x0 h0 n0 Z0) hZ (hw _ (List.mem_of_getElem? (i := 64) rfl)) (hw _ (List.mem_of_getElem? (i := 63) rfl)) (by decide) (by decide)) (g := (mkF m 1 #[.val (.ref x0), .val (.ref x1), .val (.long x2), .second, .val (.ref x3)] [(.ref x0)])) rfl (by rw [hml]; rfl) (Steps.refl _) (a := x0) (argsL := []) (rest := []) (lenOf own_pd0 rfl) rfl (by show 2 * 0 + _ ≤ _; exact Nat.le_of_eq rfl) (hb hby d10_1) (fun _ _ => ⟨rfl, e0, (by decide : 0 + 0 ≤ _), (by decide : 0 + 0 ≤ _)⟩)
  dsimp only [Pt.U, Pt.locs, Pt.cells, Pt.slots] at X1 l1 y1 z1 st1 hQ1
  subst l1 y1 z1
  obtain ⟨rfl, Nq1, e1⟩ := hQ1
  have e1 := e1.trans rfl
  have N1 := Fr.app N0 Nq1
  refine Go.of (fun _ k => st1.trans k) ?_
  show Go p e below T1 (mkF m 4 #[.val (.ref x0), .val (.ref x1), .val (.long x2), .second, .val (.ref x3)] []) _
  refine Go.of (fun _ k => XS.aload X1.here hx rfl (hb hby d10_4) rfl rfl  k) ?_
  show Go p e below T1 (mkF m 6 #[.val (.ref x0), .val (.ref x1), .val (.long x2), .second, .val (.ref x3)] [(.ref x3)]) _
  obtain ⟨_, _, ⟨T2, L2, kq2, nq2⟩, -, X2, ⟨Lc2, hQ2, l2, y2, z2⟩, st2⟩ := Jvm.LawKit.callS X1 hx (y := (⟨"java/util/List", "copyOf", "(Ljava/util/Collection;)Ljava/util/List;"⟩ : MethodName)) hown (mvT hZ (hw _ (List.mem_of_getElem? (i := 66) rfl))) (mvT hZ (hw _ (List.mem_of_getElem? (i := 67) rfl))) (mvT hZ (hw _ (List.mem_of_getElem? (i := 68) rfl))) (mvT hZ (hw _ (List.mem_of_getElem? (i := 69) rfl))) (by decide) (backOf (W := 0) (rmCOa l Z a0 hw [] x3 j h0 n0 Z0 OL J E_l Fs) hZ (hw _ (List.mem_of_getElem? (i := 69) rfl)) (hw _ (List.mem_of_getElem? (i := 68) rfl)) (by decide) (by decide)) (g := (mkF m 6 #[.val (.ref x0), .val (.ref x1), .val (.long x2), .second, .val (.ref x3)] [(.ref x3)])) rfl (by rw [hml]; rfl) (argsL := [(.ref x3)]) (rest := []) (lenOf own_pd8 rfl) rfl (by show 2 * 0 + _ ≤ _; exact Nat.le_of_eq rfl) (hb hby d10_6) (fun _ _ => ⟨rfl, e1, (by decide : 0 + 0 ≤ _), (by decide : 0 + 0 ≤ _)⟩)
  dsimp only [Pt.U, Pt.locs, Pt.cells, Pt.slots] at X2 l2 y2 z2 st2 hQ2
  subst l2 y2 z2
  obtain ⟨rfl, Nq2, e2⟩ := hQ2
  have e2 := e2.trans rfl
  have N2 := Fr.app N1 Nq2
  refine Go.of (fun _ k => st2 _ k) ?_
  show Go p e below T2 (mkF m 9 #[.val (.ref x0), .val (.ref x1), .val (.long x2), .second, .val (.ref x3)] [(.ref (j 1))]) _
  refine Go.of (fun _ k => XS.astore X2.here hx rfl (hb hby d10_9) rfl rfl (l' := #[.val (.ref x0), .val (.ref x1), .val (.long x2), .second, .val (.ref (j 1))]) rfl k) ?_
  show Go p e below T2 (mkF m 11 #[.val (.ref x0), .val (.ref x1), .val (.long x2), .second, .val (.ref (j 1))] []) _
  refine Go.of (fun _ k => XS.aloadN X2.here hx rfl (hb hby d10_11) rfl rfl  k) ?_
  show Go p e below T2 (mkF m 12 #[.val (.ref x0), .val (.ref x1), .val (.long x2), .second, .val (.ref (j 1))] [(.ref x0)]) _
  refine Go.of (fun _ k => XS.aloadN X2.here hx rfl (hb hby d10_12) rfl rfl  k) ?_
  show Go p e below T2 (mkF m 13 #[.val (.ref x0), .val (.ref x1), .val (.long x2), .second, .val (.ref (j 1))] [(.ref x1), (.ref x0)]) _
  obtain ⟨T3, h3, X3, e3, W3, st3⟩ := putF X2 hx hZ hown (host := "") (Or.inl (hw _ (List.mem_of_getElem? (i := 95) rfl))) Via.refl e2 Fn E_x0 (Or.inr ⟨(hw _ (List.mem_of_getElem? (i := 96) rfl)), rfl, hnm⟩) (hw _ (List.mem_of_getElem? (i := 55) rfl)) (ty := (.object "java/lang/String")) (by decide) rfl rfl (g := (mkF m 13 #[.val (.ref x0), .val (.ref x1), .val (.long x2), .second, .val (.ref (j 1))] [(.ref x1), (.ref x0)])) rfl rfl (hb hby d10_13)
  have N3 := Fr.snoc X3 N2 g0
  have Fn := Fn.same W3
  have Z0 := Nat.le_trans Z0 (Keep.of_wr W3).1
  have OL := OL.wr W3 g0
  have KK := KK.wr W3 (Or.inl (List.mem_of_getElem? (i := 0) rfl))
  have E_x0 := E_x0.wr W3
  have Fv := Fv.other W3 (Or.inr (slot_ne (Or.inr (hw _ (List.mem_of_getElem? (i := 98) rfl))) (Or.inr (hw _ (List.mem_of_getElem? (i := 96) rfl))) (by decide) (t := .long) (t' := (.object "java/lang/String")) (by decide) (by decide)))
  have Fg := Fg.other W3 (Or.inr (slot_ne (Or.inr (hw _ (List.mem_of_getElem? (i := 100) rfl))) (Or.inr (hw _ (List.mem_of_getElem? (i := 96) rfl))) (by decide) (t := (.object "java/util/List")) (t' := (.object "java/lang/String")) (by decide) (by decide)))
  refine Go.of (fun _ k => st3 _ k) ?_
  show Go p e below T3 (mkF m 16 #[.val (.ref x0), .val (.ref x1), .val (.long x2), .second, .val (.ref (j 1))] []) _
  refine Go.of (fun _ k => XS.aloadN X3.here hx rfl (hb hby d10_16) rfl rfl  k) ?_
  show Go p e below T3 (mkF m 17 #[.val (.ref x0), .val (.ref x1), .val (.long x2), .second, .val (.ref (j 1))] [(.ref x0)]) _
  refine Go.of (fun _ k => XS.lloadN X3.here hx rfl (hb hby d10_17) rfl  k) ?_
  show Go p e below T3 (mkF m 18 #[.val (.ref x0), .val (.ref x1), .val (.long x2), .second, .val (.ref (j 1))] [(.long x2), (.ref x0)]) _
  obtain ⟨T4, h4, X4, e4, W4, st4⟩ := putF X3 hx hZ hown (host := "") (Or.inl (hw _ (List.mem_of_getElem? (i := 97) rfl))) Via.refl e3 Fv E_x0 (Or.inr ⟨(hw _ (List.mem_of_getElem? (i := 98) rfl)), rfl, hnm⟩) (hw _ (List.mem_of_getElem? (i := 55) rfl)) (ty := .long) (by decide) rfl rfl (g := (mkF m 18 #[.val (.ref x0), .val (.ref x1), .val (.long x2), .second, .val (.ref (j 1))] [(.long x2), (.ref x0)])) rfl rfl (hb hby d10_18)
  have N4 := Fr.snoc X4 N3 g0
  have Fv := Fv.same W4
  have Z0 := Nat.le_trans Z0 (Keep.of_wr W4).1
  have OL := OL.wr W4 g0
  have KK := KK.wr W4 (Or.inl (List.mem_of_getElem? (i := 0) rfl))
  have E_x0 := E_x0.wr W4
  have Fn := Fn.other W4 (Or.inr (slot_ne (Or.inr (hw _ (List.mem_of_getElem? (i := 96) rfl))) (Or.inr (hw _ (List.mem_of_getElem? (i := 98) rfl))) (by decide) (t := (.object "java/lang/String")) (t' := .long) (by decide) (by decide)))
  have Fg := Fg.other W4 (Or.inr (slot_ne (Or.inr (hw _ (List.mem_of_getElem? (i := 100) rfl))) (Or.inr (hw _ (List.mem_of_getElem? (i := 98) rfl))) (by decide) (t := (.object "java/util/List")) (t' := .long) (by decide) (by decide)))
  refine Go.of (fun _ k => st4 _ k) ?_
  show Go p e below T4 (mkF m 21 #[.val (.ref x0), .val (.ref x1), .val (.long x2), .second, .val (.ref (j 1))] []) _
  refine Go.of (fun _ k => XS.aloadN X4.here hx rfl (hb hby d10_21) rfl rfl  k) ?_
  show Go p e below T4 (mkF m 22 #[.val (.ref x0), .val (.ref x1), .val (.long x2), .second, .val (.ref (j 1))] [(.ref x0)]) _
  refine Go.of (fun _ k => XS.aload X4.here hx rfl (hb hby d10_22) rfl rfl  k) ?_
  show Go p e below T4 (mkF m 24 #[.val (.ref x0), .val (.ref x1), .val (.long x2), .second, .val (.ref (j 1))] [(.ref (j 1)), (.ref x0)]) _
  obtain ⟨T5, h5, X5, e5, W5, st5⟩ := putF X4 hx hZ hown (host := "") (Or.inl (hw _ (List.mem_of_getElem? (i := 99) rfl))) Via.refl e4 Fg E_x0 (Or.inr ⟨(hw _ (List.mem_of_getElem? (i := 100) rfl)), rfl, hnm⟩) (hw _ (List.mem_of_getElem? (i := 55) rfl)) (ty := (.object "java/util/List")) (by decide) rfl rfl (g := (mkF m 24 #[.val (.ref x0), .val (.ref x1), .val (.long x2), .second, .val (.ref (j 1))] [(.ref (j 1)), (.ref x0)])) rfl rfl (hb hby d10_24)
  have N5 := Fr.snoc X5 N4 g0
  have Fg := Fg.same W5
  have Z0 := Nat.le_trans Z0 (Keep.of_wr W5).1
  have OL := OL.wr W5 g0
  have KK := KK.wr W5 (Or.inl (List.mem_of_getElem? (i := 0) rfl))
  have E_x0 := E_x0.wr W5
  have Fn := Fn.other W5 (Or.inr (slot_ne (Or.inr (hw _ (List.mem_of_getElem? (i := 96) rfl))) (Or.inr (hw _ (List.mem_of_getElem? (i := 100) rfl))) (by decide) (t := (.object "java/lang/String")) (t' := (.object "java/util/List")) (by decide) (by decide)))
  have Fv := Fv.other W5 (Or.inr (slot_ne (Or.inr (hw _ (List.mem_of_getElem? (i := 98) rfl))) (Or.inr (hw _ (List.mem_of_getElem? (i := 100) rfl))) (by decide) (t := .long) (t' := (.object "java/util/List")) (by decide) (by decide)))
  refine Go.of (fun _ k => st5 _ k) ?_
  show Go p e below T5 (mkF m 27 #[.val (.ref x0), .val (.ref x1), .val (.long x2), .second, .val (.ref (j 1))] []) _
  refine Go.ret0 X5 hx hret hlk (hb hby d10_27) e5 (by decide) (by decide) ?_
  exact ⟨rfl, N5, KK, E_x0, Fv⟩
theorem own_ef_rmLMb (m : MethodId) (x0 : Addr) (x1 : Addr) (x2 : Int64) (x3 : Addr) : entryFrame m #[(.ref x0), (.ref x1), (.long x2), (.ref x3)] 5 = mkF m 0 #[.val (.ref x0), .val (.ref x1), .val (.long x2), .second, .val (.ref x3)] [] := by first | (simp [entryFrame, mkF, argsToLocals, Value.category]; done) | rfl
def Q_rmLMb (Z : State) (x0 x1 : Addr) (x2 : Int64) (x3 : Addr) (b y : Addr) (kb : ClassId) (j : Sts) (h0 : Heap) (n0 : Nat) : Option Value → Heap → List Loc → Prop := fun v h L => v = none ∧ Fr n0 L ∧ Keep h0 h [x0] ∧ Exa Z h x0 "org/quorumweave/LogMetadata" ∧ Fld Z h x0 "org/quorumweave/LogMetadata" "version" "J" (.long x2)
set_option maxRecDepth 65536 in
set_option maxHeartbeats 40000000 in
theorem rmLMb (l : Launch) (Z : State) (a0 : Array Value) (hw : ∀ d ∈ tables_1, d.before a0 Z = true) (ws : List Jvm.Cond) (x0 x1 : Addr) (x2 : Int64) (x3 : Addr) (b y : Addr) (kb : ClassId) (j : Sts) (h0 : Heap) (n0 : Nat) (Z0 : n0 ≤ h0.size) (g0 : n0 ≤ x0) (OL : Old Z n0 h0) (J : JS Z j) (E_x0 : Exa Z h0 x0 "org/quorumweave/LogMetadata") (Fn : Fld Z h0 x0 "org/quorumweave/LogMetadata" "name" "Ljava/lang/String;" .null) (Fv : Fld Z h0 x0 "org/quorumweave/LogMetadata" "version" "J" (.long (0 : Int64))) (Fg : Fld Z h0 x0 "org/quorumweave/LogMetadata" "segments" "Ljava/util/List;" .null) (E_l : Exa Z h0 x3 "java/util/ArrayList") (Fe : Fld Z h0 x3 "java/util/ArrayList" "elementData" "[Ljava/lang/Object;" (.ref b)) (Fs : Fld Z h0 x3 "java/util/ArrayList" "size" "I" (.int 1))  (Vb : Arv Z h0 b kb (.object "java/lang/Object") 10 [.ref y, .null, .null, .null, .null, .null, .null, .null, .null, .null] .null) (E_y : Exa Z h0 y "org/quorumweave/Segment") (E_b : Exa Z h0 b "[Ljava/lang/Object;") :
    Ctr l Z (⟨"org/quorumweave/LogMetadata", "<init>", "(Ljava/lang/String;JLjava/util/List;)V"⟩ : MethodName) prog_14_method_1_code 5 none ws ({ frames := 8, cells := 2, slots := 3, locals := 100 } : Room) #[(.ref x0), (.ref x1), (.long x2), (.ref x3)] h0 (Q_rmLMb Z x0 x1 x2 x3 b y kb j h0 n0) := by
  refine Ctr.intro (plainFor_of_name own_pn7) ?_
  intro p e s m below meth c s₁ hx hby hml hown hnm hret hlk hZ X0 e0
  have hown : s.vm.findClass "org/quorumweave/LogMetadata" = some m.cls := hown
  have hml : c.maxLocals = 5 := hml
  have N0 := Fr.nil n0
  refine Go.cast (own_ef_rmLMb m x0 x1 x2 x3) ?_
  have KK := Keep.refl h0 [x0]
  show Go p e below s₁ (mkF m 0 #[.val (.ref x0), .val (.ref x1), .val (.long x2), .second, .val (.ref x3)] []) _
  refine Go.of (fun _ k => XS.aloadN X0.here hx rfl (hb hby d10_0) rfl rfl  k) ?_
  show Go p e below s₁ (mkF m 1 #[.val (.ref x0), .val (.ref x1), .val (.long x2), .second, .val (.ref x3)] [(.ref x0)]) _
  obtain ⟨_, _, ⟨T1, L1, kq1, nq1⟩, -, X1, ⟨Lc1, hQ1, l1, y1, z1⟩, st1⟩ := X0.specialBack hx (y := (⟨"java/lang/Record", "<init>", "()V"⟩ : MethodName)) rfl hown (mvT hZ (hw _ (List.mem_of_getElem? (i := 60) rfl))) (mvT hZ (hw _ (List.mem_of_getElem? (i := 61) rfl))) (mvT hZ (hw _ (List.mem_of_getElem? (i := 64) rfl))) (by decide) (backOf (W := 0) (rmRec l Z a0 hw [] x0 h0 n0 Z0) hZ (hw _ (List.mem_of_getElem? (i := 64) rfl)) (hw _ (List.mem_of_getElem? (i := 63) rfl)) (by decide) (by decide)) (g := (mkF m 1 #[.val (.ref x0), .val (.ref x1), .val (.long x2), .second, .val (.ref x3)] [(.ref x0)])) rfl (by rw [hml]; rfl) (Steps.refl _) (a := x0) (argsL := []) (rest := []) (lenOf own_pd0 rfl) rfl (by show 2 * 0 + _ ≤ _; exact Nat.le_of_eq rfl) (hb hby d10_1) (fun _ _ => ⟨rfl, e0, (by decide : 0 + 0 ≤ _), (by decide : 0 + 0 ≤ _)⟩)
  dsimp only [Pt.U, Pt.locs, Pt.cells, Pt.slots] at X1 l1 y1 z1 st1 hQ1
  subst l1 y1 z1
  obtain ⟨rfl, Nq1, e1⟩ := hQ1
  have e1 := e1.trans rfl
  have N1 := Fr.app N0 Nq1
  refine Go.of (fun _ k => st1.trans k) ?_
  show Go p e below T1 (mkF m 4 #[.val (.ref x0), .val (.ref x1), .val (.long x2), .second, .val (.ref x3)] []) _
  refine Go.of (fun _ k => XS.aload X1.here hx rfl (hb hby d10_4) rfl rfl  k) ?_
  show Go p e below T1 (mkF m 6 #[.val (.ref x0), .val (.ref x1), .val (.long x2), .second, .val (.ref x3)] [(.ref x3)]) _
  obtain ⟨_, _, ⟨T2, L2, kq2, nq2⟩, -, X2, ⟨Lc2, hQ2, l2, y2, z2⟩, st2⟩ := Jvm.LawKit.callS X1 hx (y := (⟨"java/util/List", "copyOf", "(Ljava/util/Collection;)Ljava/util/List;"⟩ : MethodName)) hown (mvT hZ (hw _ (List.mem_of_getElem? (i := 66) rfl))) (mvT hZ (hw _ (List.mem_of_getElem? (i := 67) rfl))) (mvT hZ (hw _ (List.mem_of_getElem? (i := 68) rfl))) (mvT hZ (hw _ (List.mem_of_getElem? (i := 69) rfl))) (by decide) (backOf (W := 0) (rmCOb l Z a0 hw [] x3 b y kb j h0 n0 Z0 OL J E_l Fe Fs Vb E_y E_b) hZ (hw _ (List.mem_of_getElem? (i := 69) rfl)) (hw _ (List.mem_of_getElem? (i := 68) rfl)) (by decide) (by decide)) (g := (mkF m 6 #[.val (.ref x0), .val (.ref x1), .val (.long x2), .second, .val (.ref x3)] [(.ref x3)])) rfl (by rw [hml]; rfl) (argsL := [(.ref x3)]) (rest := []) (lenOf own_pd8 rfl) rfl (by show 2 * 0 + _ ≤ _; exact Nat.le_of_eq rfl) (hb hby d10_6) (fun _ _ => ⟨rfl, e1, (by decide : 0 + 2 ≤ _), (by decide : 0 + 3 ≤ _)⟩)
  dsimp only [Pt.U, Pt.locs, Pt.cells, Pt.slots] at X2 l2 y2 z2 st2 hQ2
  subst l2 y2 z2
  obtain ⟨r2, rfl, Nq2, Kq2⟩ := hQ2
  have N2 := Fr.app N1 Nq2
  have Z0 := Nat.le_trans Z0 Kq2.1
  have OL := OL.keep Kq2 all0
  have KK := KK.trans Kq2 all0
  have E_x0 := E_x0.keep Kq2
  have Fn := Fn.keep Kq2 nin0
  have Fv := Fv.keep Kq2 nin0
  have Fg := Fg.keep Kq2 nin0
  refine Go.of (fun _ k => st2 _ k) ?_
  show Go p e below T2 (mkF m 9 #[.val (.ref x0), .val (.ref x1), .val (.long x2), .second, .val (.ref x3)] [(.ref r2)]) _
  refine Go.of (fun _ k => XS.astore X2.here hx rfl (hb hby d10_9) rfl rfl (l' := #[.val (.ref x0), .val (.ref x1), .val (.long x2), .second, .val (.ref r2)]) rfl k) ?_
  show Go p e below T2 (mkF m 11 #[.val (.ref x0), .val (.ref x1), .val (.long x2), .second, .val (.ref r2)] []) _
  refine Go.of (fun _ k => XS.aloadN X2.here hx rfl (hb hby d10_11) rfl rfl  k) ?_
  show Go p e below T2 (mkF m 12 #[.val (.ref x0), .val (.ref x1), .val (.long x2), .second, .val (.ref r2)] [(.ref x0)]) _
  refine Go.of (fun _ k => XS.aloadN X2.here hx rfl (hb hby d10_12) rfl rfl  k) ?_
  show Go p e below T2 (mkF m 13 #[.val (.ref x0), .val (.ref x1), .val (.long x2), .second, .val (.ref r2)] [(.ref x1), (.ref x0)]) _
  obtain ⟨T3, h3, X3, e3, W3, st3⟩ := putF X2 hx hZ hown (host := "") (Or.inl (hw _ (List.mem_of_getElem? (i := 95) rfl))) Via.refl rfl Fn E_x0 (Or.inr ⟨(hw _ (List.mem_of_getElem? (i := 96) rfl)), rfl, hnm⟩) (hw _ (List.mem_of_getElem? (i := 55) rfl)) (ty := (.object "java/lang/String")) (by decide) rfl rfl (g := (mkF m 13 #[.val (.ref x0), .val (.ref x1), .val (.long x2), .second, .val (.ref r2)] [(.ref x1), (.ref x0)])) rfl rfl (hb hby d10_13)
  have N3 := Fr.snoc X3 N2 g0
  have Fn := Fn.same W3
  have Z0 := Nat.le_trans Z0 (Keep.of_wr W3).1
  have OL := OL.wr W3 g0
  have KK := KK.wr W3 (Or.inl (List.mem_of_getElem? (i := 0) rfl))
  have E_x0 := E_x0.wr W3
  have Fv := Fv.other W3 (Or.inr (slot_ne (Or.inr (hw _ (List.mem_of_getElem? (i := 98) rfl))) (Or.inr (hw _ (List.mem_of_getElem? (i := 96) rfl))) (by decide) (t := .long) (t' := (.object "java/lang/String")) (by decide) (by decide)))
  have Fg := Fg.other W3 (Or.inr (slot_ne (Or.inr (hw _ (List.mem_of_getElem? (i := 100) rfl))) (Or.inr (hw _ (List.mem_of_getElem? (i := 96) rfl))) (by decide) (t := (.object "java/util/List")) (t' := (.object "java/lang/String")) (by decide) (by decide)))
  refine Go.of (fun _ k => st3 _ k) ?_
  show Go p e below T3 (mkF m 16 #[.val (.ref x0), .val (.ref x1), .val (.long x2), .second, .val (.ref r2)] []) _
  refine Go.of (fun _ k => XS.aloadN X3.here hx rfl (hb hby d10_16) rfl rfl  k) ?_
  show Go p e below T3 (mkF m 17 #[.val (.ref x0), .val (.ref x1), .val (.long x2), .second, .val (.ref r2)] [(.ref x0)]) _
  refine Go.of (fun _ k => XS.lloadN X3.here hx rfl (hb hby d10_17) rfl  k) ?_
  show Go p e below T3 (mkF m 18 #[.val (.ref x0), .val (.ref x1), .val (.long x2), .second, .val (.ref r2)] [(.long x2), (.ref x0)]) _
  obtain ⟨T4, h4, X4, e4, W4, st4⟩ := putF X3 hx hZ hown (host := "") (Or.inl (hw _ (List.mem_of_getElem? (i := 97) rfl))) Via.refl e3 Fv E_x0 (Or.inr ⟨(hw _ (List.mem_of_getElem? (i := 98) rfl)), rfl, hnm⟩) (hw _ (List.mem_of_getElem? (i := 55) rfl)) (ty := .long) (by decide) rfl rfl (g := (mkF m 18 #[.val (.ref x0), .val (.ref x1), .val (.long x2), .second, .val (.ref r2)] [(.long x2), (.ref x0)])) rfl rfl (hb hby d10_18)
  have N4 := Fr.snoc X4 N3 g0
  have Fv := Fv.same W4
  have Z0 := Nat.le_trans Z0 (Keep.of_wr W4).1
  have OL := OL.wr W4 g0
  have KK := KK.wr W4 (Or.inl (List.mem_of_getElem? (i := 0) rfl))
  have E_x0 := E_x0.wr W4
  have Fn := Fn.other W4 (Or.inr (slot_ne (Or.inr (hw _ (List.mem_of_getElem? (i := 96) rfl))) (Or.inr (hw _ (List.mem_of_getElem? (i := 98) rfl))) (by decide) (t := (.object "java/lang/String")) (t' := .long) (by decide) (by decide)))
  have Fg := Fg.other W4 (Or.inr (slot_ne (Or.inr (hw _ (List.mem_of_getElem? (i := 100) rfl))) (Or.inr (hw _ (List.mem_of_getElem? (i := 98) rfl))) (by decide) (t := (.object "java/util/List")) (t' := .long) (by decide) (by decide)))
  refine Go.of (fun _ k => st4 _ k) ?_
  show Go p e below T4 (mkF m 21 #[.val (.ref x0), .val (.ref x1), .val (.long x2), .second, .val (.ref r2)] []) _
  refine Go.of (fun _ k => XS.aloadN X4.here hx rfl (hb hby d10_21) rfl rfl  k) ?_
  show Go p e below T4 (mkF m 22 #[.val (.ref x0), .val (.ref x1), .val (.long x2), .second, .val (.ref r2)] [(.ref x0)]) _
  refine Go.of (fun _ k => XS.aload X4.here hx rfl (hb hby d10_22) rfl rfl  k) ?_
  show Go p e below T4 (mkF m 24 #[.val (.ref x0), .val (.ref x1), .val (.long x2), .second, .val (.ref r2)] [(.ref r2), (.ref x0)]) _
  obtain ⟨T5, h5, X5, e5, W5, st5⟩ := putF X4 hx hZ hown (host := "") (Or.inl (hw _ (List.mem_of_getElem? (i := 99) rfl))) Via.refl e4 Fg E_x0 (Or.inr ⟨(hw _ (List.mem_of_getElem? (i := 100) rfl)), rfl, hnm⟩) (hw _ (List.mem_of_getElem? (i := 55) rfl)) (ty := (.object "java/util/List")) (by decide) rfl rfl (g := (mkF m 24 #[.val (.ref x0), .val (.ref x1), .val (.long x2), .second, .val (.ref r2)] [(.ref r2), (.ref x0)])) rfl rfl (hb hby d10_24)
  have N5 := Fr.snoc X5 N4 g0
  have Fg := Fg.same W5
  have Z0 := Nat.le_trans Z0 (Keep.of_wr W5).1
  have OL := OL.wr W5 g0
  have KK := KK.wr W5 (Or.inl (List.mem_of_getElem? (i := 0) rfl))
  have E_x0 := E_x0.wr W5
  have Fn := Fn.other W5 (Or.inr (slot_ne (Or.inr (hw _ (List.mem_of_getElem? (i := 96) rfl))) (Or.inr (hw _ (List.mem_of_getElem? (i := 100) rfl))) (by decide) (t := (.object "java/lang/String")) (t' := (.object "java/util/List")) (by decide) (by decide)))
  have Fv := Fv.other W5 (Or.inr (slot_ne (Or.inr (hw _ (List.mem_of_getElem? (i := 98) rfl))) (Or.inr (hw _ (List.mem_of_getElem? (i := 100) rfl))) (by decide) (t := .long) (t' := (.object "java/util/List")) (by decide) (by decide)))
  refine Go.of (fun _ k => st5 _ k) ?_
  show Go p e below T5 (mkF m 27 #[.val (.ref x0), .val (.ref x1), .val (.long x2), .second, .val (.ref r2)] []) _
  refine Go.ret0 X5 hx hret hlk (hb hby d10_27) e5 (by decide) (by decide) ?_
  exact ⟨rfl, N5, KK, E_x0, Fv⟩
theorem own_ef_rmLMc (m : MethodId) (x0 : Addr) (x1 : Addr) (x2 : Int64) (x3 : Addr) : entryFrame m #[(.ref x0), (.ref x1), (.long x2), (.ref x3)] 5 = mkF m 0 #[.val (.ref x0), .val (.ref x1), .val (.long x2), .second, .val (.ref x3)] [] := by first | (simp [entryFrame, mkF, argsToLocals, Value.category]; done) | rfl
def Q_rmLMc (Z : State) (x0 x1 : Addr) (x2 : Int64) (x3 : Addr) (j : Sts) (h0 : Heap) (n0 : Nat) : Option Value → Heap → List Loc → Prop := fun v h L => v = none ∧ Fr n0 L ∧ Keep h0 h [x0] ∧ Exa Z h x0 "org/quorumweave/LogMetadata" ∧ Fld Z h x0 "org/quorumweave/LogMetadata" "version" "J" (.long x2)
set_option maxRecDepth 65536 in
set_option maxHeartbeats 40000000 in
theorem rmLMc (l : Launch) (Z : State) (a0 : Array Value) (hw : ∀ d ∈ tables_1, d.before a0 Z = true) (ws : List Jvm.Cond) (x0 x1 : Addr) (x2 : Int64) (x3 : Addr) (j : Sts) (h0 : Heap) (n0 : Nat) (Z0 : n0 ≤ h0.size) (g0 : n0 ≤ x0) (OL : Old Z n0 h0) (J : JS Z j) (E_x0 : Exa Z h0 x0 "org/quorumweave/LogMetadata") (Fn : Fld Z h0 x0 "org/quorumweave/LogMetadata" "name" "Ljava/lang/String;" .null) (Fv : Fld Z h0 x0 "org/quorumweave/LogMetadata" "version" "J" (.long (0 : Int64))) (Fg : Fld Z h0 x0 "org/quorumweave/LogMetadata" "segments" "Ljava/util/List;" .null) (E_l : Exa Z h0 x3 "java/util/ImmutableCollections$ListN") (Fa : Fld Z h0 x3 "java/util/ImmutableCollections$ListN" "allowNulls" "Z" (.int 0)) :
    Ctr l Z (⟨"org/quorumweave/LogMetadata", "<init>", "(Ljava/lang/String;JLjava/util/List;)V"⟩ : MethodName) prog_14_method_1_code 5 none ws ({ frames := 2, cells := 0, slots := 0, locals := 25 } : Room) #[(.ref x0), (.ref x1), (.long x2), (.ref x3)] h0 (Q_rmLMc Z x0 x1 x2 x3 j h0 n0) := by
  refine Ctr.intro (plainFor_of_name own_pn7) ?_
  intro p e s m below meth c s₁ hx hby hml hown hnm hret hlk hZ X0 e0
  have hown : s.vm.findClass "org/quorumweave/LogMetadata" = some m.cls := hown
  have hml : c.maxLocals = 5 := hml
  have N0 := Fr.nil n0
  refine Go.cast (own_ef_rmLMc m x0 x1 x2 x3) ?_
  have KK := Keep.refl h0 [x0]
  show Go p e below s₁ (mkF m 0 #[.val (.ref x0), .val (.ref x1), .val (.long x2), .second, .val (.ref x3)] []) _
  refine Go.of (fun _ k => XS.aloadN X0.here hx rfl (hb hby d10_0) rfl rfl  k) ?_
  show Go p e below s₁ (mkF m 1 #[.val (.ref x0), .val (.ref x1), .val (.long x2), .second, .val (.ref x3)] [(.ref x0)]) _
  obtain ⟨_, _, ⟨T1, L1, kq1, nq1⟩, -, X1, ⟨Lc1, hQ1, l1, y1, z1⟩, st1⟩ := X0.specialBack hx (y := (⟨"java/lang/Record", "<init>", "()V"⟩ : MethodName)) rfl hown (mvT hZ (hw _ (List.mem_of_getElem? (i := 60) rfl))) (mvT hZ (hw _ (List.mem_of_getElem? (i := 61) rfl))) (mvT hZ (hw _ (List.mem_of_getElem? (i := 64) rfl))) (by decide) (backOf (W := 0) (rmRec l Z a0 hw [] x0 h0 n0 Z0) hZ (hw _ (List.mem_of_getElem? (i := 64) rfl)) (hw _ (List.mem_of_getElem? (i := 63) rfl)) (by decide) (by decide)) (g := (mkF m 1 #[.val (.ref x0), .val (.ref x1), .val (.long x2), .second, .val (.ref x3)] [(.ref x0)])) rfl (by rw [hml]; rfl) (Steps.refl _) (a := x0) (argsL := []) (rest := []) (lenOf own_pd0 rfl) rfl (by show 2 * 0 + _ ≤ _; exact Nat.le_of_eq rfl) (hb hby d10_1) (fun _ _ => ⟨rfl, e0, (by decide : 0 + 0 ≤ _), (by decide : 0 + 0 ≤ _)⟩)
  dsimp only [Pt.U, Pt.locs, Pt.cells, Pt.slots] at X1 l1 y1 z1 st1 hQ1
  subst l1 y1 z1
  obtain ⟨rfl, Nq1, e1⟩ := hQ1
  have e1 := e1.trans rfl
  have N1 := Fr.app N0 Nq1
  refine Go.of (fun _ k => st1.trans k) ?_
  show Go p e below T1 (mkF m 4 #[.val (.ref x0), .val (.ref x1), .val (.long x2), .second, .val (.ref x3)] []) _
  refine Go.of (fun _ k => XS.aload X1.here hx rfl (hb hby d10_4) rfl rfl  k) ?_
  show Go p e below T1 (mkF m 6 #[.val (.ref x0), .val (.ref x1), .val (.long x2), .second, .val (.ref x3)] [(.ref x3)]) _
  obtain ⟨_, _, ⟨T2, L2, kq2, nq2⟩, -, X2, ⟨Lc2, hQ2, l2, y2, z2⟩, st2⟩ := Jvm.LawKit.callS X1 hx (y := (⟨"java/util/List", "copyOf", "(Ljava/util/Collection;)Ljava/util/List;"⟩ : MethodName)) hown (mvT hZ (hw _ (List.mem_of_getElem? (i := 66) rfl))) (mvT hZ (hw _ (List.mem_of_getElem? (i := 67) rfl))) (mvT hZ (hw _ (List.mem_of_getElem? (i := 68) rfl))) (mvT hZ (hw _ (List.mem_of_getElem? (i := 69) rfl))) (by decide) (backOf (W := 0) (rmCOc l Z a0 hw [] x3 h0 n0 Z0 E_l Fa) hZ (hw _ (List.mem_of_getElem? (i := 69) rfl)) (hw _ (List.mem_of_getElem? (i := 68) rfl)) (by decide) (by decide)) (g := (mkF m 6 #[.val (.ref x0), .val (.ref x1), .val (.long x2), .second, .val (.ref x3)] [(.ref x3)])) rfl (by rw [hml]; rfl) (argsL := [(.ref x3)]) (rest := []) (lenOf own_pd8 rfl) rfl (by show 2 * 0 + _ ≤ _; exact Nat.le_of_eq rfl) (hb hby d10_6) (fun _ _ => ⟨rfl, e1, (by decide : 0 + 0 ≤ _), (by decide : 0 + 0 ≤ _)⟩)
  dsimp only [Pt.U, Pt.locs, Pt.cells, Pt.slots] at X2 l2 y2 z2 st2 hQ2
  subst l2 y2 z2
  obtain ⟨rfl, Nq2, e2⟩ := hQ2
  have e2 := e2.trans rfl
  have N2 := Fr.app N1 Nq2
  refine Go.of (fun _ k => st2 _ k) ?_
  show Go p e below T2 (mkF m 9 #[.val (.ref x0), .val (.ref x1), .val (.long x2), .second, .val (.ref x3)] [(.ref x3)]) _
  refine Go.of (fun _ k => XS.astore X2.here hx rfl (hb hby d10_9) rfl rfl (l' := #[.val (.ref x0), .val (.ref x1), .val (.long x2), .second, .val (.ref x3)]) rfl k) ?_
  show Go p e below T2 (mkF m 11 #[.val (.ref x0), .val (.ref x1), .val (.long x2), .second, .val (.ref x3)] []) _
  refine Go.of (fun _ k => XS.aloadN X2.here hx rfl (hb hby d10_11) rfl rfl  k) ?_
  show Go p e below T2 (mkF m 12 #[.val (.ref x0), .val (.ref x1), .val (.long x2), .second, .val (.ref x3)] [(.ref x0)]) _
  refine Go.of (fun _ k => XS.aloadN X2.here hx rfl (hb hby d10_12) rfl rfl  k) ?_
  show Go p e below T2 (mkF m 13 #[.val (.ref x0), .val (.ref x1), .val (.long x2), .second, .val (.ref x3)] [(.ref x1), (.ref x0)]) _
  obtain ⟨T3, h3, X3, e3, W3, st3⟩ := putF X2 hx hZ hown (host := "") (Or.inl (hw _ (List.mem_of_getElem? (i := 95) rfl))) Via.refl e2 Fn E_x0 (Or.inr ⟨(hw _ (List.mem_of_getElem? (i := 96) rfl)), rfl, hnm⟩) (hw _ (List.mem_of_getElem? (i := 55) rfl)) (ty := (.object "java/lang/String")) (by decide) rfl rfl (g := (mkF m 13 #[.val (.ref x0), .val (.ref x1), .val (.long x2), .second, .val (.ref x3)] [(.ref x1), (.ref x0)])) rfl rfl (hb hby d10_13)
  have N3 := Fr.snoc X3 N2 g0
  have Fn := Fn.same W3
  have Z0 := Nat.le_trans Z0 (Keep.of_wr W3).1
  have OL := OL.wr W3 g0
  have KK := KK.wr W3 (Or.inl (List.mem_of_getElem? (i := 0) rfl))
  have E_x0 := E_x0.wr W3
  have Fv := Fv.other W3 (Or.inr (slot_ne (Or.inr (hw _ (List.mem_of_getElem? (i := 98) rfl))) (Or.inr (hw _ (List.mem_of_getElem? (i := 96) rfl))) (by decide) (t := .long) (t' := (.object "java/lang/String")) (by decide) (by decide)))
  have Fg := Fg.other W3 (Or.inr (slot_ne (Or.inr (hw _ (List.mem_of_getElem? (i := 100) rfl))) (Or.inr (hw _ (List.mem_of_getElem? (i := 96) rfl))) (by decide) (t := (.object "java/util/List")) (t' := (.object "java/lang/String")) (by decide) (by decide)))
  refine Go.of (fun _ k => st3 _ k) ?_
  show Go p e below T3 (mkF m 16 #[.val (.ref x0), .val (.ref x1), .val (.long x2), .second, .val (.ref x3)] []) _
  refine Go.of (fun _ k => XS.aloadN X3.here hx rfl (hb hby d10_16) rfl rfl  k) ?_
  show Go p e below T3 (mkF m 17 #[.val (.ref x0), .val (.ref x1), .val (.long x2), .second, .val (.ref x3)] [(.ref x0)]) _
  refine Go.of (fun _ k => XS.lloadN X3.here hx rfl (hb hby d10_17) rfl  k) ?_
  show Go p e below T3 (mkF m 18 #[.val (.ref x0), .val (.ref x1), .val (.long x2), .second, .val (.ref x3)] [(.long x2), (.ref x0)]) _
  obtain ⟨T4, h4, X4, e4, W4, st4⟩ := putF X3 hx hZ hown (host := "") (Or.inl (hw _ (List.mem_of_getElem? (i := 97) rfl))) Via.refl e3 Fv E_x0 (Or.inr ⟨(hw _ (List.mem_of_getElem? (i := 98) rfl)), rfl, hnm⟩) (hw _ (List.mem_of_getElem? (i := 55) rfl)) (ty := .long) (by decide) rfl rfl (g := (mkF m 18 #[.val (.ref x0), .val (.ref x1), .val (.long x2), .second, .val (.ref x3)] [(.long x2), (.ref x0)])) rfl rfl (hb hby d10_18)
  have N4 := Fr.snoc X4 N3 g0
  have Fv := Fv.same W4
  have Z0 := Nat.le_trans Z0 (Keep.of_wr W4).1
  have OL := OL.wr W4 g0
  have KK := KK.wr W4 (Or.inl (List.mem_of_getElem? (i := 0) rfl))
  have E_x0 := E_x0.wr W4
  have Fn := Fn.other W4 (Or.inr (slot_ne (Or.inr (hw _ (List.mem_of_getElem? (i := 96) rfl))) (Or.inr (hw _ (List.mem_of_getElem? (i := 98) rfl))) (by decide) (t := (.object "java/lang/String")) (t' := .long) (by decide) (by decide)))
  have Fg := Fg.other W4 (Or.inr (slot_ne (Or.inr (hw _ (List.mem_of_getElem? (i := 100) rfl))) (Or.inr (hw _ (List.mem_of_getElem? (i := 98) rfl))) (by decide) (t := (.object "java/util/List")) (t' := .long) (by decide) (by decide)))
  refine Go.of (fun _ k => st4 _ k) ?_
  show Go p e below T4 (mkF m 21 #[.val (.ref x0), .val (.ref x1), .val (.long x2), .second, .val (.ref x3)] []) _
  refine Go.of (fun _ k => XS.aloadN X4.here hx rfl (hb hby d10_21) rfl rfl  k) ?_
  show Go p e below T4 (mkF m 22 #[.val (.ref x0), .val (.ref x1), .val (.long x2), .second, .val (.ref x3)] [(.ref x0)]) _
  refine Go.of (fun _ k => XS.aload X4.here hx rfl (hb hby d10_22) rfl rfl  k) ?_
  show Go p e below T4 (mkF m 24 #[.val (.ref x0), .val (.ref x1), .val (.long x2), .second, .val (.ref x3)] [(.ref x3), (.ref x0)]) _
  obtain ⟨T5, h5, X5, e5, W5, st5⟩ := putF X4 hx hZ hown (host := "") (Or.inl (hw _ (List.mem_of_getElem? (i := 99) rfl))) Via.refl e4 Fg E_x0 (Or.inr ⟨(hw _ (List.mem_of_getElem? (i := 100) rfl)), rfl, hnm⟩) (hw _ (List.mem_of_getElem? (i := 55) rfl)) (ty := (.object "java/util/List")) (by decide) rfl rfl (g := (mkF m 24 #[.val (.ref x0), .val (.ref x1), .val (.long x2), .second, .val (.ref x3)] [(.ref x3), (.ref x0)])) rfl rfl (hb hby d10_24)
  have N5 := Fr.snoc X5 N4 g0
  have Fg := Fg.same W5
  have Z0 := Nat.le_trans Z0 (Keep.of_wr W5).1
  have OL := OL.wr W5 g0
  have KK := KK.wr W5 (Or.inl (List.mem_of_getElem? (i := 0) rfl))
  have E_x0 := E_x0.wr W5
  have Fn := Fn.other W5 (Or.inr (slot_ne (Or.inr (hw _ (List.mem_of_getElem? (i := 96) rfl))) (Or.inr (hw _ (List.mem_of_getElem? (i := 100) rfl))) (by decide) (t := (.object "java/lang/String")) (t' := (.object "java/util/List")) (by decide) (by decide)))
  have Fv := Fv.other W5 (Or.inr (slot_ne (Or.inr (hw _ (List.mem_of_getElem? (i := 98) rfl))) (Or.inr (hw _ (List.mem_of_getElem? (i := 100) rfl))) (by decide) (t := .long) (t' := (.object "java/util/List")) (by decide) (by decide)))
  refine Go.of (fun _ k => st5 _ k) ?_
  show Go p e below T5 (mkF m 27 #[.val (.ref x0), .val (.ref x1), .val (.long x2), .second, .val (.ref x3)] []) _
  refine Go.ret0 X5 hx hret hlk (hb hby d10_27) e5 (by decide) (by decide) ?_
  exact ⟨rfl, N5, KK, E_x0, Fv⟩
theorem d17_0 : decode prog_14_method_2_code 0 = .ok (.new 14, 3) := by decide +kernel
theorem d17_3 : decode prog_14_method_2_code 3 = .ok (.dup, 1) := by decide +kernel
theorem d17_4 : decode prog_14_method_2_code 4 = .ok (.aload_n 0, 1) := by decide +kernel
theorem d17_5 : decode prog_14_method_2_code 5 = .ok (.lconst 0, 1) := by decide +kernel
theorem d17_6 : decode prog_14_method_2_code 6 = .ok (.invokestatic 27, 3) := by decide +kernel
theorem d17_9 : decode prog_14_method_2_code 9 = .ok (.invokespecial 31, 3) := by decide +kernel
theorem own_pd11 : parseMethodDescriptor "(Ljava/lang/String;JLjava/util/List;)V" = some ⟨[(.object "java/lang/String"), .long, (.object "java/util/List")], none⟩ := by decide +kernel
theorem d17_12 : decode prog_14_method_2_code 12 = .ok (.areturn, 1) := by decide +kernel
theorem own_ef_rmAbs (m : MethodId) (x0 : Addr) : entryFrame m #[(.ref x0)] 1 = mkF m 0 #[.val (.ref x0)] [] := by first | (simp [entryFrame, mkF, argsToLocals, Value.category]; done) | rfl
def Q_rmAbs (Z : State) (x0 : Addr) (j : Sts) (h0 : Heap) (n0 : Nat) : Option Value → Heap → List Loc → Prop := fun v h L => ∃ r, v = some (.ref r) ∧ Fr n0 L ∧ Keep h0 h [] ∧ Exa Z h r "org/quorumweave/LogMetadata" ∧ Fld Z h r "org/quorumweave/LogMetadata" "version" "J" (.long 0)
set_option maxRecDepth 65536 in
set_option maxHeartbeats 40000000 in
theorem rmAbs (l : Launch) (Z : State) (a0 : Array Value) (hw : ∀ d ∈ tables_1, d.before a0 Z = true) (ws : List Jvm.Cond) (x0 : Addr) (j : Sts) (h0 : Heap) (n0 : Nat) (Z0 : n0 ≤ h0.size) (OL : Old Z n0 h0) (J : JS Z j) :
    Ctr l Z (⟨"org/quorumweave/LogMetadata", "absent", "(Ljava/lang/String;)Lorg/quorumweave/LogMetadata;"⟩ : MethodName) prog_14_method_2_code 1 (some (.object "org/quorumweave/LogMetadata")) ws ({ frames := 3, cells := 1, slots := 3, locals := 42 } : Room) #[(.ref x0)] h0 (Q_rmAbs Z x0 j h0 n0) := by
  refine Ctr.intro (plainFor_of_name own_pn7) ?_
  intro p e s m below meth c s₁ hx hby hml hown hnm hret hlk hZ X0 e0
  have hown : s.vm.findClass "org/quorumweave/LogMetadata" = some m.cls := hown
  have hml : c.maxLocals = 1 := hml
  have N0 := Fr.nil n0
  refine Go.cast (own_ef_rmAbs m x0) ?_
  have KK := Keep.refl h0 []
  show Go p e below s₁ (mkF m 0 #[.val (.ref x0)] []) _
  obtain ⟨T1, h1, X1, e1, E1, A1, D1, -, st1⟩ := newO X0 hx hZ hown (hw _ (List.mem_of_getElem? (i := 109) rfl)) (hw _ (List.mem_of_getElem? (i := 55) rfl)) (hw _ (List.mem_of_getElem? (i := 56) rfl)) e0 (g := (mkF m 0 #[.val (.ref x0)] [])) rfl (hb hby d17_0) (by decide) (by decide)
  obtain ⟨ad1, g1⟩ : ∃ z, z = h0.size := ⟨_, rfl⟩
  rw [← g1] at A1 D1 st1
  have ge_ad1 : n0 ≤ ad1 := Nat.le_trans Z0 (Nat.le_of_eq g1.symm)
  have sz_ad1 : h0.size ≤ ad1 := Nat.le_trans KK.1 (Nat.le_of_eq g1.symm)
  have Z0 := Nat.le_trans Z0 E1.1
  have OL := OL.ext E1
  have KK := KK.ext E1
  have E_ad1 := A1
  have F_name_ad1 : Fld Z h1 ad1 "org/quorumweave/LogMetadata" "name" "Ljava/lang/String;" .null := D1 (Or.inr (hw _ (List.mem_of_getElem? (i := 96) rfl))) (ty := (.object "java/lang/String")) (by decide)
  have F_version_ad1 : Fld Z h1 ad1 "org/quorumweave/LogMetadata" "version" "J" (.long (0 : Int64)) := D1 (Or.inr (hw _ (List.mem_of_getElem? (i := 98) rfl))) (ty := .long) (by decide)
  have F_segments_ad1 : Fld Z h1 ad1 "org/quorumweave/LogMetadata" "segments" "Ljava/util/List;" .null := D1 (Or.inr (hw _ (List.mem_of_getElem? (i := 100) rfl))) (ty := (.object "java/util/List")) (by decide)
  refine Go.of (fun _ k => st1 _ k) ?_
  show Go p e below T1 (mkF m 3 #[.val (.ref x0)] [(.ref ad1)]) _
  refine Go.of (fun _ k => XS.dup X1.here hx rfl (hb hby d17_3) rfl rfl k) ?_
  show Go p e below T1 (mkF m 4 #[.val (.ref x0)] [(.ref ad1), (.ref ad1)]) _
  refine Go.of (fun _ k => XS.aloadN X1.here hx rfl (hb hby d17_4) rfl rfl  k) ?_
  show Go p e below T1 (mkF m 5 #[.val (.ref x0)] [(.ref x0), (.ref ad1), (.ref ad1)]) _
  refine Go.of (fun _ k => XS.lconst X1.here hx rfl (hb hby d17_5) k) ?_
  show Go p e below T1 (mkF m 6 #[.val (.ref x0)] [(.long (0 : Int64)), (.ref x0), (.ref ad1), (.ref ad1)]) _
  obtain ⟨_, _, ⟨T2, L2, kq2, nq2⟩, -, X2, ⟨Lc2, hQ2, l2, y2, z2⟩, st2⟩ := Jvm.LawKit.callS X1 hx (y := (⟨"java/util/List", "of", "()Ljava/util/List;"⟩ : MethodName)) hown (mvT hZ (hw _ (List.mem_of_getElem? (i := 110) rfl))) (mvT hZ (hw _ (List.mem_of_getElem? (i := 92) rfl))) (mvT hZ (hw _ (List.mem_of_getElem? (i := 68) rfl))) (mvT hZ (hw _ (List.mem_of_getElem? (i := 93) rfl))) (by decide) (backOf (W := 5) (rmOf0 l Z a0 hw [] j h1 n0 Z0 OL J) hZ (hw _ (List.mem_of_getElem? (i := 93) rfl)) (hw _ (List.mem_of_getElem? (i := 68) rfl)) (by decide) (by decide)) (g := (mkF m 6 #[.val (.ref x0)] [(.long (0 : Int64)), (.ref x0), (.ref ad1), (.ref ad1)])) rfl (by rw [hml]; rfl) (argsL := []) (rest := [(.long (0 : Int64)), (.ref x0), (.ref ad1), (.ref ad1)]) (lenOf own_pd7 rfl) rfl (by show 2 * 0 + _ ≤ _; exact Nat.le_of_eq rfl) (hb hby d17_6) (fun _ _ => ⟨rfl, e1, (by decide : 1 + 0 ≤ _), (by decide : 3 + 0 ≤ _)⟩)
  dsimp only [Pt.U, Pt.locs, Pt.cells, Pt.slots] at X2 l2 y2 z2 st2 hQ2
  subst l2 y2 z2
  obtain ⟨rfl, Nq2, e2⟩ := hQ2
  have e2 := e2.trans rfl
  have N2 := Fr.app N0 Nq2
  refine Go.of (fun _ k => st2 _ k) ?_
  show Go p e below T2 (mkF m 9 #[.val (.ref x0)] [(.ref (j 1)), (.long (0 : Int64)), (.ref x0), (.ref ad1), (.ref ad1)]) _
  obtain ⟨_, _, ⟨T3, L3, kq3, nq3⟩, -, X3, ⟨Lc3, hQ3, l3, y3, z3⟩, st3⟩ := X2.specialBack hx (y := (⟨"org/quorumweave/LogMetadata", "<init>", "(Ljava/lang/String;JLjava/util/List;)V"⟩ : MethodName)) rfl hown (mvT hZ (hw _ (List.mem_of_getElem? (i := 111) rfl))) (mvT hZ (hw _ (List.mem_of_getElem? (i := 58) rfl))) (mvT hZ (hw _ (List.mem_of_getElem? (i := 59) rfl))) (by decide) (backOf (W := 1) (rmLMc l Z a0 hw [] ad1 x0 (0 : Int64) (j 1) j h1 n0 Z0 ge_ad1 OL J E_ad1 F_name_ad1 F_version_ad1 F_segments_ad1 (J.ee.ext OL.2) (J.an.ext OL.2)) hZ (hw _ (List.mem_of_getElem? (i := 59) rfl)) (hw _ (List.mem_of_getElem? (i := 56) rfl)) (by decide) (by decide)) (g := (mkF m 9 #[.val (.ref x0)] [(.ref (j 1)), (.long (0 : Int64)), (.ref x0), (.ref ad1), (.ref ad1)])) rfl (by rw [hml]; rfl) (Steps.refl _) (a := ad1) (argsL := [(.ref x0), (.long (0 : Int64)), (.ref (j 1))]) (rest := [(.ref ad1)]) (lenOf own_pd11 rfl) rfl (by show 2 * 0 + _ ≤ _; exact Nat.le_of_eq rfl) (hb hby d17_9) (fun _ _ => ⟨rfl, e2, (by decide : 1 + 0 ≤ _), (by decide : 3 + 0 ≤ _)⟩)
  dsimp only [Pt.U, Pt.locs, Pt.cells, Pt.slots] at X3 l3 y3 z3 st3 hQ3
  subst l3 y3 z3
  obtain ⟨rfl, Nq3, Kq3, fq3_0, fq3_1⟩ := hQ3
  have N3 := Fr.app N2 Nq3
  have Z0 := Nat.le_trans Z0 Kq3.1
  have OL := OL.keep Kq3 (allS ge_ad1 all0)
  have KK := KK.trans Kq3 (allS (Or.inr sz_ad1) all0)
  have E_ad1 := fq3_0
  have F_version_ad1 := fq3_1
  refine Go.of (fun _ k => st3.trans k) ?_
  show Go p e below T3 (mkF m 12 #[.val (.ref x0)] [(.ref ad1)]) _
  refine Go.retA X3 hx hret hlk rfl rfl (hb hby d17_12) rfl (by decide) (by decide) ?_
  exact ⟨_, rfl, N3, KK, E_ad1, F_version_ad1⟩
theorem d19_0 : decode prog_40_method_1_code 0 = .ok (.aload_n 0, 1) := by decide +kernel
theorem d19_1 : decode prog_40_method_1_code 1 = .ok (.invokespecial 1, 3) := by decide +kernel
theorem d19_4 : decode prog_40_method_1_code 4 = .ok (.aload_n 3, 1) := by decide +kernel
theorem d19_5 : decode prog_40_method_1_code 5 = .ok (.invokestatic 7, 3) := by decide +kernel
theorem d19_8 : decode prog_40_method_1_code 8 = .ok (.astore_n 3, 1) := by decide +kernel
theorem d19_9 : decode prog_40_method_1_code 9 = .ok (.aload_n 0, 1) := by decide +kernel
theorem d19_10 : decode prog_40_method_1_code 10 = .ok (.lload_n 1, 1) := by decide +kernel
theorem d19_11 : decode prog_40_method_1_code 11 = .ok (.putfield 13, 3) := by decide +kernel
theorem d19_14 : decode prog_40_method_1_code 14 = .ok (.aload_n 0, 1) := by decide +kernel
theorem d19_15 : decode prog_40_method_1_code 15 = .ok (.aload_n 3, 1) := by decide +kernel
theorem d19_16 : decode prog_40_method_1_code 16 = .ok (.putfield 19, 3) := by decide +kernel
theorem d19_19 : decode prog_40_method_1_code 19 = .ok (.aload_n 0, 1) := by decide +kernel
theorem d19_20 : decode prog_40_method_1_code 20 = .ok (.iload 4, 2) := by decide +kernel
theorem d19_22 : decode prog_40_method_1_code 22 = .ok (.putfield 23, 3) := by decide +kernel
theorem d19_25 : decode prog_40_method_1_code 25 = .ok (.aload_n 0, 1) := by decide +kernel
theorem d19_26 : decode prog_40_method_1_code 26 = .ok (.iload 5, 2) := by decide +kernel
theorem d19_28 : decode prog_40_method_1_code 28 = .ok (.putfield 27, 3) := by decide +kernel
theorem d19_31 : decode prog_40_method_1_code 31 = .ok (.aload_n 0, 1) := by decide +kernel
theorem d19_32 : decode prog_40_method_1_code 32 = .ok (.aload 6, 2) := by decide +kernel
theorem d19_34 : decode prog_40_method_1_code 34 = .ok (.putfield 30, 3) := by decide +kernel
theorem d19_37 : decode prog_40_method_1_code 37 = .ok (.aload_n 0, 1) := by decide +kernel
theorem d19_38 : decode prog_40_method_1_code 38 = .ok (.lload 7, 2) := by decide +kernel
theorem d19_40 : decode prog_40_method_1_code 40 = .ok (.putfield 34, 3) := by decide +kernel
theorem d19_43 : decode prog_40_method_1_code 43 = .ok (.return_, 1) := by decide +kernel
theorem own_pn12 : plainName "org/quorumweave/Segment" = true := by first | (simp [plainName, overriddenIn]; done) | decide +kernel
theorem own_ef_rmSg (m : MethodId) (x0 : Addr) (x1 : Int64) (x2 : Addr) (x3 : Int32) (x4 : Int32) (x5 : Addr) (x6 : Int64) : entryFrame m #[(.ref x0), (.long x1), (.ref x2), (.int x3), (.int x4), (.ref x5), (.long x6)] 9 = mkF m 0 #[.val (.ref x0), .val (.long x1), .second, .val (.ref x2), .val (.int x3), .val (.int x4), .val (.ref x5), .val (.long x6), .second] [] := by first | (simp [entryFrame, mkF, argsToLocals, Value.category]; done) | rfl
def Q_rmSg (Z : State) (x0 : Addr) (x1 : Int64) (x2 : Addr) (x3 x4 : Int32) (x5 : Addr) (x6 : Int64) (j : Sts) (h0 : Heap) (n0 : Nat) : Option Value → Heap → List Loc → Prop := fun v h L => v = none ∧ Fr n0 L ∧ Keep h0 h [x0] ∧ Exa Z h x0 "org/quorumweave/Segment"
set_option maxRecDepth 65536 in
set_option maxHeartbeats 40000000 in
theorem rmSg (l : Launch) (Z : State) (a0 : Array Value) (hw : ∀ d ∈ tables_1, d.before a0 Z = true) (ws : List Jvm.Cond) (x0 : Addr) (x1 : Int64) (x2 : Addr) (x3 x4 : Int32) (x5 : Addr) (x6 : Int64) (j : Sts) (h0 : Heap) (n0 : Nat) (Z0 : n0 ≤ h0.size) (g0 : n0 ≤ x0) (OL : Old Z n0 h0) (J : JS Z j) (E_x0 : Exa Z h0 x0 "org/quorumweave/Segment") (F0 : Fld Z h0 x0 "org/quorumweave/Segment" "number" "J" (.long (0 : Int64))) (F1 : Fld Z h0 x0 "org/quorumweave/Segment" "ensemble" "Ljava/util/List;" .null) (F2 : Fld Z h0 x0 "org/quorumweave/Segment" "writeQuorum" "I" (.int (0 : Int32))) (F3 : Fld Z h0 x0 "org/quorumweave/Segment" "ackQuorum" "I" (.int (0 : Int32))) (F4 : Fld Z h0 x0 "org/quorumweave/Segment" "state" "Lorg/quorumweave/Segment$State;" .null) (F5 : Fld Z h0 x0 "org/quorumweave/Segment" "lastEntry" "J" (.long (0 : Int64))) (E_l : Exa Z h0 x2 "java/util/ArrayList") (Fs : Fld Z h0 x2 "java/util/ArrayList" "size" "I" (.int 0)) :
    Ctr l Z (⟨"org/quorumweave/Segment", "<init>", "(JLjava/util/List;IILorg/quorumweave/Segment$State;J)V"⟩ : MethodName) prog_40_method_1_code 9 none ws ({ frames := 3, cells := 0, slots := 0, locals := 37 } : Room) #[(.ref x0), (.long x1), (.ref x2), (.int x3), (.int x4), (.ref x5), (.long x6)] h0 (Q_rmSg Z x0 x1 x2 x3 x4 x5 x6 j h0 n0) := by
  refine Ctr.intro (plainFor_of_name own_pn12) ?_
  intro p e s m below meth c s₁ hx hby hml hown hnm hret hlk hZ X0 e0
  have hown : s.vm.findClass "org/quorumweave/Segment" = some m.cls := hown
  have hml : c.maxLocals = 9 := hml
  have N0 := Fr.nil n0
  refine Go.cast (own_ef_rmSg m x0 x1 x2 x3 x4 x5 x6) ?_
  have KK := Keep.refl h0 [x0]
  show Go p e below s₁ (mkF m 0 #[.val (.ref x0), .val (.long x1), .second, .val (.ref x2), .val (.int x3), .val (.int x4), .val (.ref x5), .val (.long x6), .second] []) _
  refine Go.of (fun _ k => XS.aloadN X0.here hx rfl (hb hby d19_0) rfl rfl  k) ?_
  show Go p e below s₁ (mkF m 1 #[.val (.ref x0), .val (.long x1), .second, .val (.ref x2), .val (.int x3), .val (.int x4), .val (.ref x5), .val (.long x6), .second] [(.ref x0)]) _
  obtain ⟨_, _, ⟨T1, L1, kq1, nq1⟩, -, X1, ⟨Lc1, hQ1, l1, y1, z1⟩, st1⟩ := X0.specialBack hx (y := (⟨"java/lang/Record", "<init>", "()V"⟩ : MethodName)) rfl hown (mvT hZ (hw _ (List.mem_of_getElem? (i := 133) rfl))) (mvT hZ (hw _ (List.mem_of_getElem? (i := 61) rfl))) (mvT hZ (hw _ (List.mem_of_getElem? (i := 64) rfl))) (by decide) (backOf (W := 0) (rmRec l Z a0 hw [] x0 h0 n0 Z0) hZ (hw _ (List.mem_of_getElem? (i := 64) rfl)) (hw _ (List.mem_of_getElem? (i := 63) rfl)) (by decide) (by decide)) (g := (mkF m 1 #[.val (.ref x0), .val (.long x1), .second, .val (.ref x2), .val (.int x3), .val (.int x4), .val (.ref x5), .val (.long x6), .second] [(.ref x0)])) rfl (by rw [hml]; rfl) (Steps.refl _) (a := x0) (argsL := []) (rest := []) (lenOf own_pd0 rfl) rfl (by show 2 * 0 + _ ≤ _; exact Nat.le_of_eq rfl) (hb hby d19_1) (fun _ _ => ⟨rfl, e0, (by decide : 0 + 0 ≤ _), (by decide : 0 + 0 ≤ _)⟩)
  dsimp only [Pt.U, Pt.locs, Pt.cells, Pt.slots] at X1 l1 y1 z1 st1 hQ1
  subst l1 y1 z1
  obtain ⟨rfl, Nq1, e1⟩ := hQ1
  have e1 := e1.trans rfl
  have N1 := Fr.app N0 Nq1
  refine Go.of (fun _ k => st1.trans k) ?_
  show Go p e below T1 (mkF m 4 #[.val (.ref x0), .val (.long x1), .second, .val (.ref x2), .val (.int x3), .val (.int x4), .val (.ref x5), .val (.long x6), .second] []) _
  refine Go.of (fun _ k => XS.aloadN X1.here hx rfl (hb hby d19_4) rfl rfl  k) ?_
  show Go p e below T1 (mkF m 5 #[.val (.ref x0), .val (.long x1), .second, .val (.ref x2), .val (.int x3), .val (.int x4), .val (.ref x5), .val (.long x6), .second] [(.ref x2)]) _
  obtain ⟨_, _, ⟨T2, L2, kq2, nq2⟩, -, X2, ⟨Lc2, hQ2, l2, y2, z2⟩, st2⟩ := Jvm.LawKit.callS X1 hx (y := (⟨"java/util/List", "copyOf", "(Ljava/util/Collection;)Ljava/util/List;"⟩ : MethodName)) hown (mvT hZ (hw _ (List.mem_of_getElem? (i := 134) rfl))) (mvT hZ (hw _ (List.mem_of_getElem? (i := 67) rfl))) (mvT hZ (hw _ (List.mem_of_getElem? (i := 68) rfl))) (mvT hZ (hw _ (List.mem_of_getElem? (i := 69) rfl))) (by decide) (backOf (W := 0) (rmCOa l Z a0 hw [] x2 j h0 n0 Z0 OL J E_l Fs) hZ (hw _ (List.mem_of_getElem? (i := 69) rfl)) (hw _ (List.mem_of_getElem? (i := 68) rfl)) (by decide) (by decide)) (g := (mkF m 5 #[.val (.ref x0), .val (.long x1), .second, .val (.ref x2), .val (.int x3), .val (.int x4), .val (.ref x5), .val (.long x6), .second] [(.ref x2)])) rfl (by rw [hml]; rfl) (argsL := [(.ref x2)]) (rest := []) (lenOf own_pd8 rfl) rfl (by show 2 * 0 + _ ≤ _; exact Nat.le_of_eq rfl) (hb hby d19_5) (fun _ _ => ⟨rfl, e1, (by decide : 0 + 0 ≤ _), (by decide : 0 + 0 ≤ _)⟩)
  dsimp only [Pt.U, Pt.locs, Pt.cells, Pt.slots] at X2 l2 y2 z2 st2 hQ2
  subst l2 y2 z2
  obtain ⟨rfl, Nq2, e2⟩ := hQ2
  have e2 := e2.trans rfl
  have N2 := Fr.app N1 Nq2
  refine Go.of (fun _ k => st2 _ k) ?_
  show Go p e below T2 (mkF m 8 #[.val (.ref x0), .val (.long x1), .second, .val (.ref x2), .val (.int x3), .val (.int x4), .val (.ref x5), .val (.long x6), .second] [(.ref (j 1))]) _
  refine Go.of (fun _ k => XS.astoreN X2.here hx rfl (hb hby d19_8) rfl rfl (l' := #[.val (.ref x0), .val (.long x1), .second, .val (.ref (j 1)), .val (.int x3), .val (.int x4), .val (.ref x5), .val (.long x6), .second]) rfl k) ?_
  show Go p e below T2 (mkF m 9 #[.val (.ref x0), .val (.long x1), .second, .val (.ref (j 1)), .val (.int x3), .val (.int x4), .val (.ref x5), .val (.long x6), .second] []) _
  refine Go.of (fun _ k => XS.aloadN X2.here hx rfl (hb hby d19_9) rfl rfl  k) ?_
  show Go p e below T2 (mkF m 10 #[.val (.ref x0), .val (.long x1), .second, .val (.ref (j 1)), .val (.int x3), .val (.int x4), .val (.ref x5), .val (.long x6), .second] [(.ref x0)]) _
  refine Go.of (fun _ k => XS.lloadN X2.here hx rfl (hb hby d19_10) rfl  k) ?_
  show Go p e below T2 (mkF m 11 #[.val (.ref x0), .val (.long x1), .second, .val (.ref (j 1)), .val (.int x3), .val (.int x4), .val (.ref x5), .val (.long x6), .second] [(.long x1), (.ref x0)]) _
  obtain ⟨T3, h3, X3, e3, W3, st3⟩ := putF X2 hx hZ hown (host := "") (Or.inl (hw _ (List.mem_of_getElem? (i := 135) rfl))) Via.refl e2 F0 E_x0 (Or.inr ⟨(hw _ (List.mem_of_getElem? (i := 136) rfl)), rfl, hnm⟩) (hw _ (List.mem_of_getElem? (i := 125) rfl)) (ty := .long) (by decide) rfl rfl (g := (mkF m 11 #[.val (.ref x0), .val (.long x1), .second, .val (.ref (j 1)), .val (.int x3), .val (.int x4), .val (.ref x5), .val (.long x6), .second] [(.long x1), (.ref x0)])) rfl rfl (hb hby d19_11)
  have N3 := Fr.snoc X3 N2 g0
  have F0 := F0.same W3
  have Z0 := Nat.le_trans Z0 (Keep.of_wr W3).1
  have OL := OL.wr W3 g0
  have KK := KK.wr W3 (Or.inl (List.mem_of_getElem? (i := 0) rfl))
  have E_x0 := E_x0.wr W3
  have F1 := F1.other W3 (Or.inr (slot_ne (Or.inr (hw _ (List.mem_of_getElem? (i := 138) rfl))) (Or.inr (hw _ (List.mem_of_getElem? (i := 136) rfl))) (by decide) (t := (.object "java/util/List")) (t' := .long) (by decide) (by decide)))
  have F2 := F2.other W3 (Or.inr (slot_ne (Or.inr (hw _ (List.mem_of_getElem? (i := 140) rfl))) (Or.inr (hw _ (List.mem_of_getElem? (i := 136) rfl))) (by decide) (t := .int) (t' := .long) (by decide) (by decide)))
  have F3 := F3.other W3 (Or.inr (slot_ne (Or.inr (hw _ (List.mem_of_getElem? (i := 142) rfl))) (Or.inr (hw _ (List.mem_of_getElem? (i := 136) rfl))) (by decide) (t := .int) (t' := .long) (by decide) (by decide)))
  have F4 := F4.other W3 (Or.inr (slot_ne (Or.inr (hw _ (List.mem_of_getElem? (i := 144) rfl))) (Or.inr (hw _ (List.mem_of_getElem? (i := 136) rfl))) (by decide) (t := (.object "org/quorumweave/Segment$State")) (t' := .long) (by decide) (by decide)))
  have F5 := F5.other W3 (Or.inr (slot_ne (Or.inr (hw _ (List.mem_of_getElem? (i := 146) rfl))) (Or.inr (hw _ (List.mem_of_getElem? (i := 136) rfl))) (by decide) (t := .long) (t' := .long) (by decide) (by decide)))
  refine Go.of (fun _ k => st3 _ k) ?_
  show Go p e below T3 (mkF m 14 #[.val (.ref x0), .val (.long x1), .second, .val (.ref (j 1)), .val (.int x3), .val (.int x4), .val (.ref x5), .val (.long x6), .second] []) _
  refine Go.of (fun _ k => XS.aloadN X3.here hx rfl (hb hby d19_14) rfl rfl  k) ?_
  show Go p e below T3 (mkF m 15 #[.val (.ref x0), .val (.long x1), .second, .val (.ref (j 1)), .val (.int x3), .val (.int x4), .val (.ref x5), .val (.long x6), .second] [(.ref x0)]) _
  refine Go.of (fun _ k => XS.aloadN X3.here hx rfl (hb hby d19_15) rfl rfl  k) ?_
  show Go p e below T3 (mkF m 16 #[.val (.ref x0), .val (.long x1), .second, .val (.ref (j 1)), .val (.int x3), .val (.int x4), .val (.ref x5), .val (.long x6), .second] [(.ref (j 1)), (.ref x0)]) _
  obtain ⟨T4, h4, X4, e4, W4, st4⟩ := putF X3 hx hZ hown (host := "") (Or.inl (hw _ (List.mem_of_getElem? (i := 137) rfl))) Via.refl e3 F1 E_x0 (Or.inr ⟨(hw _ (List.mem_of_getElem? (i := 138) rfl)), rfl, hnm⟩) (hw _ (List.mem_of_getElem? (i := 125) rfl)) (ty := (.object "java/util/List")) (by decide) rfl rfl (g := (mkF m 16 #[.val (.ref x0), .val (.long x1), .second, .val (.ref (j 1)), .val (.int x3), .val (.int x4), .val (.ref x5), .val (.long x6), .second] [(.ref (j 1)), (.ref x0)])) rfl rfl (hb hby d19_16)
  have N4 := Fr.snoc X4 N3 g0
  have F1 := F1.same W4
  have Z0 := Nat.le_trans Z0 (Keep.of_wr W4).1
  have OL := OL.wr W4 g0
  have KK := KK.wr W4 (Or.inl (List.mem_of_getElem? (i := 0) rfl))
  have E_x0 := E_x0.wr W4
  have F0 := F0.other W4 (Or.inr (slot_ne (Or.inr (hw _ (List.mem_of_getElem? (i := 136) rfl))) (Or.inr (hw _ (List.mem_of_getElem? (i := 138) rfl))) (by decide) (t := .long) (t' := (.object "java/util/List")) (by decide) (by decide)))
  have F2 := F2.other W4 (Or.inr (slot_ne (Or.inr (hw _ (List.mem_of_getElem? (i := 140) rfl))) (Or.inr (hw _ (List.mem_of_getElem? (i := 138) rfl))) (by decide) (t := .int) (t' := (.object "java/util/List")) (by decide) (by decide)))
  have F3 := F3.other W4 (Or.inr (slot_ne (Or.inr (hw _ (List.mem_of_getElem? (i := 142) rfl))) (Or.inr (hw _ (List.mem_of_getElem? (i := 138) rfl))) (by decide) (t := .int) (t' := (.object "java/util/List")) (by decide) (by decide)))
  have F4 := F4.other W4 (Or.inr (slot_ne (Or.inr (hw _ (List.mem_of_getElem? (i := 144) rfl))) (Or.inr (hw _ (List.mem_of_getElem? (i := 138) rfl))) (by decide) (t := (.object "org/quorumweave/Segment$State")) (t' := (.object "java/util/List")) (by decide) (by decide)))
  have F5 := F5.other W4 (Or.inr (slot_ne (Or.inr (hw _ (List.mem_of_getElem? (i := 146) rfl))) (Or.inr (hw _ (List.mem_of_getElem? (i := 138) rfl))) (by decide) (t := .long) (t' := (.object "java/util/List")) (by decide) (by decide)))
  refine Go.of (fun _ k => st4 _ k) ?_
  show Go p e below T4 (mkF m 19 #[.val (.ref x0), .val (.long x1), .second, .val (.ref (j 1)), .val (.int x3), .val (.int x4), .val (.ref x5), .val (.long x6), .second] []) _
  refine Go.of (fun _ k => XS.aloadN X4.here hx rfl (hb hby d19_19) rfl rfl  k) ?_
  show Go p e below T4 (mkF m 20 #[.val (.ref x0), .val (.long x1), .second, .val (.ref (j 1)), .val (.int x3), .val (.int x4), .val (.ref x5), .val (.long x6), .second] [(.ref x0)]) _
  refine Go.of (fun _ k => XS.iload X4.here hx rfl (hb hby d19_20) rfl  k) ?_
  show Go p e below T4 (mkF m 22 #[.val (.ref x0), .val (.long x1), .second, .val (.ref (j 1)), .val (.int x3), .val (.int x4), .val (.ref x5), .val (.long x6), .second] [(.int x3), (.ref x0)]) _
  obtain ⟨T5, h5, X5, e5, W5, st5⟩ := putF X4 hx hZ hown (host := "") (Or.inl (hw _ (List.mem_of_getElem? (i := 139) rfl))) Via.refl e4 F2 E_x0 (Or.inr ⟨(hw _ (List.mem_of_getElem? (i := 140) rfl)), rfl, hnm⟩) (hw _ (List.mem_of_getElem? (i := 125) rfl)) (ty := .int) (by decide) rfl rfl (g := (mkF m 22 #[.val (.ref x0), .val (.long x1), .second, .val (.ref (j 1)), .val (.int x3), .val (.int x4), .val (.ref x5), .val (.long x6), .second] [(.int x3), (.ref x0)])) rfl rfl (hb hby d19_22)
  have N5 := Fr.snoc X5 N4 g0
  have F2 := F2.same W5
  have Z0 := Nat.le_trans Z0 (Keep.of_wr W5).1
  have OL := OL.wr W5 g0
  have KK := KK.wr W5 (Or.inl (List.mem_of_getElem? (i := 0) rfl))
  have E_x0 := E_x0.wr W5
  have F0 := F0.other W5 (Or.inr (slot_ne (Or.inr (hw _ (List.mem_of_getElem? (i := 136) rfl))) (Or.inr (hw _ (List.mem_of_getElem? (i := 140) rfl))) (by decide) (t := .long) (t' := .int) (by decide) (by decide)))
  have F1 := F1.other W5 (Or.inr (slot_ne (Or.inr (hw _ (List.mem_of_getElem? (i := 138) rfl))) (Or.inr (hw _ (List.mem_of_getElem? (i := 140) rfl))) (by decide) (t := (.object "java/util/List")) (t' := .int) (by decide) (by decide)))
  have F3 := F3.other W5 (Or.inr (slot_ne (Or.inr (hw _ (List.mem_of_getElem? (i := 142) rfl))) (Or.inr (hw _ (List.mem_of_getElem? (i := 140) rfl))) (by decide) (t := .int) (t' := .int) (by decide) (by decide)))
  have F4 := F4.other W5 (Or.inr (slot_ne (Or.inr (hw _ (List.mem_of_getElem? (i := 144) rfl))) (Or.inr (hw _ (List.mem_of_getElem? (i := 140) rfl))) (by decide) (t := (.object "org/quorumweave/Segment$State")) (t' := .int) (by decide) (by decide)))
  have F5 := F5.other W5 (Or.inr (slot_ne (Or.inr (hw _ (List.mem_of_getElem? (i := 146) rfl))) (Or.inr (hw _ (List.mem_of_getElem? (i := 140) rfl))) (by decide) (t := .long) (t' := .int) (by decide) (by decide)))
  refine Go.of (fun _ k => st5 _ k) ?_
  show Go p e below T5 (mkF m 25 #[.val (.ref x0), .val (.long x1), .second, .val (.ref (j 1)), .val (.int x3), .val (.int x4), .val (.ref x5), .val (.long x6), .second] []) _
  refine Go.of (fun _ k => XS.aloadN X5.here hx rfl (hb hby d19_25) rfl rfl  k) ?_
  show Go p e below T5 (mkF m 26 #[.val (.ref x0), .val (.long x1), .second, .val (.ref (j 1)), .val (.int x3), .val (.int x4), .val (.ref x5), .val (.long x6), .second] [(.ref x0)]) _
  refine Go.of (fun _ k => XS.iload X5.here hx rfl (hb hby d19_26) rfl  k) ?_
  show Go p e below T5 (mkF m 28 #[.val (.ref x0), .val (.long x1), .second, .val (.ref (j 1)), .val (.int x3), .val (.int x4), .val (.ref x5), .val (.long x6), .second] [(.int x4), (.ref x0)]) _
  obtain ⟨T6, h6, X6, e6, W6, st6⟩ := putF X5 hx hZ hown (host := "") (Or.inl (hw _ (List.mem_of_getElem? (i := 141) rfl))) Via.refl e5 F3 E_x0 (Or.inr ⟨(hw _ (List.mem_of_getElem? (i := 142) rfl)), rfl, hnm⟩) (hw _ (List.mem_of_getElem? (i := 125) rfl)) (ty := .int) (by decide) rfl rfl (g := (mkF m 28 #[.val (.ref x0), .val (.long x1), .second, .val (.ref (j 1)), .val (.int x3), .val (.int x4), .val (.ref x5), .val (.long x6), .second] [(.int x4), (.ref x0)])) rfl rfl (hb hby d19_28)
  have N6 := Fr.snoc X6 N5 g0
  have F3 := F3.same W6
  have Z0 := Nat.le_trans Z0 (Keep.of_wr W6).1
  have OL := OL.wr W6 g0
  have KK := KK.wr W6 (Or.inl (List.mem_of_getElem? (i := 0) rfl))
  have E_x0 := E_x0.wr W6
  have F0 := F0.other W6 (Or.inr (slot_ne (Or.inr (hw _ (List.mem_of_getElem? (i := 136) rfl))) (Or.inr (hw _ (List.mem_of_getElem? (i := 142) rfl))) (by decide) (t := .long) (t' := .int) (by decide) (by decide)))
  have F1 := F1.other W6 (Or.inr (slot_ne (Or.inr (hw _ (List.mem_of_getElem? (i := 138) rfl))) (Or.inr (hw _ (List.mem_of_getElem? (i := 142) rfl))) (by decide) (t := (.object "java/util/List")) (t' := .int) (by decide) (by decide)))
  have F2 := F2.other W6 (Or.inr (slot_ne (Or.inr (hw _ (List.mem_of_getElem? (i := 140) rfl))) (Or.inr (hw _ (List.mem_of_getElem? (i := 142) rfl))) (by decide) (t := .int) (t' := .int) (by decide) (by decide)))
  have F4 := F4.other W6 (Or.inr (slot_ne (Or.inr (hw _ (List.mem_of_getElem? (i := 144) rfl))) (Or.inr (hw _ (List.mem_of_getElem? (i := 142) rfl))) (by decide) (t := (.object "org/quorumweave/Segment$State")) (t' := .int) (by decide) (by decide)))
  have F5 := F5.other W6 (Or.inr (slot_ne (Or.inr (hw _ (List.mem_of_getElem? (i := 146) rfl))) (Or.inr (hw _ (List.mem_of_getElem? (i := 142) rfl))) (by decide) (t := .long) (t' := .int) (by decide) (by decide)))
  refine Go.of (fun _ k => st6 _ k) ?_
  show Go p e below T6 (mkF m 31 #[.val (.ref x0), .val (.long x1), .second, .val (.ref (j 1)), .val (.int x3), .val (.int x4), .val (.ref x5), .val (.long x6), .second] []) _
  refine Go.of (fun _ k => XS.aloadN X6.here hx rfl (hb hby d19_31) rfl rfl  k) ?_
  show Go p e below T6 (mkF m 32 #[.val (.ref x0), .val (.long x1), .second, .val (.ref (j 1)), .val (.int x3), .val (.int x4), .val (.ref x5), .val (.long x6), .second] [(.ref x0)]) _
  refine Go.of (fun _ k => XS.aload X6.here hx rfl (hb hby d19_32) rfl rfl  k) ?_
  show Go p e below T6 (mkF m 34 #[.val (.ref x0), .val (.long x1), .second, .val (.ref (j 1)), .val (.int x3), .val (.int x4), .val (.ref x5), .val (.long x6), .second] [(.ref x5), (.ref x0)]) _
  obtain ⟨T7, h7, X7, e7, W7, st7⟩ := putF X6 hx hZ hown (host := "") (Or.inl (hw _ (List.mem_of_getElem? (i := 143) rfl))) Via.refl e6 F4 E_x0 (Or.inr ⟨(hw _ (List.mem_of_getElem? (i := 144) rfl)), rfl, hnm⟩) (hw _ (List.mem_of_getElem? (i := 125) rfl)) (ty := (.object "org/quorumweave/Segment$State")) (by decide) rfl rfl (g := (mkF m 34 #[.val (.ref x0), .val (.long x1), .second, .val (.ref (j 1)), .val (.int x3), .val (.int x4), .val (.ref x5), .val (.long x6), .second] [(.ref x5), (.ref x0)])) rfl rfl (hb hby d19_34)
  have N7 := Fr.snoc X7 N6 g0
  have F4 := F4.same W7
  have Z0 := Nat.le_trans Z0 (Keep.of_wr W7).1
  have OL := OL.wr W7 g0
  have KK := KK.wr W7 (Or.inl (List.mem_of_getElem? (i := 0) rfl))
  have E_x0 := E_x0.wr W7
  have F0 := F0.other W7 (Or.inr (slot_ne (Or.inr (hw _ (List.mem_of_getElem? (i := 136) rfl))) (Or.inr (hw _ (List.mem_of_getElem? (i := 144) rfl))) (by decide) (t := .long) (t' := (.object "org/quorumweave/Segment$State")) (by decide) (by decide)))
  have F1 := F1.other W7 (Or.inr (slot_ne (Or.inr (hw _ (List.mem_of_getElem? (i := 138) rfl))) (Or.inr (hw _ (List.mem_of_getElem? (i := 144) rfl))) (by decide) (t := (.object "java/util/List")) (t' := (.object "org/quorumweave/Segment$State")) (by decide) (by decide)))
  have F2 := F2.other W7 (Or.inr (slot_ne (Or.inr (hw _ (List.mem_of_getElem? (i := 140) rfl))) (Or.inr (hw _ (List.mem_of_getElem? (i := 144) rfl))) (by decide) (t := .int) (t' := (.object "org/quorumweave/Segment$State")) (by decide) (by decide)))
  have F3 := F3.other W7 (Or.inr (slot_ne (Or.inr (hw _ (List.mem_of_getElem? (i := 142) rfl))) (Or.inr (hw _ (List.mem_of_getElem? (i := 144) rfl))) (by decide) (t := .int) (t' := (.object "org/quorumweave/Segment$State")) (by decide) (by decide)))
  have F5 := F5.other W7 (Or.inr (slot_ne (Or.inr (hw _ (List.mem_of_getElem? (i := 146) rfl))) (Or.inr (hw _ (List.mem_of_getElem? (i := 144) rfl))) (by decide) (t := .long) (t' := (.object "org/quorumweave/Segment$State")) (by decide) (by decide)))
  refine Go.of (fun _ k => st7 _ k) ?_
  show Go p e below T7 (mkF m 37 #[.val (.ref x0), .val (.long x1), .second, .val (.ref (j 1)), .val (.int x3), .val (.int x4), .val (.ref x5), .val (.long x6), .second] []) _
  refine Go.of (fun _ k => XS.aloadN X7.here hx rfl (hb hby d19_37) rfl rfl  k) ?_
  show Go p e below T7 (mkF m 38 #[.val (.ref x0), .val (.long x1), .second, .val (.ref (j 1)), .val (.int x3), .val (.int x4), .val (.ref x5), .val (.long x6), .second] [(.ref x0)]) _
  refine Go.of (fun _ k => XS.lload X7.here hx rfl (hb hby d19_38) rfl  k) ?_
  show Go p e below T7 (mkF m 40 #[.val (.ref x0), .val (.long x1), .second, .val (.ref (j 1)), .val (.int x3), .val (.int x4), .val (.ref x5), .val (.long x6), .second] [(.long x6), (.ref x0)]) _
  obtain ⟨T8, h8, X8, e8, W8, st8⟩ := putF X7 hx hZ hown (host := "") (Or.inl (hw _ (List.mem_of_getElem? (i := 145) rfl))) Via.refl e7 F5 E_x0 (Or.inr ⟨(hw _ (List.mem_of_getElem? (i := 146) rfl)), rfl, hnm⟩) (hw _ (List.mem_of_getElem? (i := 125) rfl)) (ty := .long) (by decide) rfl rfl (g := (mkF m 40 #[.val (.ref x0), .val (.long x1), .second, .val (.ref (j 1)), .val (.int x3), .val (.int x4), .val (.ref x5), .val (.long x6), .second] [(.long x6), (.ref x0)])) rfl rfl (hb hby d19_40)
  have N8 := Fr.snoc X8 N7 g0
  have F5 := F5.same W8
  have Z0 := Nat.le_trans Z0 (Keep.of_wr W8).1
  have OL := OL.wr W8 g0
  have KK := KK.wr W8 (Or.inl (List.mem_of_getElem? (i := 0) rfl))
  have E_x0 := E_x0.wr W8
  have F0 := F0.other W8 (Or.inr (slot_ne (Or.inr (hw _ (List.mem_of_getElem? (i := 136) rfl))) (Or.inr (hw _ (List.mem_of_getElem? (i := 146) rfl))) (by decide) (t := .long) (t' := .long) (by decide) (by decide)))
  have F1 := F1.other W8 (Or.inr (slot_ne (Or.inr (hw _ (List.mem_of_getElem? (i := 138) rfl))) (Or.inr (hw _ (List.mem_of_getElem? (i := 146) rfl))) (by decide) (t := (.object "java/util/List")) (t' := .long) (by decide) (by decide)))
  have F2 := F2.other W8 (Or.inr (slot_ne (Or.inr (hw _ (List.mem_of_getElem? (i := 140) rfl))) (Or.inr (hw _ (List.mem_of_getElem? (i := 146) rfl))) (by decide) (t := .int) (t' := .long) (by decide) (by decide)))
  have F3 := F3.other W8 (Or.inr (slot_ne (Or.inr (hw _ (List.mem_of_getElem? (i := 142) rfl))) (Or.inr (hw _ (List.mem_of_getElem? (i := 146) rfl))) (by decide) (t := .int) (t' := .long) (by decide) (by decide)))
  have F4 := F4.other W8 (Or.inr (slot_ne (Or.inr (hw _ (List.mem_of_getElem? (i := 144) rfl))) (Or.inr (hw _ (List.mem_of_getElem? (i := 146) rfl))) (by decide) (t := (.object "org/quorumweave/Segment$State")) (t' := .long) (by decide) (by decide)))
  refine Go.of (fun _ k => st8 _ k) ?_
  show Go p e below T8 (mkF m 43 #[.val (.ref x0), .val (.long x1), .second, .val (.ref (j 1)), .val (.int x3), .val (.int x4), .val (.ref x5), .val (.long x6), .second] []) _
  refine Go.ret0 X8 hx hret hlk (hb hby d19_43) e8 (by decide) (by decide) ?_
  exact ⟨rfl, N8, KK, E_x0⟩
theorem d18_0 : decode prog_40_method_2_code 0 = .ok (.new 14, 3) := by decide +kernel
theorem d18_3 : decode prog_40_method_2_code 3 = .ok (.dup, 1) := by decide +kernel
theorem d18_4 : decode prog_40_method_2_code 4 = .ok (.lload_n 0, 1) := by decide +kernel
theorem d18_5 : decode prog_40_method_2_code 5 = .ok (.aload_n 2, 1) := by decide +kernel
theorem d18_6 : decode prog_40_method_2_code 6 = .ok (.iload_n 3, 1) := by decide +kernel
theorem d18_7 : decode prog_40_method_2_code 7 = .ok (.iload 4, 2) := by decide +kernel
theorem d18_9 : decode prog_40_method_2_code 9 = .ok (.getstatic 37, 3) := by decide +kernel
theorem d18_12 : decode prog_40_method_2_code 12 = .ok (.ldc2_w 42, 3) := by decide +kernel
theorem d18_15 : decode prog_40_method_2_code 15 = .ok (.invokespecial 44, 3) := by decide +kernel
theorem own_pd12 : parseMethodDescriptor "(JLjava/util/List;IILorg/quorumweave/Segment$State;J)V" = some ⟨[.long, (.object "java/util/List"), .int, .int, (.object "org/quorumweave/Segment$State"), .long], none⟩ := by decide +kernel
theorem d18_18 : decode prog_40_method_2_code 18 = .ok (.areturn, 1) := by decide +kernel
theorem own_ef_rmOp (m : MethodId) (x0 : Int64) (x1 : Addr) (x2 : Int32) (x3 : Int32) : entryFrame m #[(.long x0), (.ref x1), (.int x2), (.int x3)] 5 = mkF m 0 #[.val (.long x0), .second, .val (.ref x1), .val (.int x2), .val (.int x3)] [] := by first | (simp [entryFrame, mkF, argsToLocals, Value.category]; done) | rfl
def Q_rmOp (Z : State) (x0 : Int64) (x1 : Addr) (x2 x3 : Int32) (j : Sts) (h0 : Heap) (n0 : Nat) : Option Value → Heap → List Loc → Prop := fun v h L => ∃ r, v = some (.ref r) ∧ Fr n0 L ∧ Keep h0 h [] ∧ Exa Z h r "org/quorumweave/Segment"
set_option maxRecDepth 65536 in
set_option maxHeartbeats 40000000 in
theorem rmOp (l : Launch) (Z : State) (a0 : Array Value) (hw : ∀ d ∈ tables_1, d.before a0 Z = true) (ws : List Jvm.Cond) (x0 : Int64) (x1 : Addr) (x2 x3 : Int32) (j : Sts) (h0 : Heap) (n0 : Nat) (Z0 : n0 ≤ h0.size) (OL : Old Z n0 h0) (J : JS Z j) (E_l : Exa Z h0 x1 "java/util/ArrayList") (Fs : Fld Z h0 x1 "java/util/ArrayList" "size" "I" (.int 0)) :
    Ctr l Z (⟨"org/quorumweave/Segment", "open", "(JLjava/util/List;II)Lorg/quorumweave/Segment;"⟩ : MethodName) prog_40_method_2_code 5 (some (.object "org/quorumweave/Segment")) ws ({ frames := 4, cells := 1, slots := 6, locals := 58 } : Room) #[(.long x0), (.ref x1), (.int x2), (.int x3)] h0 (Q_rmOp Z x0 x1 x2 x3 j h0 n0) := by
  refine Ctr.intro (plainFor_of_name own_pn12) ?_
  intro p e s m below meth c s₁ hx hby hml hown hnm hret hlk hZ X0 e0
  have hown : s.vm.findClass "org/quorumweave/Segment" = some m.cls := hown
  have hml : c.maxLocals = 5 := hml
  have N0 := Fr.nil n0
  refine Go.cast (own_ef_rmOp m x0 x1 x2 x3) ?_
  have KK := Keep.refl h0 []
  show Go p e below s₁ (mkF m 0 #[.val (.long x0), .second, .val (.ref x1), .val (.int x2), .val (.int x3)] []) _
  obtain ⟨T1, h1, X1, e1, E1, A1, D1, -, st1⟩ := newO X0 hx hZ hown (hw _ (List.mem_of_getElem? (i := 124) rfl)) (hw _ (List.mem_of_getElem? (i := 125) rfl)) (hw _ (List.mem_of_getElem? (i := 122) rfl)) e0 (g := (mkF m 0 #[.val (.long x0), .second, .val (.ref x1), .val (.int x2), .val (.int x3)] [])) rfl (hb hby d18_0) (by decide) (by decide)
  obtain ⟨ad1, g1⟩ : ∃ z, z = h0.size := ⟨_, rfl⟩
  rw [← g1] at A1 D1 st1
  have ne_x1_ad1 : x1 ≠ ad1 := Nat.ne_of_lt (Nat.lt_of_lt_of_le E_l.lt (Nat.le_of_eq g1.symm))
  have ge_ad1 : n0 ≤ ad1 := Nat.le_trans Z0 (Nat.le_of_eq g1.symm)
  have sz_ad1 : h0.size ≤ ad1 := Nat.le_trans KK.1 (Nat.le_of_eq g1.symm)
  have Z0 := Nat.le_trans Z0 E1.1
  have OL := OL.ext E1
  have KK := KK.ext E1
  have E_l := E_l.ext E1
  have Fs := Fs.ext E1
  have E_ad1 := A1
  have F_number_ad1 : Fld Z h1 ad1 "org/quorumweave/Segment" "number" "J" (.long (0 : Int64)) := D1 (Or.inr (hw _ (List.mem_of_getElem? (i := 136) rfl))) (ty := .long) (by decide)
  have F_ensemble_ad1 : Fld Z h1 ad1 "org/quorumweave/Segment" "ensemble" "Ljava/util/List;" .null := D1 (Or.inr (hw _ (List.mem_of_getElem? (i := 138) rfl))) (ty := (.object "java/util/List")) (by decide)
  have F_writeQuorum_ad1 : Fld Z h1 ad1 "org/quorumweave/Segment" "writeQuorum" "I" (.int (0 : Int32)) := D1 (Or.inr (hw _ (List.mem_of_getElem? (i := 140) rfl))) (ty := .int) (by decide)
  have F_ackQuorum_ad1 : Fld Z h1 ad1 "org/quorumweave/Segment" "ackQuorum" "I" (.int (0 : Int32)) := D1 (Or.inr (hw _ (List.mem_of_getElem? (i := 142) rfl))) (ty := .int) (by decide)
  have F_state_ad1 : Fld Z h1 ad1 "org/quorumweave/Segment" "state" "Lorg/quorumweave/Segment$State;" .null := D1 (Or.inr (hw _ (List.mem_of_getElem? (i := 144) rfl))) (ty := (.object "org/quorumweave/Segment$State")) (by decide)
  have F_lastEntry_ad1 : Fld Z h1 ad1 "org/quorumweave/Segment" "lastEntry" "J" (.long (0 : Int64)) := D1 (Or.inr (hw _ (List.mem_of_getElem? (i := 146) rfl))) (ty := .long) (by decide)
  refine Go.of (fun _ k => st1 _ k) ?_
  show Go p e below T1 (mkF m 3 #[.val (.long x0), .second, .val (.ref x1), .val (.int x2), .val (.int x3)] [(.ref ad1)]) _
  refine Go.of (fun _ k => XS.dup X1.here hx rfl (hb hby d18_3) rfl rfl k) ?_
  show Go p e below T1 (mkF m 4 #[.val (.long x0), .second, .val (.ref x1), .val (.int x2), .val (.int x3)] [(.ref ad1), (.ref ad1)]) _
  refine Go.of (fun _ k => XS.lloadN X1.here hx rfl (hb hby d18_4) rfl  k) ?_
  show Go p e below T1 (mkF m 5 #[.val (.long x0), .second, .val (.ref x1), .val (.int x2), .val (.int x3)] [(.long x0), (.ref ad1), (.ref ad1)]) _
  refine Go.of (fun _ k => XS.aloadN X1.here hx rfl (hb hby d18_5) rfl rfl  k) ?_
  show Go p e below T1 (mkF m 6 #[.val (.long x0), .second, .val (.ref x1), .val (.int x2), .val (.int x3)] [(.ref x1), (.long x0), (.ref ad1), (.ref ad1)]) _
  refine Go.of (fun _ k => XS.iloadN X1.here hx rfl (hb hby d18_6) rfl  k) ?_
  show Go p e below T1 (mkF m 7 #[.val (.long x0), .second, .val (.ref x1), .val (.int x2), .val (.int x3)] [(.int x2), (.ref x1), (.long x0), (.ref ad1), (.ref ad1)]) _
  refine Go.of (fun _ k => XS.iload X1.here hx rfl (hb hby d18_7) rfl  k) ?_
  show Go p e below T1 (mkF m 9 #[.val (.long x0), .second, .val (.ref x1), .val (.int x2), .val (.int x3)] [(.int x3), (.int x2), (.ref x1), (.long x0), (.ref ad1), (.ref ad1)]) _
  obtain ⟨T2, X2, e2, st2⟩ := getS2 X1 hx hZ hown (host := "") (Or.inl (hw _ (List.mem_of_getElem? (i := 126) rfl))) Via.refl e1 (J.so.ext OL.2) (g := (mkF m 9 #[.val (.long x0), .second, .val (.ref x1), .val (.int x2), .val (.int x3)] [(.int x3), (.int x2), (.ref x1), (.long x0), (.ref ad1), (.ref ad1)])) rfl (hb hby d18_9)
  refine Go.of (fun _ k => st2 _ k) ?_
  show Go p e below T2 (mkF m 12 #[.val (.long x0), .second, .val (.ref x1), .val (.int x2), .val (.int x3)] [(.ref (j 3)), (.int x3), (.int x2), (.ref x1), (.long x0), (.ref ad1), (.ref ad1)]) _
  refine Go.of (fun _ k => X2.ldc2Long hx hown (mvT hZ (hw _ (List.mem_of_getElem? (i := 129) rfl))) (g := (mkF m 12 #[.val (.long x0), .second, .val (.ref x1), .val (.int x2), .val (.int x3)] [(.ref (j 3)), (.int x3), (.int x2), (.ref x1), (.long x0), (.ref ad1), (.ref ad1)])) rfl (hb hby d18_12) _ k) ?_
  show Go p e below T2 (mkF m 15 #[.val (.long x0), .second, .val (.ref x1), .val (.int x2), .val (.int x3)] [(.long (-1 : Int64)), (.ref (j 3)), (.int x3), (.int x2), (.ref x1), (.long x0), (.ref ad1), (.ref ad1)]) _
  obtain ⟨_, _, ⟨T3, L3, kq3, nq3⟩, -, X3, ⟨Lc3, hQ3, l3, y3, z3⟩, st3⟩ := X2.specialBack hx (y := (⟨"org/quorumweave/Segment", "<init>", "(JLjava/util/List;IILorg/quorumweave/Segment$State;J)V"⟩ : MethodName)) rfl hown (mvT hZ (hw _ (List.mem_of_getElem? (i := 130) rfl))) (mvT hZ (hw _ (List.mem_of_getElem? (i := 131) rfl))) (mvT hZ (hw _ (List.mem_of_getElem? (i := 132) rfl))) (by decide) (backOf (W := 1) (rmSg l Z a0 hw [] ad1 x0 x1 x2 x3 (j 3) (-1 : Int64) j h1 n0 Z0 ge_ad1 OL J E_ad1 F_number_ad1 F_ensemble_ad1 F_writeQuorum_ad1 F_ackQuorum_ad1 F_state_ad1 F_lastEntry_ad1 E_l Fs) hZ (hw _ (List.mem_of_getElem? (i := 132) rfl)) (hw _ (List.mem_of_getElem? (i := 122) rfl)) (by decide) (by decide)) (g := (mkF m 15 #[.val (.long x0), .second, .val (.ref x1), .val (.int x2), .val (.int x3)] [(.long (-1 : Int64)), (.ref (j 3)), (.int x3), (.int x2), (.ref x1), (.long x0), (.ref ad1), (.ref ad1)])) rfl (by rw [hml]; rfl) (Steps.refl _) (a := ad1) (argsL := [(.long x0), (.ref x1), (.int x2), (.int x3), (.ref (j 3)), (.long (-1 : Int64))]) (rest := [(.ref ad1)]) (lenOf own_pd12 rfl) rfl (by show 2 * 0 + _ ≤ _; exact Nat.le_of_eq rfl) (hb hby d18_15) (fun _ _ => ⟨rfl, e2, (by decide : 1 + 0 ≤ _), (by decide : 6 + 0 ≤ _)⟩)
  dsimp only [Pt.U, Pt.locs, Pt.cells, Pt.slots] at X3 l3 y3 z3 st3 hQ3
  subst l3 y3 z3
  obtain ⟨rfl, Nq3, Kq3, fq3_0⟩ := hQ3
  have N3 := Fr.app N0 Nq3
  have Z0 := Nat.le_trans Z0 Kq3.1
  have OL := OL.keep Kq3 (allS ge_ad1 all0)
  have KK := KK.trans Kq3 (allS (Or.inr sz_ad1) all0)
  have E_l := E_l.keep Kq3
  have Fs := Fs.keep Kq3 (ninS ne_x1_ad1 nin0)
  have E_ad1 := fq3_0
  refine Go.of (fun _ k => st3.trans k) ?_
  show Go p e below T3 (mkF m 18 #[.val (.long x0), .second, .val (.ref x1), .val (.int x2), .val (.int x3)] [(.ref ad1)]) _
  refine Go.retA X3 hx hret hlk rfl rfl (hb hby d18_18) rfl (by decide) (by decide) ?_
  exact ⟨_, rfl, N3, KK, E_ad1⟩
theorem d23_0 : decode jdk_38_method_6_code 0 = .ok (.aload_n 0, 1) := by decide +kernel
theorem d23_1 : decode jdk_38_method_6_code 1 = .ok (.getfield 9, 3) := by decide +kernel
theorem d23_4 : decode jdk_38_method_6_code 4 = .ok (.arraylength, 1) := by decide +kernel
theorem d23_5 : decode jdk_38_method_6_code 5 = .ok (.istore_n 2, 1) := by decide +kernel
theorem d23_6 : decode jdk_38_method_6_code 6 = .ok (.iload_n 2, 1) := by decide +kernel
theorem d23_7 : decode jdk_38_method_6_code 7 = .ok (.ifCond .gt 13, 3) := by decide +kernel
theorem d23_10 : decode jdk_38_method_6_code 10 = .ok (.aload_n 0, 1) := by decide +kernel
theorem d23_11 : decode jdk_38_method_6_code 11 = .ok (.getfield 9, 3) := by decide +kernel
theorem d23_14 : decode jdk_38_method_6_code 14 = .ok (.getstatic 39, 3) := by decide +kernel
theorem d23_17 : decode jdk_38_method_6_code 17 = .ok (.if_acmp .eq 28, 3) := by decide +kernel
theorem d23_45 : decode jdk_38_method_6_code 45 = .ok (.aload_n 0, 1) := by decide +kernel
theorem d23_46 : decode jdk_38_method_6_code 46 = .ok (.bipush 10, 2) := by decide +kernel
theorem d23_48 : decode jdk_38_method_6_code 48 = .ok (.iload_n 1, 1) := by decide +kernel
theorem d23_49 : decode jdk_38_method_6_code 49 = .ok (.invokestatic 79, 3) := by decide +kernel
theorem d23_52 : decode jdk_38_method_6_code 52 = .ok (.anewarray 7, 3) := by decide +kernel
theorem d23_55 : decode jdk_38_method_6_code 55 = .ok (.dup_x1, 1) := by decide +kernel
theorem d23_56 : decode jdk_38_method_6_code 56 = .ok (.putfield 9, 3) := by decide +kernel
theorem d23_59 : decode jdk_38_method_6_code 59 = .ok (.areturn, 1) := by decide +kernel
theorem own_ef_rmG1 (m : MethodId) (x0 : Addr) : entryFrame m #[(.ref x0), (.int (1 : Int32))] 4 = mkF m 0 #[.val (.ref x0), .val (.int (1 : Int32)), .unset, .unset] [] := by first | (simp [entryFrame, mkF, argsToLocals, Value.category]; done) | rfl
def Q_rmG1 (Z : State) (x0 : Addr) (mm : Int32) (j : Sts) (h0 : Heap) (n0 : Nat) : Option Value → Heap → List Loc → Prop := fun v h L => ∃ (b : Addr) (kb : ClassId), v = some (.ref b) ∧ Fr n0 L ∧ Keep h0 h [x0] ∧ Exa Z h x0 "java/util/ArrayList" ∧ Fld Z h x0 "java/util/AbstractList" "modCount" "I" (.int mm) ∧ Fld Z h x0 "java/util/ArrayList" "elementData" "[Ljava/lang/Object;" (.ref b) ∧ Fld Z h x0 "java/util/ArrayList" "size" "I" (.int (0 : Int32)) ∧ Arv Z h b kb (.object "java/lang/Object") 10 [.null, .null, .null, .null, .null, .null, .null, .null, .null, .null] .null ∧ Exa Z h b "[Ljava/lang/Object;" ∧ Ovr Z kb "java/lang/Object" ∧ n0 ≤ b ∧ h0.size ≤ b
set_option maxRecDepth 65536 in
set_option maxHeartbeats 40000000 in
theorem rmG1 (l : Launch) (Z : State) (a0 : Array Value) (hw : ∀ d ∈ tables_1, d.before a0 Z = true) (ws : List Jvm.Cond) (x0 : Addr) (mm : Int32) (j : Sts) (h0 : Heap) (n0 : Nat) (Z0 : n0 ≤ h0.size) (g0 : n0 ≤ x0) (OL : Old Z n0 h0) (J : JS Z j) (E_x0 : Exa Z h0 x0 "java/util/ArrayList") (Fm : Fld Z h0 x0 "java/util/AbstractList" "modCount" "I" (.int mm)) (Fe : Fld Z h0 x0 "java/util/ArrayList" "elementData" "[Ljava/lang/Object;" (.ref (j 0))) (Fs : Fld Z h0 x0 "java/util/ArrayList" "size" "I" (.int (0 : Int32))) :
    Ctr l Z (⟨"java/util/ArrayList", "grow", "(I)[Ljava/lang/Object;"⟩ : MethodName) jdk_38_method_6_code 4 (some (.array (.object "java/lang/Object"))) ws ({ frames := 1, cells := 1, slots := 10, locals := 14 } : Room) #[(.ref x0), (.int (1 : Int32))] h0 (Q_rmG1 Z x0 mm j h0 n0) := by
  refine Ctr.intro (plainFor_of_name own_pn5) ?_
  intro p e s m below meth c s₁ hx hby hml hown hnm hret hlk hZ X0 e0
  have hown : s.vm.findClass "java/util/ArrayList" = some m.cls := hown
  have hml : c.maxLocals = 4 := hml
  have N0 := Fr.nil n0
  refine Go.cast (own_ef_rmG1 m x0) ?_
  have KK := Keep.refl h0 [x0]
  show Go p e below s₁ (mkF m 0 #[.val (.ref x0), .val (.int (1 : Int32)), .unset, .unset] []) _
  refine Go.of (fun _ k => XS.aloadN X0.here hx rfl (hb hby d23_0) rfl rfl  k) ?_
  show Go p e below s₁ (mkF m 1 #[.val (.ref x0), .val (.int (1 : Int32)), .unset, .unset] [(.ref x0)]) _
  obtain ⟨T1, X1, e1, st1⟩ := getF X0 hx hZ hown (host := "") (Or.inl (hw _ (List.mem_of_getElem? (i := 52) rfl))) Via.refl e0 Fe (g := (mkF m 1 #[.val (.ref x0), .val (.int (1 : Int32)), .unset, .unset] [(.ref x0)])) rfl rfl (hb hby d23_1)
  refine Go.of (fun _ k => st1 _ k) ?_
  show Go p e below T1 (mkF m 4 #[.val (.ref x0), .val (.int (1 : Int32)), .unset, .unset] [(.ref (j 0))]) _
  obtain ⟨kD2, VD2⟩ := J.vd
  obtain ⟨cL2, AL2, -, SL2, -, -, -⟩ := VD2.ext OL.2
  refine Go.of (fun _ k => X1.arraylength hx (by rw [e1]; exact AL2.1) (State.isArrayOf_alike hZ.alike AL2.2.1) (g := (mkF m 4 #[.val (.ref x0), .val (.int (1 : Int32)), .unset, .unset] [(.ref (j 0))])) rfl rfl (hb hby d23_4) _ k) ?_
  rw [len_of SL2 (by decide)]
  show Go p e below T1 (mkF m 5 #[.val (.ref x0), .val (.int (1 : Int32)), .unset, .unset] [(.int (0 : Int32))]) _
  refine Go.of (fun _ k => XS.istoreN X1.here hx rfl (hb hby d23_5) rfl (l' := #[.val (.ref x0), .val (.int (1 : Int32)), .val (.int (0 : Int32)), .unset]) rfl k) ?_
  show Go p e below T1 (mkF m 6 #[.val (.ref x0), .val (.int (1 : Int32)), .val (.int (0 : Int32)), .unset] []) _
  refine Go.of (fun _ k => XS.iloadN X1.here hx rfl (hb hby d23_6) rfl  k) ?_
  show Go p e below T1 (mkF m 7 #[.val (.ref x0), .val (.int (1 : Int32)), .val (.int (0 : Int32)), .unset] [(.int (0 : Int32))]) _
  refine Go.of (fun _ k => XS.ifNo X1.here hx rfl (hb hby d23_7) rfl ((if0 _ _).trans (flt (show ¬ ((0 : Int32) < (0 : Int32)) from (by decide))).2.2.1) k) ?_
  show Go p e below T1 (mkF m 10 #[.val (.ref x0), .val (.int (1 : Int32)), .val (.int (0 : Int32)), .unset] []) _
  refine Go.of (fun _ k => XS.aloadN X1.here hx rfl (hb hby d23_10) rfl rfl  k) ?_
  show Go p e below T1 (mkF m 11 #[.val (.ref x0), .val (.int (1 : Int32)), .val (.int (0 : Int32)), .unset] [(.ref x0)]) _
  obtain ⟨T3, X3, e3, st3⟩ := getF X1 hx hZ hown (host := "") (Or.inl (hw _ (List.mem_of_getElem? (i := 52) rfl))) Via.refl e1 Fe (g := (mkF m 11 #[.val (.ref x0), .val (.int (1 : Int32)), .val (.int (0 : Int32)), .unset] [(.ref x0)])) rfl rfl (hb hby d23_11)
  refine Go.of (fun _ k => st3 _ k) ?_
  show Go p e below T3 (mkF m 14 #[.val (.ref x0), .val (.int (1 : Int32)), .val (.int (0 : Int32)), .unset] [(.ref (j 0))]) _
  obtain ⟨T4, X4, e4, st4⟩ := getS2 X3 hx hZ hown (host := "") (Or.inl (hw _ (List.mem_of_getElem? (i := 51) rfl))) Via.refl e3 (J.sd.ext OL.2) (g := (mkF m 14 #[.val (.ref x0), .val (.int (1 : Int32)), .val (.int (0 : Int32)), .unset] [(.ref (j 0))])) rfl (hb hby d23_14)
  refine Go.of (fun _ k => st4 _ k) ?_
  show Go p e below T4 (mkF m 17 #[.val (.ref x0), .val (.int (1 : Int32)), .val (.int (0 : Int32)), .unset] [(.ref (j 0)), (.ref (j 0))]) _
  refine Go.of (fun _ k => Jvm.RoadKit.acmp (g := (mkF m 17 #[.val (.ref x0), .val (.int (1 : Int32)), .val (.int (0 : Int32)), .unset] [(.ref (j 0)), (.ref (j 0))])) X4 hx rfl rfl rfl (pc0 := 17) (pc' := 45) (same := true) rfl (hb hby d23_17) rfl (decide_eq_true rfl) (by decide) (by decide) k) ?_
  show Go p e below T4 (mkF m 45 #[.val (.ref x0), .val (.int (1 : Int32)), .val (.int (0 : Int32)), .unset] []) _
  refine Go.of (fun _ k => XS.aloadN X4.here hx rfl (hb hby d23_45) rfl rfl  k) ?_
  show Go p e below T4 (mkF m 46 #[.val (.ref x0), .val (.int (1 : Int32)), .val (.int (0 : Int32)), .unset] [(.ref x0)]) _
  refine Go.of (fun _ k => XS.bipush X4.here hx rfl (hb hby d23_46) k) ?_
  show Go p e below T4 (mkF m 48 #[.val (.ref x0), .val (.int (1 : Int32)), .val (.int (0 : Int32)), .unset] [(.int (10 : Int32)), (.ref x0)]) _
  refine Go.of (fun _ k => XS.iloadN X4.here hx rfl (hb hby d23_48) rfl  k) ?_
  show Go p e below T4 (mkF m 49 #[.val (.ref x0), .val (.int (1 : Int32)), .val (.int (0 : Int32)), .unset] [(.int (1 : Int32)), (.int (10 : Int32)), (.ref x0)]) _
  obtain ⟨_, _, ⟨T5, L5, kq5, nq5⟩, -, X5, ⟨Lc5, hQ5, l5, y5, z5⟩, st5⟩ := Jvm.LawKit.callS X4 hx (y := (⟨"java/lang/Math", "max", "(II)I"⟩ : MethodName)) hown (mvT hZ (hw _ (List.mem_of_getElem? (i := 169) rfl))) (mvT hZ (hw _ (List.mem_of_getElem? (i := 170) rfl))) (mvT hZ (hw _ (List.mem_of_getElem? (i := 171) rfl))) (mvT hZ (hw _ (List.mem_of_getElem? (i := 172) rfl))) (by decide) (backOf (W := 1) (rmMax l Z a0 hw [] (10 : Int32) (1 : Int32) h0 n0 Z0 (by decide)) hZ (hw _ (List.mem_of_getElem? (i := 172) rfl)) (hw _ (List.mem_of_getElem? (i := 171) rfl)) (by decide) (by decide)) (g := (mkF m 49 #[.val (.ref x0), .val (.int (1 : Int32)), .val (.int (0 : Int32)), .unset] [(.int (1 : Int32)), (.int (10 : Int32)), (.ref x0)])) rfl (by rw [hml]; rfl) (argsL := [(.int (10 : Int32)), (.int (1 : Int32))]) (rest := [(.ref x0)]) (lenOf own_pd3 rfl) rfl (by show 2 * 0 + _ ≤ _; exact Nat.le_of_eq rfl) (hb hby d23_49) (fun _ _ => ⟨rfl, e4, (by decide : 0 + 0 ≤ _), (by decide : 0 + 0 ≤ _)⟩)
  dsimp only [Pt.U, Pt.locs, Pt.cells, Pt.slots] at X5 l5 y5 z5 st5 hQ5
  subst l5 y5 z5
  obtain ⟨rfl, Nq5, e5⟩ := hQ5
  have e5 := e5.trans rfl
  have N5 := Fr.app N0 Nq5
  refine Go.of (fun _ k => st5 _ k) ?_
  show Go p e below T5 (mkF m 52 #[.val (.ref x0), .val (.int (1 : Int32)), .val (.int (0 : Int32)), .unset] [(.int (10 : Int32)), (.ref x0)]) _
  obtain ⟨T6, h6, kc6, X6, e6, E6, A6, Ea6, Ov6, st6⟩ := newRE X5 hx hZ hown (hw _ (List.mem_of_getElem? (i := 173) rfl)) (hw _ (List.mem_of_getElem? (i := 174) rfl)) e5 (g := (mkF m 52 #[.val (.ref x0), .val (.int (1 : Int32)), .val (.int (0 : Int32)), .unset] [(.int (10 : Int32)), (.ref x0)])) rfl (hb hby d23_52) rfl (by decide) (cap := 10) (by decide) (by decide) (by decide) (by decide) (ad := "[Ljava/lang/Object;") (by decide)
  obtain ⟨ad6, g6⟩ : ∃ z, z = h0.size := ⟨_, rfl⟩
  rw [← g6] at A6 st6 Ea6
  have ne_x0_ad6 : x0 ≠ ad6 := Nat.ne_of_lt (Nat.lt_of_lt_of_le E_x0.lt (Nat.le_of_eq g6.symm))
  have ge_ad6 : n0 ≤ ad6 := Nat.le_trans Z0 (Nat.le_of_eq g6.symm)
  have sz_ad6 : h0.size ≤ ad6 := Nat.le_trans KK.1 (Nat.le_of_eq g6.symm)
  have Z0 := Nat.le_trans Z0 E6.1
  have OL := OL.ext E6
  have KK := KK.ext E6
  have E_x0 := E_x0.ext E6
  have Fm := Fm.ext E6
  have Fe := Fe.ext E6
  have Fs := Fs.ext E6
  have E_ad6 := Ea6
  have V_ad6 : Arv Z h6 ad6 kc6 (.object "java/lang/Object") (10 : Int32) [.null, .null, .null, .null, .null, .null, .null, .null, .null, .null] .null := (Arv.new A6 (by decide)).pad (pad_rep [] .null 10)
  refine Go.of (fun _ k => st6 _ k) ?_
  show Go p e below T6 (mkF m 55 #[.val (.ref x0), .val (.int (1 : Int32)), .val (.int (0 : Int32)), .unset] [(.ref ad6), (.ref x0)]) _
  refine Go.of (fun _ k => XS.dupX1 X6.here hx rfl (hb hby d23_55) rfl rfl rfl k) ?_
  show Go p e below T6 (mkF m 56 #[.val (.ref x0), .val (.int (1 : Int32)), .val (.int (0 : Int32)), .unset] [(.ref ad6), (.ref x0), (.ref ad6)]) _
  obtain ⟨T7, h7, X7, e7, W7, st7⟩ := putF X6 hx hZ hown (host := "") (Or.inl (hw _ (List.mem_of_getElem? (i := 52) rfl))) Via.refl e6 Fe E_x0 (Or.inl (hw _ (List.mem_of_getElem? (i := 53) rfl))) (hw _ (List.mem_of_getElem? (i := 31) rfl)) (ty := (.array (.object "java/lang/Object"))) (by decide) rfl rfl (g := (mkF m 56 #[.val (.ref x0), .val (.int (1 : Int32)), .val (.int (0 : Int32)), .unset] [(.ref ad6), (.ref x0), (.ref ad6)])) rfl rfl (hb hby d23_56)
  have N7 := Fr.snoc X7 N5 g0
  have Fe := Fe.same W7
  have Z0 := Nat.le_trans Z0 (Keep.of_wr W7).1
  have OL := OL.wr W7 g0
  have KK := KK.wr W7 (Or.inl (List.mem_of_getElem? (i := 0) rfl))
  have E_x0 := E_x0.wr W7
  have Fm := Fm.other W7 (Or.inr (slot_ne (Or.inl (hw _ (List.mem_of_getElem? (i := 50) rfl))) (Or.inl (hw _ (List.mem_of_getElem? (i := 53) rfl))) (by decide) (t := .int) (t' := (.array (.object "java/lang/Object"))) (by decide) (by decide)))
  have Fs := Fs.other W7 (Or.inr (slot_ne (Or.inl (hw _ (List.mem_of_getElem? (i := 90) rfl))) (Or.inl (hw _ (List.mem_of_getElem? (i := 53) rfl))) (by decide) (t := .int) (t' := (.array (.object "java/lang/Object"))) (by decide) (by decide)))
  have E_ad6 := E_ad6.wr W7
  have V_ad6 := V_ad6.other W7 (Ne.symm ne_x0_ad6)
  refine Go.of (fun _ k => st7 _ k) ?_
  show Go p e below T7 (mkF m 59 #[.val (.ref x0), .val (.int (1 : Int32)), .val (.int (0 : Int32)), .unset] [(.ref ad6)]) _
  refine Go.retA X7 hx hret hlk rfl rfl (hb hby d23_59) e7 (by decide) (by decide) ?_
  exact ⟨_, _, rfl, N7, KK, E_x0, Fm, Fe, Fs, V_ad6, E_ad6, Ov6, ge_ad6, sz_ad6⟩
theorem d22_0 : decode jdk_38_method_7_code 0 = .ok (.aload_n 0, 1) := by decide +kernel
theorem d22_1 : decode jdk_38_method_7_code 1 = .ok (.aload_n 0, 1) := by decide +kernel
theorem d22_2 : decode jdk_38_method_7_code 2 = .ok (.getfield 48, 3) := by decide +kernel
theorem d22_5 : decode jdk_38_method_7_code 5 = .ok (.iconst 1, 1) := by decide +kernel
theorem d22_6 : decode jdk_38_method_7_code 6 = .ok (.iadd, 1) := by decide +kernel
theorem d22_7 : decode jdk_38_method_7_code 7 = .ok (.invokevirtual 69, 3) := by decide +kernel
theorem own_pd13 : parseMethodDescriptor "(I)[Ljava/lang/Object;" = some ⟨[.int], some (.array (.object "java/lang/Object"))⟩ := by decide +kernel
theorem d22_10 : decode jdk_38_method_7_code 10 = .ok (.areturn, 1) := by decide +kernel
theorem own_ef_rmG0 (m : MethodId) (x0 : Addr) : entryFrame m #[(.ref x0)] 1 = mkF m 0 #[.val (.ref x0)] [] := by first | (simp [entryFrame, mkF, argsToLocals, Value.category]; done) | rfl
def Q_rmG0 (Z : State) (x0 : Addr) (mm : Int32) (j : Sts) (h0 : Heap) (n0 : Nat) : Option Value → Heap → List Loc → Prop := fun v h L => ∃ (b : Addr) (kb : ClassId), v = some (.ref b) ∧ Fr n0 L ∧ Keep h0 h [x0] ∧ Exa Z h x0 "java/util/ArrayList" ∧ Fld Z h x0 "java/util/AbstractList" "modCount" "I" (.int mm) ∧ Fld Z h x0 "java/util/ArrayList" "elementData" "[Ljava/lang/Object;" (.ref b) ∧ Fld Z h x0 "java/util/ArrayList" "size" "I" (.int (0 : Int32)) ∧ Arv Z h b kb (.object "java/lang/Object") 10 [.null, .null, .null, .null, .null, .null, .null, .null, .null, .null] .null ∧ Exa Z h b "[Ljava/lang/Object;" ∧ Ovr Z kb "java/lang/Object" ∧ n0 ≤ b ∧ h0.size ≤ b
set_option maxRecDepth 65536 in
set_option maxHeartbeats 40000000 in
theorem rmG0 (l : Launch) (Z : State) (a0 : Array Value) (hw : ∀ d ∈ tables_1, d.before a0 Z = true) (ws : List Jvm.Cond) (x0 : Addr) (mm : Int32) (j : Sts) (h0 : Heap) (n0 : Nat) (Z0 : n0 ≤ h0.size) (g0 : n0 ≤ x0) (OL : Old Z n0 h0) (J : JS Z j) (E_x0 : Exa Z h0 x0 "java/util/ArrayList") (Fm : Fld Z h0 x0 "java/util/AbstractList" "modCount" "I" (.int mm)) (Fe : Fld Z h0 x0 "java/util/ArrayList" "elementData" "[Ljava/lang/Object;" (.ref (j 0))) (Fs : Fld Z h0 x0 "java/util/ArrayList" "size" "I" (.int (0 : Int32))) :
    Ctr l Z (⟨"java/util/ArrayList", "grow", "()[Ljava/lang/Object;"⟩ : MethodName) jdk_38_method_7_code 1 (some (.array (.object "java/lang/Object"))) ws ({ frames := 2, cells := 1, slots := 10, locals := 29 } : Room) #[(.ref x0)] h0 (Q_rmG0 Z x0 mm j h0 n0) := by
  refine Ctr.intro (plainFor_of_name own_pn5) ?_
  intro p e s m below meth c s₁ hx hby hml hown hnm hret hlk hZ X0 e0
  have hown : s.vm.findClass "java/util/ArrayList" = some m.cls := hown
  have hml : c.maxLocals = 1 := hml
  have N0 := Fr.nil n0
  refine Go.cast (own_ef_rmG0 m x0) ?_
  have KK := Keep.refl h0 [x0]
  show Go p e below s₁ (mkF m 0 #[.val (.ref x0)] []) _
  refine Go.of (fun _ k => XS.aloadN X0.here hx rfl (hb hby d22_0) rfl rfl  k) ?_
  show Go p e below s₁ (mkF m 1 #[.val (.ref x0)] [(.ref x0)]) _
  refine Go.of (fun _ k => XS.aloadN X0.here hx rfl (hb hby d22_1) rfl rfl  k) ?_
  show Go p e below s₁ (mkF m 2 #[.val (.ref x0)] [(.ref x0), (.ref x0)]) _
  obtain ⟨T1, X1, e1, st1⟩ := getF X0 hx hZ hown (host := "") (Or.inl (hw _ (List.mem_of_getElem? (i := 89) rfl))) Via.refl e0 Fs (g := (mkF m 2 #[.val (.ref x0)] [(.ref x0), (.ref x0)])) rfl rfl (hb hby d22_2)
  refine Go.of (fun _ k => st1 _ k) ?_
  show Go p e below T1 (mkF m 5 #[.val (.ref x0)] [(.int (0 : Int32)), (.ref x0)]) _
  refine Go.of (fun _ k => XS.iconst X1.here hx rfl (hb hby d22_5) k) ?_
  show Go p e below T1 (mkF m 6 #[.val (.ref x0)] [(.int (1 : Int32)), (.int (0 : Int32)), (.ref x0)]) _
  refine Go.of (fun _ k => XS.iadd X1.here hx rfl (hb hby d22_6) rfl k) ?_
  show Go p e below T1 (mkF m 7 #[.val (.ref x0)] [(.int (1 : Int32)), (.ref x0)]) _
  obtain ⟨cq2, q2, q2'⟩ := E_x0.cell
  obtain ⟨_, _, ⟨T2, L2, kq2, nq2⟩, -, X2, ⟨Lc2, hQ2, l2, y2, z2⟩, st2⟩ := X1.privateBack hx (y := (⟨"java/util/ArrayList", "grow", "(I)[Ljava/lang/Object;"⟩ : MethodName)) hown (mvT hZ (hw _ (List.mem_of_getElem? (i := 164) rfl))) (mvT hZ (hw _ (List.mem_of_getElem? (i := 165) rfl))) (mvT hZ (hw _ (List.mem_of_getElem? (i := 167) rfl))) (Cond.privateMethod_at (mvP hZ (hw _ (List.mem_of_getElem? (i := 166) rfl)) (args := #[]))) (mvT hZ (hw _ (List.mem_of_getElem? (i := 168) rfl))) (by decide) (backOf (W := 0) (rmG1 l Z a0 hw [] x0 mm j h0 n0 Z0 g0 OL J E_x0 Fm Fe Fs) hZ (hw _ (List.mem_of_getElem? (i := 168) rfl)) (hw _ (List.mem_of_getElem? (i := 32) rfl)) (by decide) (by decide)) (g := (mkF m 7 #[.val (.ref x0)] [(.int (1 : Int32)), (.ref x0)])) rfl (by rw [hml]; rfl) (Steps.refl _) (a := x0) (by rw [e1]; exact q2) q2' (argsL := [(.int (1 : Int32))]) (rest := []) (lenOf own_pd13 rfl) rfl (by show 2 * 0 + _ ≤ _; exact Nat.le_of_eq rfl) (hb hby d22_7) (fun _ _ => ⟨rfl, e1, (by decide : 0 + 1 ≤ _), (by decide : 0 + 10 ≤ _)⟩)
  dsimp only [Pt.U, Pt.locs, Pt.cells, Pt.slots] at X2 l2 y2 z2 st2 hQ2
  subst l2 y2 z2
  obtain ⟨b, kb, rfl, Nq2, Kq2, Eq2, Fm2, Fe2, Fs2, Vq2, Ebq2, Ovb, geb, szb⟩ := hQ2
  have N2 := Fr.app N0 Nq2
  have Z0 := Nat.le_trans Z0 Kq2.1
  have OL := OL.keep Kq2 (allS g0 all0)
  have KK := KK.trans Kq2 (allS (Or.inl (List.mem_of_getElem? (i := 0) rfl)) all0)
  have E_x0 := E_x0.keep Kq2
  have Fm := Fm2
  have Fe := Fe2
  have Fs := Fs2
  have Vb := Vq2
  have E_b := Ebq2
  have geb' := geb
  have nv_x0_b := Exa.neArv E_x0 Vb (hw _ (List.mem_of_getElem? (i := 31) rfl))
  refine Go.of (fun _ k => st2.trans k) ?_
  show Go p e below T2 (mkF m 10 #[.val (.ref x0)] [(.ref b)]) _
  refine Go.retA X2 hx hret hlk rfl rfl (hb hby d22_10) rfl (by decide) (by decide) ?_
  exact ⟨_, _, rfl, N2, KK, E_x0, Fm, Fe, Fs, Vb, E_b, Ovb, geb, szb⟩
theorem d21_0 : decode jdk_38_method_24_code 0 = .ok (.iload_n 3, 1) := by decide +kernel
theorem d21_1 : decode jdk_38_method_24_code 1 = .ok (.aload_n 2, 1) := by decide +kernel
theorem d21_2 : decode jdk_38_method_24_code 2 = .ok (.arraylength, 1) := by decide +kernel
theorem d21_3 : decode jdk_38_method_24_code 3 = .ok (.if_icmp .ne 8, 3) := by decide +kernel
theorem d21_6 : decode jdk_38_method_24_code 6 = .ok (.aload_n 0, 1) := by decide +kernel
theorem d21_7 : decode jdk_38_method_24_code 7 = .ok (.invokevirtual 129, 3) := by decide +kernel
theorem d21_10 : decode jdk_38_method_24_code 10 = .ok (.astore_n 2, 1) := by decide +kernel
theorem d21_11 : decode jdk_38_method_24_code 11 = .ok (.aload_n 2, 1) := by decide +kernel
theorem d21_12 : decode jdk_38_method_24_code 12 = .ok (.iload_n 3, 1) := by decide +kernel
theorem d21_13 : decode jdk_38_method_24_code 13 = .ok (.aload_n 1, 1) := by decide +kernel
theorem d21_14 : decode jdk_38_method_24_code 14 = .ok (.aastore, 1) := by decide +kernel
theorem d21_15 : decode jdk_38_method_24_code 15 = .ok (.aload_n 0, 1) := by decide +kernel
theorem d21_16 : decode jdk_38_method_24_code 16 = .ok (.iload_n 3, 1) := by decide +kernel
theorem d21_17 : decode jdk_38_method_24_code 17 = .ok (.iconst 1, 1) := by decide +kernel
theorem d21_18 : decode jdk_38_method_24_code 18 = .ok (.iadd, 1) := by decide +kernel
theorem d21_19 : decode jdk_38_method_24_code 19 = .ok (.putfield 48, 3) := by decide +kernel
theorem d21_22 : decode jdk_38_method_24_code 22 = .ok (.return_, 1) := by decide +kernel
theorem own_ef_rmA3 (m : MethodId) (x0 : Addr) (y : Addr) (x2 : Addr) : entryFrame m #[(.ref x0), (.ref y), (.ref x2), (.int (0 : Int32))] 4 = mkF m 0 #[.val (.ref x0), .val (.ref y), .val (.ref x2), .val (.int (0 : Int32))] [] := by first | (simp [entryFrame, mkF, argsToLocals, Value.category]; done) | rfl
def Q_rmA3 (Z : State) (x0 y x2 : Addr) (mm : Int32) (j : Sts) (h0 : Heap) (n0 : Nat) : Option Value → Heap → List Loc → Prop := fun v h L => v = none ∧ Fr n0 L ∧ Keep h0 h [x0] ∧ ∃ (b : Addr) (kb : ClassId) (mk : Int32), Exa Z h x0 "java/util/ArrayList" ∧ Fld Z h x0 "java/util/AbstractList" "modCount" "I" (.int mk) ∧ Fld Z h x0 "java/util/ArrayList" "elementData" "[Ljava/lang/Object;" (.ref b) ∧ Fld Z h x0 "java/util/ArrayList" "size" "I" (.int (1 : Int32)) ∧ Arv Z h b kb (.object "java/lang/Object") 10 [.ref y, .null, .null, .null, .null, .null, .null, .null, .null, .null] .null ∧ Exa Z h b "[Ljava/lang/Object;" ∧ n0 ≤ b ∧ h0.size ≤ b
set_option maxRecDepth 65536 in
set_option maxHeartbeats 40000000 in
theorem rmA3 (l : Launch) (Z : State) (a0 : Array Value) (hw : ∀ d ∈ tables_1, d.before a0 Z = true) (ws : List Jvm.Cond) (x0 y x2 : Addr) (mm : Int32) (j : Sts) (h0 : Heap) (n0 : Nat) (Z0 : n0 ≤ h0.size) (hd : x2 = (j 0)) (E_y : Exa Z h0 y "org/quorumweave/Segment") (g0 : n0 ≤ x0) (OL : Old Z n0 h0) (J : JS Z j) (E_x0 : Exa Z h0 x0 "java/util/ArrayList") (Fm : Fld Z h0 x0 "java/util/AbstractList" "modCount" "I" (.int mm)) (Fe : Fld Z h0 x0 "java/util/ArrayList" "elementData" "[Ljava/lang/Object;" (.ref (j 0))) (Fs : Fld Z h0 x0 "java/util/ArrayList" "size" "I" (.int (0 : Int32))) :
    Ctr l Z (⟨"java/util/ArrayList", "add", "(Ljava/lang/Object;[Ljava/lang/Object;I)V"⟩ : MethodName) jdk_38_method_24_code 4 none ws ({ frames := 3, cells := 1, slots := 10, locals := 41 } : Room) #[(.ref x0), (.ref y), (.ref x2), (.int (0 : Int32))] h0 (Q_rmA3 Z x0 y x2 mm j h0 n0) := by
  refine Ctr.intro (plainFor_of_name own_pn5) ?_
  intro p e s m below meth c s₁ hx hby hml hown hnm hret hlk hZ X0 e0
  have hown : s.vm.findClass "java/util/ArrayList" = some m.cls := hown
  have hml : c.maxLocals = 4 := hml
  have N0 := Fr.nil n0
  refine Go.cast (own_ef_rmA3 m x0 y x2) ?_
  have KK := Keep.refl h0 [x0]
  show Go p e below s₁ (mkF m 0 #[.val (.ref x0), .val (.ref y), .val (.ref x2), .val (.int (0 : Int32))] []) _
  refine Go.of (fun _ k => XS.iloadN X0.here hx rfl (hb hby d21_0) rfl  k) ?_
  show Go p e below s₁ (mkF m 1 #[.val (.ref x0), .val (.ref y), .val (.ref x2), .val (.int (0 : Int32))] [(.int (0 : Int32))]) _
  refine Go.of (fun _ k => XS.aloadN X0.here hx rfl (hb hby d21_1) rfl rfl  k) ?_
  show Go p e below s₁ (mkF m 2 #[.val (.ref x0), .val (.ref y), .val (.ref x2), .val (.int (0 : Int32))] [(.ref x2), (.int (0 : Int32))]) _
  have VDx := J.vd
  rw [← hd] at VDx
  obtain ⟨kD, VD⟩ := VDx
  obtain ⟨cL, AL0, -, SL, -, -, -⟩ := VD.ext OL.2
  refine Go.of (fun _ k => X0.arraylength hx (by rw [e0]; exact AL0.1) (State.isArrayOf_alike hZ.alike AL0.2.1) (g := (mkF m 2 #[.val (.ref x0), .val (.ref y), .val (.ref x2), .val (.int (0 : Int32))] [(.ref x2), (.int (0 : Int32))])) rfl rfl (hb hby d21_2) _ k) ?_
  rw [len_of SL (by decide)]
  show Go p e below s₁ (mkF m 3 #[.val (.ref x0), .val (.ref y), .val (.ref x2), .val (.int (0 : Int32))] [(.int (0 : Int32)), (.int (0 : Int32))]) _
  refine Go.of (fun _ k => XS.icmpNo X0.here hx rfl (hb hby d21_3) rfl (teq (show (0 : Int32) = (0 : Int32) from (by decide))).2 k) ?_
  show Go p e below s₁ (mkF m 6 #[.val (.ref x0), .val (.ref y), .val (.ref x2), .val (.int (0 : Int32))] []) _
  refine Go.of (fun _ k => XS.aloadN X0.here hx rfl (hb hby d21_6) rfl rfl  k) ?_
  show Go p e below s₁ (mkF m 7 #[.val (.ref x0), .val (.ref y), .val (.ref x2), .val (.int (0 : Int32))] [(.ref x0)]) _
  obtain ⟨cq1, q1, q1'⟩ := E_x0.cell
  obtain ⟨_, _, ⟨T1, L1, kq1, nq1⟩, -, X1, ⟨Lc1, hQ1, l1, y1, z1⟩, st1⟩ := X0.privateBack hx (y := (⟨"java/util/ArrayList", "grow", "()[Ljava/lang/Object;"⟩ : MethodName)) hown (mvT hZ (hw _ (List.mem_of_getElem? (i := 159) rfl))) (mvT hZ (hw _ (List.mem_of_getElem? (i := 160) rfl))) (mvT hZ (hw _ (List.mem_of_getElem? (i := 162) rfl))) (Cond.privateMethod_at (mvP hZ (hw _ (List.mem_of_getElem? (i := 161) rfl)) (args := #[]))) (mvT hZ (hw _ (List.mem_of_getElem? (i := 163) rfl))) (by decide) (backOf (W := 0) (rmG0 l Z a0 hw [] x0 mm j h0 n0 Z0 g0 OL J E_x0 Fm Fe Fs) hZ (hw _ (List.mem_of_getElem? (i := 163) rfl)) (hw _ (List.mem_of_getElem? (i := 32) rfl)) (by decide) (by decide)) (g := (mkF m 7 #[.val (.ref x0), .val (.ref y), .val (.ref x2), .val (.int (0 : Int32))] [(.ref x0)])) rfl (by rw [hml]; rfl) (Steps.refl _) (a := x0) (by rw [e0]; exact q1) q1' (argsL := []) (rest := []) (lenOf own_pd9 rfl) rfl (by show 2 * 0 + _ ≤ _; exact Nat.le_of_eq rfl) (hb hby d21_7) (fun _ _ => ⟨rfl, e0, (by decide : 0 + 1 ≤ _), (by decide : 0 + 10 ≤ _)⟩)
  dsimp only [Pt.U, Pt.locs, Pt.cells, Pt.slots] at X1 l1 y1 z1 st1 hQ1
  subst l1 y1 z1
  obtain ⟨b, kb, rfl, Nq1, Kq1, Eq1, Fm1, Fe1, Fs1, Vq1, Ebq1, Ovb, geb, szb⟩ := hQ1
  have N1 := Fr.app N0 Nq1
  have Z0 := Nat.le_trans Z0 Kq1.1
  have OL := OL.keep Kq1 (allS g0 all0)
  have KK := KK.trans Kq1 (allS (Or.inl (List.mem_of_getElem? (i := 0) rfl)) all0)
  have E_x0 := E_x0.keep Kq1
  have E_y := E_y.keep Kq1
  have Fm := Fm1
  have Fe := Fe1
  have Fs := Fs1
  have Vb := Vq1
  have E_b := Ebq1
  have geb' := geb
  have nv_x0_b := Exa.neArv E_x0 Vb (hw _ (List.mem_of_getElem? (i := 31) rfl))
  have nv_y_b := Exa.neArv E_y Vb (hw _ (List.mem_of_getElem? (i := 125) rfl))
  refine Go.of (fun _ k => st1.trans k) ?_
  show Go p e below T1 (mkF m 10 #[.val (.ref x0), .val (.ref y), .val (.ref x2), .val (.int (0 : Int32))] [(.ref b)]) _
  refine Go.of (fun _ k => XS.astoreN X1.here hx rfl (hb hby d21_10) rfl rfl (l' := #[.val (.ref x0), .val (.ref y), .val (.ref b), .val (.int (0 : Int32))]) rfl k) ?_
  show Go p e below T1 (mkF m 11 #[.val (.ref x0), .val (.ref y), .val (.ref b), .val (.int (0 : Int32))] []) _
  refine Go.of (fun _ k => XS.aloadN X1.here hx rfl (hb hby d21_11) rfl rfl  k) ?_
  show Go p e below T1 (mkF m 12 #[.val (.ref x0), .val (.ref y), .val (.ref b), .val (.int (0 : Int32))] [(.ref b)]) _
  refine Go.of (fun _ k => XS.iloadN X1.here hx rfl (hb hby d21_12) rfl  k) ?_
  show Go p e below T1 (mkF m 13 #[.val (.ref x0), .val (.ref y), .val (.ref b), .val (.int (0 : Int32))] [(.int (0 : Int32)), (.ref b)]) _
  refine Go.of (fun _ k => XS.aloadN X1.here hx rfl (hb hby d21_13) rfl rfl  k) ?_
  show Go p e below T1 (mkF m 14 #[.val (.ref x0), .val (.ref y), .val (.ref b), .val (.int (0 : Int32))] [(.ref y), (.int (0 : Int32)), (.ref b)]) _
  obtain ⟨clq2, Arq2, qq2, Sq2, Nnq2, Hq2, Gq2⟩ := Vb
  have hin2 : ¬ ((0 : Int32) < 0 ∨ clq2.slots.size ≤ ((0 : Int32)).toNatClampNeg) := inb_of Sq2 ⟨by decide, by decide⟩
  obtain ⟨T2, h2, X2, e2, W2, st2⟩ := stR X1 hx hZ rfl Arq2 (j := (0 : Int32)) hin2 rfl (Sto.ofV Arq2 qq2 Ovb (Ins.of_exa E_y (hw _ (List.mem_of_getElem? (i := 175) rfl)))) (g := (mkF m 14 #[.val (.ref x0), .val (.ref y), .val (.ref b), .val (.int (0 : Int32))] [(.ref y), (.int (0 : Int32)), (.ref b)])) rfl rfl (hb hby d21_14)
  have Vb : Arv Z h2 b kb (.object "java/lang/Object") (10 : Int32) [(.ref y), .null, .null, .null, .null, .null, .null, .null, .null, .null] .null := Arv.set Arq2 qq2 Sq2 Nnq2 Hq2 Gq2 rfl W2 0 rfl (Nat.le_of_ble_eq_true rfl)
  have N2 := Fr.snoc X2 N1 geb
  have Z0 := Nat.le_trans Z0 (Keep.of_wr W2).1
  have OL := OL.wr W2 geb
  have KK := KK.wr W2 (Or.inr szb)
  have E_x0 := E_x0.wr W2
  have E_y := E_y.wr W2
  have Fm := Fm.other W2 (Or.inl nv_x0_b)
  have Fe := Fe.other W2 (Or.inl nv_x0_b)
  have Fs := Fs.other W2 (Or.inl nv_x0_b)
  have E_b := E_b.wr W2
  refine Go.of (fun _ k => st2 _ k) ?_
  show Go p e below T2 (mkF m 15 #[.val (.ref x0), .val (.ref y), .val (.ref b), .val (.int (0 : Int32))] []) _
  refine Go.of (fun _ k => XS.aloadN X2.here hx rfl (hb hby d21_15) rfl rfl  k) ?_
  show Go p e below T2 (mkF m 16 #[.val (.ref x0), .val (.ref y), .val (.ref b), .val (.int (0 : Int32))] [(.ref x0)]) _
  refine Go.of (fun _ k => XS.iloadN X2.here hx rfl (hb hby d21_16) rfl  k) ?_
  show Go p e below T2 (mkF m 17 #[.val (.ref x0), .val (.ref y), .val (.ref b), .val (.int (0 : Int32))] [(.int (0 : Int32)), (.ref x0)]) _
  refine Go.of (fun _ k => XS.iconst X2.here hx rfl (hb hby d21_17) k) ?_
  show Go p e below T2 (mkF m 18 #[.val (.ref x0), .val (.ref y), .val (.ref b), .val (.int (0 : Int32))] [(.int (1 : Int32)), (.int (0 : Int32)), (.ref x0)]) _
  refine Go.of (fun _ k => XS.iadd X2.here hx rfl (hb hby d21_18) rfl k) ?_
  show Go p e below T2 (mkF m 19 #[.val (.ref x0), .val (.ref y), .val (.ref b), .val (.int (0 : Int32))] [(.int (1 : Int32)), (.ref x0)]) _
  obtain ⟨T3, h3, X3, e3, W3, st3⟩ := putF X2 hx hZ hown (host := "") (Or.inl (hw _ (List.mem_of_getElem? (i := 89) rfl))) Via.refl e2 Fs E_x0 (Or.inl (hw _ (List.mem_of_getElem? (i := 90) rfl))) (hw _ (List.mem_of_getElem? (i := 31) rfl)) (ty := .int) (by decide) rfl rfl (g := (mkF m 19 #[.val (.ref x0), .val (.ref y), .val (.ref b), .val (.int (0 : Int32))] [(.int (1 : Int32)), (.ref x0)])) rfl rfl (hb hby d21_19)
  have N3 := Fr.snoc X3 N2 g0
  have Fs := Fs.same W3
  have Z0 := Nat.le_trans Z0 (Keep.of_wr W3).1
  have OL := OL.wr W3 g0
  have KK := KK.wr W3 (Or.inl (List.mem_of_getElem? (i := 0) rfl))
  have E_x0 := E_x0.wr W3
  have E_y := E_y.wr W3
  have Fm := Fm.other W3 (Or.inr (slot_ne (Or.inl (hw _ (List.mem_of_getElem? (i := 50) rfl))) (Or.inl (hw _ (List.mem_of_getElem? (i := 90) rfl))) (by decide) (t := .int) (t' := .int) (by decide) (by decide)))
  have Fe := Fe.other W3 (Or.inr (slot_ne (Or.inl (hw _ (List.mem_of_getElem? (i := 53) rfl))) (Or.inl (hw _ (List.mem_of_getElem? (i := 90) rfl))) (by decide) (t := (.array (.object "java/lang/Object"))) (t' := .int) (by decide) (by decide)))
  have Vb := Vb.other W3 (Ne.symm nv_x0_b)
  have E_b := E_b.wr W3
  refine Go.of (fun _ k => st3 _ k) ?_
  show Go p e below T3 (mkF m 22 #[.val (.ref x0), .val (.ref y), .val (.ref b), .val (.int (0 : Int32))] []) _
  refine Go.ret0 X3 hx hret hlk (hb hby d21_22) e3 (by decide) (by decide) ?_
  exact ⟨rfl, N3, KK, b, kb, _, E_x0, Fm, Fe, Fs, Vb, E_b, geb, szb⟩
theorem d20_0 : decode jdk_38_method_25_code 0 = .ok (.aload_n 0, 1) := by decide +kernel
theorem d20_1 : decode jdk_38_method_25_code 1 = .ok (.dup, 1) := by decide +kernel
theorem d20_2 : decode jdk_38_method_25_code 2 = .ok (.getfield 63, 3) := by decide +kernel
theorem d20_5 : decode jdk_38_method_25_code 5 = .ok (.iconst 1, 1) := by decide +kernel
theorem d20_6 : decode jdk_38_method_25_code 6 = .ok (.iadd, 1) := by decide +kernel
theorem d20_7 : decode jdk_38_method_25_code 7 = .ok (.putfield 63, 3) := by decide +kernel
theorem d20_10 : decode jdk_38_method_25_code 10 = .ok (.aload_n 0, 1) := by decide +kernel
theorem d20_11 : decode jdk_38_method_25_code 11 = .ok (.aload_n 1, 1) := by decide +kernel
theorem d20_12 : decode jdk_38_method_25_code 12 = .ok (.aload_n 0, 1) := by decide +kernel
theorem d20_13 : decode jdk_38_method_25_code 13 = .ok (.getfield 9, 3) := by decide +kernel
theorem d20_16 : decode jdk_38_method_25_code 16 = .ok (.aload_n 0, 1) := by decide +kernel
theorem d20_17 : decode jdk_38_method_25_code 17 = .ok (.getfield 48, 3) := by decide +kernel
theorem d20_20 : decode jdk_38_method_25_code 20 = .ok (.invokevirtual 131, 3) := by decide +kernel
theorem own_pd14 : parseMethodDescriptor "(Ljava/lang/Object;[Ljava/lang/Object;I)V" = some ⟨[(.object "java/lang/Object"), (.array (.object "java/lang/Object")), .int], none⟩ := by decide +kernel
theorem d20_23 : decode jdk_38_method_25_code 23 = .ok (.iconst 1, 1) := by decide +kernel
theorem d20_24 : decode jdk_38_method_25_code 24 = .ok (.ireturn, 1) := by decide +kernel
theorem own_ef_rmA1 (m : MethodId) (x0 : Addr) (y : Addr) : entryFrame m #[(.ref x0), (.ref y)] 2 = mkF m 0 #[.val (.ref x0), .val (.ref y)] [] := by first | (simp [entryFrame, mkF, argsToLocals, Value.category]; done) | rfl
def Q_rmA1 (Z : State) (x0 y : Addr) (mm : Int32) (j : Sts) (h0 : Heap) (n0 : Nat) : Option Value → Heap → List Loc → Prop := fun v h L => v = some (.int 1) ∧ Fr n0 L ∧ Keep h0 h [x0] ∧ ∃ (b : Addr) (kb : ClassId) (mk : Int32), Exa Z h x0 "java/util/ArrayList" ∧ Fld Z h x0 "java/util/AbstractList" "modCount" "I" (.int mk) ∧ Fld Z h x0 "java/util/ArrayList" "elementData" "[Ljava/lang/Object;" (.ref b) ∧ Fld Z h x0 "java/util/ArrayList" "size" "I" (.int (1 : Int32)) ∧ Arv Z h b kb (.object "java/lang/Object") 10 [.ref y, .null, .null, .null, .null, .null, .null, .null, .null, .null] .null ∧ Exa Z h b "[Ljava/lang/Object;" ∧ n0 ≤ b ∧ h0.size ≤ b
set_option maxRecDepth 65536 in
set_option maxHeartbeats 40000000 in
theorem rmA1 (l : Launch) (Z : State) (a0 : Array Value) (hw : ∀ d ∈ tables_1, d.before a0 Z = true) (ws : List Jvm.Cond) (x0 y : Addr) (mm : Int32) (j : Sts) (h0 : Heap) (n0 : Nat) (Z0 : n0 ≤ h0.size) (E_y : Exa Z h0 y "org/quorumweave/Segment") (g0 : n0 ≤ x0) (OL : Old Z n0 h0) (J : JS Z j) (E_x0 : Exa Z h0 x0 "java/util/ArrayList") (Fm : Fld Z h0 x0 "java/util/AbstractList" "modCount" "I" (.int mm)) (Fe : Fld Z h0 x0 "java/util/ArrayList" "elementData" "[Ljava/lang/Object;" (.ref (j 0))) (Fs : Fld Z h0 x0 "java/util/ArrayList" "size" "I" (.int (0 : Int32))) :
    Ctr l Z (⟨"java/util/ArrayList", "add", "(Ljava/lang/Object;)Z"⟩ : MethodName) jdk_38_method_25_code 2 (some .boolean) ws ({ frames := 4, cells := 1, slots := 10, locals := 56 } : Room) #[(.ref x0), (.ref y)] h0 (Q_rmA1 Z x0 y mm j h0 n0) := by
  refine Ctr.intro (plainFor_of_name own_pn5) ?_
  intro p e s m below meth c s₁ hx hby hml hown hnm hret hlk hZ X0 e0
  have hown : s.vm.findClass "java/util/ArrayList" = some m.cls := hown
  have hml : c.maxLocals = 2 := hml
  have N0 := Fr.nil n0
  refine Go.cast (own_ef_rmA1 m x0 y) ?_
  have KK := Keep.refl h0 [x0]
  show Go p e below s₁ (mkF m 0 #[.val (.ref x0), .val (.ref y)] []) _
  refine Go.of (fun _ k => XS.aloadN X0.here hx rfl (hb hby d20_0) rfl rfl  k) ?_
  show Go p e below s₁ (mkF m 1 #[.val (.ref x0), .val (.ref y)] [(.ref x0)]) _
  refine Go.of (fun _ k => XS.dup X0.here hx rfl (hb hby d20_1) rfl rfl k) ?_
  show Go p e below s₁ (mkF m 2 #[.val (.ref x0), .val (.ref y)] [(.ref x0), (.ref x0)]) _
  obtain ⟨T1, X1, e1, st1⟩ := getF X0 hx hZ hown (host := "") (Or.inl (hw _ (List.mem_of_getElem? (i := 152) rfl))) (Via.of (hw _ (List.mem_of_getElem? (i := 153) rfl))) e0 Fm (g := (mkF m 2 #[.val (.ref x0), .val (.ref y)] [(.ref x0), (.ref x0)])) rfl rfl (hb hby d20_2)
  refine Go.of (fun _ k => st1 _ k) ?_
  show Go p e below T1 (mkF m 5 #[.val (.ref x0), .val (.ref y)] [(.int mm), (.ref x0)]) _
  refine Go.of (fun _ k => XS.iconst X1.here hx rfl (hb hby d20_5) k) ?_
  show Go p e below T1 (mkF m 6 #[.val (.ref x0), .val (.ref y)] [(.int (1 : Int32)), (.int mm), (.ref x0)]) _
  refine Go.of (fun _ k => XS.iadd X1.here hx rfl (hb hby d20_6) rfl k) ?_
  show Go p e below T1 (mkF m 7 #[.val (.ref x0), .val (.ref y)] [(.int (mm + (1 : Int32))), (.ref x0)]) _
  obtain ⟨T2, h2, X2, e2, W2, st2⟩ := putF X1 hx hZ hown (host := "") (Or.inl (hw _ (List.mem_of_getElem? (i := 152) rfl))) (Via.of (hw _ (List.mem_of_getElem? (i := 153) rfl))) e1 Fm E_x0 (Or.inl (hw _ (List.mem_of_getElem? (i := 50) rfl))) (hw _ (List.mem_of_getElem? (i := 31) rfl)) (ty := .int) (by decide) rfl rfl (g := (mkF m 7 #[.val (.ref x0), .val (.ref y)] [(.int (mm + (1 : Int32))), (.ref x0)])) rfl rfl (hb hby d20_7)
  have N2 := Fr.snoc X2 N0 g0
  have Fm := Fm.same W2
  have Z0 := Nat.le_trans Z0 (Keep.of_wr W2).1
  have OL := OL.wr W2 g0
  have KK := KK.wr W2 (Or.inl (List.mem_of_getElem? (i := 0) rfl))
  have E_x0 := E_x0.wr W2
  have E_y := E_y.wr W2
  have Fe := Fe.other W2 (Or.inr (slot_ne (Or.inl (hw _ (List.mem_of_getElem? (i := 53) rfl))) (Or.inl (hw _ (List.mem_of_getElem? (i := 50) rfl))) (by decide) (t := (.array (.object "java/lang/Object"))) (t' := .int) (by decide) (by decide)))
  have Fs := Fs.other W2 (Or.inr (slot_ne (Or.inl (hw _ (List.mem_of_getElem? (i := 90) rfl))) (Or.inl (hw _ (List.mem_of_getElem? (i := 50) rfl))) (by decide) (t := .int) (t' := .int) (by decide) (by decide)))
  refine Go.of (fun _ k => st2 _ k) ?_
  show Go p e below T2 (mkF m 10 #[.val (.ref x0), .val (.ref y)] []) _
  refine Go.of (fun _ k => XS.aloadN X2.here hx rfl (hb hby d20_10) rfl rfl  k) ?_
  show Go p e below T2 (mkF m 11 #[.val (.ref x0), .val (.ref y)] [(.ref x0)]) _
  refine Go.of (fun _ k => XS.aloadN X2.here hx rfl (hb hby d20_11) rfl rfl  k) ?_
  show Go p e below T2 (mkF m 12 #[.val (.ref x0), .val (.ref y)] [(.ref y), (.ref x0)]) _
  refine Go.of (fun _ k => XS.aloadN X2.here hx rfl (hb hby d20_12) rfl rfl  k) ?_
  show Go p e below T2 (mkF m 13 #[.val (.ref x0), .val (.ref y)] [(.ref x0), (.ref y), (.ref x0)]) _
  obtain ⟨T3, X3, e3, st3⟩ := getF X2 hx hZ hown (host := "") (Or.inl (hw _ (List.mem_of_getElem? (i := 52) rfl))) Via.refl e2 Fe (g := (mkF m 13 #[.val (.ref x0), .val (.ref y)] [(.ref x0), (.ref y), (.ref x0)])) rfl rfl (hb hby d20_13)
  refine Go.of (fun _ k => st3 _ k) ?_
  show Go p e below T3 (mkF m 16 #[.val (.ref x0), .val (.ref y)] [(.ref (j 0)), (.ref y), (.ref x0)]) _
  refine Go.of (fun _ k => XS.aloadN X3.here hx rfl (hb hby d20_16) rfl rfl  k) ?_
  show Go p e below T3 (mkF m 17 #[.val (.ref x0), .val (.ref y)] [(.ref x0), (.ref (j 0)), (.ref y), (.ref x0)]) _
  obtain ⟨T4, X4, e4, st4⟩ := getF X3 hx hZ hown (host := "") (Or.inl (hw _ (List.mem_of_getElem? (i := 89) rfl))) Via.refl e3 Fs (g := (mkF m 17 #[.val (.ref x0), .val (.ref y)] [(.ref x0), (.ref (j 0)), (.ref y), (.ref x0)])) rfl rfl (hb hby d20_17)
  refine Go.of (fun _ k => st4 _ k) ?_
  show Go p e below T4 (mkF m 20 #[.val (.ref x0), .val (.ref y)] [(.int (0 : Int32)), (.ref (j 0)), (.ref y), (.ref x0)]) _
  obtain ⟨cq5, q5, q5'⟩ := E_x0.cell
  obtain ⟨_, _, ⟨T5, L5, kq5, nq5⟩, -, X5, ⟨Lc5, hQ5, l5, y5, z5⟩, st5⟩ := X4.privateBack hx (y := (⟨"java/util/ArrayList", "add", "(Ljava/lang/Object;[Ljava/lang/Object;I)V"⟩ : MethodName)) hown (mvT hZ (hw _ (List.mem_of_getElem? (i := 154) rfl))) (mvT hZ (hw _ (List.mem_of_getElem? (i := 155) rfl))) (mvT hZ (hw _ (List.mem_of_getElem? (i := 157) rfl))) (Cond.privateMethod_at (mvP hZ (hw _ (List.mem_of_getElem? (i := 156) rfl)) (args := #[]))) (mvT hZ (hw _ (List.mem_of_getElem? (i := 158) rfl))) (by decide) (backOf (W := 0) (rmA3 l Z a0 hw [] x0 y (j 0) (mm + (1 : Int32)) j h2 n0 Z0 rfl E_y g0 OL J E_x0 Fm Fe Fs) hZ (hw _ (List.mem_of_getElem? (i := 158) rfl)) (hw _ (List.mem_of_getElem? (i := 32) rfl)) (by decide) (by decide)) (g := (mkF m 20 #[.val (.ref x0), .val (.ref y)] [(.int (0 : Int32)), (.ref (j 0)), (.ref y), (.ref x0)])) rfl (by rw [hml]; rfl) (Steps.refl _) (a := x0) (by rw [e4]; exact q5) q5' (argsL := [(.ref y), (.ref (j 0)), (.int (0 : Int32))]) (rest := []) (lenOf own_pd14 rfl) rfl (by show 2 * 0 + _ ≤ _; exact Nat.le_of_eq rfl) (hb hby d20_20) (fun _ _ => ⟨rfl, e4, (by decide : 0 + 1 ≤ _), (by decide : 0 + 10 ≤ _)⟩)
  dsimp only [Pt.U, Pt.locs, Pt.cells, Pt.slots] at X5 l5 y5 z5 st5 hQ5
  subst l5 y5 z5
  obtain ⟨rfl, Nq5, Kq5, b, kb, mk, Eq5, Fm5, Fe5, Fs5, Vb5, Eb5, geb, szb'⟩ := hQ5
  have N5 := Fr.app N2 Nq5
  have szb := Nat.le_trans KK.1 szb'
  have Z0 := Nat.le_trans Z0 Kq5.1
  have OL := OL.keep Kq5 (allS g0 all0)
  have KK := KK.trans Kq5 (allS (Or.inl (List.mem_of_getElem? (i := 0) rfl)) all0)
  have E_x0 := E_x0.keep Kq5
  have E_y := E_y.keep Kq5
  have Fm := Fm5
  have Fe := Fe5
  have Fs := Fs5
  have Vb := Vb5
  have E_b := Eb5
  refine Go.of (fun _ k => st5.trans k) ?_
  show Go p e below T5 (mkF m 23 #[.val (.ref x0), .val (.ref y)] []) _
  refine Go.of (fun _ k => XS.iconst X5.here hx rfl (hb hby d20_23) k) ?_
  show Go p e below T5 (mkF m 24 #[.val (.ref x0), .val (.ref y)] [(.int (1 : Int32))]) _
  refine Go.retN X5 hx (t := .boolean) hret hlk (by simp) (hb hby d20_24) rfl (by decide) (by decide) ?_
  exact ⟨rfl, N5, KK, b, kb, _, E_x0, Fm, Fe, Fs, Vb, E_b, geb, szb⟩
theorem own_words {Z : State} {a0 : Array Value} (hw : ∀ d ∈ tables_1, d.before a0 Z = true) : ∀ d ∈ StrChars.Road.words, d.before a0 Z = true := fun d hd => hw d ((by decide +kernel : ∀ d ∈ StrChars.Road.words, d ∈ tables_1) d hd)
theorem own_sh (x : Int64) : ((x.toUInt64 >>> ((63 : Int32) &&& 0x3f).toInt64.toUInt64).toInt64 = 0) ↔ 0 ≤ x.toInt := by
  have hs : ((63 : Int32) &&& 0x3f).toInt64.toUInt64 = 63 := by decide
  rw [hs]
  have e : (x.toUInt64 >>> 63).toNat = x.toBitVec.toNat / 2 ^ 63 := by
    rw [UInt64.toNat_shiftRight, show (63 : UInt64).toNat % 64 = 63 from by decide, Nat.shiftRight_eq_div_pow]; rfl
  have z : ((x.toUInt64 >>> 63).toInt64 = 0) ↔ (x.toUInt64 >>> 63).toNat = 0 := by
    generalize x.toUInt64 >>> 63 = u
    constructor
    · intro q
      have := congrArg (fun v : Int64 => v.toBitVec.toNat) q
      exact this
    · intro q
      have : u = 0 := UInt64.toNat_inj.mp q
      rw [this]; rfl
  rw [z, e]
  show _ ↔ 0 ≤ x.toBitVec.toInt
  rw [BitVec.toInt_eq_toNat_cond]
  have := x.toBitVec.isLt
  split <;> omega
theorem own_lz (x : Int64) : (lcmpW x 0 = 0 ↔ x.toInt = 0) ∧ ((0 : Int32) < lcmpW x 0 ↔ 0 < x.toInt) := by
  have z : (0 : Int64).toInt = 0 := rfl
  by_cases q : x > 0
  · have q' : 0 < x.toInt := by have := Int64.lt_iff_toInt_lt.mp q; rw [z] at this; exact this
    have e : lcmpW x 0 = 1 := by simp [lcmpW, q]
    rw [e]; exact ⟨⟨fun h => absurd h (by decide), fun h => by omega⟩, ⟨fun _ => q', fun _ => by decide⟩⟩
  · have q' : ¬ 0 < x.toInt := fun h => q (Int64.lt_iff_toInt_lt.mpr (by rw [z]; exact h))
    by_cases r : x = 0
    · have e : lcmpW x 0 = 0 := by simp [lcmpW, r]
      have e0 : x.toInt = 0 := by rw [r]; rfl
      rw [e]; exact ⟨⟨fun _ => e0, fun _ => rfl⟩, ⟨fun h => absurd h (by decide), fun h => by omega⟩⟩
    · have e : lcmpW x 0 = -1 := by simp [lcmpW, q, r]
      have e0 : ¬ x.toInt = 0 := fun h => r (Int64.toInt_inj.mp (h.trans z.symm))
      rw [e]; exact ⟨⟨fun h => absurd h (by decide), fun h => absurd h e0⟩, ⟨fun h => absurd h (by decide), fun h => absurd h q'⟩⟩
theorem own_e0 {x : Int64} (h : lcmpW x 0 = 0) : fEx x = 0 := by
  have := (own_lz x).1.mp h
  exact if_neg fun q => by have := (own_lz x).2.mp q; omega
theorem own_e1 {x : Int64} (h : ¬ lcmpW x 0 = 0) (k : lcmpW ((x.toUInt64 >>> ((63 : Int32) &&& 0x3f).toInt64.toUInt64).toInt64) 0 = 0) : fEx x = 1 := by
  have a := mt (own_lz x).1.mpr h
  have b : (x.toUInt64 >>> ((63 : Int32) &&& 0x3f).toInt64.toUInt64).toInt64 = 0 := Int64.toInt_inj.mp ((own_lz _).1.mp k)
  have c := (own_sh x).mp b
  exact if_pos ((own_lz x).2.mpr (by omega))
theorem own_e2 {x : Int64} (k : ¬ lcmpW ((x.toUInt64 >>> ((63 : Int32) &&& 0x3f).toInt64.toUInt64).toInt64) 0 = 0) : fEx x = 0 := by
  have c : ¬ 0 ≤ x.toInt := fun q => k ((own_lz _).1.mpr (by rw [(own_sh x).mpr q]; rfl))
  exact if_neg fun q => by have := (own_lz x).2.mp q; omega

theorem own_two2 {a b : Int32} (h1 : chr a) (h2 : chr b) : ∀ c ∈ ([a, b] : List Int32), ¬ c < 0 ∧ ¬ (255 : Int32) < c := fun c hc => by
  rcases List.mem_cons.mp hc with rfl | hc
  · exact h1
  · rcases List.mem_cons.mp hc with rfl | hc
    · exact h2
    · cases hc
theorem own_pd15 : parseMethodDescriptor "([C)V" = some ⟨[(.array .char)], none⟩ := by decide +kernel
theorem own_pd16 : parseMethodDescriptor "(Ljava/lang/String;)Lorg/quorumweave/LogMetadata;" = some ⟨[(.object "java/lang/String")], some (.object "org/quorumweave/LogMetadata")⟩ := by decide +kernel
theorem own_pd17 : parseMethodDescriptor "(JLjava/util/List;II)Lorg/quorumweave/Segment;" = some ⟨[.long, (.object "java/util/List"), .int, .int], some (.object "org/quorumweave/Segment")⟩ := by decide +kernel
theorem own_pd18 : parseMethodDescriptor "(Ljava/lang/Object;)Z" = some ⟨[(.object "java/lang/Object")], some .boolean⟩ := by decide +kernel
theorem own_pn13 : plainName "org/quorumweave/LogMetadataExistsPinLaw" = true := by first | (simp [plainName, overriddenIn]; done) | decide +kernel
theorem own_ef_rm0 (m : MethodId) (x0 : Int64) (x1 : Int32) (x2 : Int32) (x3 : Int32) : entryFrame m #[(.long x0), (.int x1), (.int x2), (.int x3)] maxLocals = mkF m 0 #[.val (.long x0), .second, .val (.int x1), .val (.int x2), .val (.int x3), .unset, .unset, .unset, .unset, .unset] [] := by first | (simp [entryFrame, mkF, argsToLocals, Value.category, maxLocals]; done) | rfl
def Q_rm0 (Z : State) (x0 : Int64) (x1 x2 x3 zc : Int32) (j : Sts) (h0 : Heap) (n0 : Nat) : Option Value → Heap → List Loc → Prop := fun v h L => v = some (.int 1) ∧ Fr n0 L
set_option maxRecDepth 65536 in
set_option maxHeartbeats 40000000 in
theorem rm0 (l : Launch) (Z : State) (a0 : Array Value) (hw : ∀ d ∈ tables_1, d.before a0 Z = true) (ws : List Jvm.Cond) (x0 : Int64) (x1 x2 x3 zc : Int32) (j : Sts) (h0 : Heap) (n0 : Nat) (Z0 : n0 ≤ h0.size) (OL : Old Z n0 h0) (O2 : Sta Z Z.heap "java/lang/String" "COMPACT_STRINGS" "Z" (.int zc)) (hzc : ¬ zc = 0) (J : JS Z j) :
    Ctr l Z x code maxLocals ret ws room_1 #[(.long x0), (.int x1), (.int x2), (.int x3)] h0 (Q_rm0 Z x0 x1 x2 x3 zc j h0 n0) := by
  refine Ctr.intro (plainFor_of_name own_pn13) ?_
  intro p e s m below meth c s₁ hx hby hml hown hnm hret hlk hZ X0 e0
  have hown : s.vm.findClass "org/quorumweave/LogMetadataExistsPinLaw" = some m.cls := hown
  have hml : c.maxLocals = 10 := hml
  have N0 := Fr.nil n0
  refine Go.cast (own_ef_rm0 m x0 x1 x2 x3) ?_
  show Go p e below s₁ (mkF m 0 #[.val (.long x0), .second, .val (.int x1), .val (.int x2), .val (.int x3), .unset, .unset, .unset, .unset, .unset] []) _
  refine Go.of (fun _ k => XS.iconst X0.here hx rfl (hb hby at_0) k) ?_
  show Go p e below s₁ (mkF m 1 #[.val (.long x0), .second, .val (.int x1), .val (.int x2), .val (.int x3), .unset, .unset, .unset, .unset, .unset] [(.int (2 : Int32))]) _
  obtain ⟨T1, h1, kc1, X1, e1, E1, A1, st1⟩ := newP X0 hx hZ (hw _ (List.mem_of_getElem? (i := 0) rfl)) e0 (g := (mkF m 1 #[.val (.long x0), .second, .val (.int x1), .val (.int x2), .val (.int x3), .unset, .unset, .unset, .unset, .unset] [(.int (2 : Int32))])) rfl (hb hby at_1) rfl (by decide) (cap := 2) (by decide) (by decide) (by decide) (by decide)
  obtain ⟨ad1, g1⟩ : ∃ z, z = h0.size := ⟨_, rfl⟩
  rw [← g1] at A1 st1
  have ge_ad1 : n0 ≤ ad1 := Nat.le_trans Z0 (Nat.le_of_eq g1.symm)
  have Z0 := Nat.le_trans Z0 E1.1
  have OL := OL.ext E1
  have V_ad1 : Arv Z h1 ad1 kc1 .char (2 : Int32) [(.int (0 : Int32)), (.int (0 : Int32))] (.int (0 : Int32)) := (Arv.new A1 (by decide)).pad (pad_rep [] (.int (0 : Int32)) 2)
  refine Go.of (fun _ k => st1 _ k) ?_
  show Go p e below T1 (mkF m 3 #[.val (.long x0), .second, .val (.int x1), .val (.int x2), .val (.int x3), .unset, .unset, .unset, .unset, .unset] [(.ref ad1)]) _
  refine Go.of (fun _ k => XS.astore X1.here hx rfl (hb hby at_3) rfl rfl (l' := #[.val (.long x0), .second, .val (.int x1), .val (.int x2), .val (.int x3), .val (.ref ad1), .unset, .unset, .unset, .unset]) rfl k) ?_
  show Go p e below T1 (mkF m 5 #[.val (.long x0), .second, .val (.int x1), .val (.int x2), .val (.int x3), .val (.ref ad1), .unset, .unset, .unset, .unset] []) _
  refine Go.of (fun _ k => XS.aload X1.here hx rfl (hb hby at_5) rfl rfl  k) ?_
  show Go p e below T1 (mkF m 7 #[.val (.long x0), .second, .val (.int x1), .val (.int x2), .val (.int x3), .val (.ref ad1), .unset, .unset, .unset, .unset] [(.ref ad1)]) _
  refine Go.of (fun _ k => XS.iconst X1.here hx rfl (hb hby at_7) k) ?_
  show Go p e below T1 (mkF m 8 #[.val (.long x0), .second, .val (.int x1), .val (.int x2), .val (.int x3), .val (.ref ad1), .unset, .unset, .unset, .unset] [(.int (0 : Int32)), (.ref ad1)]) _
  refine Go.of (fun _ k => XS.iloadN X1.here hx rfl (hb hby at_8) rfl  k) ?_
  show Go p e below T1 (mkF m 9 #[.val (.long x0), .second, .val (.int x1), .val (.int x2), .val (.int x3), .val (.ref ad1), .unset, .unset, .unset, .unset] [(.int x1), (.int (0 : Int32)), (.ref ad1)]) _
  refine Go.of (fun _ k => XS.sipush X1.here hx rfl (hb hby at_9) k) ?_
  show Go p e below T1 (mkF m 12 #[.val (.long x0), .second, .val (.int x1), .val (.int x2), .val (.int x3), .val (.ref ad1), .unset, .unset, .unset, .unset] [(.int (255 : Int32)), (.int x1), (.int (0 : Int32)), (.ref ad1)]) _
  refine Go.of (fun _ k => XS.iand X1.here hx rfl (hb hby at_12) rfl k) ?_
  show Go p e below T1 (mkF m 13 #[.val (.long x0), .second, .val (.int x1), .val (.int x2), .val (.int x3), .val (.ref ad1), .unset, .unset, .unset, .unset] [(.int (x1 &&& (255 : Int32))), (.int (0 : Int32)), (.ref ad1)]) _
  refine Go.of (fun _ k => XS.i2c X1.here hx rfl (hb hby at_13) rfl k) ?_
  show Go p e below T1 (mkF m 14 #[.val (.long x0), .second, .val (.int x1), .val (.int x2), .val (.int x3), .val (.ref ad1), .unset, .unset, .unset, .unset] [(.int ((x1 &&& (255 : Int32)).toUInt32.toUInt16.toUInt32.toInt32)), (.int (0 : Int32)), (.ref ad1)]) _
  obtain ⟨clq2, Arq2, qq2, Sq2, Nnq2, Hq2, Gq2⟩ := V_ad1
  have hin2 : ¬ ((0 : Int32) < 0 ∨ clq2.slots.size ≤ ((0 : Int32)).toNatClampNeg) := inb_of Sq2 ⟨by decide, by decide⟩
  obtain ⟨T2, h2, X2, e2, W2, st2⟩ := stC X1 hx hZ e1 Arq2 (j := (0 : Int32)) hin2 (g := (mkF m 14 #[.val (.long x0), .second, .val (.int x1), .val (.int x2), .val (.int x3), .val (.ref ad1), .unset, .unset, .unset, .unset] [(.int ((x1 &&& (255 : Int32)).toUInt32.toUInt16.toUInt32.toInt32)), (.int (0 : Int32)), (.ref ad1)])) rfl rfl (hb hby at_14)
  have V_ad1 : Arv Z h2 ad1 kc1 .char (2 : Int32) [(.int (nar .char ((x1 &&& (255 : Int32)).toUInt32.toUInt16.toUInt32.toInt32))), (.int (0 : Int32))] (.int (0 : Int32)) := Arv.set Arq2 qq2 Sq2 Nnq2 Hq2 Gq2 (fits_nar_char _) W2 0 rfl (Nat.le_of_ble_eq_true rfl)
  have N2 := Fr.snoc X2 N0 ge_ad1
  have Z0 := Nat.le_trans Z0 (Keep.of_wr W2).1
  have OL := OL.wr W2 ge_ad1
  refine Go.of (fun _ k => st2 _ k) ?_
  show Go p e below T2 (mkF m 15 #[.val (.long x0), .second, .val (.int x1), .val (.int x2), .val (.int x3), .val (.ref ad1), .unset, .unset, .unset, .unset] []) _
  rw [own_nar (c := ((x1 &&& (255 : Int32)).toUInt32.toUInt16.toUInt32.toInt32)) (own_ch _)] at V_ad1
  refine Go.of (fun _ k => XS.aload X2.here hx rfl (hb hby at_15) rfl rfl  k) ?_
  show Go p e below T2 (mkF m 17 #[.val (.long x0), .second, .val (.int x1), .val (.int x2), .val (.int x3), .val (.ref ad1), .unset, .unset, .unset, .unset] [(.ref ad1)]) _
  refine Go.of (fun _ k => XS.iconst X2.here hx rfl (hb hby at_17) k) ?_
  show Go p e below T2 (mkF m 18 #[.val (.long x0), .second, .val (.int x1), .val (.int x2), .val (.int x3), .val (.ref ad1), .unset, .unset, .unset, .unset] [(.int (1 : Int32)), (.ref ad1)]) _
  refine Go.of (fun _ k => XS.iloadN X2.here hx rfl (hb hby at_18) rfl  k) ?_
  show Go p e below T2 (mkF m 19 #[.val (.long x0), .second, .val (.int x1), .val (.int x2), .val (.int x3), .val (.ref ad1), .unset, .unset, .unset, .unset] [(.int x2), (.int (1 : Int32)), (.ref ad1)]) _
  refine Go.of (fun _ k => XS.sipush X2.here hx rfl (hb hby at_19) k) ?_
  show Go p e below T2 (mkF m 22 #[.val (.long x0), .second, .val (.int x1), .val (.int x2), .val (.int x3), .val (.ref ad1), .unset, .unset, .unset, .unset] [(.int (255 : Int32)), (.int x2), (.int (1 : Int32)), (.ref ad1)]) _
  refine Go.of (fun _ k => XS.iand X2.here hx rfl (hb hby at_22) rfl k) ?_
  show Go p e below T2 (mkF m 23 #[.val (.long x0), .second, .val (.int x1), .val (.int x2), .val (.int x3), .val (.ref ad1), .unset, .unset, .unset, .unset] [(.int (x2 &&& (255 : Int32))), (.int (1 : Int32)), (.ref ad1)]) _
  refine Go.of (fun _ k => XS.i2c X2.here hx rfl (hb hby at_23) rfl k) ?_
  show Go p e below T2 (mkF m 24 #[.val (.long x0), .second, .val (.int x1), .val (.int x2), .val (.int x3), .val (.ref ad1), .unset, .unset, .unset, .unset] [(.int ((x2 &&& (255 : Int32)).toUInt32.toUInt16.toUInt32.toInt32)), (.int (1 : Int32)), (.ref ad1)]) _
  obtain ⟨clq3, Arq3, qq3, Sq3, Nnq3, Hq3, Gq3⟩ := V_ad1
  have hin3 : ¬ ((1 : Int32) < 0 ∨ clq3.slots.size ≤ ((1 : Int32)).toNatClampNeg) := inb_of Sq3 ⟨by decide, by decide⟩
  obtain ⟨T3, h3, X3, e3, W3, st3⟩ := stC X2 hx hZ e2 Arq3 (j := (1 : Int32)) hin3 (g := (mkF m 24 #[.val (.long x0), .second, .val (.int x1), .val (.int x2), .val (.int x3), .val (.ref ad1), .unset, .unset, .unset, .unset] [(.int ((x2 &&& (255 : Int32)).toUInt32.toUInt16.toUInt32.toInt32)), (.int (1 : Int32)), (.ref ad1)])) rfl rfl (hb hby at_24)
  have V_ad1 : Arv Z h3 ad1 kc1 .char (2 : Int32) [(.int ((x1 &&& (255 : Int32)).toUInt32.toUInt16.toUInt32.toInt32)), (.int (nar .char ((x2 &&& (255 : Int32)).toUInt32.toUInt16.toUInt32.toInt32)))] (.int (0 : Int32)) := Arv.set Arq3 qq3 Sq3 Nnq3 Hq3 Gq3 (fits_nar_char _) W3 1 rfl (Nat.le_of_ble_eq_true rfl)
  have N3 := Fr.snoc X3 N2 ge_ad1
  have Z0 := Nat.le_trans Z0 (Keep.of_wr W3).1
  have OL := OL.wr W3 ge_ad1
  refine Go.of (fun _ k => st3 _ k) ?_
  show Go p e below T3 (mkF m 25 #[.val (.long x0), .second, .val (.int x1), .val (.int x2), .val (.int x3), .val (.ref ad1), .unset, .unset, .unset, .unset] []) _
  rw [own_nar (c := ((x2 &&& (255 : Int32)).toUInt32.toUInt16.toUInt32.toInt32)) (own_ch _)] at V_ad1
  obtain ⟨T4, h4, X4, e4, E4, A4, D4, -, st4⟩ := newO X3 hx hZ hown (hw _ (List.mem_of_getElem? (i := 1) rfl)) (hw _ (List.mem_of_getElem? (i := 2) rfl)) (hw _ (List.mem_of_getElem? (i := 3) rfl)) e3 (g := (mkF m 25 #[.val (.long x0), .second, .val (.int x1), .val (.int x2), .val (.int x3), .val (.ref ad1), .unset, .unset, .unset, .unset] [])) rfl (hb hby at_25) (by decide) (by decide)
  obtain ⟨ad4, g4⟩ : ∃ z, z = h3.size := ⟨_, rfl⟩
  rw [← g4] at A4 D4 st4
  have ne_ad1_ad4 : ad1 ≠ ad4 := Nat.ne_of_lt (Nat.lt_of_lt_of_le V_ad1.lt (Nat.le_of_eq g4.symm))
  have ge_ad4 : n0 ≤ ad4 := Nat.le_trans Z0 (Nat.le_of_eq g4.symm)
  have Z0 := Nat.le_trans Z0 E4.1
  have OL := OL.ext E4
  have V_ad1 := V_ad1.ext E4
  have E_ad4 := A4
  have F_coder_ad4 : Fld Z h4 ad4 "java/lang/String" "coder" "B" (.int (0 : Int32)) := D4 (Or.inr (hw _ (List.mem_of_getElem? (i := 27) rfl))) (ty := .byte) (by decide)
  have F_value_ad4 : Fld Z h4 ad4 "java/lang/String" "value" "[B" .null := D4 (Or.inr (hw _ (List.mem_of_getElem? (i := 29) rfl))) (ty := (.array .byte)) (by decide)
  refine Go.of (fun _ k => st4 _ k) ?_
  show Go p e below T4 (mkF m 28 #[.val (.long x0), .second, .val (.int x1), .val (.int x2), .val (.int x3), .val (.ref ad1), .unset, .unset, .unset, .unset] [(.ref ad4)]) _
  refine Go.of (fun _ k => XS.dup X4.here hx rfl (hb hby at_28) rfl rfl k) ?_
  show Go p e below T4 (mkF m 29 #[.val (.long x0), .second, .val (.int x1), .val (.int x2), .val (.int x3), .val (.ref ad1), .unset, .unset, .unset, .unset] [(.ref ad4), (.ref ad4)]) _
  refine Go.of (fun _ k => XS.aload X4.here hx rfl (hb hby at_29) rfl rfl  k) ?_
  show Go p e below T4 (mkF m 31 #[.val (.long x0), .second, .val (.int x1), .val (.int x2), .val (.int x3), .val (.ref ad1), .unset, .unset, .unset, .unset] [(.ref ad1), (.ref ad4), (.ref ad4)]) _
  obtain ⟨_, _, ⟨T5, L5, kq5, nq5⟩, -, X5, ⟨Lc5, hQ5, l5, y5, z5⟩, st5⟩ := X4.specialBack hx (y := (⟨"java/lang/String", "<init>", "([C)V"⟩ : MethodName)) rfl hown (mvT hZ (hw _ (List.mem_of_getElem? (i := 4) rfl))) (mvT hZ (hw _ (List.mem_of_getElem? (i := 5) rfl))) (mvT hZ (hw _ (List.mem_of_getElem? (i := 6) rfl))) (by decide) (StrChars.Road.backV (W := 1) hZ (own_words hw) (kI := 4) (hw _ (List.mem_of_getElem? (i := 2) rfl)) (cs := ([((x1 &&& (255 : Int32)).toUInt32.toUInt16.toUInt32.toInt32), ((x2 &&& (255 : Int32)).toUInt32.toUInt16.toUInt32.toInt32)] : List Int32)) (n := 2) ge_ad4 Z0 E_ad4 F_value_ad4 F_coder_ad4 V_ad1 (O2.ext OL.2) hzc rfl rfl (by decide) (by decide) (own_two2 (own_ch _) (own_ch _)) rfl (by decide) (by decide)) (g := (mkF m 31 #[.val (.long x0), .second, .val (.int x1), .val (.int x2), .val (.int x3), .val (.ref ad1), .unset, .unset, .unset, .unset] [(.ref ad1), (.ref ad4), (.ref ad4)])) rfl (by rw [hml]; rfl) (Steps.refl _) (a := ad4) (argsL := [(.ref ad1)]) (rest := [(.ref ad4)]) (lenOf own_pd15 rfl) rfl (by show 2 * 0 + _ ≤ _; exact Nat.le_of_eq rfl) (hb hby at_31) (fun _ _ => ⟨rfl, e4, (by decide : 2 + 1 ≤ _), (by decide : 6 + 2 ≤ _)⟩)
  dsimp only [Pt.U, Pt.locs, Pt.cells, Pt.slots] at X5 l5 y5 z5 st5 hQ5
  subst l5 y5 z5
  obtain ⟨rfl, Nq5, Kq5, -⟩ := hQ5
  have N5 := Fr.app N3 Nq5
  have Z0 := Nat.le_trans Z0 Kq5.1
  have OL := OL.keep Kq5 (allS ge_ad4 all0)
  have V_ad1 := V_ad1.keep Kq5 (ninS ne_ad1_ad4 nin0)
  have E_ad4 := E_ad4.keep Kq5
  refine Go.of (fun _ k => st5.trans k) ?_
  show Go p e below T5 (mkF m 34 #[.val (.long x0), .second, .val (.int x1), .val (.int x2), .val (.int x3), .val (.ref ad1), .unset, .unset, .unset, .unset] [(.ref ad4)]) _
  refine Go.of (fun _ k => XS.astore X5.here hx rfl (hb hby at_34) rfl rfl (l' := #[.val (.long x0), .second, .val (.int x1), .val (.int x2), .val (.int x3), .val (.ref ad1), .val (.ref ad4), .unset, .unset, .unset]) rfl k) ?_
  show Go p e below T5 (mkF m 36 #[.val (.long x0), .second, .val (.int x1), .val (.int x2), .val (.int x3), .val (.ref ad1), .val (.ref ad4), .unset, .unset, .unset] []) _
  obtain ⟨T6, h6, X6, e6, E6, A6, D6, -, st6⟩ := newO X5 hx hZ hown (hw _ (List.mem_of_getElem? (i := 30) rfl)) (hw _ (List.mem_of_getElem? (i := 31) rfl)) (hw _ (List.mem_of_getElem? (i := 32) rfl)) rfl (g := (mkF m 36 #[.val (.long x0), .second, .val (.int x1), .val (.int x2), .val (.int x3), .val (.ref ad1), .val (.ref ad4), .unset, .unset, .unset] [])) rfl (hb hby at_36) (by decide) (by decide)
  obtain ⟨ad6, g6⟩ : ∃ z, z = T5.heap.size := ⟨_, rfl⟩
  rw [← g6] at A6 D6 st6
  have ne_ad1_ad6 : ad1 ≠ ad6 := Nat.ne_of_lt (Nat.lt_of_lt_of_le V_ad1.lt (Nat.le_of_eq g6.symm))
  have ne_ad4_ad6 : ad4 ≠ ad6 := Nat.ne_of_lt (Nat.lt_of_lt_of_le E_ad4.lt (Nat.le_of_eq g6.symm))
  have ge_ad6 : n0 ≤ ad6 := Nat.le_trans Z0 (Nat.le_of_eq g6.symm)
  have Z0 := Nat.le_trans Z0 E6.1
  have OL := OL.ext E6
  have V_ad1 := V_ad1.ext E6
  have E_ad4 := E_ad4.ext E6
  have E_ad6 := A6
  have F_modCount_ad6 : Fld Z h6 ad6 "java/util/AbstractList" "modCount" "I" (.int (0 : Int32)) := D6 (Or.inl (hw _ (List.mem_of_getElem? (i := 50) rfl))) (ty := .int) (by decide)
  have F_elementData_ad6 : Fld Z h6 ad6 "java/util/ArrayList" "elementData" "[Ljava/lang/Object;" .null := D6 (Or.inl (hw _ (List.mem_of_getElem? (i := 53) rfl))) (ty := (.array (.object "java/lang/Object"))) (by decide)
  have F_size_ad6 : Fld Z h6 ad6 "java/util/ArrayList" "size" "I" (.int (0 : Int32)) := D6 (Or.inl (hw _ (List.mem_of_getElem? (i := 90) rfl))) (ty := .int) (by decide)
  refine Go.of (fun _ k => st6 _ k) ?_
  show Go p e below T6 (mkF m 39 #[.val (.long x0), .second, .val (.int x1), .val (.int x2), .val (.int x3), .val (.ref ad1), .val (.ref ad4), .unset, .unset, .unset] [(.ref ad6)]) _
  refine Go.of (fun _ k => XS.dup X6.here hx rfl (hb hby at_39) rfl rfl k) ?_
  show Go p e below T6 (mkF m 40 #[.val (.long x0), .second, .val (.int x1), .val (.int x2), .val (.int x3), .val (.ref ad1), .val (.ref ad4), .unset, .unset, .unset] [(.ref ad6), (.ref ad6)]) _
  obtain ⟨_, _, ⟨T7, L7, kq7, nq7⟩, -, X7, ⟨Lc7, hQ7, l7, y7, z7⟩, st7⟩ := X6.specialBack hx (y := (⟨"java/util/ArrayList", "<init>", "()V"⟩ : MethodName)) rfl hown (mvT hZ (hw _ (List.mem_of_getElem? (i := 33) rfl))) (mvT hZ (hw _ (List.mem_of_getElem? (i := 34) rfl))) (mvT hZ (hw _ (List.mem_of_getElem? (i := 35) rfl))) (by decide) (backOf (W := 1) (rmAL l Z a0 hw [] ad6 j h6 n0 Z0 ge_ad6 OL J E_ad6 F_modCount_ad6 F_elementData_ad6 F_size_ad6) hZ (hw _ (List.mem_of_getElem? (i := 35) rfl)) (hw _ (List.mem_of_getElem? (i := 32) rfl)) (by decide) (by decide)) (g := (mkF m 40 #[.val (.long x0), .second, .val (.int x1), .val (.int x2), .val (.int x3), .val (.ref ad1), .val (.ref ad4), .unset, .unset, .unset] [(.ref ad6), (.ref ad6)])) rfl (by rw [hml]; rfl) (Steps.refl _) (a := ad6) (argsL := []) (rest := [(.ref ad6)]) (lenOf own_pd0 rfl) rfl (by show 2 * 0 + _ ≤ _; exact Nat.le_of_eq rfl) (hb hby at_40) (fun _ _ => ⟨rfl, e6, (by decide : 4 + 0 ≤ _), (by decide : 11 + 0 ≤ _)⟩)
  dsimp only [Pt.U, Pt.locs, Pt.cells, Pt.slots] at X7 l7 y7 z7 st7 hQ7
  subst l7 y7 z7
  obtain ⟨rfl, Nq7, Kq7, fq7_0, fq7_1, fq7_2, fq7_3⟩ := hQ7
  have N7 := Fr.app N5 Nq7
  have Z0 := Nat.le_trans Z0 Kq7.1
  have OL := OL.keep Kq7 (allS ge_ad6 all0)
  have V_ad1 := V_ad1.keep Kq7 (ninS ne_ad1_ad6 nin0)
  have E_ad4 := E_ad4.keep Kq7
  have E_ad6 := fq7_0
  have F_modCount_ad6 := fq7_1
  have F_elementData_ad6 := fq7_2
  have F_size_ad6 := fq7_3
  refine Go.of (fun _ k => st7.trans k) ?_
  show Go p e below T7 (mkF m 43 #[.val (.long x0), .second, .val (.int x1), .val (.int x2), .val (.int x3), .val (.ref ad1), .val (.ref ad4), .unset, .unset, .unset] [(.ref ad6)]) _
  refine Go.of (fun _ k => XS.astore X7.here hx rfl (hb hby at_43) rfl rfl (l' := #[.val (.long x0), .second, .val (.int x1), .val (.int x2), .val (.int x3), .val (.ref ad1), .val (.ref ad4), .val (.ref ad6), .unset, .unset]) rfl k) ?_
  show Go p e below T7 (mkF m 45 #[.val (.long x0), .second, .val (.int x1), .val (.int x2), .val (.int x3), .val (.ref ad1), .val (.ref ad4), .val (.ref ad6), .unset, .unset] []) _
  refine Go.of (fun _ k => XS.iload X7.here hx rfl (hb hby at_45) rfl  k) ?_
  show Go p e below T7 (mkF m 47 #[.val (.long x0), .second, .val (.int x1), .val (.int x2), .val (.int x3), .val (.ref ad1), .val (.ref ad4), .val (.ref ad6), .unset, .unset] [(.int x3)]) _
  refine Go.of (fun _ k => XS.iconst X7.here hx rfl (hb hby at_47) k) ?_
  show Go p e below T7 (mkF m 48 #[.val (.long x0), .second, .val (.int x1), .val (.int x2), .val (.int x3), .val (.ref ad1), .val (.ref ad4), .val (.ref ad6), .unset, .unset] [(.int (1 : Int32)), (.int x3)]) _
  refine Go.of (fun _ k => XS.iand X7.here hx rfl (hb hby at_48) rfl k) ?_
  show Go p e below T7 (mkF m 49 #[.val (.long x0), .second, .val (.int x1), .val (.int x2), .val (.int x3), .val (.ref ad1), .val (.ref ad4), .val (.ref ad6), .unset, .unset] [(.int (x3 &&& (1 : Int32)))]) _
  by_cases hc49_0 : (x3 &&& (1 : Int32)) = (0 : Int32)
  · refine Go.of (fun _ k => XS.ifYes X7.here hx rfl (pc0 := 49) (pc' := 71) rfl (hb hby at_49) rfl ((if0 _ _).trans (teq hc49_0).1) (by decide) (by decide) k) ?_
    show Go p e below T7 (mkF m 71 #[.val (.long x0), .second, .val (.int x1), .val (.int x2), .val (.int x3), .val (.ref ad1), .val (.ref ad4), .val (.ref ad6), .unset, .unset] []) _
    obtain ⟨T8, h8, X8, e8, E8, A8, D8, -, st8⟩ := newO X7 hx hZ hown (hw _ (List.mem_of_getElem? (i := 54) rfl)) (hw _ (List.mem_of_getElem? (i := 55) rfl)) (hw _ (List.mem_of_getElem? (i := 56) rfl)) rfl (g := (mkF m 71 #[.val (.long x0), .second, .val (.int x1), .val (.int x2), .val (.int x3), .val (.ref ad1), .val (.ref ad4), .val (.ref ad6), .unset, .unset] [])) rfl (hb hby at_71) (by decide) (by decide)
    obtain ⟨ad8, g8⟩ : ∃ z, z = T7.heap.size := ⟨_, rfl⟩
    rw [← g8] at A8 D8 st8
    have ne_ad1_ad8 : ad1 ≠ ad8 := Nat.ne_of_lt (Nat.lt_of_lt_of_le V_ad1.lt (Nat.le_of_eq g8.symm))
    have ne_ad4_ad8 : ad4 ≠ ad8 := Nat.ne_of_lt (Nat.lt_of_lt_of_le E_ad4.lt (Nat.le_of_eq g8.symm))
    have ne_ad6_ad8 : ad6 ≠ ad8 := Nat.ne_of_lt (Nat.lt_of_lt_of_le E_ad6.lt (Nat.le_of_eq g8.symm))
    have ge_ad8 : n0 ≤ ad8 := Nat.le_trans Z0 (Nat.le_of_eq g8.symm)
    have Z0 := Nat.le_trans Z0 E8.1
    have OL := OL.ext E8
    have V_ad1 := V_ad1.ext E8
    have E_ad4 := E_ad4.ext E8
    have E_ad6 := E_ad6.ext E8
    have F_modCount_ad6 := F_modCount_ad6.ext E8
    have F_elementData_ad6 := F_elementData_ad6.ext E8
    have F_size_ad6 := F_size_ad6.ext E8
    have E_ad8 := A8
    have F_name_ad8 : Fld Z h8 ad8 "org/quorumweave/LogMetadata" "name" "Ljava/lang/String;" .null := D8 (Or.inr (hw _ (List.mem_of_getElem? (i := 96) rfl))) (ty := (.object "java/lang/String")) (by decide)
    have F_version_ad8 : Fld Z h8 ad8 "org/quorumweave/LogMetadata" "version" "J" (.long (0 : Int64)) := D8 (Or.inr (hw _ (List.mem_of_getElem? (i := 98) rfl))) (ty := .long) (by decide)
    have F_segments_ad8 : Fld Z h8 ad8 "org/quorumweave/LogMetadata" "segments" "Ljava/util/List;" .null := D8 (Or.inr (hw _ (List.mem_of_getElem? (i := 100) rfl))) (ty := (.object "java/util/List")) (by decide)
    refine Go.of (fun _ k => st8 _ k) ?_
    show Go p e below T8 (mkF m 74 #[.val (.long x0), .second, .val (.int x1), .val (.int x2), .val (.int x3), .val (.ref ad1), .val (.ref ad4), .val (.ref ad6), .unset, .unset] [(.ref ad8)]) _
    refine Go.of (fun _ k => XS.dup X8.here hx rfl (hb hby at_74) rfl rfl k) ?_
    show Go p e below T8 (mkF m 75 #[.val (.long x0), .second, .val (.int x1), .val (.int x2), .val (.int x3), .val (.ref ad1), .val (.ref ad4), .val (.ref ad6), .unset, .unset] [(.ref ad8), (.ref ad8)]) _
    refine Go.of (fun _ k => XS.aload X8.here hx rfl (hb hby at_75) rfl rfl  k) ?_
    show Go p e below T8 (mkF m 77 #[.val (.long x0), .second, .val (.int x1), .val (.int x2), .val (.int x3), .val (.ref ad1), .val (.ref ad4), .val (.ref ad6), .unset, .unset] [(.ref ad4), (.ref ad8), (.ref ad8)]) _
    refine Go.of (fun _ k => XS.lloadN X8.here hx rfl (hb hby at_77) rfl  k) ?_
    show Go p e below T8 (mkF m 78 #[.val (.long x0), .second, .val (.int x1), .val (.int x2), .val (.int x3), .val (.ref ad1), .val (.ref ad4), .val (.ref ad6), .unset, .unset] [(.long x0), (.ref ad4), (.ref ad8), (.ref ad8)]) _
    refine Go.of (fun _ k => XS.aload X8.here hx rfl (hb hby at_78) rfl rfl  k) ?_
    show Go p e below T8 (mkF m 80 #[.val (.long x0), .second, .val (.int x1), .val (.int x2), .val (.int x3), .val (.ref ad1), .val (.ref ad4), .val (.ref ad6), .unset, .unset] [(.ref ad6), (.long x0), (.ref ad4), (.ref ad8), (.ref ad8)]) _
    obtain ⟨_, _, ⟨T9, L9, kq9, nq9⟩, -, X9, ⟨Lc9, hQ9, l9, y9, z9⟩, st9⟩ := X8.specialBack hx (y := (⟨"org/quorumweave/LogMetadata", "<init>", "(Ljava/lang/String;JLjava/util/List;)V"⟩ : MethodName)) rfl hown (mvT hZ (hw _ (List.mem_of_getElem? (i := 57) rfl))) (mvT hZ (hw _ (List.mem_of_getElem? (i := 58) rfl))) (mvT hZ (hw _ (List.mem_of_getElem? (i := 59) rfl))) (by decide) (backOf (W := 1) (rmLMa l Z a0 hw [] ad8 ad4 x0 ad6 j h8 n0 Z0 ge_ad8 OL J E_ad8 F_name_ad8 F_version_ad8 F_segments_ad8 E_ad6 F_size_ad6) hZ (hw _ (List.mem_of_getElem? (i := 59) rfl)) (hw _ (List.mem_of_getElem? (i := 56) rfl)) (by decide) (by decide)) (g := (mkF m 80 #[.val (.long x0), .second, .val (.int x1), .val (.int x2), .val (.int x3), .val (.ref ad1), .val (.ref ad4), .val (.ref ad6), .unset, .unset] [(.ref ad6), (.long x0), (.ref ad4), (.ref ad8), (.ref ad8)])) rfl (by rw [hml]; rfl) (Steps.refl _) (a := ad8) (argsL := [(.ref ad4), (.long x0), (.ref ad6)]) (rest := [(.ref ad8)]) (lenOf own_pd11 rfl) rfl (by show 2 * 0 + _ ≤ _; exact Nat.le_of_eq rfl) (hb hby at_80) (fun _ _ => ⟨rfl, e8, (by decide : 5 + 0 ≤ _), (by decide : 14 + 0 ≤ _)⟩)
    dsimp only [Pt.U, Pt.locs, Pt.cells, Pt.slots] at X9 l9 y9 z9 st9 hQ9
    subst l9 y9 z9
    obtain ⟨rfl, Nq9, Kq9, fq9_0, fq9_1⟩ := hQ9
    have N9 := Fr.app N7 Nq9
    have Z0 := Nat.le_trans Z0 Kq9.1
    have OL := OL.keep Kq9 (allS ge_ad8 all0)
    have V_ad1 := V_ad1.keep Kq9 (ninS ne_ad1_ad8 nin0)
    have E_ad4 := E_ad4.keep Kq9
    have E_ad6 := E_ad6.keep Kq9
    have F_modCount_ad6 := F_modCount_ad6.keep Kq9 (ninS ne_ad6_ad8 nin0)
    have F_elementData_ad6 := F_elementData_ad6.keep Kq9 (ninS ne_ad6_ad8 nin0)
    have F_size_ad6 := F_size_ad6.keep Kq9 (ninS ne_ad6_ad8 nin0)
    have E_ad8 := fq9_0
    have F_version_ad8 := fq9_1
    refine Go.of (fun _ k => st9.trans k) ?_
    show Go p e below T9 (mkF m 83 #[.val (.long x0), .second, .val (.int x1), .val (.int x2), .val (.int x3), .val (.ref ad1), .val (.ref ad4), .val (.ref ad6), .unset, .unset] [(.ref ad8)]) _
    refine Go.of (fun _ k => XS.astore X9.here hx rfl (hb hby at_83) rfl rfl (l' := #[.val (.long x0), .second, .val (.int x1), .val (.int x2), .val (.int x3), .val (.ref ad1), .val (.ref ad4), .val (.ref ad6), .val (.ref ad8), .unset]) rfl k) ?_
    show Go p e below T9 (mkF m 85 #[.val (.long x0), .second, .val (.int x1), .val (.int x2), .val (.int x3), .val (.ref ad1), .val (.ref ad4), .val (.ref ad6), .val (.ref ad8), .unset] []) _
    refine Go.of (fun _ k => XS.lloadN X9.here hx rfl (hb hby at_85) rfl  k) ?_
    show Go p e below T9 (mkF m 86 #[.val (.long x0), .second, .val (.int x1), .val (.int x2), .val (.int x3), .val (.ref ad1), .val (.ref ad4), .val (.ref ad6), .val (.ref ad8), .unset] [(.long x0)]) _
    refine Go.of (fun _ k => XS.lconst X9.here hx rfl (hb hby at_86) k) ?_
    show Go p e below T9 (mkF m 87 #[.val (.long x0), .second, .val (.int x1), .val (.int x2), .val (.int x3), .val (.ref ad1), .val (.ref ad4), .val (.ref ad6), .val (.ref ad8), .unset] [(.long (0 : Int64)), (.long x0)]) _
    refine Go.of (fun _ k => XS.lcmp X9.here hx rfl (hb hby at_87) rfl k) ?_
    show Go p e below T9 (mkF m 88 #[.val (.long x0), .second, .val (.int x1), .val (.int x2), .val (.int x3), .val (.ref ad1), .val (.ref ad4), .val (.ref ad6), .val (.ref ad8), .unset] [(.int (lcmpW x0 (0 : Int64)))]) _
    by_cases hc88_1 : (lcmpW x0 (0 : Int64)) = (0 : Int32)
    · refine Go.of (fun _ k => XS.ifYes X9.here hx rfl (pc0 := 88) (pc' := 104) rfl (hb hby at_88) rfl ((if0 _ _).trans (teq hc88_1).1) (by decide) (by decide) k) ?_
      show Go p e below T9 (mkF m 104 #[.val (.long x0), .second, .val (.int x1), .val (.int x2), .val (.int x3), .val (.ref ad1), .val (.ref ad4), .val (.ref ad6), .val (.ref ad8), .unset] []) _
      refine Go.of (fun _ k => XS.iconst X9.here hx rfl (hb hby at_104) k) ?_
      show Go p e below T9 (mkF m 105 #[.val (.long x0), .second, .val (.int x1), .val (.int x2), .val (.int x3), .val (.ref ad1), .val (.ref ad4), .val (.ref ad6), .val (.ref ad8), .unset] [(.int (0 : Int32))]) _
      refine Go.of (fun _ k => XS.istore X9.here hx rfl (hb hby at_105) rfl (l' := #[.val (.long x0), .second, .val (.int x1), .val (.int x2), .val (.int x3), .val (.ref ad1), .val (.ref ad4), .val (.ref ad6), .val (.ref ad8), .val (.int (0 : Int32))]) rfl k) ?_
      show Go p e below T9 (mkF m 107 #[.val (.long x0), .second, .val (.int x1), .val (.int x2), .val (.int x3), .val (.ref ad1), .val (.ref ad4), .val (.ref ad6), .val (.ref ad8), .val (.int (0 : Int32))] []) _
      refine Go.of (fun _ k => XS.aload X9.here hx rfl (hb hby at_107) rfl rfl  k) ?_
      show Go p e below T9 (mkF m 109 #[.val (.long x0), .second, .val (.int x1), .val (.int x2), .val (.int x3), .val (.ref ad1), .val (.ref ad4), .val (.ref ad6), .val (.ref ad8), .val (.int (0 : Int32))] [(.ref ad8)]) _
      obtain ⟨cq10, kq10, q10a, q10b, q10c⟩ := isOf hZ rfl E_ad8
      obtain ⟨_, _, ⟨T10, L10, kq10, nq10⟩, -, X10, ⟨Lc10, hQ10, l10, y10, z10⟩, st10⟩ := X9.virtualBack hx (y := (⟨"org/quorumweave/LogMetadata", "exists", "()Z"⟩ : MethodName)) (z := (⟨"org/quorumweave/LogMetadata", "exists", "()Z"⟩ : MethodName)) hown (mvT hZ (hw _ (List.mem_of_getElem? (i := 101) rfl))) (mvT hZ (hw _ (List.mem_of_getElem? (i := 102) rfl))) (notFace_of_selects (args := #[]) (mvT hZ (hw _ (List.mem_of_getElem? (i := 104) rfl)))) (mvT hZ (hw _ (List.mem_of_getElem? (i := 104) rfl))) (mvT hZ (hw _ (List.mem_of_getElem? (i := 103) rfl))) (by decide) (backOf (W := 0) (rmEx l Z a0 hw [] ad8 x0 T9.heap n0 Z0 F_version_ad8) hZ (hw _ (List.mem_of_getElem? (i := 105) rfl)) (hw _ (List.mem_of_getElem? (i := 56) rfl)) (by decide) (by decide)) q10a q10c (g := (mkF m 109 #[.val (.long x0), .second, .val (.int x1), .val (.int x2), .val (.int x3), .val (.ref ad1), .val (.ref ad4), .val (.ref ad6), .val (.ref ad8), .val (.int (0 : Int32))] [(.ref ad8)])) rfl (by rw [hml]; rfl) (Steps.refl _) (argsL := []) (rest := []) (lenOf own_pd6 rfl) rfl (by show 2 * 0 + _ ≤ _; exact Nat.le_of_eq rfl) (hb hby at_109) (fun _ _ => ⟨rfl, rfl, (by decide : 5 + 0 ≤ _), (by decide : 14 + 0 ≤ _)⟩)
      dsimp only [Pt.U, Pt.locs, Pt.cells, Pt.slots] at X10 l10 y10 z10 st10 hQ10
      subst l10 y10 z10
      obtain ⟨rfl, Nq10, e10⟩ := hQ10
      have e10 := e10.trans rfl
      have N10 := Fr.app N9 Nq10
      refine Go.of (fun _ k => st10.trans k) ?_
      show Go p e below T10 (mkF m 112 #[.val (.long x0), .second, .val (.int x1), .val (.int x2), .val (.int x3), .val (.ref ad1), .val (.ref ad4), .val (.ref ad6), .val (.ref ad8), .val (.int (0 : Int32))] [(.int (fEx x0))]) _
      refine Go.of (fun _ k => XS.iload X10.here hx rfl (hb hby at_112) rfl  k) ?_
      show Go p e below T10 (mkF m 114 #[.val (.long x0), .second, .val (.int x1), .val (.int x2), .val (.int x3), .val (.ref ad1), .val (.ref ad4), .val (.ref ad6), .val (.ref ad8), .val (.int (0 : Int32))] [(.int (0 : Int32)), (.int (fEx x0))]) _
      refine Go.of (fun _ k => XS.icmpYes X10.here hx rfl (pc0 := 114) (pc' := 119) rfl (hb hby at_114) rfl (teq (show (fEx x0) = (0 : Int32) from (own_e0 hc88_1))).1 (by decide) (by decide) k) ?_
      show Go p e below T10 (mkF m 119 #[.val (.long x0), .second, .val (.int x1), .val (.int x2), .val (.int x3), .val (.ref ad1), .val (.ref ad4), .val (.ref ad6), .val (.ref ad8), .val (.int (0 : Int32))] []) _
      refine Go.of (fun _ k => XS.aload X10.here hx rfl (hb hby at_119) rfl rfl  k) ?_
      show Go p e below T10 (mkF m 121 #[.val (.long x0), .second, .val (.int x1), .val (.int x2), .val (.int x3), .val (.ref ad1), .val (.ref ad4), .val (.ref ad6), .val (.ref ad8), .val (.int (0 : Int32))] [(.ref ad4)]) _
      obtain ⟨_, _, ⟨T11, L11, kq11, nq11⟩, -, X11, ⟨Lc11, hQ11, l11, y11, z11⟩, st11⟩ := Jvm.LawKit.callS X10 hx (y := (⟨"org/quorumweave/LogMetadata", "absent", "(Ljava/lang/String;)Lorg/quorumweave/LogMetadata;"⟩ : MethodName)) hown (mvT hZ (hw _ (List.mem_of_getElem? (i := 106) rfl))) (mvT hZ (hw _ (List.mem_of_getElem? (i := 107) rfl))) (mvT hZ (hw _ (List.mem_of_getElem? (i := 56) rfl))) (mvT hZ (hw _ (List.mem_of_getElem? (i := 108) rfl))) (by decide) (backOf (W := 0) (rmAbs l Z a0 hw [] ad4 j T9.heap n0 Z0 OL J) hZ (hw _ (List.mem_of_getElem? (i := 108) rfl)) (hw _ (List.mem_of_getElem? (i := 56) rfl)) (by decide) (by decide)) (g := (mkF m 121 #[.val (.long x0), .second, .val (.int x1), .val (.int x2), .val (.int x3), .val (.ref ad1), .val (.ref ad4), .val (.ref ad6), .val (.ref ad8), .val (.int (0 : Int32))] [(.ref ad4)])) rfl (by rw [hml]; rfl) (argsL := [(.ref ad4)]) (rest := []) (lenOf own_pd16 rfl) rfl (by show 2 * 0 + _ ≤ _; exact Nat.le_of_eq rfl) (hb hby at_121) (fun _ _ => ⟨rfl, e10, (by decide : 5 + 1 ≤ _), (by decide : 14 + 3 ≤ _)⟩)
      dsimp only [Pt.U, Pt.locs, Pt.cells, Pt.slots] at X11 l11 y11 z11 st11 hQ11
      subst l11 y11 z11
      obtain ⟨ab, rfl, Nq11, Kq11, fq11_0, fq11_1⟩ := hQ11
      have N11 := Fr.app N10 Nq11
      have Z0 := Nat.le_trans Z0 Kq11.1
      have OL := OL.keep Kq11 all0
      have V_ad1 := V_ad1.keep Kq11 nin0
      have E_ad4 := E_ad4.keep Kq11
      have E_ad6 := E_ad6.keep Kq11
      have F_modCount_ad6 := F_modCount_ad6.keep Kq11 nin0
      have F_elementData_ad6 := F_elementData_ad6.keep Kq11 nin0
      have F_size_ad6 := F_size_ad6.keep Kq11 nin0
      have E_ad8 := E_ad8.keep Kq11
      have F_version_ad8 := F_version_ad8.keep Kq11 nin0
      have E_ab := fq11_0
      have F_version_ab := fq11_1
      refine Go.of (fun _ k => st11 _ k) ?_
      show Go p e below T11 (mkF m 124 #[.val (.long x0), .second, .val (.int x1), .val (.int x2), .val (.int x3), .val (.ref ad1), .val (.ref ad4), .val (.ref ad6), .val (.ref ad8), .val (.int (0 : Int32))] [(.ref ab)]) _
      obtain ⟨cq12, kq12, q12a, q12b, q12c⟩ := isOf hZ rfl E_ab
      obtain ⟨_, _, ⟨T12, L12, kq12, nq12⟩, -, X12, ⟨Lc12, hQ12, l12, y12, z12⟩, st12⟩ := X11.virtualBack hx (y := (⟨"org/quorumweave/LogMetadata", "exists", "()Z"⟩ : MethodName)) (z := (⟨"org/quorumweave/LogMetadata", "exists", "()Z"⟩ : MethodName)) hown (mvT hZ (hw _ (List.mem_of_getElem? (i := 101) rfl))) (mvT hZ (hw _ (List.mem_of_getElem? (i := 102) rfl))) (notFace_of_selects (args := #[]) (mvT hZ (hw _ (List.mem_of_getElem? (i := 104) rfl)))) (mvT hZ (hw _ (List.mem_of_getElem? (i := 104) rfl))) (mvT hZ (hw _ (List.mem_of_getElem? (i := 103) rfl))) (by decide) (backOf (W := 0) (rmEx l Z a0 hw [] ab (0 : Int64) T11.heap n0 Z0 F_version_ab) hZ (hw _ (List.mem_of_getElem? (i := 105) rfl)) (hw _ (List.mem_of_getElem? (i := 56) rfl)) (by decide) (by decide)) q12a q12c (g := (mkF m 124 #[.val (.long x0), .second, .val (.int x1), .val (.int x2), .val (.int x3), .val (.ref ad1), .val (.ref ad4), .val (.ref ad6), .val (.ref ad8), .val (.int (0 : Int32))] [(.ref ab)])) rfl (by rw [hml]; rfl) (Steps.refl _) (argsL := []) (rest := []) (lenOf own_pd6 rfl) rfl (by show 2 * 0 + _ ≤ _; exact Nat.le_of_eq rfl) (hb hby at_124) (fun _ _ => ⟨rfl, rfl, (by decide : 6 + 0 ≤ _), (by decide : 17 + 0 ≤ _)⟩)
      dsimp only [Pt.U, Pt.locs, Pt.cells, Pt.slots] at X12 l12 y12 z12 st12 hQ12
      subst l12 y12 z12
      obtain ⟨rfl, Nq12, e12⟩ := hQ12
      have e12 := e12.trans rfl
      have N12 := Fr.app N11 Nq12
      refine Go.of (fun _ k => st12.trans k) ?_
      show Go p e below T12 (mkF m 127 #[.val (.long x0), .second, .val (.int x1), .val (.int x2), .val (.int x3), .val (.ref ad1), .val (.ref ad4), .val (.ref ad6), .val (.ref ad8), .val (.int (0 : Int32))] [(.int (fEx (0 : Int64)))]) _
      refine Go.of (fun _ k => XS.ifYes X12.here hx rfl (pc0 := 127) (pc' := 132) rfl (hb hby at_127) rfl ((if0 _ _).trans (teq (show (fEx (0 : Int64)) = (0 : Int32) from (by decide))).1) (by decide) (by decide) k) ?_
      show Go p e below T12 (mkF m 132 #[.val (.long x0), .second, .val (.int x1), .val (.int x2), .val (.int x3), .val (.ref ad1), .val (.ref ad4), .val (.ref ad6), .val (.ref ad8), .val (.int (0 : Int32))] []) _
      refine Go.of (fun _ k => XS.iconst X12.here hx rfl (hb hby at_132) k) ?_
      show Go p e below T12 (mkF m 133 #[.val (.long x0), .second, .val (.int x1), .val (.int x2), .val (.int x3), .val (.ref ad1), .val (.ref ad4), .val (.ref ad6), .val (.ref ad8), .val (.int (0 : Int32))] [(.int (1 : Int32))]) _
      refine Go.retN X12 hx (t := .boolean) hret hlk (by simp) (hb hby at_133) e12 (by decide) (by decide) ?_
      exact ⟨rfl, N12⟩
    · refine Go.of (fun _ k => XS.ifNo X9.here hx rfl (hb hby at_88) rfl ((if0 _ _).trans (feq hc88_1).1) k) ?_
      show Go p e below T9 (mkF m 91 #[.val (.long x0), .second, .val (.int x1), .val (.int x2), .val (.int x3), .val (.ref ad1), .val (.ref ad4), .val (.ref ad6), .val (.ref ad8), .unset] []) _
      refine Go.of (fun _ k => XS.lloadN X9.here hx rfl (hb hby at_91) rfl  k) ?_
      show Go p e below T9 (mkF m 92 #[.val (.long x0), .second, .val (.int x1), .val (.int x2), .val (.int x3), .val (.ref ad1), .val (.ref ad4), .val (.ref ad6), .val (.ref ad8), .unset] [(.long x0)]) _
      refine Go.of (fun _ k => XS.bipush X9.here hx rfl (hb hby at_92) k) ?_
      show Go p e below T9 (mkF m 94 #[.val (.long x0), .second, .val (.int x1), .val (.int x2), .val (.int x3), .val (.ref ad1), .val (.ref ad4), .val (.ref ad6), .val (.ref ad8), .unset] [(.int (63 : Int32)), (.long x0)]) _
      refine Go.of (fun _ k => XS.lushr X9.here hx rfl (hb hby at_94) rfl k) ?_
      show Go p e below T9 (mkF m 95 #[.val (.long x0), .second, .val (.int x1), .val (.int x2), .val (.int x3), .val (.ref ad1), .val (.ref ad4), .val (.ref ad6), .val (.ref ad8), .unset] [(.long ((x0.toUInt64 >>> ((63 : Int32) &&& 0x3f).toInt64.toUInt64).toInt64))]) _
      refine Go.of (fun _ k => XS.lconst X9.here hx rfl (hb hby at_95) k) ?_
      show Go p e below T9 (mkF m 96 #[.val (.long x0), .second, .val (.int x1), .val (.int x2), .val (.int x3), .val (.ref ad1), .val (.ref ad4), .val (.ref ad6), .val (.ref ad8), .unset] [(.long (0 : Int64)), (.long ((x0.toUInt64 >>> ((63 : Int32) &&& 0x3f).toInt64.toUInt64).toInt64))]) _
      refine Go.of (fun _ k => XS.lcmp X9.here hx rfl (hb hby at_96) rfl k) ?_
      show Go p e below T9 (mkF m 97 #[.val (.long x0), .second, .val (.int x1), .val (.int x2), .val (.int x3), .val (.ref ad1), .val (.ref ad4), .val (.ref ad6), .val (.ref ad8), .unset] [(.int (lcmpW ((x0.toUInt64 >>> ((63 : Int32) &&& 0x3f).toInt64.toUInt64).toInt64) (0 : Int64)))]) _
      by_cases hc97_2 : (lcmpW ((x0.toUInt64 >>> ((63 : Int32) &&& 0x3f).toInt64.toUInt64).toInt64) (0 : Int64)) = (0 : Int32)
      · refine Go.of (fun _ k => XS.ifNo X9.here hx rfl (hb hby at_97) rfl ((if0 _ _).trans (teq hc97_2).2) k) ?_
        show Go p e below T9 (mkF m 100 #[.val (.long x0), .second, .val (.int x1), .val (.int x2), .val (.int x3), .val (.ref ad1), .val (.ref ad4), .val (.ref ad6), .val (.ref ad8), .unset] []) _
        refine Go.of (fun _ k => XS.iconst X9.here hx rfl (hb hby at_100) k) ?_
        show Go p e below T9 (mkF m 101 #[.val (.long x0), .second, .val (.int x1), .val (.int x2), .val (.int x3), .val (.ref ad1), .val (.ref ad4), .val (.ref ad6), .val (.ref ad8), .unset] [(.int (1 : Int32))]) _
        refine Go.of (fun _ k => XS.goto X9.here hx rfl (pc0 := 101) (pc' := 105) rfl (hb hby at_101) (by decide) (by decide) k) ?_
        show Go p e below T9 (mkF m 105 #[.val (.long x0), .second, .val (.int x1), .val (.int x2), .val (.int x3), .val (.ref ad1), .val (.ref ad4), .val (.ref ad6), .val (.ref ad8), .unset] [(.int (1 : Int32))]) _
        refine Go.of (fun _ k => XS.istore X9.here hx rfl (hb hby at_105) rfl (l' := #[.val (.long x0), .second, .val (.int x1), .val (.int x2), .val (.int x3), .val (.ref ad1), .val (.ref ad4), .val (.ref ad6), .val (.ref ad8), .val (.int (1 : Int32))]) rfl k) ?_
        show Go p e below T9 (mkF m 107 #[.val (.long x0), .second, .val (.int x1), .val (.int x2), .val (.int x3), .val (.ref ad1), .val (.ref ad4), .val (.ref ad6), .val (.ref ad8), .val (.int (1 : Int32))] []) _
        refine Go.of (fun _ k => XS.aload X9.here hx rfl (hb hby at_107) rfl rfl  k) ?_
        show Go p e below T9 (mkF m 109 #[.val (.long x0), .second, .val (.int x1), .val (.int x2), .val (.int x3), .val (.ref ad1), .val (.ref ad4), .val (.ref ad6), .val (.ref ad8), .val (.int (1 : Int32))] [(.ref ad8)]) _
        obtain ⟨cq13, kq13, q13a, q13b, q13c⟩ := isOf hZ rfl E_ad8
        obtain ⟨_, _, ⟨T13, L13, kq13, nq13⟩, -, X13, ⟨Lc13, hQ13, l13, y13, z13⟩, st13⟩ := X9.virtualBack hx (y := (⟨"org/quorumweave/LogMetadata", "exists", "()Z"⟩ : MethodName)) (z := (⟨"org/quorumweave/LogMetadata", "exists", "()Z"⟩ : MethodName)) hown (mvT hZ (hw _ (List.mem_of_getElem? (i := 101) rfl))) (mvT hZ (hw _ (List.mem_of_getElem? (i := 102) rfl))) (notFace_of_selects (args := #[]) (mvT hZ (hw _ (List.mem_of_getElem? (i := 104) rfl)))) (mvT hZ (hw _ (List.mem_of_getElem? (i := 104) rfl))) (mvT hZ (hw _ (List.mem_of_getElem? (i := 103) rfl))) (by decide) (backOf (W := 0) (rmEx l Z a0 hw [] ad8 x0 T9.heap n0 Z0 F_version_ad8) hZ (hw _ (List.mem_of_getElem? (i := 105) rfl)) (hw _ (List.mem_of_getElem? (i := 56) rfl)) (by decide) (by decide)) q13a q13c (g := (mkF m 109 #[.val (.long x0), .second, .val (.int x1), .val (.int x2), .val (.int x3), .val (.ref ad1), .val (.ref ad4), .val (.ref ad6), .val (.ref ad8), .val (.int (1 : Int32))] [(.ref ad8)])) rfl (by rw [hml]; rfl) (Steps.refl _) (argsL := []) (rest := []) (lenOf own_pd6 rfl) rfl (by show 2 * 0 + _ ≤ _; exact Nat.le_of_eq rfl) (hb hby at_109) (fun _ _ => ⟨rfl, rfl, (by decide : 5 + 0 ≤ _), (by decide : 14 + 0 ≤ _)⟩)
        dsimp only [Pt.U, Pt.locs, Pt.cells, Pt.slots] at X13 l13 y13 z13 st13 hQ13
        subst l13 y13 z13
        obtain ⟨rfl, Nq13, e13⟩ := hQ13
        have e13 := e13.trans rfl
        have N13 := Fr.app N9 Nq13
        refine Go.of (fun _ k => st13.trans k) ?_
        show Go p e below T13 (mkF m 112 #[.val (.long x0), .second, .val (.int x1), .val (.int x2), .val (.int x3), .val (.ref ad1), .val (.ref ad4), .val (.ref ad6), .val (.ref ad8), .val (.int (1 : Int32))] [(.int (fEx x0))]) _
        refine Go.of (fun _ k => XS.iload X13.here hx rfl (hb hby at_112) rfl  k) ?_
        show Go p e below T13 (mkF m 114 #[.val (.long x0), .second, .val (.int x1), .val (.int x2), .val (.int x3), .val (.ref ad1), .val (.ref ad4), .val (.ref ad6), .val (.ref ad8), .val (.int (1 : Int32))] [(.int (1 : Int32)), (.int (fEx x0))]) _
        refine Go.of (fun _ k => XS.icmpYes X13.here hx rfl (pc0 := 114) (pc' := 119) rfl (hb hby at_114) rfl (teq (show (fEx x0) = (1 : Int32) from (own_e1 hc88_1 hc97_2))).1 (by decide) (by decide) k) ?_
        show Go p e below T13 (mkF m 119 #[.val (.long x0), .second, .val (.int x1), .val (.int x2), .val (.int x3), .val (.ref ad1), .val (.ref ad4), .val (.ref ad6), .val (.ref ad8), .val (.int (1 : Int32))] []) _
        refine Go.of (fun _ k => XS.aload X13.here hx rfl (hb hby at_119) rfl rfl  k) ?_
        show Go p e below T13 (mkF m 121 #[.val (.long x0), .second, .val (.int x1), .val (.int x2), .val (.int x3), .val (.ref ad1), .val (.ref ad4), .val (.ref ad6), .val (.ref ad8), .val (.int (1 : Int32))] [(.ref ad4)]) _
        obtain ⟨_, _, ⟨T14, L14, kq14, nq14⟩, -, X14, ⟨Lc14, hQ14, l14, y14, z14⟩, st14⟩ := Jvm.LawKit.callS X13 hx (y := (⟨"org/quorumweave/LogMetadata", "absent", "(Ljava/lang/String;)Lorg/quorumweave/LogMetadata;"⟩ : MethodName)) hown (mvT hZ (hw _ (List.mem_of_getElem? (i := 106) rfl))) (mvT hZ (hw _ (List.mem_of_getElem? (i := 107) rfl))) (mvT hZ (hw _ (List.mem_of_getElem? (i := 56) rfl))) (mvT hZ (hw _ (List.mem_of_getElem? (i := 108) rfl))) (by decide) (backOf (W := 0) (rmAbs l Z a0 hw [] ad4 j T9.heap n0 Z0 OL J) hZ (hw _ (List.mem_of_getElem? (i := 108) rfl)) (hw _ (List.mem_of_getElem? (i := 56) rfl)) (by decide) (by decide)) (g := (mkF m 121 #[.val (.long x0), .second, .val (.int x1), .val (.int x2), .val (.int x3), .val (.ref ad1), .val (.ref ad4), .val (.ref ad6), .val (.ref ad8), .val (.int (1 : Int32))] [(.ref ad4)])) rfl (by rw [hml]; rfl) (argsL := [(.ref ad4)]) (rest := []) (lenOf own_pd16 rfl) rfl (by show 2 * 0 + _ ≤ _; exact Nat.le_of_eq rfl) (hb hby at_121) (fun _ _ => ⟨rfl, e13, (by decide : 5 + 1 ≤ _), (by decide : 14 + 3 ≤ _)⟩)
        dsimp only [Pt.U, Pt.locs, Pt.cells, Pt.slots] at X14 l14 y14 z14 st14 hQ14
        subst l14 y14 z14
        obtain ⟨ab, rfl, Nq14, Kq14, fq14_0, fq14_1⟩ := hQ14
        have N14 := Fr.app N13 Nq14
        have Z0 := Nat.le_trans Z0 Kq14.1
        have OL := OL.keep Kq14 all0
        have V_ad1 := V_ad1.keep Kq14 nin0
        have E_ad4 := E_ad4.keep Kq14
        have E_ad6 := E_ad6.keep Kq14
        have F_modCount_ad6 := F_modCount_ad6.keep Kq14 nin0
        have F_elementData_ad6 := F_elementData_ad6.keep Kq14 nin0
        have F_size_ad6 := F_size_ad6.keep Kq14 nin0
        have E_ad8 := E_ad8.keep Kq14
        have F_version_ad8 := F_version_ad8.keep Kq14 nin0
        have E_ab := fq14_0
        have F_version_ab := fq14_1
        refine Go.of (fun _ k => st14 _ k) ?_
        show Go p e below T14 (mkF m 124 #[.val (.long x0), .second, .val (.int x1), .val (.int x2), .val (.int x3), .val (.ref ad1), .val (.ref ad4), .val (.ref ad6), .val (.ref ad8), .val (.int (1 : Int32))] [(.ref ab)]) _
        obtain ⟨cq15, kq15, q15a, q15b, q15c⟩ := isOf hZ rfl E_ab
        obtain ⟨_, _, ⟨T15, L15, kq15, nq15⟩, -, X15, ⟨Lc15, hQ15, l15, y15, z15⟩, st15⟩ := X14.virtualBack hx (y := (⟨"org/quorumweave/LogMetadata", "exists", "()Z"⟩ : MethodName)) (z := (⟨"org/quorumweave/LogMetadata", "exists", "()Z"⟩ : MethodName)) hown (mvT hZ (hw _ (List.mem_of_getElem? (i := 101) rfl))) (mvT hZ (hw _ (List.mem_of_getElem? (i := 102) rfl))) (notFace_of_selects (args := #[]) (mvT hZ (hw _ (List.mem_of_getElem? (i := 104) rfl)))) (mvT hZ (hw _ (List.mem_of_getElem? (i := 104) rfl))) (mvT hZ (hw _ (List.mem_of_getElem? (i := 103) rfl))) (by decide) (backOf (W := 0) (rmEx l Z a0 hw [] ab (0 : Int64) T14.heap n0 Z0 F_version_ab) hZ (hw _ (List.mem_of_getElem? (i := 105) rfl)) (hw _ (List.mem_of_getElem? (i := 56) rfl)) (by decide) (by decide)) q15a q15c (g := (mkF m 124 #[.val (.long x0), .second, .val (.int x1), .val (.int x2), .val (.int x3), .val (.ref ad1), .val (.ref ad4), .val (.ref ad6), .val (.ref ad8), .val (.int (1 : Int32))] [(.ref ab)])) rfl (by rw [hml]; rfl) (Steps.refl _) (argsL := []) (rest := []) (lenOf own_pd6 rfl) rfl (by show 2 * 0 + _ ≤ _; exact Nat.le_of_eq rfl) (hb hby at_124) (fun _ _ => ⟨rfl, rfl, (by decide : 6 + 0 ≤ _), (by decide : 17 + 0 ≤ _)⟩)
        dsimp only [Pt.U, Pt.locs, Pt.cells, Pt.slots] at X15 l15 y15 z15 st15 hQ15
        subst l15 y15 z15
        obtain ⟨rfl, Nq15, e15⟩ := hQ15
        have e15 := e15.trans rfl
        have N15 := Fr.app N14 Nq15
        refine Go.of (fun _ k => st15.trans k) ?_
        show Go p e below T15 (mkF m 127 #[.val (.long x0), .second, .val (.int x1), .val (.int x2), .val (.int x3), .val (.ref ad1), .val (.ref ad4), .val (.ref ad6), .val (.ref ad8), .val (.int (1 : Int32))] [(.int (fEx (0 : Int64)))]) _
        refine Go.of (fun _ k => XS.ifYes X15.here hx rfl (pc0 := 127) (pc' := 132) rfl (hb hby at_127) rfl ((if0 _ _).trans (teq (show (fEx (0 : Int64)) = (0 : Int32) from (by decide))).1) (by decide) (by decide) k) ?_
        show Go p e below T15 (mkF m 132 #[.val (.long x0), .second, .val (.int x1), .val (.int x2), .val (.int x3), .val (.ref ad1), .val (.ref ad4), .val (.ref ad6), .val (.ref ad8), .val (.int (1 : Int32))] []) _
        refine Go.of (fun _ k => XS.iconst X15.here hx rfl (hb hby at_132) k) ?_
        show Go p e below T15 (mkF m 133 #[.val (.long x0), .second, .val (.int x1), .val (.int x2), .val (.int x3), .val (.ref ad1), .val (.ref ad4), .val (.ref ad6), .val (.ref ad8), .val (.int (1 : Int32))] [(.int (1 : Int32))]) _
        refine Go.retN X15 hx (t := .boolean) hret hlk (by simp) (hb hby at_133) e15 (by decide) (by decide) ?_
        exact ⟨rfl, N15⟩
      · refine Go.of (fun _ k => XS.ifYes X9.here hx rfl (pc0 := 97) (pc' := 104) rfl (hb hby at_97) rfl ((if0 _ _).trans (feq hc97_2).2) (by decide) (by decide) k) ?_
        show Go p e below T9 (mkF m 104 #[.val (.long x0), .second, .val (.int x1), .val (.int x2), .val (.int x3), .val (.ref ad1), .val (.ref ad4), .val (.ref ad6), .val (.ref ad8), .unset] []) _
        refine Go.of (fun _ k => XS.iconst X9.here hx rfl (hb hby at_104) k) ?_
        show Go p e below T9 (mkF m 105 #[.val (.long x0), .second, .val (.int x1), .val (.int x2), .val (.int x3), .val (.ref ad1), .val (.ref ad4), .val (.ref ad6), .val (.ref ad8), .unset] [(.int (0 : Int32))]) _
        refine Go.of (fun _ k => XS.istore X9.here hx rfl (hb hby at_105) rfl (l' := #[.val (.long x0), .second, .val (.int x1), .val (.int x2), .val (.int x3), .val (.ref ad1), .val (.ref ad4), .val (.ref ad6), .val (.ref ad8), .val (.int (0 : Int32))]) rfl k) ?_
        show Go p e below T9 (mkF m 107 #[.val (.long x0), .second, .val (.int x1), .val (.int x2), .val (.int x3), .val (.ref ad1), .val (.ref ad4), .val (.ref ad6), .val (.ref ad8), .val (.int (0 : Int32))] []) _
        refine Go.of (fun _ k => XS.aload X9.here hx rfl (hb hby at_107) rfl rfl  k) ?_
        show Go p e below T9 (mkF m 109 #[.val (.long x0), .second, .val (.int x1), .val (.int x2), .val (.int x3), .val (.ref ad1), .val (.ref ad4), .val (.ref ad6), .val (.ref ad8), .val (.int (0 : Int32))] [(.ref ad8)]) _
        obtain ⟨cq16, kq16, q16a, q16b, q16c⟩ := isOf hZ rfl E_ad8
        obtain ⟨_, _, ⟨T16, L16, kq16, nq16⟩, -, X16, ⟨Lc16, hQ16, l16, y16, z16⟩, st16⟩ := X9.virtualBack hx (y := (⟨"org/quorumweave/LogMetadata", "exists", "()Z"⟩ : MethodName)) (z := (⟨"org/quorumweave/LogMetadata", "exists", "()Z"⟩ : MethodName)) hown (mvT hZ (hw _ (List.mem_of_getElem? (i := 101) rfl))) (mvT hZ (hw _ (List.mem_of_getElem? (i := 102) rfl))) (notFace_of_selects (args := #[]) (mvT hZ (hw _ (List.mem_of_getElem? (i := 104) rfl)))) (mvT hZ (hw _ (List.mem_of_getElem? (i := 104) rfl))) (mvT hZ (hw _ (List.mem_of_getElem? (i := 103) rfl))) (by decide) (backOf (W := 0) (rmEx l Z a0 hw [] ad8 x0 T9.heap n0 Z0 F_version_ad8) hZ (hw _ (List.mem_of_getElem? (i := 105) rfl)) (hw _ (List.mem_of_getElem? (i := 56) rfl)) (by decide) (by decide)) q16a q16c (g := (mkF m 109 #[.val (.long x0), .second, .val (.int x1), .val (.int x2), .val (.int x3), .val (.ref ad1), .val (.ref ad4), .val (.ref ad6), .val (.ref ad8), .val (.int (0 : Int32))] [(.ref ad8)])) rfl (by rw [hml]; rfl) (Steps.refl _) (argsL := []) (rest := []) (lenOf own_pd6 rfl) rfl (by show 2 * 0 + _ ≤ _; exact Nat.le_of_eq rfl) (hb hby at_109) (fun _ _ => ⟨rfl, rfl, (by decide : 5 + 0 ≤ _), (by decide : 14 + 0 ≤ _)⟩)
        dsimp only [Pt.U, Pt.locs, Pt.cells, Pt.slots] at X16 l16 y16 z16 st16 hQ16
        subst l16 y16 z16
        obtain ⟨rfl, Nq16, e16⟩ := hQ16
        have e16 := e16.trans rfl
        have N16 := Fr.app N9 Nq16
        refine Go.of (fun _ k => st16.trans k) ?_
        show Go p e below T16 (mkF m 112 #[.val (.long x0), .second, .val (.int x1), .val (.int x2), .val (.int x3), .val (.ref ad1), .val (.ref ad4), .val (.ref ad6), .val (.ref ad8), .val (.int (0 : Int32))] [(.int (fEx x0))]) _
        refine Go.of (fun _ k => XS.iload X16.here hx rfl (hb hby at_112) rfl  k) ?_
        show Go p e below T16 (mkF m 114 #[.val (.long x0), .second, .val (.int x1), .val (.int x2), .val (.int x3), .val (.ref ad1), .val (.ref ad4), .val (.ref ad6), .val (.ref ad8), .val (.int (0 : Int32))] [(.int (0 : Int32)), (.int (fEx x0))]) _
        refine Go.of (fun _ k => XS.icmpYes X16.here hx rfl (pc0 := 114) (pc' := 119) rfl (hb hby at_114) rfl (teq (show (fEx x0) = (0 : Int32) from (own_e2 hc97_2))).1 (by decide) (by decide) k) ?_
        show Go p e below T16 (mkF m 119 #[.val (.long x0), .second, .val (.int x1), .val (.int x2), .val (.int x3), .val (.ref ad1), .val (.ref ad4), .val (.ref ad6), .val (.ref ad8), .val (.int (0 : Int32))] []) _
        refine Go.of (fun _ k => XS.aload X16.here hx rfl (hb hby at_119) rfl rfl  k) ?_
        show Go p e below T16 (mkF m 121 #[.val (.long x0), .second, .val (.int x1), .val (.int x2), .val (.int x3), .val (.ref ad1), .val (.ref ad4), .val (.ref ad6), .val (.ref ad8), .val (.int (0 : Int32))] [(.ref ad4)]) _
        obtain ⟨_, _, ⟨T17, L17, kq17, nq17⟩, -, X17, ⟨Lc17, hQ17, l17, y17, z17⟩, st17⟩ := Jvm.LawKit.callS X16 hx (y := (⟨"org/quorumweave/LogMetadata", "absent", "(Ljava/lang/String;)Lorg/quorumweave/LogMetadata;"⟩ : MethodName)) hown (mvT hZ (hw _ (List.mem_of_getElem? (i := 106) rfl))) (mvT hZ (hw _ (List.mem_of_getElem? (i := 107) rfl))) (mvT hZ (hw _ (List.mem_of_getElem? (i := 56) rfl))) (mvT hZ (hw _ (List.mem_of_getElem? (i := 108) rfl))) (by decide) (backOf (W := 0) (rmAbs l Z a0 hw [] ad4 j T9.heap n0 Z0 OL J) hZ (hw _ (List.mem_of_getElem? (i := 108) rfl)) (hw _ (List.mem_of_getElem? (i := 56) rfl)) (by decide) (by decide)) (g := (mkF m 121 #[.val (.long x0), .second, .val (.int x1), .val (.int x2), .val (.int x3), .val (.ref ad1), .val (.ref ad4), .val (.ref ad6), .val (.ref ad8), .val (.int (0 : Int32))] [(.ref ad4)])) rfl (by rw [hml]; rfl) (argsL := [(.ref ad4)]) (rest := []) (lenOf own_pd16 rfl) rfl (by show 2 * 0 + _ ≤ _; exact Nat.le_of_eq rfl) (hb hby at_121) (fun _ _ => ⟨rfl, e16, (by decide : 5 + 1 ≤ _), (by decide : 14 + 3 ≤ _)⟩)
        dsimp only [Pt.U, Pt.locs, Pt.cells, Pt.slots] at X17 l17 y17 z17 st17 hQ17
        subst l17 y17 z17
        obtain ⟨ab, rfl, Nq17, Kq17, fq17_0, fq17_1⟩ := hQ17
        have N17 := Fr.app N16 Nq17
        have Z0 := Nat.le_trans Z0 Kq17.1
        have OL := OL.keep Kq17 all0
        have V_ad1 := V_ad1.keep Kq17 nin0
        have E_ad4 := E_ad4.keep Kq17
        have E_ad6 := E_ad6.keep Kq17
        have F_modCount_ad6 := F_modCount_ad6.keep Kq17 nin0
        have F_elementData_ad6 := F_elementData_ad6.keep Kq17 nin0
        have F_size_ad6 := F_size_ad6.keep Kq17 nin0
        have E_ad8 := E_ad8.keep Kq17
        have F_version_ad8 := F_version_ad8.keep Kq17 nin0
        have E_ab := fq17_0
        have F_version_ab := fq17_1
        refine Go.of (fun _ k => st17 _ k) ?_
        show Go p e below T17 (mkF m 124 #[.val (.long x0), .second, .val (.int x1), .val (.int x2), .val (.int x3), .val (.ref ad1), .val (.ref ad4), .val (.ref ad6), .val (.ref ad8), .val (.int (0 : Int32))] [(.ref ab)]) _
        obtain ⟨cq18, kq18, q18a, q18b, q18c⟩ := isOf hZ rfl E_ab
        obtain ⟨_, _, ⟨T18, L18, kq18, nq18⟩, -, X18, ⟨Lc18, hQ18, l18, y18, z18⟩, st18⟩ := X17.virtualBack hx (y := (⟨"org/quorumweave/LogMetadata", "exists", "()Z"⟩ : MethodName)) (z := (⟨"org/quorumweave/LogMetadata", "exists", "()Z"⟩ : MethodName)) hown (mvT hZ (hw _ (List.mem_of_getElem? (i := 101) rfl))) (mvT hZ (hw _ (List.mem_of_getElem? (i := 102) rfl))) (notFace_of_selects (args := #[]) (mvT hZ (hw _ (List.mem_of_getElem? (i := 104) rfl)))) (mvT hZ (hw _ (List.mem_of_getElem? (i := 104) rfl))) (mvT hZ (hw _ (List.mem_of_getElem? (i := 103) rfl))) (by decide) (backOf (W := 0) (rmEx l Z a0 hw [] ab (0 : Int64) T17.heap n0 Z0 F_version_ab) hZ (hw _ (List.mem_of_getElem? (i := 105) rfl)) (hw _ (List.mem_of_getElem? (i := 56) rfl)) (by decide) (by decide)) q18a q18c (g := (mkF m 124 #[.val (.long x0), .second, .val (.int x1), .val (.int x2), .val (.int x3), .val (.ref ad1), .val (.ref ad4), .val (.ref ad6), .val (.ref ad8), .val (.int (0 : Int32))] [(.ref ab)])) rfl (by rw [hml]; rfl) (Steps.refl _) (argsL := []) (rest := []) (lenOf own_pd6 rfl) rfl (by show 2 * 0 + _ ≤ _; exact Nat.le_of_eq rfl) (hb hby at_124) (fun _ _ => ⟨rfl, rfl, (by decide : 6 + 0 ≤ _), (by decide : 17 + 0 ≤ _)⟩)
        dsimp only [Pt.U, Pt.locs, Pt.cells, Pt.slots] at X18 l18 y18 z18 st18 hQ18
        subst l18 y18 z18
        obtain ⟨rfl, Nq18, e18⟩ := hQ18
        have e18 := e18.trans rfl
        have N18 := Fr.app N17 Nq18
        refine Go.of (fun _ k => st18.trans k) ?_
        show Go p e below T18 (mkF m 127 #[.val (.long x0), .second, .val (.int x1), .val (.int x2), .val (.int x3), .val (.ref ad1), .val (.ref ad4), .val (.ref ad6), .val (.ref ad8), .val (.int (0 : Int32))] [(.int (fEx (0 : Int64)))]) _
        refine Go.of (fun _ k => XS.ifYes X18.here hx rfl (pc0 := 127) (pc' := 132) rfl (hb hby at_127) rfl ((if0 _ _).trans (teq (show (fEx (0 : Int64)) = (0 : Int32) from (by decide))).1) (by decide) (by decide) k) ?_
        show Go p e below T18 (mkF m 132 #[.val (.long x0), .second, .val (.int x1), .val (.int x2), .val (.int x3), .val (.ref ad1), .val (.ref ad4), .val (.ref ad6), .val (.ref ad8), .val (.int (0 : Int32))] []) _
        refine Go.of (fun _ k => XS.iconst X18.here hx rfl (hb hby at_132) k) ?_
        show Go p e below T18 (mkF m 133 #[.val (.long x0), .second, .val (.int x1), .val (.int x2), .val (.int x3), .val (.ref ad1), .val (.ref ad4), .val (.ref ad6), .val (.ref ad8), .val (.int (0 : Int32))] [(.int (1 : Int32))]) _
        refine Go.retN X18 hx (t := .boolean) hret hlk (by simp) (hb hby at_133) e18 (by decide) (by decide) ?_
        exact ⟨rfl, N18⟩
  · refine Go.of (fun _ k => XS.ifNo X7.here hx rfl (hb hby at_49) rfl ((if0 _ _).trans (feq hc49_0).1) k) ?_
    show Go p e below T7 (mkF m 52 #[.val (.long x0), .second, .val (.int x1), .val (.int x2), .val (.int x3), .val (.ref ad1), .val (.ref ad4), .val (.ref ad6), .unset, .unset] []) _
    refine Go.of (fun _ k => XS.aload X7.here hx rfl (hb hby at_52) rfl rfl  k) ?_
    show Go p e below T7 (mkF m 54 #[.val (.long x0), .second, .val (.int x1), .val (.int x2), .val (.int x3), .val (.ref ad1), .val (.ref ad4), .val (.ref ad6), .unset, .unset] [(.ref ad6)]) _
    refine Go.of (fun _ k => XS.lconst X7.here hx rfl (hb hby at_54) k) ?_
    show Go p e below T7 (mkF m 55 #[.val (.long x0), .second, .val (.int x1), .val (.int x2), .val (.int x3), .val (.ref ad1), .val (.ref ad4), .val (.ref ad6), .unset, .unset] [(.long (1 : Int64)), (.ref ad6)]) _
    obtain ⟨T19, h19, X19, e19, E19, A19, D19, -, st19⟩ := newO X7 hx hZ hown (hw _ (List.mem_of_getElem? (i := 30) rfl)) (hw _ (List.mem_of_getElem? (i := 31) rfl)) (hw _ (List.mem_of_getElem? (i := 32) rfl)) rfl (g := (mkF m 55 #[.val (.long x0), .second, .val (.int x1), .val (.int x2), .val (.int x3), .val (.ref ad1), .val (.ref ad4), .val (.ref ad6), .unset, .unset] [(.long (1 : Int64)), (.ref ad6)])) rfl (hb hby at_55) (by decide) (by decide)
    obtain ⟨ad19, g19⟩ : ∃ z, z = T7.heap.size := ⟨_, rfl⟩
    rw [← g19] at A19 D19 st19
    have ne_ad1_ad19 : ad1 ≠ ad19 := Nat.ne_of_lt (Nat.lt_of_lt_of_le V_ad1.lt (Nat.le_of_eq g19.symm))
    have ne_ad4_ad19 : ad4 ≠ ad19 := Nat.ne_of_lt (Nat.lt_of_lt_of_le E_ad4.lt (Nat.le_of_eq g19.symm))
    have ne_ad6_ad19 : ad6 ≠ ad19 := Nat.ne_of_lt (Nat.lt_of_lt_of_le E_ad6.lt (Nat.le_of_eq g19.symm))
    have ge_ad19 : n0 ≤ ad19 := Nat.le_trans Z0 (Nat.le_of_eq g19.symm)
    have Z0 := Nat.le_trans Z0 E19.1
    have OL := OL.ext E19
    have V_ad1 := V_ad1.ext E19
    have E_ad4 := E_ad4.ext E19
    have E_ad6 := E_ad6.ext E19
    have F_modCount_ad6 := F_modCount_ad6.ext E19
    have F_elementData_ad6 := F_elementData_ad6.ext E19
    have F_size_ad6 := F_size_ad6.ext E19
    have E_ad19 := A19
    have F_modCount_ad19 : Fld Z h19 ad19 "java/util/AbstractList" "modCount" "I" (.int (0 : Int32)) := D19 (Or.inl (hw _ (List.mem_of_getElem? (i := 50) rfl))) (ty := .int) (by decide)
    have F_elementData_ad19 : Fld Z h19 ad19 "java/util/ArrayList" "elementData" "[Ljava/lang/Object;" .null := D19 (Or.inl (hw _ (List.mem_of_getElem? (i := 53) rfl))) (ty := (.array (.object "java/lang/Object"))) (by decide)
    have F_size_ad19 : Fld Z h19 ad19 "java/util/ArrayList" "size" "I" (.int (0 : Int32)) := D19 (Or.inl (hw _ (List.mem_of_getElem? (i := 90) rfl))) (ty := .int) (by decide)
    refine Go.of (fun _ k => st19 _ k) ?_
    show Go p e below T19 (mkF m 58 #[.val (.long x0), .second, .val (.int x1), .val (.int x2), .val (.int x3), .val (.ref ad1), .val (.ref ad4), .val (.ref ad6), .unset, .unset] [(.ref ad19), (.long (1 : Int64)), (.ref ad6)]) _
    refine Go.of (fun _ k => XS.dup X19.here hx rfl (hb hby at_58) rfl rfl k) ?_
    show Go p e below T19 (mkF m 59 #[.val (.long x0), .second, .val (.int x1), .val (.int x2), .val (.int x3), .val (.ref ad1), .val (.ref ad4), .val (.ref ad6), .unset, .unset] [(.ref ad19), (.ref ad19), (.long (1 : Int64)), (.ref ad6)]) _
    obtain ⟨_, _, ⟨T20, L20, kq20, nq20⟩, -, X20, ⟨Lc20, hQ20, l20, y20, z20⟩, st20⟩ := X19.specialBack hx (y := (⟨"java/util/ArrayList", "<init>", "()V"⟩ : MethodName)) rfl hown (mvT hZ (hw _ (List.mem_of_getElem? (i := 33) rfl))) (mvT hZ (hw _ (List.mem_of_getElem? (i := 34) rfl))) (mvT hZ (hw _ (List.mem_of_getElem? (i := 35) rfl))) (by decide) (backOf (W := 4) (rmAL l Z a0 hw [] ad19 j h19 n0 Z0 ge_ad19 OL J E_ad19 F_modCount_ad19 F_elementData_ad19 F_size_ad19) hZ (hw _ (List.mem_of_getElem? (i := 35) rfl)) (hw _ (List.mem_of_getElem? (i := 32) rfl)) (by decide) (by decide)) (g := (mkF m 59 #[.val (.long x0), .second, .val (.int x1), .val (.int x2), .val (.int x3), .val (.ref ad1), .val (.ref ad4), .val (.ref ad6), .unset, .unset] [(.ref ad19), (.ref ad19), (.long (1 : Int64)), (.ref ad6)])) rfl (by rw [hml]; rfl) (Steps.refl _) (a := ad19) (argsL := []) (rest := [(.ref ad19), (.long (1 : Int64)), (.ref ad6)]) (lenOf own_pd0 rfl) rfl (by show 2 * 0 + _ ≤ _; exact Nat.le_of_eq rfl) (hb hby at_59) (fun _ _ => ⟨rfl, e19, (by decide : 5 + 0 ≤ _), (by decide : 14 + 0 ≤ _)⟩)
    dsimp only [Pt.U, Pt.locs, Pt.cells, Pt.slots] at X20 l20 y20 z20 st20 hQ20
    subst l20 y20 z20
    obtain ⟨rfl, Nq20, Kq20, fq20_0, fq20_1, fq20_2, fq20_3⟩ := hQ20
    have N20 := Fr.app N7 Nq20
    have Z0 := Nat.le_trans Z0 Kq20.1
    have OL := OL.keep Kq20 (allS ge_ad19 all0)
    have V_ad1 := V_ad1.keep Kq20 (ninS ne_ad1_ad19 nin0)
    have E_ad4 := E_ad4.keep Kq20
    have E_ad6 := E_ad6.keep Kq20
    have F_modCount_ad6 := F_modCount_ad6.keep Kq20 (ninS ne_ad6_ad19 nin0)
    have F_elementData_ad6 := F_elementData_ad6.keep Kq20 (ninS ne_ad6_ad19 nin0)
    have F_size_ad6 := F_size_ad6.keep Kq20 (ninS ne_ad6_ad19 nin0)
    have E_ad19 := fq20_0
    have F_modCount_ad19 := fq20_1
    have F_elementData_ad19 := fq20_2
    have F_size_ad19 := fq20_3
    refine Go.of (fun _ k => st20.trans k) ?_
    show Go p e below T20 (mkF m 62 #[.val (.long x0), .second, .val (.int x1), .val (.int x2), .val (.int x3), .val (.ref ad1), .val (.ref ad4), .val (.ref ad6), .unset, .unset] [(.ref ad19), (.long (1 : Int64)), (.ref ad6)]) _
    refine Go.of (fun _ k => XS.iconst X20.here hx rfl (hb hby at_62) k) ?_
    show Go p e below T20 (mkF m 63 #[.val (.long x0), .second, .val (.int x1), .val (.int x2), .val (.int x3), .val (.ref ad1), .val (.ref ad4), .val (.ref ad6), .unset, .unset] [(.int (1 : Int32)), (.ref ad19), (.long (1 : Int64)), (.ref ad6)]) _
    refine Go.of (fun _ k => XS.iconst X20.here hx rfl (hb hby at_63) k) ?_
    show Go p e below T20 (mkF m 64 #[.val (.long x0), .second, .val (.int x1), .val (.int x2), .val (.int x3), .val (.ref ad1), .val (.ref ad4), .val (.ref ad6), .unset, .unset] [(.int (1 : Int32)), (.int (1 : Int32)), (.ref ad19), (.long (1 : Int64)), (.ref ad6)]) _
    obtain ⟨_, _, ⟨T21, L21, kq21, nq21⟩, -, X21, ⟨Lc21, hQ21, l21, y21, z21⟩, st21⟩ := Jvm.LawKit.callS X20 hx (y := (⟨"org/quorumweave/Segment", "open", "(JLjava/util/List;II)Lorg/quorumweave/Segment;"⟩ : MethodName)) hown (mvT hZ (hw _ (List.mem_of_getElem? (i := 120) rfl))) (mvT hZ (hw _ (List.mem_of_getElem? (i := 121) rfl))) (mvT hZ (hw _ (List.mem_of_getElem? (i := 122) rfl))) (mvT hZ (hw _ (List.mem_of_getElem? (i := 123) rfl))) (by decide) (backOf (W := 1) (rmOp l Z a0 hw [] (1 : Int64) ad19 (1 : Int32) (1 : Int32) j T20.heap n0 Z0 OL J E_ad19 F_size_ad19) hZ (hw _ (List.mem_of_getElem? (i := 123) rfl)) (hw _ (List.mem_of_getElem? (i := 122) rfl)) (by decide) (by decide)) (g := (mkF m 64 #[.val (.long x0), .second, .val (.int x1), .val (.int x2), .val (.int x3), .val (.ref ad1), .val (.ref ad4), .val (.ref ad6), .unset, .unset] [(.int (1 : Int32)), (.int (1 : Int32)), (.ref ad19), (.long (1 : Int64)), (.ref ad6)])) rfl (by rw [hml]; rfl) (argsL := [(.long (1 : Int64)), (.ref ad19), (.int (1 : Int32)), (.int (1 : Int32))]) (rest := [(.ref ad6)]) (lenOf own_pd17 rfl) rfl (by show 2 * 0 + _ ≤ _; exact Nat.le_of_eq rfl) (hb hby at_64) (fun _ _ => ⟨rfl, rfl, (by decide : 5 + 1 ≤ _), (by decide : 14 + 6 ≤ _)⟩)
    dsimp only [Pt.U, Pt.locs, Pt.cells, Pt.slots] at X21 l21 y21 z21 st21 hQ21
    subst l21 y21 z21
    obtain ⟨sg, rfl, Nq21, Kq21, fq21_0⟩ := hQ21
    have N21 := Fr.app N20 Nq21
    have Z0 := Nat.le_trans Z0 Kq21.1
    have OL := OL.keep Kq21 all0
    have V_ad1 := V_ad1.keep Kq21 nin0
    have E_ad4 := E_ad4.keep Kq21
    have E_ad6 := E_ad6.keep Kq21
    have F_modCount_ad6 := F_modCount_ad6.keep Kq21 nin0
    have F_elementData_ad6 := F_elementData_ad6.keep Kq21 nin0
    have F_size_ad6 := F_size_ad6.keep Kq21 nin0
    have E_ad19 := E_ad19.keep Kq21
    have F_modCount_ad19 := F_modCount_ad19.keep Kq21 nin0
    have F_elementData_ad19 := F_elementData_ad19.keep Kq21 nin0
    have F_size_ad19 := F_size_ad19.keep Kq21 nin0
    have E_sg := fq21_0
    refine Go.of (fun _ k => st21 _ k) ?_
    show Go p e below T21 (mkF m 67 #[.val (.long x0), .second, .val (.int x1), .val (.int x2), .val (.int x3), .val (.ref ad1), .val (.ref ad4), .val (.ref ad6), .unset, .unset] [(.ref sg), (.ref ad6)]) _
    obtain ⟨cq22, kq22, q22a, q22b, q22c⟩ := isOf hZ rfl E_ad6
    obtain ⟨_, _, ⟨T22, L22, kq22, nq22⟩, -, X22, ⟨Lc22, hQ22, l22, y22, z22⟩, st22⟩ := X21.virtualBack hx (y := (⟨"java/util/ArrayList", "add", "(Ljava/lang/Object;)Z"⟩ : MethodName)) (z := (⟨"java/util/ArrayList", "add", "(Ljava/lang/Object;)Z"⟩ : MethodName)) hown (mvT hZ (hw _ (List.mem_of_getElem? (i := 147) rfl))) (mvT hZ (hw _ (List.mem_of_getElem? (i := 148) rfl))) (notFace_of_selects (args := #[]) (mvT hZ (hw _ (List.mem_of_getElem? (i := 150) rfl)))) (mvT hZ (hw _ (List.mem_of_getElem? (i := 150) rfl))) (mvT hZ (hw _ (List.mem_of_getElem? (i := 149) rfl))) (by decide) (backOf (W := 0) (rmA1 l Z a0 hw [] ad6 sg (0 : Int32) j T21.heap n0 Z0 E_sg ge_ad6 OL J E_ad6 F_modCount_ad6 F_elementData_ad6 F_size_ad6) hZ (hw _ (List.mem_of_getElem? (i := 151) rfl)) (hw _ (List.mem_of_getElem? (i := 32) rfl)) (by decide) (by decide)) q22a q22c (g := (mkF m 67 #[.val (.long x0), .second, .val (.int x1), .val (.int x2), .val (.int x3), .val (.ref ad1), .val (.ref ad4), .val (.ref ad6), .unset, .unset] [(.ref sg), (.ref ad6)])) rfl (by rw [hml]; rfl) (Steps.refl _) (argsL := [(.ref sg)]) (rest := []) (lenOf own_pd18 rfl) rfl (by show 2 * 0 + _ ≤ _; exact Nat.le_of_eq rfl) (hb hby at_67) (fun _ _ => ⟨rfl, rfl, (by decide : 6 + 1 ≤ _), (by decide : 20 + 10 ≤ _)⟩)
    dsimp only [Pt.U, Pt.locs, Pt.cells, Pt.slots] at X22 l22 y22 z22 st22 hQ22
    subst l22 y22 z22
    obtain ⟨rfl, Nq22, Kq22, b, kb, mk, Eq22, Fm22, Fe22, Fs22, Vb22, Eb22, -, -⟩ := hQ22
    have N22 := Fr.app N21 Nq22
    have Z0 := Nat.le_trans Z0 Kq22.1
    have OL := OL.keep Kq22 (allS ge_ad6 all0)
    have V_ad1 := V_ad1.keep Kq22 (ninS ne_ad1_ad6 nin0)
    have E_ad4 := E_ad4.keep Kq22
    have E_ad6 := E_ad6.keep Kq22
    have E_ad19 := E_ad19.keep Kq22
    have F_modCount_ad19 := F_modCount_ad19.keep Kq22 (ninS (Ne.symm ne_ad6_ad19) nin0)
    have F_elementData_ad19 := F_elementData_ad19.keep Kq22 (ninS (Ne.symm ne_ad6_ad19) nin0)
    have F_size_ad19 := F_size_ad19.keep Kq22 (ninS (Ne.symm ne_ad6_ad19) nin0)
    have E_sg := E_sg.keep Kq22
    have Fe := Fe22
    have Fs := Fs22
    have Vb := Vb22
    have E_b := Eb22
    refine Go.of (fun _ k => st22.trans k) ?_
    show Go p e below T22 (mkF m 70 #[.val (.long x0), .second, .val (.int x1), .val (.int x2), .val (.int x3), .val (.ref ad1), .val (.ref ad4), .val (.ref ad6), .unset, .unset] [(.int (1 : Int32))]) _
    refine Go.of (fun _ k => XS.pop X22.here hx rfl (hb hby at_70) rfl rfl k) ?_
    show Go p e below T22 (mkF m 71 #[.val (.long x0), .second, .val (.int x1), .val (.int x2), .val (.int x3), .val (.ref ad1), .val (.ref ad4), .val (.ref ad6), .unset, .unset] []) _
    obtain ⟨T23, h23, X23, e23, E23, A23, D23, -, st23⟩ := newO X22 hx hZ hown (hw _ (List.mem_of_getElem? (i := 54) rfl)) (hw _ (List.mem_of_getElem? (i := 55) rfl)) (hw _ (List.mem_of_getElem? (i := 56) rfl)) rfl (g := (mkF m 71 #[.val (.long x0), .second, .val (.int x1), .val (.int x2), .val (.int x3), .val (.ref ad1), .val (.ref ad4), .val (.ref ad6), .unset, .unset] [])) rfl (hb hby at_71) (by decide) (by decide)
    obtain ⟨ad23, g23⟩ : ∃ z, z = T22.heap.size := ⟨_, rfl⟩
    rw [← g23] at A23 D23 st23
    have ne_ad1_ad23 : ad1 ≠ ad23 := Nat.ne_of_lt (Nat.lt_of_lt_of_le V_ad1.lt (Nat.le_of_eq g23.symm))
    have ne_ad4_ad23 : ad4 ≠ ad23 := Nat.ne_of_lt (Nat.lt_of_lt_of_le E_ad4.lt (Nat.le_of_eq g23.symm))
    have ne_ad6_ad23 : ad6 ≠ ad23 := Nat.ne_of_lt (Nat.lt_of_lt_of_le E_ad6.lt (Nat.le_of_eq g23.symm))
    have ne_ad19_ad23 : ad19 ≠ ad23 := Nat.ne_of_lt (Nat.lt_of_lt_of_le E_ad19.lt (Nat.le_of_eq g23.symm))
    have ne_sg_ad23 : sg ≠ ad23 := Nat.ne_of_lt (Nat.lt_of_lt_of_le E_sg.lt (Nat.le_of_eq g23.symm))
    have ne_b_ad23 : b ≠ ad23 := Nat.ne_of_lt (Nat.lt_of_lt_of_le Vb.lt (Nat.le_of_eq g23.symm))
    have ge_ad23 : n0 ≤ ad23 := Nat.le_trans Z0 (Nat.le_of_eq g23.symm)
    have Z0 := Nat.le_trans Z0 E23.1
    have OL := OL.ext E23
    have V_ad1 := V_ad1.ext E23
    have E_ad4 := E_ad4.ext E23
    have E_ad6 := E_ad6.ext E23
    have E_ad19 := E_ad19.ext E23
    have F_modCount_ad19 := F_modCount_ad19.ext E23
    have F_elementData_ad19 := F_elementData_ad19.ext E23
    have F_size_ad19 := F_size_ad19.ext E23
    have E_sg := E_sg.ext E23
    have Fe := Fe.ext E23
    have Fs := Fs.ext E23
    have Vb := Vb.ext E23
    have E_b := E_b.ext E23
    have E_ad23 := A23
    have F_name_ad23 : Fld Z h23 ad23 "org/quorumweave/LogMetadata" "name" "Ljava/lang/String;" .null := D23 (Or.inr (hw _ (List.mem_of_getElem? (i := 96) rfl))) (ty := (.object "java/lang/String")) (by decide)
    have F_version_ad23 : Fld Z h23 ad23 "org/quorumweave/LogMetadata" "version" "J" (.long (0 : Int64)) := D23 (Or.inr (hw _ (List.mem_of_getElem? (i := 98) rfl))) (ty := .long) (by decide)
    have F_segments_ad23 : Fld Z h23 ad23 "org/quorumweave/LogMetadata" "segments" "Ljava/util/List;" .null := D23 (Or.inr (hw _ (List.mem_of_getElem? (i := 100) rfl))) (ty := (.object "java/util/List")) (by decide)
    refine Go.of (fun _ k => st23 _ k) ?_
    show Go p e below T23 (mkF m 74 #[.val (.long x0), .second, .val (.int x1), .val (.int x2), .val (.int x3), .val (.ref ad1), .val (.ref ad4), .val (.ref ad6), .unset, .unset] [(.ref ad23)]) _
    refine Go.of (fun _ k => XS.dup X23.here hx rfl (hb hby at_74) rfl rfl k) ?_
    show Go p e below T23 (mkF m 75 #[.val (.long x0), .second, .val (.int x1), .val (.int x2), .val (.int x3), .val (.ref ad1), .val (.ref ad4), .val (.ref ad6), .unset, .unset] [(.ref ad23), (.ref ad23)]) _
    refine Go.of (fun _ k => XS.aload X23.here hx rfl (hb hby at_75) rfl rfl  k) ?_
    show Go p e below T23 (mkF m 77 #[.val (.long x0), .second, .val (.int x1), .val (.int x2), .val (.int x3), .val (.ref ad1), .val (.ref ad4), .val (.ref ad6), .unset, .unset] [(.ref ad4), (.ref ad23), (.ref ad23)]) _
    refine Go.of (fun _ k => XS.lloadN X23.here hx rfl (hb hby at_77) rfl  k) ?_
    show Go p e below T23 (mkF m 78 #[.val (.long x0), .second, .val (.int x1), .val (.int x2), .val (.int x3), .val (.ref ad1), .val (.ref ad4), .val (.ref ad6), .unset, .unset] [(.long x0), (.ref ad4), (.ref ad23), (.ref ad23)]) _
    refine Go.of (fun _ k => XS.aload X23.here hx rfl (hb hby at_78) rfl rfl  k) ?_
    show Go p e below T23 (mkF m 80 #[.val (.long x0), .second, .val (.int x1), .val (.int x2), .val (.int x3), .val (.ref ad1), .val (.ref ad4), .val (.ref ad6), .unset, .unset] [(.ref ad6), (.long x0), (.ref ad4), (.ref ad23), (.ref ad23)]) _
    obtain ⟨_, _, ⟨T24, L24, kq24, nq24⟩, -, X24, ⟨Lc24, hQ24, l24, y24, z24⟩, st24⟩ := X23.specialBack hx (y := (⟨"org/quorumweave/LogMetadata", "<init>", "(Ljava/lang/String;JLjava/util/List;)V"⟩ : MethodName)) rfl hown (mvT hZ (hw _ (List.mem_of_getElem? (i := 57) rfl))) (mvT hZ (hw _ (List.mem_of_getElem? (i := 58) rfl))) (mvT hZ (hw _ (List.mem_of_getElem? (i := 59) rfl))) (by decide) (backOf (W := 1) (rmLMb l Z a0 hw [] ad23 ad4 x0 ad6 b sg kb j h23 n0 Z0 ge_ad23 OL J E_ad23 F_name_ad23 F_version_ad23 F_segments_ad23 E_ad6 Fe Fs Vb E_sg E_b) hZ (hw _ (List.mem_of_getElem? (i := 59) rfl)) (hw _ (List.mem_of_getElem? (i := 56) rfl)) (by decide) (by decide)) (g := (mkF m 80 #[.val (.long x0), .second, .val (.int x1), .val (.int x2), .val (.int x3), .val (.ref ad1), .val (.ref ad4), .val (.ref ad6), .unset, .unset] [(.ref ad6), (.long x0), (.ref ad4), (.ref ad23), (.ref ad23)])) rfl (by rw [hml]; rfl) (Steps.refl _) (a := ad23) (argsL := [(.ref ad4), (.long x0), (.ref ad6)]) (rest := [(.ref ad23)]) (lenOf own_pd11 rfl) rfl (by show 2 * 0 + _ ≤ _; exact Nat.le_of_eq rfl) (hb hby at_80) (fun _ _ => ⟨rfl, e23, (by decide : 8 + 2 ≤ _), (by decide : 33 + 3 ≤ _)⟩)
    dsimp only [Pt.U, Pt.locs, Pt.cells, Pt.slots] at X24 l24 y24 z24 st24 hQ24
    subst l24 y24 z24
    obtain ⟨rfl, Nq24, Kq24, fq24_0, fq24_1⟩ := hQ24
    have N24 := Fr.app N22 Nq24
    have Z0 := Nat.le_trans Z0 Kq24.1
    have OL := OL.keep Kq24 (allS ge_ad23 all0)
    have V_ad1 := V_ad1.keep Kq24 (ninS ne_ad1_ad23 nin0)
    have E_ad4 := E_ad4.keep Kq24
    have E_ad6 := E_ad6.keep Kq24
    have E_ad19 := E_ad19.keep Kq24
    have F_modCount_ad19 := F_modCount_ad19.keep Kq24 (ninS ne_ad19_ad23 nin0)
    have F_elementData_ad19 := F_elementData_ad19.keep Kq24 (ninS ne_ad19_ad23 nin0)
    have F_size_ad19 := F_size_ad19.keep Kq24 (ninS ne_ad19_ad23 nin0)
    have E_sg := E_sg.keep Kq24
    have Fe := Fe.keep Kq24 (ninS ne_ad6_ad23 nin0)
    have Fs := Fs.keep Kq24 (ninS ne_ad6_ad23 nin0)
    have Vb := Vb.keep Kq24 (ninS ne_b_ad23 nin0)
    have E_b := E_b.keep Kq24
    have E_ad23 := fq24_0
    have F_version_ad23 := fq24_1
    refine Go.of (fun _ k => st24.trans k) ?_
    show Go p e below T24 (mkF m 83 #[.val (.long x0), .second, .val (.int x1), .val (.int x2), .val (.int x3), .val (.ref ad1), .val (.ref ad4), .val (.ref ad6), .unset, .unset] [(.ref ad23)]) _
    refine Go.of (fun _ k => XS.astore X24.here hx rfl (hb hby at_83) rfl rfl (l' := #[.val (.long x0), .second, .val (.int x1), .val (.int x2), .val (.int x3), .val (.ref ad1), .val (.ref ad4), .val (.ref ad6), .val (.ref ad23), .unset]) rfl k) ?_
    show Go p e below T24 (mkF m 85 #[.val (.long x0), .second, .val (.int x1), .val (.int x2), .val (.int x3), .val (.ref ad1), .val (.ref ad4), .val (.ref ad6), .val (.ref ad23), .unset] []) _
    refine Go.of (fun _ k => XS.lloadN X24.here hx rfl (hb hby at_85) rfl  k) ?_
    show Go p e below T24 (mkF m 86 #[.val (.long x0), .second, .val (.int x1), .val (.int x2), .val (.int x3), .val (.ref ad1), .val (.ref ad4), .val (.ref ad6), .val (.ref ad23), .unset] [(.long x0)]) _
    refine Go.of (fun _ k => XS.lconst X24.here hx rfl (hb hby at_86) k) ?_
    show Go p e below T24 (mkF m 87 #[.val (.long x0), .second, .val (.int x1), .val (.int x2), .val (.int x3), .val (.ref ad1), .val (.ref ad4), .val (.ref ad6), .val (.ref ad23), .unset] [(.long (0 : Int64)), (.long x0)]) _
    refine Go.of (fun _ k => XS.lcmp X24.here hx rfl (hb hby at_87) rfl k) ?_
    show Go p e below T24 (mkF m 88 #[.val (.long x0), .second, .val (.int x1), .val (.int x2), .val (.int x3), .val (.ref ad1), .val (.ref ad4), .val (.ref ad6), .val (.ref ad23), .unset] [(.int (lcmpW x0 (0 : Int64)))]) _
    by_cases hc88_1 : (lcmpW x0 (0 : Int64)) = (0 : Int32)
    · refine Go.of (fun _ k => XS.ifYes X24.here hx rfl (pc0 := 88) (pc' := 104) rfl (hb hby at_88) rfl ((if0 _ _).trans (teq hc88_1).1) (by decide) (by decide) k) ?_
      show Go p e below T24 (mkF m 104 #[.val (.long x0), .second, .val (.int x1), .val (.int x2), .val (.int x3), .val (.ref ad1), .val (.ref ad4), .val (.ref ad6), .val (.ref ad23), .unset] []) _
      refine Go.of (fun _ k => XS.iconst X24.here hx rfl (hb hby at_104) k) ?_
      show Go p e below T24 (mkF m 105 #[.val (.long x0), .second, .val (.int x1), .val (.int x2), .val (.int x3), .val (.ref ad1), .val (.ref ad4), .val (.ref ad6), .val (.ref ad23), .unset] [(.int (0 : Int32))]) _
      refine Go.of (fun _ k => XS.istore X24.here hx rfl (hb hby at_105) rfl (l' := #[.val (.long x0), .second, .val (.int x1), .val (.int x2), .val (.int x3), .val (.ref ad1), .val (.ref ad4), .val (.ref ad6), .val (.ref ad23), .val (.int (0 : Int32))]) rfl k) ?_
      show Go p e below T24 (mkF m 107 #[.val (.long x0), .second, .val (.int x1), .val (.int x2), .val (.int x3), .val (.ref ad1), .val (.ref ad4), .val (.ref ad6), .val (.ref ad23), .val (.int (0 : Int32))] []) _
      refine Go.of (fun _ k => XS.aload X24.here hx rfl (hb hby at_107) rfl rfl  k) ?_
      show Go p e below T24 (mkF m 109 #[.val (.long x0), .second, .val (.int x1), .val (.int x2), .val (.int x3), .val (.ref ad1), .val (.ref ad4), .val (.ref ad6), .val (.ref ad23), .val (.int (0 : Int32))] [(.ref ad23)]) _
      obtain ⟨cq25, kq25, q25a, q25b, q25c⟩ := isOf hZ rfl E_ad23
      obtain ⟨_, _, ⟨T25, L25, kq25, nq25⟩, -, X25, ⟨Lc25, hQ25, l25, y25, z25⟩, st25⟩ := X24.virtualBack hx (y := (⟨"org/quorumweave/LogMetadata", "exists", "()Z"⟩ : MethodName)) (z := (⟨"org/quorumweave/LogMetadata", "exists", "()Z"⟩ : MethodName)) hown (mvT hZ (hw _ (List.mem_of_getElem? (i := 101) rfl))) (mvT hZ (hw _ (List.mem_of_getElem? (i := 102) rfl))) (notFace_of_selects (args := #[]) (mvT hZ (hw _ (List.mem_of_getElem? (i := 104) rfl)))) (mvT hZ (hw _ (List.mem_of_getElem? (i := 104) rfl))) (mvT hZ (hw _ (List.mem_of_getElem? (i := 103) rfl))) (by decide) (backOf (W := 0) (rmEx l Z a0 hw [] ad23 x0 T24.heap n0 Z0 F_version_ad23) hZ (hw _ (List.mem_of_getElem? (i := 105) rfl)) (hw _ (List.mem_of_getElem? (i := 56) rfl)) (by decide) (by decide)) q25a q25c (g := (mkF m 109 #[.val (.long x0), .second, .val (.int x1), .val (.int x2), .val (.int x3), .val (.ref ad1), .val (.ref ad4), .val (.ref ad6), .val (.ref ad23), .val (.int (0 : Int32))] [(.ref ad23)])) rfl (by rw [hml]; rfl) (Steps.refl _) (argsL := []) (rest := []) (lenOf own_pd6 rfl) rfl (by show 2 * 0 + _ ≤ _; exact Nat.le_of_eq rfl) (hb hby at_109) (fun _ _ => ⟨rfl, rfl, (by decide : 10 + 0 ≤ _), (by decide : 36 + 0 ≤ _)⟩)
      dsimp only [Pt.U, Pt.locs, Pt.cells, Pt.slots] at X25 l25 y25 z25 st25 hQ25
      subst l25 y25 z25
      obtain ⟨rfl, Nq25, e25⟩ := hQ25
      have e25 := e25.trans rfl
      have N25 := Fr.app N24 Nq25
      refine Go.of (fun _ k => st25.trans k) ?_
      show Go p e below T25 (mkF m 112 #[.val (.long x0), .second, .val (.int x1), .val (.int x2), .val (.int x3), .val (.ref ad1), .val (.ref ad4), .val (.ref ad6), .val (.ref ad23), .val (.int (0 : Int32))] [(.int (fEx x0))]) _
      refine Go.of (fun _ k => XS.iload X25.here hx rfl (hb hby at_112) rfl  k) ?_
      show Go p e below T25 (mkF m 114 #[.val (.long x0), .second, .val (.int x1), .val (.int x2), .val (.int x3), .val (.ref ad1), .val (.ref ad4), .val (.ref ad6), .val (.ref ad23), .val (.int (0 : Int32))] [(.int (0 : Int32)), (.int (fEx x0))]) _
      refine Go.of (fun _ k => XS.icmpYes X25.here hx rfl (pc0 := 114) (pc' := 119) rfl (hb hby at_114) rfl (teq (show (fEx x0) = (0 : Int32) from (own_e0 hc88_1))).1 (by decide) (by decide) k) ?_
      show Go p e below T25 (mkF m 119 #[.val (.long x0), .second, .val (.int x1), .val (.int x2), .val (.int x3), .val (.ref ad1), .val (.ref ad4), .val (.ref ad6), .val (.ref ad23), .val (.int (0 : Int32))] []) _
      refine Go.of (fun _ k => XS.aload X25.here hx rfl (hb hby at_119) rfl rfl  k) ?_
      show Go p e below T25 (mkF m 121 #[.val (.long x0), .second, .val (.int x1), .val (.int x2), .val (.int x3), .val (.ref ad1), .val (.ref ad4), .val (.ref ad6), .val (.ref ad23), .val (.int (0 : Int32))] [(.ref ad4)]) _
      obtain ⟨_, _, ⟨T26, L26, kq26, nq26⟩, -, X26, ⟨Lc26, hQ26, l26, y26, z26⟩, st26⟩ := Jvm.LawKit.callS X25 hx (y := (⟨"org/quorumweave/LogMetadata", "absent", "(Ljava/lang/String;)Lorg/quorumweave/LogMetadata;"⟩ : MethodName)) hown (mvT hZ (hw _ (List.mem_of_getElem? (i := 106) rfl))) (mvT hZ (hw _ (List.mem_of_getElem? (i := 107) rfl))) (mvT hZ (hw _ (List.mem_of_getElem? (i := 56) rfl))) (mvT hZ (hw _ (List.mem_of_getElem? (i := 108) rfl))) (by decide) (backOf (W := 0) (rmAbs l Z a0 hw [] ad4 j T24.heap n0 Z0 OL J) hZ (hw _ (List.mem_of_getElem? (i := 108) rfl)) (hw _ (List.mem_of_getElem? (i := 56) rfl)) (by decide) (by decide)) (g := (mkF m 121 #[.val (.long x0), .second, .val (.int x1), .val (.int x2), .val (.int x3), .val (.ref ad1), .val (.ref ad4), .val (.ref ad6), .val (.ref ad23), .val (.int (0 : Int32))] [(.ref ad4)])) rfl (by rw [hml]; rfl) (argsL := [(.ref ad4)]) (rest := []) (lenOf own_pd16 rfl) rfl (by show 2 * 0 + _ ≤ _; exact Nat.le_of_eq rfl) (hb hby at_121) (fun _ _ => ⟨rfl, e25, (by decide : 10 + 1 ≤ _), (by decide : 36 + 3 ≤ _)⟩)
      dsimp only [Pt.U, Pt.locs, Pt.cells, Pt.slots] at X26 l26 y26 z26 st26 hQ26
      subst l26 y26 z26
      obtain ⟨ab, rfl, Nq26, Kq26, fq26_0, fq26_1⟩ := hQ26
      have N26 := Fr.app N25 Nq26
      have Z0 := Nat.le_trans Z0 Kq26.1
      have OL := OL.keep Kq26 all0
      have V_ad1 := V_ad1.keep Kq26 nin0
      have E_ad4 := E_ad4.keep Kq26
      have E_ad6 := E_ad6.keep Kq26
      have E_ad19 := E_ad19.keep Kq26
      have F_modCount_ad19 := F_modCount_ad19.keep Kq26 nin0
      have F_elementData_ad19 := F_elementData_ad19.keep Kq26 nin0
      have F_size_ad19 := F_size_ad19.keep Kq26 nin0
      have E_sg := E_sg.keep Kq26
      have Fe := Fe.keep Kq26 nin0
      have Fs := Fs.keep Kq26 nin0
      have Vb := Vb.keep Kq26 nin0
      have E_b := E_b.keep Kq26
      have E_ad23 := E_ad23.keep Kq26
      have F_version_ad23 := F_version_ad23.keep Kq26 nin0
      have E_ab := fq26_0
      have F_version_ab := fq26_1
      refine Go.of (fun _ k => st26 _ k) ?_
      show Go p e below T26 (mkF m 124 #[.val (.long x0), .second, .val (.int x1), .val (.int x2), .val (.int x3), .val (.ref ad1), .val (.ref ad4), .val (.ref ad6), .val (.ref ad23), .val (.int (0 : Int32))] [(.ref ab)]) _
      obtain ⟨cq27, kq27, q27a, q27b, q27c⟩ := isOf hZ rfl E_ab
      obtain ⟨_, _, ⟨T27, L27, kq27, nq27⟩, -, X27, ⟨Lc27, hQ27, l27, y27, z27⟩, st27⟩ := X26.virtualBack hx (y := (⟨"org/quorumweave/LogMetadata", "exists", "()Z"⟩ : MethodName)) (z := (⟨"org/quorumweave/LogMetadata", "exists", "()Z"⟩ : MethodName)) hown (mvT hZ (hw _ (List.mem_of_getElem? (i := 101) rfl))) (mvT hZ (hw _ (List.mem_of_getElem? (i := 102) rfl))) (notFace_of_selects (args := #[]) (mvT hZ (hw _ (List.mem_of_getElem? (i := 104) rfl)))) (mvT hZ (hw _ (List.mem_of_getElem? (i := 104) rfl))) (mvT hZ (hw _ (List.mem_of_getElem? (i := 103) rfl))) (by decide) (backOf (W := 0) (rmEx l Z a0 hw [] ab (0 : Int64) T26.heap n0 Z0 F_version_ab) hZ (hw _ (List.mem_of_getElem? (i := 105) rfl)) (hw _ (List.mem_of_getElem? (i := 56) rfl)) (by decide) (by decide)) q27a q27c (g := (mkF m 124 #[.val (.long x0), .second, .val (.int x1), .val (.int x2), .val (.int x3), .val (.ref ad1), .val (.ref ad4), .val (.ref ad6), .val (.ref ad23), .val (.int (0 : Int32))] [(.ref ab)])) rfl (by rw [hml]; rfl) (Steps.refl _) (argsL := []) (rest := []) (lenOf own_pd6 rfl) rfl (by show 2 * 0 + _ ≤ _; exact Nat.le_of_eq rfl) (hb hby at_124) (fun _ _ => ⟨rfl, rfl, (by decide : 11 + 0 ≤ _), (by decide : 39 + 0 ≤ _)⟩)
      dsimp only [Pt.U, Pt.locs, Pt.cells, Pt.slots] at X27 l27 y27 z27 st27 hQ27
      subst l27 y27 z27
      obtain ⟨rfl, Nq27, e27⟩ := hQ27
      have e27 := e27.trans rfl
      have N27 := Fr.app N26 Nq27
      refine Go.of (fun _ k => st27.trans k) ?_
      show Go p e below T27 (mkF m 127 #[.val (.long x0), .second, .val (.int x1), .val (.int x2), .val (.int x3), .val (.ref ad1), .val (.ref ad4), .val (.ref ad6), .val (.ref ad23), .val (.int (0 : Int32))] [(.int (fEx (0 : Int64)))]) _
      refine Go.of (fun _ k => XS.ifYes X27.here hx rfl (pc0 := 127) (pc' := 132) rfl (hb hby at_127) rfl ((if0 _ _).trans (teq (show (fEx (0 : Int64)) = (0 : Int32) from (by decide))).1) (by decide) (by decide) k) ?_
      show Go p e below T27 (mkF m 132 #[.val (.long x0), .second, .val (.int x1), .val (.int x2), .val (.int x3), .val (.ref ad1), .val (.ref ad4), .val (.ref ad6), .val (.ref ad23), .val (.int (0 : Int32))] []) _
      refine Go.of (fun _ k => XS.iconst X27.here hx rfl (hb hby at_132) k) ?_
      show Go p e below T27 (mkF m 133 #[.val (.long x0), .second, .val (.int x1), .val (.int x2), .val (.int x3), .val (.ref ad1), .val (.ref ad4), .val (.ref ad6), .val (.ref ad23), .val (.int (0 : Int32))] [(.int (1 : Int32))]) _
      refine Go.retN X27 hx (t := .boolean) hret hlk (by simp) (hb hby at_133) e27 (by decide) (by decide) ?_
      exact ⟨rfl, N27⟩
    · refine Go.of (fun _ k => XS.ifNo X24.here hx rfl (hb hby at_88) rfl ((if0 _ _).trans (feq hc88_1).1) k) ?_
      show Go p e below T24 (mkF m 91 #[.val (.long x0), .second, .val (.int x1), .val (.int x2), .val (.int x3), .val (.ref ad1), .val (.ref ad4), .val (.ref ad6), .val (.ref ad23), .unset] []) _
      refine Go.of (fun _ k => XS.lloadN X24.here hx rfl (hb hby at_91) rfl  k) ?_
      show Go p e below T24 (mkF m 92 #[.val (.long x0), .second, .val (.int x1), .val (.int x2), .val (.int x3), .val (.ref ad1), .val (.ref ad4), .val (.ref ad6), .val (.ref ad23), .unset] [(.long x0)]) _
      refine Go.of (fun _ k => XS.bipush X24.here hx rfl (hb hby at_92) k) ?_
      show Go p e below T24 (mkF m 94 #[.val (.long x0), .second, .val (.int x1), .val (.int x2), .val (.int x3), .val (.ref ad1), .val (.ref ad4), .val (.ref ad6), .val (.ref ad23), .unset] [(.int (63 : Int32)), (.long x0)]) _
      refine Go.of (fun _ k => XS.lushr X24.here hx rfl (hb hby at_94) rfl k) ?_
      show Go p e below T24 (mkF m 95 #[.val (.long x0), .second, .val (.int x1), .val (.int x2), .val (.int x3), .val (.ref ad1), .val (.ref ad4), .val (.ref ad6), .val (.ref ad23), .unset] [(.long ((x0.toUInt64 >>> ((63 : Int32) &&& 0x3f).toInt64.toUInt64).toInt64))]) _
      refine Go.of (fun _ k => XS.lconst X24.here hx rfl (hb hby at_95) k) ?_
      show Go p e below T24 (mkF m 96 #[.val (.long x0), .second, .val (.int x1), .val (.int x2), .val (.int x3), .val (.ref ad1), .val (.ref ad4), .val (.ref ad6), .val (.ref ad23), .unset] [(.long (0 : Int64)), (.long ((x0.toUInt64 >>> ((63 : Int32) &&& 0x3f).toInt64.toUInt64).toInt64))]) _
      refine Go.of (fun _ k => XS.lcmp X24.here hx rfl (hb hby at_96) rfl k) ?_
      show Go p e below T24 (mkF m 97 #[.val (.long x0), .second, .val (.int x1), .val (.int x2), .val (.int x3), .val (.ref ad1), .val (.ref ad4), .val (.ref ad6), .val (.ref ad23), .unset] [(.int (lcmpW ((x0.toUInt64 >>> ((63 : Int32) &&& 0x3f).toInt64.toUInt64).toInt64) (0 : Int64)))]) _
      by_cases hc97_2 : (lcmpW ((x0.toUInt64 >>> ((63 : Int32) &&& 0x3f).toInt64.toUInt64).toInt64) (0 : Int64)) = (0 : Int32)
      · refine Go.of (fun _ k => XS.ifNo X24.here hx rfl (hb hby at_97) rfl ((if0 _ _).trans (teq hc97_2).2) k) ?_
        show Go p e below T24 (mkF m 100 #[.val (.long x0), .second, .val (.int x1), .val (.int x2), .val (.int x3), .val (.ref ad1), .val (.ref ad4), .val (.ref ad6), .val (.ref ad23), .unset] []) _
        refine Go.of (fun _ k => XS.iconst X24.here hx rfl (hb hby at_100) k) ?_
        show Go p e below T24 (mkF m 101 #[.val (.long x0), .second, .val (.int x1), .val (.int x2), .val (.int x3), .val (.ref ad1), .val (.ref ad4), .val (.ref ad6), .val (.ref ad23), .unset] [(.int (1 : Int32))]) _
        refine Go.of (fun _ k => XS.goto X24.here hx rfl (pc0 := 101) (pc' := 105) rfl (hb hby at_101) (by decide) (by decide) k) ?_
        show Go p e below T24 (mkF m 105 #[.val (.long x0), .second, .val (.int x1), .val (.int x2), .val (.int x3), .val (.ref ad1), .val (.ref ad4), .val (.ref ad6), .val (.ref ad23), .unset] [(.int (1 : Int32))]) _
        refine Go.of (fun _ k => XS.istore X24.here hx rfl (hb hby at_105) rfl (l' := #[.val (.long x0), .second, .val (.int x1), .val (.int x2), .val (.int x3), .val (.ref ad1), .val (.ref ad4), .val (.ref ad6), .val (.ref ad23), .val (.int (1 : Int32))]) rfl k) ?_
        show Go p e below T24 (mkF m 107 #[.val (.long x0), .second, .val (.int x1), .val (.int x2), .val (.int x3), .val (.ref ad1), .val (.ref ad4), .val (.ref ad6), .val (.ref ad23), .val (.int (1 : Int32))] []) _
        refine Go.of (fun _ k => XS.aload X24.here hx rfl (hb hby at_107) rfl rfl  k) ?_
        show Go p e below T24 (mkF m 109 #[.val (.long x0), .second, .val (.int x1), .val (.int x2), .val (.int x3), .val (.ref ad1), .val (.ref ad4), .val (.ref ad6), .val (.ref ad23), .val (.int (1 : Int32))] [(.ref ad23)]) _
        obtain ⟨cq28, kq28, q28a, q28b, q28c⟩ := isOf hZ rfl E_ad23
        obtain ⟨_, _, ⟨T28, L28, kq28, nq28⟩, -, X28, ⟨Lc28, hQ28, l28, y28, z28⟩, st28⟩ := X24.virtualBack hx (y := (⟨"org/quorumweave/LogMetadata", "exists", "()Z"⟩ : MethodName)) (z := (⟨"org/quorumweave/LogMetadata", "exists", "()Z"⟩ : MethodName)) hown (mvT hZ (hw _ (List.mem_of_getElem? (i := 101) rfl))) (mvT hZ (hw _ (List.mem_of_getElem? (i := 102) rfl))) (notFace_of_selects (args := #[]) (mvT hZ (hw _ (List.mem_of_getElem? (i := 104) rfl)))) (mvT hZ (hw _ (List.mem_of_getElem? (i := 104) rfl))) (mvT hZ (hw _ (List.mem_of_getElem? (i := 103) rfl))) (by decide) (backOf (W := 0) (rmEx l Z a0 hw [] ad23 x0 T24.heap n0 Z0 F_version_ad23) hZ (hw _ (List.mem_of_getElem? (i := 105) rfl)) (hw _ (List.mem_of_getElem? (i := 56) rfl)) (by decide) (by decide)) q28a q28c (g := (mkF m 109 #[.val (.long x0), .second, .val (.int x1), .val (.int x2), .val (.int x3), .val (.ref ad1), .val (.ref ad4), .val (.ref ad6), .val (.ref ad23), .val (.int (1 : Int32))] [(.ref ad23)])) rfl (by rw [hml]; rfl) (Steps.refl _) (argsL := []) (rest := []) (lenOf own_pd6 rfl) rfl (by show 2 * 0 + _ ≤ _; exact Nat.le_of_eq rfl) (hb hby at_109) (fun _ _ => ⟨rfl, rfl, (by decide : 10 + 0 ≤ _), (by decide : 36 + 0 ≤ _)⟩)
        dsimp only [Pt.U, Pt.locs, Pt.cells, Pt.slots] at X28 l28 y28 z28 st28 hQ28
        subst l28 y28 z28
        obtain ⟨rfl, Nq28, e28⟩ := hQ28
        have e28 := e28.trans rfl
        have N28 := Fr.app N24 Nq28
        refine Go.of (fun _ k => st28.trans k) ?_
        show Go p e below T28 (mkF m 112 #[.val (.long x0), .second, .val (.int x1), .val (.int x2), .val (.int x3), .val (.ref ad1), .val (.ref ad4), .val (.ref ad6), .val (.ref ad23), .val (.int (1 : Int32))] [(.int (fEx x0))]) _
        refine Go.of (fun _ k => XS.iload X28.here hx rfl (hb hby at_112) rfl  k) ?_
        show Go p e below T28 (mkF m 114 #[.val (.long x0), .second, .val (.int x1), .val (.int x2), .val (.int x3), .val (.ref ad1), .val (.ref ad4), .val (.ref ad6), .val (.ref ad23), .val (.int (1 : Int32))] [(.int (1 : Int32)), (.int (fEx x0))]) _
        refine Go.of (fun _ k => XS.icmpYes X28.here hx rfl (pc0 := 114) (pc' := 119) rfl (hb hby at_114) rfl (teq (show (fEx x0) = (1 : Int32) from (own_e1 hc88_1 hc97_2))).1 (by decide) (by decide) k) ?_
        show Go p e below T28 (mkF m 119 #[.val (.long x0), .second, .val (.int x1), .val (.int x2), .val (.int x3), .val (.ref ad1), .val (.ref ad4), .val (.ref ad6), .val (.ref ad23), .val (.int (1 : Int32))] []) _
        refine Go.of (fun _ k => XS.aload X28.here hx rfl (hb hby at_119) rfl rfl  k) ?_
        show Go p e below T28 (mkF m 121 #[.val (.long x0), .second, .val (.int x1), .val (.int x2), .val (.int x3), .val (.ref ad1), .val (.ref ad4), .val (.ref ad6), .val (.ref ad23), .val (.int (1 : Int32))] [(.ref ad4)]) _
        obtain ⟨_, _, ⟨T29, L29, kq29, nq29⟩, -, X29, ⟨Lc29, hQ29, l29, y29, z29⟩, st29⟩ := Jvm.LawKit.callS X28 hx (y := (⟨"org/quorumweave/LogMetadata", "absent", "(Ljava/lang/String;)Lorg/quorumweave/LogMetadata;"⟩ : MethodName)) hown (mvT hZ (hw _ (List.mem_of_getElem? (i := 106) rfl))) (mvT hZ (hw _ (List.mem_of_getElem? (i := 107) rfl))) (mvT hZ (hw _ (List.mem_of_getElem? (i := 56) rfl))) (mvT hZ (hw _ (List.mem_of_getElem? (i := 108) rfl))) (by decide) (backOf (W := 0) (rmAbs l Z a0 hw [] ad4 j T24.heap n0 Z0 OL J) hZ (hw _ (List.mem_of_getElem? (i := 108) rfl)) (hw _ (List.mem_of_getElem? (i := 56) rfl)) (by decide) (by decide)) (g := (mkF m 121 #[.val (.long x0), .second, .val (.int x1), .val (.int x2), .val (.int x3), .val (.ref ad1), .val (.ref ad4), .val (.ref ad6), .val (.ref ad23), .val (.int (1 : Int32))] [(.ref ad4)])) rfl (by rw [hml]; rfl) (argsL := [(.ref ad4)]) (rest := []) (lenOf own_pd16 rfl) rfl (by show 2 * 0 + _ ≤ _; exact Nat.le_of_eq rfl) (hb hby at_121) (fun _ _ => ⟨rfl, e28, (by decide : 10 + 1 ≤ _), (by decide : 36 + 3 ≤ _)⟩)
        dsimp only [Pt.U, Pt.locs, Pt.cells, Pt.slots] at X29 l29 y29 z29 st29 hQ29
        subst l29 y29 z29
        obtain ⟨ab, rfl, Nq29, Kq29, fq29_0, fq29_1⟩ := hQ29
        have N29 := Fr.app N28 Nq29
        have Z0 := Nat.le_trans Z0 Kq29.1
        have OL := OL.keep Kq29 all0
        have V_ad1 := V_ad1.keep Kq29 nin0
        have E_ad4 := E_ad4.keep Kq29
        have E_ad6 := E_ad6.keep Kq29
        have E_ad19 := E_ad19.keep Kq29
        have F_modCount_ad19 := F_modCount_ad19.keep Kq29 nin0
        have F_elementData_ad19 := F_elementData_ad19.keep Kq29 nin0
        have F_size_ad19 := F_size_ad19.keep Kq29 nin0
        have E_sg := E_sg.keep Kq29
        have Fe := Fe.keep Kq29 nin0
        have Fs := Fs.keep Kq29 nin0
        have Vb := Vb.keep Kq29 nin0
        have E_b := E_b.keep Kq29
        have E_ad23 := E_ad23.keep Kq29
        have F_version_ad23 := F_version_ad23.keep Kq29 nin0
        have E_ab := fq29_0
        have F_version_ab := fq29_1
        refine Go.of (fun _ k => st29 _ k) ?_
        show Go p e below T29 (mkF m 124 #[.val (.long x0), .second, .val (.int x1), .val (.int x2), .val (.int x3), .val (.ref ad1), .val (.ref ad4), .val (.ref ad6), .val (.ref ad23), .val (.int (1 : Int32))] [(.ref ab)]) _
        obtain ⟨cq30, kq30, q30a, q30b, q30c⟩ := isOf hZ rfl E_ab
        obtain ⟨_, _, ⟨T30, L30, kq30, nq30⟩, -, X30, ⟨Lc30, hQ30, l30, y30, z30⟩, st30⟩ := X29.virtualBack hx (y := (⟨"org/quorumweave/LogMetadata", "exists", "()Z"⟩ : MethodName)) (z := (⟨"org/quorumweave/LogMetadata", "exists", "()Z"⟩ : MethodName)) hown (mvT hZ (hw _ (List.mem_of_getElem? (i := 101) rfl))) (mvT hZ (hw _ (List.mem_of_getElem? (i := 102) rfl))) (notFace_of_selects (args := #[]) (mvT hZ (hw _ (List.mem_of_getElem? (i := 104) rfl)))) (mvT hZ (hw _ (List.mem_of_getElem? (i := 104) rfl))) (mvT hZ (hw _ (List.mem_of_getElem? (i := 103) rfl))) (by decide) (backOf (W := 0) (rmEx l Z a0 hw [] ab (0 : Int64) T29.heap n0 Z0 F_version_ab) hZ (hw _ (List.mem_of_getElem? (i := 105) rfl)) (hw _ (List.mem_of_getElem? (i := 56) rfl)) (by decide) (by decide)) q30a q30c (g := (mkF m 124 #[.val (.long x0), .second, .val (.int x1), .val (.int x2), .val (.int x3), .val (.ref ad1), .val (.ref ad4), .val (.ref ad6), .val (.ref ad23), .val (.int (1 : Int32))] [(.ref ab)])) rfl (by rw [hml]; rfl) (Steps.refl _) (argsL := []) (rest := []) (lenOf own_pd6 rfl) rfl (by show 2 * 0 + _ ≤ _; exact Nat.le_of_eq rfl) (hb hby at_124) (fun _ _ => ⟨rfl, rfl, (by decide : 11 + 0 ≤ _), (by decide : 39 + 0 ≤ _)⟩)
        dsimp only [Pt.U, Pt.locs, Pt.cells, Pt.slots] at X30 l30 y30 z30 st30 hQ30
        subst l30 y30 z30
        obtain ⟨rfl, Nq30, e30⟩ := hQ30
        have e30 := e30.trans rfl
        have N30 := Fr.app N29 Nq30
        refine Go.of (fun _ k => st30.trans k) ?_
        show Go p e below T30 (mkF m 127 #[.val (.long x0), .second, .val (.int x1), .val (.int x2), .val (.int x3), .val (.ref ad1), .val (.ref ad4), .val (.ref ad6), .val (.ref ad23), .val (.int (1 : Int32))] [(.int (fEx (0 : Int64)))]) _
        refine Go.of (fun _ k => XS.ifYes X30.here hx rfl (pc0 := 127) (pc' := 132) rfl (hb hby at_127) rfl ((if0 _ _).trans (teq (show (fEx (0 : Int64)) = (0 : Int32) from (by decide))).1) (by decide) (by decide) k) ?_
        show Go p e below T30 (mkF m 132 #[.val (.long x0), .second, .val (.int x1), .val (.int x2), .val (.int x3), .val (.ref ad1), .val (.ref ad4), .val (.ref ad6), .val (.ref ad23), .val (.int (1 : Int32))] []) _
        refine Go.of (fun _ k => XS.iconst X30.here hx rfl (hb hby at_132) k) ?_
        show Go p e below T30 (mkF m 133 #[.val (.long x0), .second, .val (.int x1), .val (.int x2), .val (.int x3), .val (.ref ad1), .val (.ref ad4), .val (.ref ad6), .val (.ref ad23), .val (.int (1 : Int32))] [(.int (1 : Int32))]) _
        refine Go.retN X30 hx (t := .boolean) hret hlk (by simp) (hb hby at_133) e30 (by decide) (by decide) ?_
        exact ⟨rfl, N30⟩
      · refine Go.of (fun _ k => XS.ifYes X24.here hx rfl (pc0 := 97) (pc' := 104) rfl (hb hby at_97) rfl ((if0 _ _).trans (feq hc97_2).2) (by decide) (by decide) k) ?_
        show Go p e below T24 (mkF m 104 #[.val (.long x0), .second, .val (.int x1), .val (.int x2), .val (.int x3), .val (.ref ad1), .val (.ref ad4), .val (.ref ad6), .val (.ref ad23), .unset] []) _
        refine Go.of (fun _ k => XS.iconst X24.here hx rfl (hb hby at_104) k) ?_
        show Go p e below T24 (mkF m 105 #[.val (.long x0), .second, .val (.int x1), .val (.int x2), .val (.int x3), .val (.ref ad1), .val (.ref ad4), .val (.ref ad6), .val (.ref ad23), .unset] [(.int (0 : Int32))]) _
        refine Go.of (fun _ k => XS.istore X24.here hx rfl (hb hby at_105) rfl (l' := #[.val (.long x0), .second, .val (.int x1), .val (.int x2), .val (.int x3), .val (.ref ad1), .val (.ref ad4), .val (.ref ad6), .val (.ref ad23), .val (.int (0 : Int32))]) rfl k) ?_
        show Go p e below T24 (mkF m 107 #[.val (.long x0), .second, .val (.int x1), .val (.int x2), .val (.int x3), .val (.ref ad1), .val (.ref ad4), .val (.ref ad6), .val (.ref ad23), .val (.int (0 : Int32))] []) _
        refine Go.of (fun _ k => XS.aload X24.here hx rfl (hb hby at_107) rfl rfl  k) ?_
        show Go p e below T24 (mkF m 109 #[.val (.long x0), .second, .val (.int x1), .val (.int x2), .val (.int x3), .val (.ref ad1), .val (.ref ad4), .val (.ref ad6), .val (.ref ad23), .val (.int (0 : Int32))] [(.ref ad23)]) _
        obtain ⟨cq31, kq31, q31a, q31b, q31c⟩ := isOf hZ rfl E_ad23
        obtain ⟨_, _, ⟨T31, L31, kq31, nq31⟩, -, X31, ⟨Lc31, hQ31, l31, y31, z31⟩, st31⟩ := X24.virtualBack hx (y := (⟨"org/quorumweave/LogMetadata", "exists", "()Z"⟩ : MethodName)) (z := (⟨"org/quorumweave/LogMetadata", "exists", "()Z"⟩ : MethodName)) hown (mvT hZ (hw _ (List.mem_of_getElem? (i := 101) rfl))) (mvT hZ (hw _ (List.mem_of_getElem? (i := 102) rfl))) (notFace_of_selects (args := #[]) (mvT hZ (hw _ (List.mem_of_getElem? (i := 104) rfl)))) (mvT hZ (hw _ (List.mem_of_getElem? (i := 104) rfl))) (mvT hZ (hw _ (List.mem_of_getElem? (i := 103) rfl))) (by decide) (backOf (W := 0) (rmEx l Z a0 hw [] ad23 x0 T24.heap n0 Z0 F_version_ad23) hZ (hw _ (List.mem_of_getElem? (i := 105) rfl)) (hw _ (List.mem_of_getElem? (i := 56) rfl)) (by decide) (by decide)) q31a q31c (g := (mkF m 109 #[.val (.long x0), .second, .val (.int x1), .val (.int x2), .val (.int x3), .val (.ref ad1), .val (.ref ad4), .val (.ref ad6), .val (.ref ad23), .val (.int (0 : Int32))] [(.ref ad23)])) rfl (by rw [hml]; rfl) (Steps.refl _) (argsL := []) (rest := []) (lenOf own_pd6 rfl) rfl (by show 2 * 0 + _ ≤ _; exact Nat.le_of_eq rfl) (hb hby at_109) (fun _ _ => ⟨rfl, rfl, (by decide : 10 + 0 ≤ _), (by decide : 36 + 0 ≤ _)⟩)
        dsimp only [Pt.U, Pt.locs, Pt.cells, Pt.slots] at X31 l31 y31 z31 st31 hQ31
        subst l31 y31 z31
        obtain ⟨rfl, Nq31, e31⟩ := hQ31
        have e31 := e31.trans rfl
        have N31 := Fr.app N24 Nq31
        refine Go.of (fun _ k => st31.trans k) ?_
        show Go p e below T31 (mkF m 112 #[.val (.long x0), .second, .val (.int x1), .val (.int x2), .val (.int x3), .val (.ref ad1), .val (.ref ad4), .val (.ref ad6), .val (.ref ad23), .val (.int (0 : Int32))] [(.int (fEx x0))]) _
        refine Go.of (fun _ k => XS.iload X31.here hx rfl (hb hby at_112) rfl  k) ?_
        show Go p e below T31 (mkF m 114 #[.val (.long x0), .second, .val (.int x1), .val (.int x2), .val (.int x3), .val (.ref ad1), .val (.ref ad4), .val (.ref ad6), .val (.ref ad23), .val (.int (0 : Int32))] [(.int (0 : Int32)), (.int (fEx x0))]) _
        refine Go.of (fun _ k => XS.icmpYes X31.here hx rfl (pc0 := 114) (pc' := 119) rfl (hb hby at_114) rfl (teq (show (fEx x0) = (0 : Int32) from (own_e2 hc97_2))).1 (by decide) (by decide) k) ?_
        show Go p e below T31 (mkF m 119 #[.val (.long x0), .second, .val (.int x1), .val (.int x2), .val (.int x3), .val (.ref ad1), .val (.ref ad4), .val (.ref ad6), .val (.ref ad23), .val (.int (0 : Int32))] []) _
        refine Go.of (fun _ k => XS.aload X31.here hx rfl (hb hby at_119) rfl rfl  k) ?_
        show Go p e below T31 (mkF m 121 #[.val (.long x0), .second, .val (.int x1), .val (.int x2), .val (.int x3), .val (.ref ad1), .val (.ref ad4), .val (.ref ad6), .val (.ref ad23), .val (.int (0 : Int32))] [(.ref ad4)]) _
        obtain ⟨_, _, ⟨T32, L32, kq32, nq32⟩, -, X32, ⟨Lc32, hQ32, l32, y32, z32⟩, st32⟩ := Jvm.LawKit.callS X31 hx (y := (⟨"org/quorumweave/LogMetadata", "absent", "(Ljava/lang/String;)Lorg/quorumweave/LogMetadata;"⟩ : MethodName)) hown (mvT hZ (hw _ (List.mem_of_getElem? (i := 106) rfl))) (mvT hZ (hw _ (List.mem_of_getElem? (i := 107) rfl))) (mvT hZ (hw _ (List.mem_of_getElem? (i := 56) rfl))) (mvT hZ (hw _ (List.mem_of_getElem? (i := 108) rfl))) (by decide) (backOf (W := 0) (rmAbs l Z a0 hw [] ad4 j T24.heap n0 Z0 OL J) hZ (hw _ (List.mem_of_getElem? (i := 108) rfl)) (hw _ (List.mem_of_getElem? (i := 56) rfl)) (by decide) (by decide)) (g := (mkF m 121 #[.val (.long x0), .second, .val (.int x1), .val (.int x2), .val (.int x3), .val (.ref ad1), .val (.ref ad4), .val (.ref ad6), .val (.ref ad23), .val (.int (0 : Int32))] [(.ref ad4)])) rfl (by rw [hml]; rfl) (argsL := [(.ref ad4)]) (rest := []) (lenOf own_pd16 rfl) rfl (by show 2 * 0 + _ ≤ _; exact Nat.le_of_eq rfl) (hb hby at_121) (fun _ _ => ⟨rfl, e31, (by decide : 10 + 1 ≤ _), (by decide : 36 + 3 ≤ _)⟩)
        dsimp only [Pt.U, Pt.locs, Pt.cells, Pt.slots] at X32 l32 y32 z32 st32 hQ32
        subst l32 y32 z32
        obtain ⟨ab, rfl, Nq32, Kq32, fq32_0, fq32_1⟩ := hQ32
        have N32 := Fr.app N31 Nq32
        have Z0 := Nat.le_trans Z0 Kq32.1
        have OL := OL.keep Kq32 all0
        have V_ad1 := V_ad1.keep Kq32 nin0
        have E_ad4 := E_ad4.keep Kq32
        have E_ad6 := E_ad6.keep Kq32
        have E_ad19 := E_ad19.keep Kq32
        have F_modCount_ad19 := F_modCount_ad19.keep Kq32 nin0
        have F_elementData_ad19 := F_elementData_ad19.keep Kq32 nin0
        have F_size_ad19 := F_size_ad19.keep Kq32 nin0
        have E_sg := E_sg.keep Kq32
        have Fe := Fe.keep Kq32 nin0
        have Fs := Fs.keep Kq32 nin0
        have Vb := Vb.keep Kq32 nin0
        have E_b := E_b.keep Kq32
        have E_ad23 := E_ad23.keep Kq32
        have F_version_ad23 := F_version_ad23.keep Kq32 nin0
        have E_ab := fq32_0
        have F_version_ab := fq32_1
        refine Go.of (fun _ k => st32 _ k) ?_
        show Go p e below T32 (mkF m 124 #[.val (.long x0), .second, .val (.int x1), .val (.int x2), .val (.int x3), .val (.ref ad1), .val (.ref ad4), .val (.ref ad6), .val (.ref ad23), .val (.int (0 : Int32))] [(.ref ab)]) _
        obtain ⟨cq33, kq33, q33a, q33b, q33c⟩ := isOf hZ rfl E_ab
        obtain ⟨_, _, ⟨T33, L33, kq33, nq33⟩, -, X33, ⟨Lc33, hQ33, l33, y33, z33⟩, st33⟩ := X32.virtualBack hx (y := (⟨"org/quorumweave/LogMetadata", "exists", "()Z"⟩ : MethodName)) (z := (⟨"org/quorumweave/LogMetadata", "exists", "()Z"⟩ : MethodName)) hown (mvT hZ (hw _ (List.mem_of_getElem? (i := 101) rfl))) (mvT hZ (hw _ (List.mem_of_getElem? (i := 102) rfl))) (notFace_of_selects (args := #[]) (mvT hZ (hw _ (List.mem_of_getElem? (i := 104) rfl)))) (mvT hZ (hw _ (List.mem_of_getElem? (i := 104) rfl))) (mvT hZ (hw _ (List.mem_of_getElem? (i := 103) rfl))) (by decide) (backOf (W := 0) (rmEx l Z a0 hw [] ab (0 : Int64) T32.heap n0 Z0 F_version_ab) hZ (hw _ (List.mem_of_getElem? (i := 105) rfl)) (hw _ (List.mem_of_getElem? (i := 56) rfl)) (by decide) (by decide)) q33a q33c (g := (mkF m 124 #[.val (.long x0), .second, .val (.int x1), .val (.int x2), .val (.int x3), .val (.ref ad1), .val (.ref ad4), .val (.ref ad6), .val (.ref ad23), .val (.int (0 : Int32))] [(.ref ab)])) rfl (by rw [hml]; rfl) (Steps.refl _) (argsL := []) (rest := []) (lenOf own_pd6 rfl) rfl (by show 2 * 0 + _ ≤ _; exact Nat.le_of_eq rfl) (hb hby at_124) (fun _ _ => ⟨rfl, rfl, (by decide : 11 + 0 ≤ _), (by decide : 39 + 0 ≤ _)⟩)
        dsimp only [Pt.U, Pt.locs, Pt.cells, Pt.slots] at X33 l33 y33 z33 st33 hQ33
        subst l33 y33 z33
        obtain ⟨rfl, Nq33, e33⟩ := hQ33
        have e33 := e33.trans rfl
        have N33 := Fr.app N32 Nq33
        refine Go.of (fun _ k => st33.trans k) ?_
        show Go p e below T33 (mkF m 127 #[.val (.long x0), .second, .val (.int x1), .val (.int x2), .val (.int x3), .val (.ref ad1), .val (.ref ad4), .val (.ref ad6), .val (.ref ad23), .val (.int (0 : Int32))] [(.int (fEx (0 : Int64)))]) _
        refine Go.of (fun _ k => XS.ifYes X33.here hx rfl (pc0 := 127) (pc' := 132) rfl (hb hby at_127) rfl ((if0 _ _).trans (teq (show (fEx (0 : Int64)) = (0 : Int32) from (by decide))).1) (by decide) (by decide) k) ?_
        show Go p e below T33 (mkF m 132 #[.val (.long x0), .second, .val (.int x1), .val (.int x2), .val (.int x3), .val (.ref ad1), .val (.ref ad4), .val (.ref ad6), .val (.ref ad23), .val (.int (0 : Int32))] []) _
        refine Go.of (fun _ k => XS.iconst X33.here hx rfl (hb hby at_132) k) ?_
        show Go p e below T33 (mkF m 133 #[.val (.long x0), .second, .val (.int x1), .val (.int x2), .val (.int x3), .val (.ref ad1), .val (.ref ad4), .val (.ref ad6), .val (.ref ad23), .val (.int (0 : Int32))] [(.int (1 : Int32))]) _
        refine Go.retN X33 hx (t := .boolean) hret hlk (by simp) (hb hby at_133) e33 (by decide) (by decide) ?_
        exact ⟨rfl, N33⟩
set_option maxRecDepth 65536 in
set_option maxHeartbeats 40000000 in
theorem comes_1 {Post : Tables → Env → Array Value → State → Outcome → State → Prop} (hpost : ∀ tb e args s v u, (limb_1_1.after args s (.returned v) u = true ∧ limb_1_2.after args s (.returned v) u = true ∧ True) → FrameEnd s (.returned v) u (Jvm.fieldLocs frame_1_writes args s ++ Jvm.arrayLocs frame_1_arrays args s ++ Jvm.staticLocs frame_1_statics s) 32 192 → Post tb e args s (.returned v) u) :
    ArmFor flags0 classFile x code maxLocals ret World_1 tables_1 room_1 Calls_1 rest_1 Pre_1 Post := by
  intro l hfl _ _ p e ha hc hk s m args below hf hA hF happ hP
  obtain ⟨hcalls, hrest, hpre⟩ := hP
  obtain ⟨-, -, -, hnamed, -, -, -, hat⟩ := (Spec.applies_iff hf).mp happ
  obtain ⟨hg, hn⟩ := and_e (Cond.before_iff.mp (show (Jvm.Cond.and given_1 narrow_1).before args s = true from hpre))
  obtain ⟨g1, g2⟩ := and_e hg
  obtain ⟨g3, g4⟩ := and_e g2
  obtain ⟨g5, g6⟩ := and_e g4
  obtain ⟨g7, g8⟩ := and_e g6
  obtain ⟨w0, w1, w2, w3, rfl⟩ : ∃ w0 w1 w2 w3 : Value, args = #[w0, w1, w2, w3] := by
    have hs : args.size = 4 := by simpa [Cond.value, given_1] using g1
    obtain ⟨L⟩ := args
    match L, hs with
    | [w0, w1, w2, w3], _ => exact ⟨w0, w1, w2, w3, rfl⟩
  have hw := fun d (hd : d ∈ tables_1) => atoms_spec (ws := Jvm.Cond.code x code maxLocals ret :: tables_1) hat d (List.mem_cons_of_mem _ hd)
  have hfit : Fit s := fun {y c} hc i hi => by
    obtain ⟨ha, rfl⟩ := Array.getElem?_eq_some_iff.mp hc
    have q := List.all_eq_true.mp ((Array.all_eq_true_iff_forall_mem.mp hF) _ (Array.getElem_mem ha)) i (List.mem_range.mpr hi)
    simpa [Array.getElem?_eq_getElem hi] using q
  obtain ⟨i0, ei0⟩ := isL_v g3
  obtain rfl : w0 = (.long i0) := Option.some.inj ei0
  obtain ⟨i1, ei1⟩ := is_v g5
  obtain rfl : w1 = (.int i1) := Option.some.inj ei1
  obtain ⟨i2, ei2⟩ := is_v g7
  obtain rfl : w2 = (.int i2) := Option.some.inj ei2
  obtain ⟨i3, ei3⟩ := is_v g8
  obtain rfl : w3 = (.int i3) := Option.some.inj ei3
  obtain ⟨hsets, hown0⟩ := atoms_of _ (rest_1_c_eq ▸ (show rest_1_c.before _ s = true from hrest))
  obtain ⟨zc, ezc⟩ := is_v (Cond.before_iff.mp (hsets _ (List.mem_of_getElem? (i := 1) rfl)))
  have O2 : Sta s s.heap "java/lang/String" "COMPACT_STRINGS" "Z" (.int zc) := Sta.start ezc (Or.inl (hsets _ (List.mem_of_getElem? (i := 0) rfl)))
  have hzc : ¬ (zc = (0 : Int32)) := gotF (Cond.eq_ints ezc (Term.int_eval (0))) (not_v (Cond.before_iff.mp (hsets _ (List.mem_of_getElem? (i := 2) rfl))))
  obtain ⟨aD, eD⟩ := arr_v (Cond.before_iff.mp (hsets _ (List.mem_of_getElem? (i := 15) rfl)))
  obtain ⟨clD, AD⟩ := Arr.start eD (Cond.before_iff.mp (hsets _ (List.mem_of_getElem? (i := 15) rfl)))
  have sD := Sta.start eD (Or.inr ⟨(hw _ (List.mem_of_getElem? (i := 32) rfl)), (hsets _ (List.mem_of_getElem? (i := 11) rfl))⟩)
  obtain ⟨SD, nD⟩ := own_len eD AD (eqv_i (Term.int_eval 0) (Cond.before_iff.mp (hsets _ (List.mem_of_getElem? (i := 17) rfl))))
  obtain ⟨aE, eE⟩ := exa_v (Cond.before_iff.mp (hsets _ (List.mem_of_getElem? (i := 20) rfl)))
  have EE := Exa.start eE (Cond.before_iff.mp (hsets _ (List.mem_of_getElem? (i := 20) rfl)))
  have sE := Sta.start eE (Or.inl (hsets _ (List.mem_of_getElem? (i := 19) rfl)))
  have AN := Fld.start ((fld_at eE).symm.trans (eqv_i (Term.int_eval 0) (Cond.before_iff.mp (hsets _ (List.mem_of_getElem? (i := 24) rfl)))))
  obtain ⟨aX, eX⟩ := exa_v (Cond.before_iff.mp (hsets _ (List.mem_of_getElem? (i := 27) rfl)))
  have sX := Sta.start eX (Or.inl (hsets _ (List.mem_of_getElem? (i := 26) rfl)))
  obtain ⟨aO, eO⟩ := exa_v hn
  have sO := Sta.start eO (Or.inr ⟨(hw _ (List.mem_of_getElem? (i := 127) rfl)), (hw _ (List.mem_of_getElem? (i := 128) rfl))⟩)
  obtain ⟨mc, mk, mO, mm⟩ := hcalls.1
  have J : JS s (fun i => match i with | 0 => aD | 1 => aE | 2 => aX | 3 => aO | _ => mO) := ⟨sD, ⟨_, clD, AD, rfl, SD, nD, fun i hi => absurd (Nat.lt_of_lt_of_eq hi SD) (Nat.not_lt_zero i), fun i hi => absurd (Nat.lt_of_lt_of_eq hi SD) (Nat.not_lt_zero i)⟩, sE, EE, AN, sX, sO, ⟨mc, mk, mm.1, mm.2.1, mm.2.2.1⟩⟩
  obtain ⟨n, o, h1, h2, h3, _, L, rfl, ⟨rfl, N⟩, hq⟩ := rm0 l s _ hw tables_1 i0 i1 i2 i3 zc _ s.heap s.heap.size (Nat.le_refl _) (Old.start s) O2 hzc J p e ha hc hk s m _ below hf ((Spec.applies_iff_loose hf).mp happ).1 ⟨rfl, State.Warmed39.refl s, rfl⟩ trivial
  refine ⟨n, _, h1, h2, h3, hpost _ _ _ _ _ _ ⟨Cond.after_iff.mpr rfl, Cond.after_iff.mpr (eq_i res_at (Term.int_eval (1)) rfl), trivial⟩ ⟨hq.1, hq.2.1, (hq.2.2.sift fun y hy => Or.inr (N y hy)).mono (by decide) (by decide)⟩⟩
theorem main_1_1 : Claimed_1_1 := comes_1 fun _ _ _ _ _ _ h hF => ⟨h.1, hF⟩
theorem main_1_2 : Claimed_1_2 := comes_1 fun _ _ _ _ _ _ h hF => ⟨h.2.1, hF⟩
end Jvm.Pilot.@@N@@
namespace Jvm.Pilot.@@N@@
open Jvm Jvm.ClassFile Sem Op Lib Jvm.Free Jvm.Stand Jvm.Pilot.@@N@@.Jvm.D
/-! MADE BY PROGRAM (witnessworld.py) out of the Statement's table words and the real class files: 43 classes; the members and pool entries that the words name. The judged class is class 1, her method 1. -/
namespace start1
open Jvm.ClassFile
def u (s : String) : CpInfo := .utf8 (stringToUtf16 s)
/-- a pool by its gaps: so many unusable entries, then the entry; so many at the end -/
def gap : Nat → List CpInfo → List CpInfo
  | 0, r => r
  | n + 1, r => .unusable :: gap n r
def poolList (es : List (Nat × CpInfo)) (last : Nat) : List CpInfo := es.foldr (fun e r => gap e.1 (e.2 :: r)) (gap last [])
def pool (es : List (Nat × CpInfo)) (last : Nat) : Array CpInfo := ⟨poolList es last⟩
def fileOf (pool : Array CpInfo) (this : Nat) (attrs : Array Attribute := #[]) (ms : Array MethodInfo := #[]) (fl : Nat := 33) (sup : Nat := 0) (ifs : Array Nat := #[]) (fds : Array FieldInfo := #[]) : ClassFile where
  minorVersion := 0
  majorVersion := 65
  constantPool := pool
  accessFlags := fl
  thisClass := this
  superClass := sup
  interfaces := ifs
  fields := fds
  methods := ms
  attributes := attrs
def plain (name : String) (sup : Option ClassId) : Class where
  name := name
  kind := .ordinary
  loader := none
  accessFlags := 33
  super := sup
  interfaces := #[]
  cf := none
  fields := #[]
  methods := #[]
  instanceTypes := #[]
  staticTypes := #[]
  resolved := #[]
  callSites := []
  init := .initialized
  statics := none
  mirror := none

def pool0 : Array CpInfo := pool [(5, u "<init>"), (0, u "()V"), (1, .class_ 10), (1, u "java/lang/Object"), (0, u "getClass"), (0, u "()Ljava/lang/Class;")] 111

def k0c0 : Code := { maxStack := 0, maxLocals := 1, code := object_method_1_code, exceptionTable := #[], attributes := #[] }
def k0m0 : Method := { name := "<init>", desc := "()V", sig := { parameters := [], returnType := none }, accessFlags := 1, code := some k0c0 }
def k0m1 : Method := { name := "getClass", desc := "()Ljava/lang/Class;", sig := { parameters := [], returnType := some (.object "java/lang/Class") }, accessFlags := 273, code := none }
/-- java/lang/Object -/
def k0 : Class := { plain "java/lang/Object" none with
  accessFlags := 33
  interfaces := #[]
  cf := some (fileOf pool0 8 #[] #[{ accessFlags := 1, nameIndex := 5, descriptorIndex := 6, attributes := #[] }, { accessFlags := 273, nameIndex := 11, descriptorIndex := 12, attributes := #[] }] 33 0 #[] #[])
  fields := #[]
  methods := #[k0m0, k0m1]
  instanceTypes := #[]
  staticTypes := #[]
  resolved := Array.replicate 124 none
  statics := none }

def pool1 : Array CpInfo := pool [(2, .class_ 4), (0, .nameAndType 5 6), (0, u "java/lang/Object"), (0, u "<init>"), (0, u "()V"), (0, .class_ 8), (0, u "java/lang/String"), (0, .methodref 7 10), (0, .nameAndType 5 11), (0, u "([C)V"), (0, .class_ 13), (0, u "java/util/ArrayList"), (0, .methodref 12 3), (0, .methodref 16 17), (0, .class_ 18), (0, .nameAndType 19 20), (0, u "org/quorumweave/Segment"), (0, u "open"), (0, u "(JLjava/util/List;II)Lorg/quorumweave/Segment;"), (0, .methodref 12 22), (0, .nameAndType 23 24), (0, u "add"), (0, u "(Ljava/lang/Object;)Z"), (0, .class_ 26), (0, u "org/quorumweave/LogMetadata"), (0, .methodref 25 28), (0, .nameAndType 5 29), (0, u "(Ljava/lang/String;JLjava/util/List;)V"), (0, .methodref 25 31), (0, .nameAndType 32 33), (0, u "exists"), (0, u "()Z"), (0, .methodref 25 35), (0, .nameAndType 36 37), (0, u "absent"), (0, u "(Ljava/lang/String;)Lorg/quorumweave/LogMetadata;"), (0, .class_ 39), (0, u "org/quorumweave/LogMetadataExistsPinLaw"), (2, u "law"), (0, u "(JIII)Z")] 5

def k1m0 : Method := { name := "<init>", desc := "()V", sig := { parameters := [], returnType := none }, accessFlags := 2, code := none }
def k1c1 : Code := { maxStack := 6, maxLocals := 10, code := code, exceptionTable := #[], attributes := #[] }
def k1m1 : Method := { name := "law", desc := "(JIII)Z", sig := { parameters := [.long, .int, .int, .int], returnType := some .boolean }, accessFlags := 9, code := some k1c1 }
/-- org/quorumweave/LogMetadataExistsPinLaw -/
def k1 : Class := { plain "org/quorumweave/LogMetadataExistsPinLaw" (some 0) with
  accessFlags := 49
  interfaces := #[]
  cf := some (fileOf pool1 38 #[] #[{ accessFlags := 2, nameIndex := 5, descriptorIndex := 6, attributes := #[] }, { accessFlags := 9, nameIndex := 42, descriptorIndex := 43, attributes := #[] }] 49 2 #[] #[])
  fields := #[]
  methods := #[k1m0, k1m1]
  instanceTypes := #[]
  staticTypes := #[]
  resolved := Array.replicate 49 none
  statics := none }

def pool2 : Array CpInfo := pool [(1, .class_ 2), (0, u "java/io/Serializable"), (0, .class_ 4), (0, u "java/lang/Object")] 2

/-- java/io/Serializable -/
def k2 : Class := { plain "java/io/Serializable" (some 0) with
  accessFlags := 1537
  interfaces := #[]
  cf := some (fileOf pool2 1 #[] #[] 1537 3 #[] #[])
  fields := #[]
  methods := #[]
  instanceTypes := #[]
  staticTypes := #[]
  resolved := Array.replicate 7 none
  statics := none }

def pool3 : Array CpInfo := pool [(1, .class_ 2), (0, u "java/lang/Comparable"), (0, .class_ 4), (0, u "java/lang/Object")] 7

/-- java/lang/Comparable -/
def k3 : Class := { plain "java/lang/Comparable" (some 0) with
  accessFlags := 1537
  interfaces := #[]
  cf := some (fileOf pool3 1 #[] #[] 1537 3 #[] #[])
  fields := #[]
  methods := #[]
  instanceTypes := #[]
  staticTypes := #[]
  resolved := Array.replicate 12 none
  statics := none }

def pool4 : Array CpInfo := pool [(2, .class_ 4), (1, u "java/lang/CharSequence"), (42, .class_ 48), (0, u "java/lang/CharSequence$1CodePointIterator"), (10, .class_ 60), (0, u "java/lang/CharSequence$1CharIterator"), (5, .class_ 67), (0, u "java/lang/Object")] 63

/-- java/lang/CharSequence -/
def k4 : Class := { plain "java/lang/CharSequence" (some 0) with
  accessFlags := 1537
  interfaces := #[]
  cf := some (fileOf pool4 2 #[.nestMembers #[47, 59]] #[] 1537 66 #[] #[])
  fields := #[]
  methods := #[]
  instanceTypes := #[]
  staticTypes := #[]
  resolved := Array.replicate 131 none
  statics := none }

def pool5 : Array CpInfo := pool [(1, .class_ 2), (0, u "java/lang/constant/Constable"), (0, .class_ 4), (0, u "java/lang/Object")] 6

/-- java/lang/constant/Constable -/
def k5 : Class := { plain "java/lang/constant/Constable" (some 0) with
  accessFlags := 1537
  interfaces := #[]
  cf := some (fileOf pool5 1 #[] #[] 1537 3 #[] #[])
  fields := #[]
  methods := #[]
  instanceTypes := #[]
  staticTypes := #[]
  resolved := Array.replicate 11 none
  statics := none }

def pool6 : Array CpInfo := pool [(1, .class_ 2), (0, u "java/lang/constant/ConstantDesc"), (0, .class_ 4), (0, u "java/lang/Object")] 32

/-- java/lang/constant/ConstantDesc -/
def k6 : Class := { plain "java/lang/constant/ConstantDesc" (some 0) with
  accessFlags := 1537
  interfaces := #[]
  cf := some (fileOf pool6 1 #[] #[] 1537 3 #[] #[])
  fields := #[]
  methods := #[]
  instanceTypes := #[]
  staticTypes := #[]
  resolved := Array.replicate 37 none
  statics := none }

def pool7 : Array CpInfo := pool [(1, .methodref 2 3), (0, .class_ 4), (0, .nameAndType 5 6), (0, u "java/lang/Object"), (0, u "<init>"), (0, u "()V"), (2, .fieldref 10 11), (0, .class_ 12), (0, .nameAndType 13 14), (0, u "java/lang/String"), (0, u "value"), (0, u "[B"), (0, .fieldref 10 16), (0, .nameAndType 17 18), (0, u "coder"), (0, u "B"), (2, u "hash"), (0, u "I"), (2, u "hashIsZero"), (0, u "Z"), (0, .methodref 10 28), (0, .nameAndType 5 29), (0, u "([CIILjava/lang/Void;)V"), (8, .fieldref 10 39), (0, .nameAndType 40 26), (0, u "COMPACT_STRINGS"), (1, .class_ 44), (1, u "java/lang/StringUTF16"), (0, u "compress"), (1, .methodref 42 48), (0, .nameAndType 49 50), (0, u "coderFromArrayLen"), (0, u "([BI)B"), (126, .methodref 42 178), (0, .nameAndType 45 179), (0, u "([CII)[B"), (395, .class_ 576), (0, u "java/lang/CharSequence"), (22, u "CASE_INSENSITIVE_ORDER"), (0, u "Ljava/util/Comparator;"), (409, u "([C)V"), (90, u "serialPersistentFields"), (0, u "[Ljava/io/ObjectStreamField;"), (0, .class_ 1104), (0, u "java/lang/String$CaseInsensitiveComparator"), (1, .class_ 1107), (0, u "java/io/Serializable"), (0, .class_ 1109), (0, u "java/lang/Comparable"), (0, .class_ 1111), (0, u "java/lang/constant/Constable"), (0, .class_ 1113), (0, u "java/lang/constant/ConstantDesc"), (2, u "serialVersionUID"), (0, u "J"), (3, u "REPL"), (0, u "C"), (2, u "LATIN1"), (1, u "UTF16")] 323

def k7m0 : Method := { name := "<init>", desc := "()V", sig := { parameters := [], returnType := none }, accessFlags := 1, code := none }
def k7c1 : Code := { maxStack := 5, maxLocals := 2, code := jdk_42_method_3_code, exceptionTable := #[], attributes := #[] }
def k7m1 : Method := { name := "<init>", desc := "([C)V", sig := { parameters := [(.array .char)], returnType := none }, accessFlags := 1, code := some k7c1 }
def k7c2 : Code := { maxStack := 4, maxLocals := 6, code := jdk_42_method_149_code, exceptionTable := #[], attributes := #[] }
def k7m2 : Method := { name := "<init>", desc := "([CIILjava/lang/Void;)V", sig := { parameters := [(.array .char), .int, .int, (.object "java/lang/Void")], returnType := none }, accessFlags := 2, code := some k7c2 }
/-- java/lang/String -/
def k7 : Class := { plain "java/lang/String" (some 0) with
  accessFlags := 49
  interfaces := #[2, 3, 4, 5, 6]
  cf := some (fileOf pool7 10 #[.nestMembers #[1103]] #[{ accessFlags := 1, nameIndex := 5, descriptorIndex := 6, attributes := #[] }, { accessFlags := 1, nameIndex := 5, descriptorIndex := 1010, attributes := #[] }, { accessFlags := 2, nameIndex := 5, descriptorIndex := 29, attributes := #[] }] 49 2 #[1106, 1108, 575, 1110, 1112] #[{ accessFlags := 18, nameIndex := 13, descriptorIndex := 14, attributes := #[] }, { accessFlags := 18, nameIndex := 17, descriptorIndex := 18, attributes := #[] }, { accessFlags := 2, nameIndex := 21, descriptorIndex := 22, attributes := #[] }, { accessFlags := 2, nameIndex := 25, descriptorIndex := 26, attributes := #[] }, { accessFlags := 26, nameIndex := 1116, descriptorIndex := 1117, attributes := #[] }, { accessFlags := 24, nameIndex := 40, descriptorIndex := 26, attributes := #[] }, { accessFlags := 26, nameIndex := 1101, descriptorIndex := 1102, attributes := #[] }, { accessFlags := 26, nameIndex := 1121, descriptorIndex := 1122, attributes := #[] }, { accessFlags := 25, nameIndex := 599, descriptorIndex := 600, attributes := #[] }, { accessFlags := 24, nameIndex := 1125, descriptorIndex := 18, attributes := #[] }, { accessFlags := 24, nameIndex := 1127, descriptorIndex := 18, attributes := #[] }])
  fields := #[{ name := "value", type := (.array .byte), accessFlags := 18, slot := 0, constantValue := 0 }, { name := "coder", type := .byte, accessFlags := 18, slot := 1, constantValue := 0 }, { name := "hash", type := .int, accessFlags := 2, slot := 2, constantValue := 0 }, { name := "hashIsZero", type := .boolean, accessFlags := 2, slot := 3, constantValue := 0 }, { name := "serialVersionUID", type := .long, accessFlags := 26, slot := 0, constantValue := 0 }, { name := "COMPACT_STRINGS", type := .boolean, accessFlags := 24, slot := 1, constantValue := 0 }, { name := "serialPersistentFields", type := (.array (.object "java/io/ObjectStreamField")), accessFlags := 26, slot := 2, constantValue := 0 }, { name := "REPL", type := .char, accessFlags := 26, slot := 3, constantValue := 0 }, { name := "CASE_INSENSITIVE_ORDER", type := (.object "java/util/Comparator"), accessFlags := 25, slot := 4, constantValue := 0 }, { name := "LATIN1", type := .byte, accessFlags := 24, slot := 5, constantValue := 0 }, { name := "UTF16", type := .byte, accessFlags := 24, slot := 6, constantValue := 0 }]
  methods := #[k7m0, k7m1, k7m2]
  instanceTypes := #[(.array .byte), .byte, .int, .boolean]
  staticTypes := #[.long, .boolean, (.array (.object "java/io/ObjectStreamField")), .char, (.object "java/util/Comparator"), .byte, .byte]
  resolved := Array.replicate 1451 none
  statics := some 0 }

def pool8 : Array CpInfo := pool [(6, .class_ 8), (1, u "java/lang/Object"), (0, u "<init>"), (0, u "()V"), (1, .class_ 14), (1, u "java/lang/StringUTF16"), (31, u "$assertionsDisabled"), (0, u "Z"), (13, u "HI_BYTE_SHIFT"), (0, u "I"), (2, u "LO_BYTE_SHIFT"), (49, .methodref 12 116), (0, .nameAndType 117 118), (0, u "compress"), (0, u "([CI[BII)I"), (3, u "([CII)[B"), (138, u "coderFromArrayLen"), (0, u "([BI)B"), (106, .class_ 371), (1, u "java/lang/StringUTF16$LinesSpliterator"), (58, u "MAX_LENGTH"), (196, .class_ 628), (0, u "java/lang/StringUTF16$CodePointsSpliterator"), (0, .class_ 630), (0, u "java/lang/StringUTF16$CharsSpliterator")] 4

def k8m0 : Method := { name := "<init>", desc := "()V", sig := { parameters := [], returnType := none }, accessFlags := 0, code := none }
def k8c1 : Code := { maxStack := 2, maxLocals := 2, code := jdk_52_method_15_code, exceptionTable := #[], attributes := #[] }
def k8m1 : Method := { name := "coderFromArrayLen", desc := "([BI)B", sig := { parameters := [(.array .byte), .int], returnType := some .byte }, accessFlags := 8, code := some k8c1 }
def k8c2 : Code := { maxStack := 5, maxLocals := 6, code := jdk_52_method_16_code, exceptionTable := #[], attributes := #[] }
def k8m2 : Method := { name := "compress", desc := "([CII)[B", sig := { parameters := [(.array .char), .int, .int], returnType := some (.array .byte) }, accessFlags := 9, code := some k8c2 }
def k8c3 : Code := { maxStack := 3, maxLocals := 7, code := jdk_52_method_21_code, exceptionTable := #[], attributes := #[] }
def k8m3 : Method := { name := "compress", desc := "([CI[BII)I", sig := { parameters := [(.array .char), .int, (.array .byte), .int, .int], returnType := some .int }, accessFlags := 9, code := some k8c3 }
/-- java/lang/StringUTF16 -/
def k8 : Class := { plain "java/lang/StringUTF16" (some 0) with
  accessFlags := 48
  interfaces := #[]
  cf := some (fileOf pool8 12 #[.nestMembers #[627, 629, 369]] #[{ accessFlags := 0, nameIndex := 9, descriptorIndex := 10, attributes := #[] }, { accessFlags := 8, nameIndex := 261, descriptorIndex := 262, attributes := #[] }, { accessFlags := 9, nameIndex := 117, descriptorIndex := 122, attributes := #[] }, { accessFlags := 9, nameIndex := 117, descriptorIndex := 118, attributes := #[] }] 48 6 #[] #[{ accessFlags := 26, nameIndex := 61, descriptorIndex := 62, attributes := #[] }, { accessFlags := 26, nameIndex := 65, descriptorIndex := 62, attributes := #[] }, { accessFlags := 24, nameIndex := 430, descriptorIndex := 62, attributes := #[] }, { accessFlags := 4120, nameIndex := 46, descriptorIndex := 47, attributes := #[] }])
  fields := #[{ name := "HI_BYTE_SHIFT", type := .int, accessFlags := 26, slot := 0, constantValue := 0 }, { name := "LO_BYTE_SHIFT", type := .int, accessFlags := 26, slot := 1, constantValue := 0 }, { name := "MAX_LENGTH", type := .int, accessFlags := 24, slot := 2, constantValue := 0 }, { name := "$assertionsDisabled", type := .boolean, accessFlags := 4120, slot := 3, constantValue := 0 }]
  methods := #[k8m0, k8m1, k8m2, k8m3]
  instanceTypes := #[]
  staticTypes := #[.int, .int, .int, .boolean]
  resolved := Array.replicate 635 none
  statics := none }

def pool9 : Array CpInfo := pool [(8, .class_ 10), (1, u "java/lang/Iterable"), (24, .class_ 36), (0, u "java/lang/Object")] 25

/-- java/lang/Iterable -/
def k9 : Class := { plain "java/lang/Iterable" (some 0) with
  accessFlags := 1537
  interfaces := #[]
  cf := some (fileOf pool9 8 #[] #[] 1537 35 #[] #[])
  fields := #[]
  methods := #[]
  instanceTypes := #[]
  staticTypes := #[]
  resolved := Array.replicate 62 none
  statics := none }

def pool10 : Array CpInfo := pool [(10, .class_ 12), (1, u "java/util/Collection"), (0, u "toArray"), (16, u "()Z"), (29, .class_ 61), (0, u "java/lang/Object"), (0, .class_ 63), (0, u "java/lang/Iterable"), (2, u "isEmpty"), (3, u "()[Ljava/lang/Object;")] 44

def k10m0 : Method := { name := "isEmpty", desc := "()Z", sig := { parameters := [], returnType := some .boolean }, accessFlags := 1025, code := none }
def k10m1 : Method := { name := "toArray", desc := "()[Ljava/lang/Object;", sig := { parameters := [], returnType := some (.array (.object "java/lang/Object")) }, accessFlags := 1025, code := none }
/-- java/util/Collection -/
def k10 : Class := { plain "java/util/Collection" (some 0) with
  accessFlags := 1537
  interfaces := #[9]
  cf := some (fileOf pool10 10 #[] #[{ accessFlags := 1025, nameIndex := 66, descriptorIndex := 30, attributes := #[] }, { accessFlags := 1025, nameIndex := 13, descriptorIndex := 70, attributes := #[] }] 1537 60 #[62] #[])
  fields := #[]
  methods := #[k10m0, k10m1]
  instanceTypes := #[]
  staticTypes := #[]
  resolved := Array.replicate 115 none
  statics := none }

def pool11 : Array CpInfo := pool [(1, .methodref 2 3), (0, .class_ 4), (0, .nameAndType 5 6), (0, u "java/lang/Object"), (0, u "<init>"), (0, u "()V"), (1, .class_ 10), (1, u "java/util/AbstractCollection"), (66, .class_ 78), (0, u "java/util/Collection")] 81

def k11c0 : Code := { maxStack := 1, maxLocals := 1, code := jdk_22_method_1_code, exceptionTable := #[], attributes := #[] }
def k11m0 : Method := { name := "<init>", desc := "()V", sig := { parameters := [], returnType := none }, accessFlags := 4, code := some k11c0 }
/-- java/util/AbstractCollection -/
def k11 : Class := { plain "java/util/AbstractCollection" (some 0) with
  accessFlags := 1057
  interfaces := #[10]
  cf := some (fileOf pool11 8 #[] #[{ accessFlags := 4, nameIndex := 5, descriptorIndex := 6, attributes := #[] }] 1057 2 #[77] #[])
  fields := #[]
  methods := #[k11m0]
  instanceTypes := #[]
  staticTypes := #[]
  resolved := Array.replicate 160 none
  statics := none }

def pool12 : Array CpInfo := pool [(8, .class_ 10), (1, u "java/util/SequencedCollection"), (15, .class_ 27), (0, u "java/lang/Object"), (0, .class_ 29), (0, u "java/util/Collection")] 27

/-- java/util/SequencedCollection -/
def k12 : Class := { plain "java/util/SequencedCollection" (some 0) with
  accessFlags := 1537
  interfaces := #[10]
  cf := some (fileOf pool12 8 #[] #[] 1537 26 #[28] #[])
  fields := #[]
  methods := #[]
  instanceTypes := #[]
  staticTypes := #[]
  resolved := Array.replicate 57 none
  statics := none }

def pool13 : Array CpInfo := pool [(8, .class_ 10), (1, u "java/util/List"), (20, u "(Ljava/lang/Object;)V"), (16, u "<init>"), (39, u "of"), (1, .fieldref 91 92), (0, .class_ 93), (0, .nameAndType 94 95), (0, u "java/util/ImmutableCollections"), (0, u "EMPTY_LIST"), (0, u "Ljava/util/ImmutableCollections$ListN;"), (0, .class_ 97), (0, u "java/util/ImmutableCollections$List12"), (0, .methodref 96 99), (0, .nameAndType 48 31), (3, .class_ 104), (0, u "java/lang/Object"), (3, u "([Ljava/lang/Object;)Ljava/util/List;"), (3, .methodref 91 113), (0, .nameAndType 114 115), (0, u "listCopy"), (0, u "(Ljava/util/Collection;)Ljava/util/List;"), (3, u "()Ljava/util/List;"), (0, .class_ 121), (0, u "java/util/SequencedCollection"), (112, u "copyOf")] 16

def k13c0 : Code := { maxStack := 1, maxLocals := 0, code := jdk_40_method_36_code, exceptionTable := #[], attributes := #[] }
def k13m0 : Method := { name := "of", desc := "()Ljava/util/List;", sig := { parameters := [], returnType := some (.object "java/util/List") }, accessFlags := 9, code := some k13c0 }
def k13c1 : Code := { maxStack := 5, maxLocals := 2, code := jdk_40_method_47_code, exceptionTable := #[], attributes := #[] }
def k13m1 : Method := { name := "of", desc := "([Ljava/lang/Object;)Ljava/util/List;", sig := { parameters := [(.array (.object "java/lang/Object"))], returnType := some (.object "java/util/List") }, accessFlags := 137, code := some k13c1 }
def k13c2 : Code := { maxStack := 1, maxLocals := 1, code := jdk_40_method_48_code, exceptionTable := #[], attributes := #[] }
def k13m2 : Method := { name := "copyOf", desc := "(Ljava/util/Collection;)Ljava/util/List;", sig := { parameters := [(.object "java/util/Collection")], returnType := some (.object "java/util/List") }, accessFlags := 9, code := some k13c2 }
/-- java/util/List -/
def k13 : Class := { plain "java/util/List" (some 0) with
  accessFlags := 1537
  interfaces := #[12]
  cf := some (fileOf pool13 8 #[] #[{ accessFlags := 9, nameIndex := 88, descriptorIndex := 119, attributes := #[] }, { accessFlags := 137, nameIndex := 88, descriptorIndex := 108, attributes := #[] }, { accessFlags := 9, nameIndex := 234, descriptorIndex := 115, attributes := #[] }] 1537 103 #[120] #[])
  fields := #[]
  methods := #[k13m0, k13m1, k13m2]
  instanceTypes := #[]
  staticTypes := #[]
  resolved := Array.replicate 251 none
  statics := none }

def pool14 : Array CpInfo := pool [(1, .methodref 2 3), (0, .class_ 4), (0, .nameAndType 5 6), (0, u "java/util/AbstractCollection"), (0, u "<init>"), (0, u "()V"), (0, .fieldref 8 9), (0, .class_ 10), (0, .nameAndType 11 12), (0, u "java/util/AbstractList"), (0, u "modCount"), (0, u "I"), (64, .class_ 78), (0, u "java/util/AbstractList$Itr"), (3, .class_ 83), (0, u "java/util/AbstractList$ListItr"), (9, .class_ 94), (0, u "java/util/AbstractList$RandomAccessSubList"), (3, .class_ 99), (0, u "java/util/AbstractList$SubList"), (33, .class_ 134), (0, u "java/util/List"), (73, .class_ 209), (0, u "java/util/AbstractList$SubList$1"), (0, .class_ 211), (0, u "java/util/AbstractList$RandomAccessSpliterator")] 6

def k14c0 : Code := { maxStack := 2, maxLocals := 1, code := jdk_39_method_1_code, exceptionTable := #[], attributes := #[] }
def k14m0 : Method := { name := "<init>", desc := "()V", sig := { parameters := [], returnType := none }, accessFlags := 4, code := some k14c0 }
/-- java/util/AbstractList -/
def k14 : Class := { plain "java/util/AbstractList" (some 11) with
  accessFlags := 1057
  interfaces := #[13]
  cf := some (fileOf pool14 8 #[.nestMembers #[93, 98, 208, 210, 82, 77]] #[{ accessFlags := 4, nameIndex := 5, descriptorIndex := 6, attributes := #[] }] 1057 2 #[133] #[{ accessFlags := 132, nameIndex := 11, descriptorIndex := 12, attributes := #[] }])
  fields := #[{ name := "modCount", type := .int, accessFlags := 132, slot := 0, constantValue := 0 }]
  methods := #[k14m0]
  instanceTypes := #[.int]
  staticTypes := #[]
  resolved := Array.replicate 218 none
  statics := none }

def pool15 : Array CpInfo := pool [(1, .class_ 2), (0, u "java/util/RandomAccess"), (0, .class_ 4), (0, u "java/lang/Object")] 2

/-- java/util/RandomAccess -/
def k15 : Class := { plain "java/util/RandomAccess" (some 0) with
  accessFlags := 1537
  interfaces := #[]
  cf := some (fileOf pool15 1 #[] #[] 1537 3 #[] #[])
  fields := #[]
  methods := #[]
  instanceTypes := #[]
  staticTypes := #[]
  resolved := Array.replicate 7 none
  statics := none }

def pool16 : Array CpInfo := pool [(1, .class_ 2), (0, u "java/lang/Cloneable"), (0, .class_ 4), (0, u "java/lang/Object")] 2

/-- java/lang/Cloneable -/
def k16 : Class := { plain "java/lang/Cloneable" (some 0) with
  accessFlags := 1537
  interfaces := #[]
  cf := some (fileOf pool16 1 #[] #[] 1537 3 #[] #[])
  fields := #[]
  methods := #[]
  instanceTypes := #[]
  staticTypes := #[]
  resolved := Array.replicate 7 none
  statics := none }

def pool17 : Array CpInfo := pool [(1, .methodref 2 3), (0, .class_ 4), (0, .nameAndType 5 6), (0, u "java/util/AbstractList"), (0, u "<init>"), (0, u "()V"), (0, .class_ 8), (0, u "java/lang/Object"), (0, .fieldref 10 11), (0, .class_ 12), (0, .nameAndType 13 14), (0, u "java/util/ArrayList"), (0, u "elementData"), (0, u "[Ljava/lang/Object;"), (2, u "EMPTY_ELEMENTDATA"), (21, .fieldref 10 40), (0, .nameAndType 41 14), (0, u "DEFAULTCAPACITY_EMPTY_ELEMENTDATA"), (4, u "toArray"), (0, u "()[Ljava/lang/Object;"), (0, .fieldref 10 49), (0, .nameAndType 50 51), (0, u "size"), (0, u "I"), (6, .class_ 60), (1, u "java/util/Arrays"), (0, u "copyOf"), (1, .fieldref 10 64), (0, .nameAndType 65 51), (0, u "modCount"), (0, .methodref 58 67), (0, .nameAndType 61 68), (0, u "([Ljava/lang/Object;I)[Ljava/lang/Object;"), (0, .methodref 10 70), (0, .nameAndType 71 72), (0, u "grow"), (0, u "(I)[Ljava/lang/Object;"), (6, .methodref 80 81), (0, .class_ 82), (0, .nameAndType 83 84), (0, u "java/lang/Math"), (0, u "max"), (0, u "(II)I"), (11, u "(Ljava/lang/Object;)Z"), (32, .methodref 10 130), (0, .nameAndType 71 47), (0, .methodref 10 132), (0, .nameAndType 133 134), (0, u "add"), (0, u "(Ljava/lang/Object;[Ljava/lang/Object;I)V"), (13, .class_ 149), (0, u "java/util/List"), (23, u "()Z"), (88, .class_ 263), (0, u "java/util/ArrayList$ListItr"), (3, .class_ 268), (0, u "java/util/ArrayList$Itr"), (7, .class_ 277), (0, u "java/util/ArrayList$SubList"), (12, .class_ 291), (0, u "java/util/ArrayList$ArrayListSpliterator"), (37, .class_ 330), (0, u "java/util/RandomAccess"), (0, .class_ 332), (0, u "java/lang/Cloneable"), (0, .class_ 334), (0, u "java/io/Serializable"), (0, u "serialVersionUID"), (0, u "J"), (3, u "DEFAULT_CAPACITY"), (22, u "isEmpty"), (136, .class_ 501), (0, u "java/util/ArrayList$SubList$2"), (0, .class_ 503), (0, u "java/util/ArrayList$SubList$1")] 5

def k17c0 : Code := { maxStack := 2, maxLocals := 1, code := jdk_38_method_2_code, exceptionTable := #[], attributes := #[] }
def k17m0 : Method := { name := "<init>", desc := "()V", sig := { parameters := [], returnType := none }, accessFlags := 1, code := some k17c0 }
def k17c1 : Code := { maxStack := 4, maxLocals := 4, code := jdk_38_method_6_code, exceptionTable := #[], attributes := #[] }
def k17m1 : Method := { name := "grow", desc := "(I)[Ljava/lang/Object;", sig := { parameters := [.int], returnType := some (.array (.object "java/lang/Object")) }, accessFlags := 2, code := some k17c1 }
def k17c2 : Code := { maxStack := 3, maxLocals := 1, code := jdk_38_method_7_code, exceptionTable := #[], attributes := #[] }
def k17m2 : Method := { name := "grow", desc := "()[Ljava/lang/Object;", sig := { parameters := [], returnType := some (.array (.object "java/lang/Object")) }, accessFlags := 2, code := some k17c2 }
def k17c3 : Code := { maxStack := 1, maxLocals := 1, code := jdk_38_method_9_code, exceptionTable := #[], attributes := #[] }
def k17m3 : Method := { name := "isEmpty", desc := "()Z", sig := { parameters := [], returnType := some .boolean }, accessFlags := 1, code := some k17c3 }
def k17c4 : Code := { maxStack := 2, maxLocals := 1, code := jdk_38_method_16_code, exceptionTable := #[], attributes := #[] }
def k17m4 : Method := { name := "toArray", desc := "()[Ljava/lang/Object;", sig := { parameters := [], returnType := some (.array (.object "java/lang/Object")) }, accessFlags := 1, code := some k17c4 }
def k17c5 : Code := { maxStack := 3, maxLocals := 4, code := jdk_38_method_24_code, exceptionTable := #[], attributes := #[] }
def k17m5 : Method := { name := "add", desc := "(Ljava/lang/Object;[Ljava/lang/Object;I)V", sig := { parameters := [(.object "java/lang/Object"), (.array (.object "java/lang/Object")), .int], returnType := none }, accessFlags := 2, code := some k17c5 }
def k17c6 : Code := { maxStack := 4, maxLocals := 2, code := jdk_38_method_25_code, exceptionTable := #[], attributes := #[] }
def k17m6 : Method := { name := "add", desc := "(Ljava/lang/Object;)Z", sig := { parameters := [(.object "java/lang/Object")], returnType := some .boolean }, accessFlags := 1, code := some k17c6 }
/-- java/util/ArrayList -/
def k17 : Class := { plain "java/util/ArrayList" (some 14) with
  accessFlags := 33
  interfaces := #[13, 15, 16, 2]
  cf := some (fileOf pool17 10 #[.nestMembers #[290, 276, 500, 502, 262, 267]] #[{ accessFlags := 1, nameIndex := 5, descriptorIndex := 6, attributes := #[] }, { accessFlags := 2, nameIndex := 71, descriptorIndex := 72, attributes := #[] }, { accessFlags := 2, nameIndex := 71, descriptorIndex := 47, attributes := #[] }, { accessFlags := 1, nameIndex := 363, descriptorIndex := 173, attributes := #[] }, { accessFlags := 1, nameIndex := 46, descriptorIndex := 47, attributes := #[] }, { accessFlags := 2, nameIndex := 133, descriptorIndex := 134, attributes := #[] }, { accessFlags := 1, nameIndex := 133, descriptorIndex := 96, attributes := #[] }] 33 2 #[148, 329, 331, 333] #[{ accessFlags := 26, nameIndex := 335, descriptorIndex := 336, attributes := #[] }, { accessFlags := 26, nameIndex := 340, descriptorIndex := 51, attributes := #[] }, { accessFlags := 26, nameIndex := 17, descriptorIndex := 14, attributes := #[] }, { accessFlags := 26, nameIndex := 41, descriptorIndex := 14, attributes := #[] }, { accessFlags := 128, nameIndex := 13, descriptorIndex := 14, attributes := #[] }, { accessFlags := 2, nameIndex := 50, descriptorIndex := 51, attributes := #[] }])
  fields := #[{ name := "serialVersionUID", type := .long, accessFlags := 26, slot := 0, constantValue := 0 }, { name := "DEFAULT_CAPACITY", type := .int, accessFlags := 26, slot := 1, constantValue := 0 }, { name := "EMPTY_ELEMENTDATA", type := (.array (.object "java/lang/Object")), accessFlags := 26, slot := 2, constantValue := 0 }, { name := "DEFAULTCAPACITY_EMPTY_ELEMENTDATA", type := (.array (.object "java/lang/Object")), accessFlags := 26, slot := 3, constantValue := 0 }, { name := "elementData", type := (.array (.object "java/lang/Object")), accessFlags := 128, slot := 1, constantValue := 0 }, { name := "size", type := .int, accessFlags := 2, slot := 2, constantValue := 0 }]
  methods := #[k17m0, k17m1, k17m2, k17m3, k17m4, k17m5, k17m6]
  instanceTypes := #[.int, (.array (.object "java/lang/Object")), .int]
  staticTypes := #[.long, .int, (.array (.object "java/lang/Object")), (.array (.object "java/lang/Object"))]
  resolved := Array.replicate 509 none
  statics := some 1 }

def pool18 : Array CpInfo := pool [(1, .methodref 2 3), (0, .class_ 4), (0, .nameAndType 5 6), (0, u "java/lang/Object"), (0, u "<init>"), (0, u "()V"), (0, .class_ 8), (0, u "java/lang/Record")] 13

def k18c0 : Code := { maxStack := 1, maxLocals := 1, code := jdk_30_method_1_code, exceptionTable := #[], attributes := #[] }
def k18m0 : Method := { name := "<init>", desc := "()V", sig := { parameters := [], returnType := none }, accessFlags := 4, code := some k18c0 }
/-- java/lang/Record -/
def k18 : Class := { plain "java/lang/Record" (some 0) with
  accessFlags := 1057
  interfaces := #[]
  cf := some (fileOf pool18 7 #[] #[{ accessFlags := 4, nameIndex := 5, descriptorIndex := 6, attributes := #[] }] 1057 2 #[] #[])
  fields := #[]
  methods := #[k18m0]
  instanceTypes := #[]
  staticTypes := #[]
  resolved := Array.replicate 22 none
  statics := none }

def pool19 : Array CpInfo := pool [(1, .methodref 2 3), (0, .class_ 4), (0, .nameAndType 5 6), (0, u "java/lang/Record"), (0, u "<init>"), (0, u "()V"), (0, .interfaceMethodref 8 9), (0, .class_ 10), (0, .nameAndType 11 12), (0, u "java/util/List"), (0, u "copyOf"), (0, u "(Ljava/util/Collection;)Ljava/util/List;"), (0, .fieldref 14 15), (0, .class_ 16), (0, .nameAndType 17 18), (0, u "org/quorumweave/LogMetadata"), (0, u "name"), (0, u "Ljava/lang/String;"), (0, .fieldref 14 20), (0, .nameAndType 21 22), (0, u "version"), (0, u "J"), (0, .fieldref 14 24), (0, .nameAndType 25 26), (0, u "segments"), (0, u "Ljava/util/List;"), (0, .interfaceMethodref 8 28), (0, .nameAndType 29 30), (0, u "of"), (0, u "()Ljava/util/List;"), (0, .methodref 14 32), (0, .nameAndType 5 33), (0, u "(Ljava/lang/String;JLjava/util/List;)V"), (3, u "()Z"), (149, u "MAX_SEGMENTS"), (0, u "I"), (5, u "absent"), (0, u "(Ljava/lang/String;)Lorg/quorumweave/LogMetadata;"), (0, u "exists")] 55

def k19c0 : Code := { maxStack := 3, maxLocals := 5, code := prog_14_method_1_code, exceptionTable := #[], attributes := #[] }
def k19m0 : Method := { name := "<init>", desc := "(Ljava/lang/String;JLjava/util/List;)V", sig := { parameters := [(.object "java/lang/String"), .long, (.object "java/util/List")], returnType := none }, accessFlags := 0, code := some k19c0 }
def k19c1 : Code := { maxStack := 6, maxLocals := 1, code := prog_14_method_2_code, exceptionTable := #[], attributes := #[] }
def k19m1 : Method := { name := "absent", desc := "(Ljava/lang/String;)Lorg/quorumweave/LogMetadata;", sig := { parameters := [(.object "java/lang/String")], returnType := some (.object "org/quorumweave/LogMetadata") }, accessFlags := 8, code := some k19c1 }
def k19c2 : Code := { maxStack := 4, maxLocals := 1, code := prog_14_method_3_code, exceptionTable := #[], attributes := #[] }
def k19m2 : Method := { name := "exists", desc := "()Z", sig := { parameters := [], returnType := some .boolean }, accessFlags := 0, code := some k19c2 }
/-- org/quorumweave/LogMetadata -/
def k19 : Class := { plain "org/quorumweave/LogMetadata" (some 18) with
  accessFlags := 48
  interfaces := #[]
  cf := some (fileOf pool19 14 #[] #[{ accessFlags := 0, nameIndex := 5, descriptorIndex := 33, attributes := #[] }, { accessFlags := 8, nameIndex := 194, descriptorIndex := 195, attributes := #[] }, { accessFlags := 0, nameIndex := 196, descriptorIndex := 37, attributes := #[] }] 48 2 #[] #[{ accessFlags := 18, nameIndex := 17, descriptorIndex := 18, attributes := #[] }, { accessFlags := 18, nameIndex := 21, descriptorIndex := 22, attributes := #[] }, { accessFlags := 18, nameIndex := 25, descriptorIndex := 26, attributes := #[] }, { accessFlags := 24, nameIndex := 187, descriptorIndex := 188, attributes := #[] }])
  fields := #[{ name := "name", type := (.object "java/lang/String"), accessFlags := 18, slot := 0, constantValue := 0 }, { name := "version", type := .long, accessFlags := 18, slot := 1, constantValue := 0 }, { name := "segments", type := (.object "java/util/List"), accessFlags := 18, slot := 2, constantValue := 0 }, { name := "MAX_SEGMENTS", type := .int, accessFlags := 24, slot := 0, constantValue := 0 }]
  methods := #[k19m0, k19m1, k19m2]
  instanceTypes := #[(.object "java/lang/String"), .long, (.object "java/util/List")]
  staticTypes := #[.int]
  resolved := Array.replicate 252 none
  statics := none }

def pool20 : Array CpInfo := pool [(2, .class_ 4), (1, u "java/lang/Object"), (0, u "<init>"), (0, u "()V"), (3, .class_ 11), (0, u "java/util/ImmutableCollections$List12"), (0, .class_ 13), (0, u "java/util/ImmutableCollections$ListN"), (0, .fieldref 12 15), (0, .nameAndType 16 17), (0, u "allowNulls"), (0, u "Z"), (0, .class_ 19), (0, u "java/util/List"), (0, .interfaceMethodref 21 22), (0, .class_ 23), (0, .nameAndType 24 25), (0, u "java/util/Collection"), (0, u "isEmpty"), (0, u "()Z"), (0, .interfaceMethodref 18 27), (0, .nameAndType 28 29), (0, u "of"), (0, u "()Ljava/util/List;"), (0, .interfaceMethodref 21 31), (0, .nameAndType 32 33), (0, u "toArray"), (0, u "()[Ljava/lang/Object;"), (0, .interfaceMethodref 18 35), (0, .nameAndType 28 36), (0, u "([Ljava/lang/Object;)Ljava/util/List;"), (10, .class_ 49), (1, u "java/util/ImmutableCollections"), (0, u "$assertionsDisabled"), (5, u "[Ljava/lang/Object;"), (5, u "EMPTY_LIST"), (0, u "Ljava/util/ImmutableCollections$ListN;"), (8, u "EMPTY_LIST_NULLS"), (22, u "SALT32L"), (0, u "J"), (2, u "REVERSE"), (6, u "archivedObjects"), (2, u "EMPTY"), (0, u "Ljava/lang/Object;"), (0, .class_ 112), (0, u "java/util/ImmutableCollections$SetN"), (5, u "EMPTY_SET"), (0, u "Ljava/util/ImmutableCollections$SetN;"), (0, .class_ 121), (0, u "java/util/ImmutableCollections$MapN"), (3, u "EMPTY_MAP"), (0, u "Ljava/util/ImmutableCollections$MapN;"), (4, u "EXPAND_FACTOR"), (0, u "I"), (9, u "listCopy"), (0, u "(Ljava/util/Collection;)Ljava/util/List;"), (25, .class_ 170), (0, u "java/util/ImmutableCollections$MapN$MapNIterator"), (0, .class_ 172), (0, u "java/util/ImmutableCollections$MapN$1"), (0, .class_ 174), (0, u "java/util/ImmutableCollections$Map1"), (0, .class_ 176), (0, u "java/util/ImmutableCollections$AbstractImmutableMap"), (0, .class_ 178), (0, u "java/util/ImmutableCollections$SetN$SetNIterator"), (0, .class_ 180), (0, u "java/util/ImmutableCollections$Set12"), (0, .class_ 182), (0, u "java/util/ImmutableCollections$Set12$1"), (0, .class_ 184), (0, u "java/util/ImmutableCollections$AbstractImmutableSet"), (0, .class_ 186), (0, u "java/util/ImmutableCollections$SubList"), (0, .class_ 188), (0, u "java/util/ImmutableCollections$ListItr"), (0, .class_ 190), (0, u "java/util/ImmutableCollections$AbstractImmutableList"), (0, .class_ 192), (0, u "java/util/ImmutableCollections$AbstractImmutableCollection"), (0, .class_ 194), (0, u "java/util/ImmutableCollections$Access"), (0, .class_ 196), (0, u "java/util/ImmutableCollections$Access$1")] 16

def k20m0 : Method := { name := "<init>", desc := "()V", sig := { parameters := [], returnType := none }, accessFlags := 2, code := none }
def k20c1 : Code := { maxStack := 1, maxLocals := 2, code := jdk_56_method_3_code, exceptionTable := #[], attributes := #[] }
def k20m1 : Method := { name := "listCopy", desc := "(Ljava/util/Collection;)Ljava/util/List;", sig := { parameters := [(.object "java/util/Collection")], returnType := some (.object "java/util/List") }, accessFlags := 8, code := some k20c1 }
/-- java/util/ImmutableCollections -/
def k20 : Class := { plain "java/util/ImmutableCollections" (some 0) with
  accessFlags := 32
  interfaces := #[]
  cf := some (fileOf pool20 47 #[.nestMembers #[120, 169, 171, 173, 175, 111, 177, 179, 181, 183, 12, 10, 185, 187, 189, 191, 193, 195]] #[{ accessFlags := 2, nameIndex := 5, descriptorIndex := 6, attributes := #[] }, { accessFlags := 8, nameIndex := 142, descriptorIndex := 143, attributes := #[] }] 32 2 #[] #[{ accessFlags := 26, nameIndex := 95, descriptorIndex := 96, attributes := #[] }, { accessFlags := 26, nameIndex := 99, descriptorIndex := 17, attributes := #[] }, { accessFlags := 10, nameIndex := 106, descriptorIndex := 56, attributes := #[] }, { accessFlags := 26, nameIndex := 109, descriptorIndex := 110, attributes := #[] }, { accessFlags := 24, nameIndex := 62, descriptorIndex := 63, attributes := #[] }, { accessFlags := 24, nameIndex := 72, descriptorIndex := 63, attributes := #[] }, { accessFlags := 24, nameIndex := 118, descriptorIndex := 119, attributes := #[] }, { accessFlags := 24, nameIndex := 125, descriptorIndex := 126, attributes := #[] }, { accessFlags := 24, nameIndex := 131, descriptorIndex := 132, attributes := #[] }, { accessFlags := 4120, nameIndex := 50, descriptorIndex := 17, attributes := #[] }])
  fields := #[{ name := "SALT32L", type := .long, accessFlags := 26, slot := 0, constantValue := 0 }, { name := "REVERSE", type := .boolean, accessFlags := 26, slot := 1, constantValue := 0 }, { name := "archivedObjects", type := (.array (.object "java/lang/Object")), accessFlags := 10, slot := 2, constantValue := 0 }, { name := "EMPTY", type := (.object "java/lang/Object"), accessFlags := 26, slot := 3, constantValue := 0 }, { name := "EMPTY_LIST", type := (.object "java/util/ImmutableCollections$ListN"), accessFlags := 24, slot := 4, constantValue := 0 }, { name := "EMPTY_LIST_NULLS", type := (.object "java/util/ImmutableCollections$ListN"), accessFlags := 24, slot := 5, constantValue := 0 }, { name := "EMPTY_SET", type := (.object "java/util/ImmutableCollections$SetN"), accessFlags := 24, slot := 6, constantValue := 0 }, { name := "EMPTY_MAP", type := (.object "java/util/ImmutableCollections$MapN"), accessFlags := 24, slot := 7, constantValue := 0 }, { name := "EXPAND_FACTOR", type := .int, accessFlags := 24, slot := 8, constantValue := 0 }, { name := "$assertionsDisabled", type := .boolean, accessFlags := 4120, slot := 9, constantValue := 0 }]
  methods := #[k20m0, k20m1]
  instanceTypes := #[]
  staticTypes := #[.long, .boolean, (.array (.object "java/lang/Object")), (.object "java/lang/Object"), (.object "java/util/ImmutableCollections$ListN"), (.object "java/util/ImmutableCollections$ListN"), (.object "java/util/ImmutableCollections$SetN"), (.object "java/util/ImmutableCollections$MapN"), .int, .boolean]
  resolved := Array.replicate 213 none
  statics := some 2 }

def pool21 : Array CpInfo := pool [(1, .methodref 2 3), (0, .class_ 4), (0, .nameAndType 5 6), (0, u "java/util/AbstractCollection"), (0, u "<init>"), (0, u "()V"), (1, .class_ 10), (1, u "java/util/ImmutableCollections"), (2, .class_ 14), (0, u "java/util/ImmutableCollections$AbstractImmutableCollection")] 41

def k21c0 : Code := { maxStack := 1, maxLocals := 1, code := jdk_47_method_1_code, exceptionTable := #[], attributes := #[] }
def k21m0 : Method := { name := "<init>", desc := "()V", sig := { parameters := [], returnType := none }, accessFlags := 0, code := some k21c0 }
/-- java/util/ImmutableCollections$AbstractImmutableCollection -/
def k21 : Class := { plain "java/util/ImmutableCollections$AbstractImmutableCollection" (some 11) with
  accessFlags := 1056
  interfaces := #[]
  cf := some (fileOf pool21 13 #[.nestHost 8] #[{ accessFlags := 0, nameIndex := 5, descriptorIndex := 6, attributes := #[] }] 1056 2 #[] #[])
  fields := #[]
  methods := #[k21m0]
  instanceTypes := #[]
  staticTypes := #[]
  resolved := Array.replicate 56 none
  statics := none }

def pool22 : Array CpInfo := pool [(1, .methodref 2 3), (0, .class_ 4), (0, .nameAndType 5 6), (0, u "java/util/ImmutableCollections$AbstractImmutableCollection"), (0, u "<init>"), (0, u "()V"), (1, .class_ 10), (1, u "java/util/ImmutableCollections"), (3, .class_ 16), (1, u "java/util/ImmutableCollections$AbstractImmutableList"), (60, .class_ 78), (0, u "java/util/List"), (45, .class_ 125), (0, u "java/util/RandomAccess")] 70

def k22c0 : Code := { maxStack := 1, maxLocals := 1, code := jdk_46_method_1_code, exceptionTable := #[], attributes := #[] }
def k22m0 : Method := { name := "<init>", desc := "()V", sig := { parameters := [], returnType := none }, accessFlags := 0, code := some k22c0 }
/-- java/util/ImmutableCollections$AbstractImmutableList -/
def k22 : Class := { plain "java/util/ImmutableCollections$AbstractImmutableList" (some 21) with
  accessFlags := 1056
  interfaces := #[13, 15]
  cf := some (fileOf pool22 14 #[.nestHost 8] #[{ accessFlags := 0, nameIndex := 5, descriptorIndex := 6, attributes := #[] }] 1056 2 #[77, 124] #[])
  fields := #[]
  methods := #[k22m0]
  instanceTypes := #[]
  staticTypes := #[]
  resolved := Array.replicate 196 none
  statics := none }

def pool23 : Array CpInfo := pool [(1, .methodref 2 3), (0, .class_ 4), (0, .nameAndType 5 6), (0, u "java/util/ImmutableCollections$AbstractImmutableList"), (0, u "<init>"), (0, u "()V"), (0, .methodref 8 9), (0, .class_ 10), (0, .nameAndType 11 12), (0, u "java/util/Objects"), (0, u "requireNonNull"), (0, u "(Ljava/lang/Object;)Ljava/lang/Object;"), (0, .fieldref 14 15), (0, .class_ 16), (0, .nameAndType 17 18), (0, u "java/util/ImmutableCollections$List12"), (0, u "e0"), (0, u "Ljava/lang/Object;"), (0, .fieldref 20 21), (0, .class_ 22), (0, .nameAndType 23 18), (0, u "java/util/ImmutableCollections"), (0, u "EMPTY"), (0, .fieldref 14 25), (0, .nameAndType 26 18), (0, u "e1"), (43, .class_ 71), (0, u "java/io/Serializable"), (4, u "(Ljava/lang/Object;)V")] 48

def k23c0 : Code := { maxStack := 2, maxLocals := 2, code := jdk_44_method_1_code, exceptionTable := #[], attributes := #[] }
def k23m0 : Method := { name := "<init>", desc := "(Ljava/lang/Object;)V", sig := { parameters := [(.object "java/lang/Object")], returnType := none }, accessFlags := 0, code := some k23c0 }
/-- java/util/ImmutableCollections$List12 -/
def k23 : Class := { plain "java/util/ImmutableCollections$List12" (some 22) with
  accessFlags := 48
  interfaces := #[2]
  cf := some (fileOf pool23 14 #[.nestHost 20] #[{ accessFlags := 0, nameIndex := 5, descriptorIndex := 76, attributes := #[] }] 48 2 #[70] #[{ accessFlags := 18, nameIndex := 17, descriptorIndex := 18, attributes := #[] }, { accessFlags := 18, nameIndex := 26, descriptorIndex := 18, attributes := #[] }])
  fields := #[{ name := "e0", type := (.object "java/lang/Object"), accessFlags := 18, slot := 0, constantValue := 0 }, { name := "e1", type := (.object "java/lang/Object"), accessFlags := 18, slot := 1, constantValue := 0 }]
  methods := #[k23m0]
  instanceTypes := #[(.object "java/lang/Object"), (.object "java/lang/Object")]
  staticTypes := #[]
  resolved := Array.replicate 125 none
  statics := none }

def pool24 : Array CpInfo := pool [(2, .class_ 4), (1, u "java/util/ImmutableCollections$AbstractImmutableList"), (3, .class_ 10), (1, u "java/util/ImmutableCollections$ListN"), (0, u "elements"), (0, u "[Ljava/lang/Object;"), (2, u "allowNulls"), (0, u "Z"), (42, .class_ 60), (0, u "java/io/Serializable"), (53, .class_ 115), (0, u "java/util/ImmutableCollections")] 3

/-- java/util/ImmutableCollections$ListN -/
def k24 : Class := { plain "java/util/ImmutableCollections$ListN" (some 22) with
  accessFlags := 48
  interfaces := #[2]
  cf := some (fileOf pool24 8 #[.nestHost 114] #[] 48 2 #[59] #[{ accessFlags := 18, nameIndex := 11, descriptorIndex := 12, attributes := #[] }, { accessFlags := 18, nameIndex := 15, descriptorIndex := 16, attributes := #[] }])
  fields := #[{ name := "elements", type := (.array (.object "java/lang/Object")), accessFlags := 18, slot := 0, constantValue := 0 }, { name := "allowNulls", type := .boolean, accessFlags := 18, slot := 1, constantValue := 0 }]
  methods := #[]
  instanceTypes := #[(.array (.object "java/lang/Object")), .boolean]
  staticTypes := #[]
  resolved := Array.replicate 119 none
  statics := none }

def pool25 : Array CpInfo := pool [(1, .methodref 2 3), (0, .class_ 4), (0, .nameAndType 5 6), (0, u "java/lang/Record"), (0, u "<init>"), (0, u "()V"), (0, .interfaceMethodref 8 9), (0, .class_ 10), (0, .nameAndType 11 12), (0, u "java/util/List"), (0, u "copyOf"), (0, u "(Ljava/util/Collection;)Ljava/util/List;"), (0, .fieldref 14 15), (0, .class_ 16), (0, .nameAndType 17 18), (0, u "org/quorumweave/Segment"), (0, u "number"), (0, u "J"), (0, .fieldref 14 20), (0, .nameAndType 21 22), (0, u "ensemble"), (0, u "Ljava/util/List;"), (0, .fieldref 14 24), (0, .nameAndType 25 26), (0, u "writeQuorum"), (0, u "I"), (0, .fieldref 14 28), (0, .nameAndType 29 26), (0, u "ackQuorum"), (0, .fieldref 14 31), (0, .nameAndType 32 33), (0, u "state"), (0, u "Lorg/quorumweave/Segment$State;"), (0, .fieldref 14 35), (0, .nameAndType 36 18), (0, u "lastEntry"), (0, .fieldref 38 39), (0, .class_ 40), (0, .nameAndType 41 33), (0, u "org/quorumweave/Segment$State"), (0, u "OPEN"), (0, .long 18446744073709551615), (1, .methodref 14 45), (0, .nameAndType 5 46), (0, u "(JLjava/util/List;IILorg/quorumweave/Segment$State;J)V"), (92, u "MAX_ENSEMBLE"), (6, u "open"), (0, u "(JLjava/util/List;II)Lorg/quorumweave/Segment;")] 57

def k25c0 : Code := { maxStack := 3, maxLocals := 9, code := prog_40_method_1_code, exceptionTable := #[], attributes := #[] }
def k25m0 : Method := { name := "<init>", desc := "(JLjava/util/List;IILorg/quorumweave/Segment$State;J)V", sig := { parameters := [.long, (.object "java/util/List"), .int, .int, (.object "org/quorumweave/Segment$State"), .long], returnType := none }, accessFlags := 0, code := some k25c0 }
def k25c1 : Code := { maxStack := 10, maxLocals := 5, code := prog_40_method_2_code, exceptionTable := #[], attributes := #[] }
def k25m1 : Method := { name := "open", desc := "(JLjava/util/List;II)Lorg/quorumweave/Segment;", sig := { parameters := [.long, (.object "java/util/List"), .int, .int], returnType := some (.object "org/quorumweave/Segment") }, accessFlags := 8, code := some k25c1 }
/-- org/quorumweave/Segment -/
def k25 : Class := { plain "org/quorumweave/Segment" (some 18) with
  accessFlags := 48
  interfaces := #[]
  cf := some (fileOf pool25 14 #[.nestMembers #[38]] #[{ accessFlags := 0, nameIndex := 5, descriptorIndex := 46, attributes := #[] }, { accessFlags := 8, nameIndex := 146, descriptorIndex := 147, attributes := #[] }] 48 2 #[] #[{ accessFlags := 18, nameIndex := 17, descriptorIndex := 18, attributes := #[] }, { accessFlags := 18, nameIndex := 21, descriptorIndex := 22, attributes := #[] }, { accessFlags := 18, nameIndex := 25, descriptorIndex := 26, attributes := #[] }, { accessFlags := 18, nameIndex := 29, descriptorIndex := 26, attributes := #[] }, { accessFlags := 18, nameIndex := 32, descriptorIndex := 33, attributes := #[] }, { accessFlags := 18, nameIndex := 36, descriptorIndex := 18, attributes := #[] }, { accessFlags := 24, nameIndex := 139, descriptorIndex := 26, attributes := #[] }])
  fields := #[{ name := "number", type := .long, accessFlags := 18, slot := 0, constantValue := 0 }, { name := "ensemble", type := (.object "java/util/List"), accessFlags := 18, slot := 1, constantValue := 0 }, { name := "writeQuorum", type := .int, accessFlags := 18, slot := 2, constantValue := 0 }, { name := "ackQuorum", type := .int, accessFlags := 18, slot := 3, constantValue := 0 }, { name := "state", type := (.object "org/quorumweave/Segment$State"), accessFlags := 18, slot := 4, constantValue := 0 }, { name := "lastEntry", type := .long, accessFlags := 18, slot := 5, constantValue := 0 }, { name := "MAX_ENSEMBLE", type := .int, accessFlags := 24, slot := 0, constantValue := 0 }]
  methods := #[k25m0, k25m1]
  instanceTypes := #[.long, (.object "java/util/List"), .int, .int, (.object "org/quorumweave/Segment$State"), .long]
  staticTypes := #[.int]
  resolved := Array.replicate 205 none
  statics := none }

def pool26 : Array CpInfo := pool [(2, .class_ 4), (1, u "java/lang/Enum"), (0, u "name"), (0, u "Ljava/lang/String;"), (2, u "ordinal"), (0, u "I"), (1, .class_ 14), (1, u "java/lang/Object"), (4, u "hash"), (86, .class_ 108), (1, u "java/lang/Enum$EnumDesc"), (2, .class_ 112), (0, u "java/lang/constant/Constable"), (0, .class_ 114), (0, u "java/lang/Comparable"), (0, .class_ 116), (0, u "java/io/Serializable")] 87

/-- java/lang/Enum -/
def k26 : Class := { plain "java/lang/Enum" (some 0) with
  accessFlags := 1057
  interfaces := #[5, 3, 2]
  cf := some (fileOf pool26 2 #[.nestMembers #[106]] #[] 1057 12 #[111, 113, 115] #[{ accessFlags := 18, nameIndex := 5, descriptorIndex := 6, attributes := #[] }, { accessFlags := 18, nameIndex := 9, descriptorIndex := 10, attributes := #[] }, { accessFlags := 2, nameIndex := 19, descriptorIndex := 10, attributes := #[] }])
  fields := #[{ name := "name", type := (.object "java/lang/String"), accessFlags := 18, slot := 0, constantValue := 0 }, { name := "ordinal", type := .int, accessFlags := 18, slot := 1, constantValue := 0 }, { name := "hash", type := .int, accessFlags := 2, slot := 2, constantValue := 0 }]
  methods := #[]
  instanceTypes := #[(.object "java/lang/String"), .int, .int]
  staticTypes := #[]
  resolved := Array.replicate 204 none
  statics := none }

def pool27 : Array CpInfo := pool [(1, .class_ 2), (0, u "org/quorumweave/Segment$State"), (2, u "OPEN"), (0, u "Lorg/quorumweave/Segment$State;"), (2, u "SEALED"), (2, u "RECOVERING"), (2, u "$VALUES"), (0, u "[Lorg/quorumweave/Segment$State;"), (6, .class_ 25), (1, u "java/lang/Enum"), (8, u "code"), (0, u "I"), (46, .class_ 83), (0, u "org/quorumweave/Segment")] 16

/-- org/quorumweave/Segment$State -/
def k27 : Class := { plain "org/quorumweave/Segment$State" (some 26) with
  accessFlags := 16432
  interfaces := #[]
  cf := some (fileOf pool27 1 #[.nestHost 82] #[] 16432 23 #[] #[{ accessFlags := 16409, nameIndex := 5, descriptorIndex := 6, attributes := #[] }, { accessFlags := 16409, nameIndex := 9, descriptorIndex := 6, attributes := #[] }, { accessFlags := 16409, nameIndex := 12, descriptorIndex := 6, attributes := #[] }, { accessFlags := 18, nameIndex := 34, descriptorIndex := 35, attributes := #[] }, { accessFlags := 4122, nameIndex := 15, descriptorIndex := 16, attributes := #[] }])
  fields := #[{ name := "OPEN", type := (.object "org/quorumweave/Segment$State"), accessFlags := 16409, slot := 0, constantValue := 0 }, { name := "SEALED", type := (.object "org/quorumweave/Segment$State"), accessFlags := 16409, slot := 1, constantValue := 0 }, { name := "RECOVERING", type := (.object "org/quorumweave/Segment$State"), accessFlags := 16409, slot := 2, constantValue := 0 }, { name := "code", type := .int, accessFlags := 18, slot := 3, constantValue := 0 }, { name := "$VALUES", type := (.array (.object "org/quorumweave/Segment$State")), accessFlags := 4122, slot := 3, constantValue := 0 }]
  methods := #[]
  instanceTypes := #[(.object "java/lang/String"), .int, .int, .int]
  staticTypes := #[(.object "org/quorumweave/Segment$State"), (.object "org/quorumweave/Segment$State"), (.object "org/quorumweave/Segment$State"), (.array (.object "org/quorumweave/Segment$State"))]
  resolved := Array.replicate 100 none
  statics := some 3 }

def pool28 : Array CpInfo := pool [(1, .class_ 2), (0, u "java/lang/Math"), (1, .class_ 6), (1, u "java/lang/Object"), (0, u "<init>"), (0, u "()V"), (89, .class_ 100), (1, u "java/lang/Math$RandomNumberGeneratorHolder"), (71, u "negativeZeroFloatBits"), (0, u "J"), (2, u "negativeZeroDoubleBits"), (21, u "max"), (2, u "min"), (43, u "$assertionsDisabled"), (0, u "Z"), (88, u "(II)I"), (2, u "twoToTheDoubleScaleDown"), (0, u "D"), (4, u "twoToTheDoubleScaleUp"), (9, u "E"), (3, u "PI"), (2, u "TAU"), (2, u "DEGREES_TO_RADIANS"), (0, u "RADIANS_TO_DEGREES")] 94

def k28m0 : Method := { name := "<init>", desc := "()V", sig := { parameters := [], returnType := none }, accessFlags := 2, code := none }
def k28c1 : Code := { maxStack := 2, maxLocals := 2, code := jdk_29_method_65_code, exceptionTable := #[], attributes := #[] }
def k28m1 : Method := { name := "max", desc := "(II)I", sig := { parameters := [.int, .int], returnType := some .int }, accessFlags := 9, code := some k28c1 }
def k28c2 : Code := { maxStack := 2, maxLocals := 2, code := jdk_29_method_69_code, exceptionTable := #[], attributes := #[] }
def k28m2 : Method := { name := "min", desc := "(II)I", sig := { parameters := [.int, .int], returnType := some .int }, accessFlags := 9, code := some k28c2 }
/-- java/lang/Math -/
def k28 : Class := { plain "java/lang/Math" (some 0) with
  accessFlags := 49
  interfaces := #[]
  cf := some (fileOf pool28 1 #[.nestMembers #[98]] #[{ accessFlags := 2, nameIndex := 7, descriptorIndex := 8, attributes := #[] }, { accessFlags := 9, nameIndex := 198, descriptorIndex := 335, attributes := #[] }, { accessFlags := 9, nameIndex := 201, descriptorIndex := 335, attributes := #[] }] 49 4 #[] #[{ accessFlags := 25, nameIndex := 354, descriptorIndex := 339, attributes := #[] }, { accessFlags := 25, nameIndex := 358, descriptorIndex := 339, attributes := #[] }, { accessFlags := 25, nameIndex := 361, descriptorIndex := 339, attributes := #[] }, { accessFlags := 26, nameIndex := 364, descriptorIndex := 339, attributes := #[] }, { accessFlags := 26, nameIndex := 365, descriptorIndex := 339, attributes := #[] }, { accessFlags := 26, nameIndex := 172, descriptorIndex := 173, attributes := #[] }, { accessFlags := 26, nameIndex := 176, descriptorIndex := 173, attributes := #[] }, { accessFlags := 8, nameIndex := 344, descriptorIndex := 339, attributes := #[] }, { accessFlags := 8, nameIndex := 338, descriptorIndex := 339, attributes := #[] }, { accessFlags := 4120, nameIndex := 245, descriptorIndex := 246, attributes := #[] }])
  fields := #[{ name := "E", type := .double, accessFlags := 25, slot := 0, constantValue := 0 }, { name := "PI", type := .double, accessFlags := 25, slot := 1, constantValue := 0 }, { name := "TAU", type := .double, accessFlags := 25, slot := 2, constantValue := 0 }, { name := "DEGREES_TO_RADIANS", type := .double, accessFlags := 26, slot := 3, constantValue := 0 }, { name := "RADIANS_TO_DEGREES", type := .double, accessFlags := 26, slot := 4, constantValue := 0 }, { name := "negativeZeroFloatBits", type := .long, accessFlags := 26, slot := 5, constantValue := 0 }, { name := "negativeZeroDoubleBits", type := .long, accessFlags := 26, slot := 6, constantValue := 0 }, { name := "twoToTheDoubleScaleUp", type := .double, accessFlags := 8, slot := 7, constantValue := 0 }, { name := "twoToTheDoubleScaleDown", type := .double, accessFlags := 8, slot := 8, constantValue := 0 }, { name := "$assertionsDisabled", type := .boolean, accessFlags := 4120, slot := 9, constantValue := 0 }]
  methods := #[k28m0, k28m1, k28m2]
  instanceTypes := #[]
  staticTypes := #[.double, .double, .double, .double, .double, .long, .long, .double, .double, .boolean]
  resolved := Array.replicate 460 none
  statics := none }

def pool29 : Array CpInfo := pool [(2, .class_ 4), (1, u "java/lang/Object"), (0, u "<init>"), (0, u "()V"), (7, .class_ 16), (1, u "java/util/Arrays"), (57, .class_ 76), (1, u "java/util/Arrays$NaturalOrder"), (9, .methodref 2 87), (0, .nameAndType 88 89), (0, u "getClass"), (0, u "()Ljava/lang/Class;"), (20, .class_ 111), (0, u "[Ljava/lang/Object;"), (1, .class_ 115), (1, u "java/util/Arrays$LegacyMergeSort"), (1, u "Z"), (32, .methodref 151 152), (0, .class_ 153), (0, .nameAndType 154 155), (0, u "java/lang/System"), (0, u "arraycopy"), (0, u "(Ljava/lang/Object;ILjava/lang/Object;II)V"), (144, .methodref 14 301), (0, .nameAndType 302 303), (0, u "copyOf"), (0, u "([Ljava/lang/Object;ILjava/lang/Class;)[Ljava/lang/Object;"), (0, .methodref 305 306), (0, .class_ 307), (0, .nameAndType 308 309), (0, u "java/lang/Math"), (0, u "min"), (0, u "(II)I"), (65, .class_ 376), (0, u "java/util/Arrays$ArrayList"), (68, u "$assertionsDisabled"), (269, u "MIN_ARRAY_SORT_GRAN"), (0, u "I"), (2, u "INSERTIONSORT_THRESHOLD"), (140, u "([Ljava/lang/Object;I)[Ljava/lang/Object;"), (114, .class_ 976), (0, u "java/util/Arrays$ArrayItr")] 52

def k29m0 : Method := { name := "<init>", desc := "()V", sig := { parameters := [], returnType := none }, accessFlags := 2, code := none }
def k29c1 : Code := { maxStack := 3, maxLocals := 2, code := jdk_65_method_119_code, exceptionTable := #[], attributes := #[] }
def k29m1 : Method := { name := "copyOf", desc := "([Ljava/lang/Object;I)[Ljava/lang/Object;", sig := { parameters := [(.array (.object "java/lang/Object")), .int], returnType := some (.array (.object "java/lang/Object")) }, accessFlags := 9, code := some k29c1 }
def k29c2 : Code := { maxStack := 6, maxLocals := 4, code := jdk_65_method_120_code, exceptionTable := #[], attributes := #[] }
def k29m2 : Method := { name := "copyOf", desc := "([Ljava/lang/Object;ILjava/lang/Class;)[Ljava/lang/Object;", sig := { parameters := [(.array (.object "java/lang/Object")), .int, (.object "java/lang/Class")], returnType := some (.array (.object "java/lang/Object")) }, accessFlags := 9, code := some k29c2 }
/-- java/util/Arrays -/
def k29 : Class := { plain "java/util/Arrays" (some 0) with
  accessFlags := 49
  interfaces := #[]
  cf := some (fileOf pool29 14 #[.nestMembers #[975, 375, 113, 74]] #[{ accessFlags := 2, nameIndex := 5, descriptorIndex := 6, attributes := #[] }, { accessFlags := 9, nameIndex := 302, descriptorIndex := 860, attributes := #[] }, { accessFlags := 9, nameIndex := 302, descriptorIndex := 303, attributes := #[] }] 49 2 #[] #[{ accessFlags := 26, nameIndex := 715, descriptorIndex := 716, attributes := #[] }, { accessFlags := 26, nameIndex := 719, descriptorIndex := 716, attributes := #[] }, { accessFlags := 4120, nameIndex := 445, descriptorIndex := 117, attributes := #[] }])
  fields := #[{ name := "MIN_ARRAY_SORT_GRAN", type := .int, accessFlags := 26, slot := 0, constantValue := 0 }, { name := "INSERTIONSORT_THRESHOLD", type := .int, accessFlags := 26, slot := 1, constantValue := 0 }, { name := "$assertionsDisabled", type := .boolean, accessFlags := 4120, slot := 2, constantValue := 0 }]
  methods := #[k29m0, k29m1, k29m2]
  instanceTypes := #[]
  staticTypes := #[.int, .int, .boolean]
  resolved := Array.replicate 1029 none
  statics := none }

def pool30 : Array CpInfo := pool [(2, .class_ 4), (1, u "java/lang/Object"), (0, u "<init>"), (0, u "()V"), (1, .class_ 10), (1, u "java/lang/System"), (0, u "allowSecurityManager"), (0, u "I"), (16, u "cons"), (0, u "Ljava/io/Console;"), (77, .class_ 110), (1, u "java/lang/System$CallersHolder"), (43, u "initialErrStream"), (0, u "Ljava/io/PrintStream;"), (19, u "security"), (0, u "Ljava/lang/SecurityManager;"), (31, .class_ 209), (0, u "java/lang/System$1"), (7, u "props"), (0, u "Ljava/util/Properties;"), (2, u "lineSeparator"), (0, u "Ljava/lang/String;"), (96, .class_ 321), (1, u "java/lang/System$LoggerFinder"), (5, .class_ 328), (0, u "java/lang/System$Logger"), (67, u "err"), (2, u "out"), (91, u "notSupportedJnuEncoding"), (15, u "in"), (17, u "initialIn"), (0, u "Ljava/io/InputStream;"), (35, u "bootLayer"), (0, u "Ljava/lang/ModuleLayer;"), (99, .class_ 664), (0, u "java/lang/System$2"), (9, u "NEVER"), (2, u "MAYBE"), (49, u "arraycopy"), (0, u "(Ljava/lang/Object;ILjava/lang/Object;II)V"), (72, .class_ 802), (0, u "java/lang/System$Logger$Level")] 31

def k30m0 : Method := { name := "<init>", desc := "()V", sig := { parameters := [], returnType := none }, accessFlags := 2, code := none }
def k30m1 : Method := { name := "arraycopy", desc := "(Ljava/lang/Object;ILjava/lang/Object;II)V", sig := { parameters := [(.object "java/lang/Object"), .int, (.object "java/lang/Object"), .int, .int], returnType := none }, accessFlags := 265, code := none }
/-- java/lang/System -/
def k30 : Class := { plain "java/lang/System" (some 0) with
  accessFlags := 49
  interfaces := #[]
  cf := some (fileOf pool30 8 #[.nestMembers #[319, 327, 801, 108, 663, 208]] #[{ accessFlags := 2, nameIndex := 5, descriptorIndex := 6, attributes := #[] }, { accessFlags := 265, nameIndex := 727, descriptorIndex := 728, attributes := #[] }] 49 2 #[] #[{ accessFlags := 25, nameIndex := 507, descriptorIndex := 526, attributes := #[] }, { accessFlags := 25, nameIndex := 399, descriptorIndex := 155, attributes := #[] }, { accessFlags := 25, nameIndex := 396, descriptorIndex := 155, attributes := #[] }, { accessFlags := 10, nameIndex := 525, descriptorIndex := 526, attributes := #[] }, { accessFlags := 26, nameIndex := 674, descriptorIndex := 12, attributes := #[] }, { accessFlags := 26, nameIndex := 677, descriptorIndex := 12, attributes := #[] }, { accessFlags := 10, nameIndex := 11, descriptorIndex := 12, attributes := #[] }, { accessFlags := 74, nameIndex := 175, descriptorIndex := 176, attributes := #[] }, { accessFlags := 10, nameIndex := 491, descriptorIndex := 222, attributes := #[] }, { accessFlags := 74, nameIndex := 29, descriptorIndex := 30, attributes := #[] }, { accessFlags := 74, nameIndex := 154, descriptorIndex := 155, attributes := #[] }, { accessFlags := 10, nameIndex := 217, descriptorIndex := 218, attributes := #[] }, { accessFlags := 10, nameIndex := 221, descriptorIndex := 222, attributes := #[] }, { accessFlags := 8, nameIndex := 562, descriptorIndex := 563, attributes := #[] }])
  fields := #[{ name := "in", type := (.object "java/io/InputStream"), accessFlags := 25, slot := 0, constantValue := 0 }, { name := "out", type := (.object "java/io/PrintStream"), accessFlags := 25, slot := 1, constantValue := 0 }, { name := "err", type := (.object "java/io/PrintStream"), accessFlags := 25, slot := 2, constantValue := 0 }, { name := "initialIn", type := (.object "java/io/InputStream"), accessFlags := 10, slot := 3, constantValue := 0 }, { name := "NEVER", type := .int, accessFlags := 26, slot := 4, constantValue := 0 }, { name := "MAYBE", type := .int, accessFlags := 26, slot := 5, constantValue := 0 }, { name := "allowSecurityManager", type := .int, accessFlags := 10, slot := 6, constantValue := 0 }, { name := "security", type := (.object "java/lang/SecurityManager"), accessFlags := 74, slot := 7, constantValue := 0 }, { name := "notSupportedJnuEncoding", type := (.object "java/lang/String"), accessFlags := 10, slot := 8, constantValue := 0 }, { name := "cons", type := (.object "java/io/Console"), accessFlags := 74, slot := 9, constantValue := 0 }, { name := "initialErrStream", type := (.object "java/io/PrintStream"), accessFlags := 74, slot := 10, constantValue := 0 }, { name := "props", type := (.object "java/util/Properties"), accessFlags := 10, slot := 11, constantValue := 0 }, { name := "lineSeparator", type := (.object "java/lang/String"), accessFlags := 10, slot := 12, constantValue := 0 }, { name := "bootLayer", type := (.object "java/lang/ModuleLayer"), accessFlags := 8, slot := 13, constantValue := 0 }]
  methods := #[k30m0, k30m1]
  instanceTypes := #[]
  staticTypes := #[(.object "java/io/InputStream"), (.object "java/io/PrintStream"), (.object "java/io/PrintStream"), (.object "java/io/InputStream"), .int, .int, .int, (.object "java/lang/SecurityManager"), (.object "java/lang/String"), (.object "java/io/Console"), (.object "java/io/PrintStream"), (.object "java/util/Properties"), (.object "java/lang/String"), (.object "java/lang/ModuleLayer")]
  resolved := Array.replicate 834 none
  statics := none }

def pool31 : Array CpInfo := pool [(2, .class_ 4), (1, u "java/lang/Object"), (0, u "<init>"), (0, u "()V"), (35, .class_ 44), (1, u "java/util/Objects"), (0, u "requireNonNull"), (0, u "(Ljava/lang/Object;)Ljava/lang/Object;")] 137

def k31m0 : Method := { name := "<init>", desc := "()V", sig := { parameters := [], returnType := none }, accessFlags := 2, code := none }
def k31c1 : Code := { maxStack := 2, maxLocals := 1, code := jdk_31_method_10_code, exceptionTable := #[], attributes := #[] }
def k31m1 : Method := { name := "requireNonNull", desc := "(Ljava/lang/Object;)Ljava/lang/Object;", sig := { parameters := [(.object "java/lang/Object")], returnType := some (.object "java/lang/Object") }, accessFlags := 9, code := some k31c1 }
/-- java/util/Objects -/
def k31 : Class := { plain "java/util/Objects" (some 0) with
  accessFlags := 49
  interfaces := #[]
  cf := some (fileOf pool31 42 #[] #[{ accessFlags := 2, nameIndex := 5, descriptorIndex := 6, attributes := #[] }, { accessFlags := 9, nameIndex := 45, descriptorIndex := 46, attributes := #[] }] 49 2 #[] #[])
  fields := #[]
  methods := #[k31m0, k31m1]
  instanceTypes := #[]
  staticTypes := #[]
  resolved := Array.replicate 184 none
  statics := none }

def pool32 : Array CpInfo := pool [(4, .class_ 6), (1, u "java/lang/Object"), (0, u "<init>"), (0, u "()V"), (5, .class_ 16), (1, u "java/lang/StringLatin1"), (104, u "$assertionsDisabled"), (0, u "Z"), (98, .class_ 223), (1, u "java/lang/StringLatin1$LinesSpliterator"), (166, .class_ 391), (0, u "java/lang/StringLatin1$CharsSpliterator")] 3

def k32m0 : Method := { name := "<init>", desc := "()V", sig := { parameters := [], returnType := none }, accessFlags := 0, code := none }
/-- java/lang/StringLatin1 -/
def k32 : Class := { plain "java/lang/StringLatin1" (some 0) with
  accessFlags := 48
  interfaces := #[]
  cf := some (fileOf pool32 14 #[.nestMembers #[390, 221]] #[{ accessFlags := 0, nameIndex := 7, descriptorIndex := 8, attributes := #[] }] 48 4 #[] #[{ accessFlags := 4120, nameIndex := 121, descriptorIndex := 122, attributes := #[] }])
  fields := #[{ name := "$assertionsDisabled", type := .boolean, accessFlags := 4120, slot := 0, constantValue := 0 }]
  methods := #[k32m0]
  instanceTypes := #[]
  staticTypes := #[.boolean]
  resolved := Array.replicate 395 none
  statics := none }

def pool33 : Array CpInfo := pool [(2, .class_ 4), (1, u "java/lang/Object"), (0, u "<init>"), (0, u "()V"), (17, .class_ 26), (1, u "jdk/internal/util/Preconditions"), (28, .class_ 56), (0, u "jdk/internal/util/Preconditions$4"), (57, .class_ 115), (0, u "jdk/internal/util/Preconditions$1"), (7, u "SIOOBE_FORMATTER"), (0, u "Ljava/util/function/BiFunction;"), (0, .class_ 126), (0, u "jdk/internal/util/Preconditions$2"), (3, u "AIOOBE_FORMATTER"), (0, .class_ 132), (0, u "jdk/internal/util/Preconditions$3"), (3, u "IOOBE_FORMATTER")] 57

def k33m0 : Method := { name := "<init>", desc := "()V", sig := { parameters := [], returnType := none }, accessFlags := 1, code := none }
/-- jdk/internal/util/Preconditions -/
def k33 : Class := { plain "jdk/internal/util/Preconditions" (some 0) with
  accessFlags := 33
  interfaces := #[]
  cf := some (fileOf pool33 24 #[.nestMembers #[55, 131, 125, 114]] #[{ accessFlags := 1, nameIndex := 5, descriptorIndex := 6, attributes := #[] }] 33 2 #[] #[{ accessFlags := 25, nameIndex := 123, descriptorIndex := 124, attributes := #[] }, { accessFlags := 25, nameIndex := 130, descriptorIndex := 124, attributes := #[] }, { accessFlags := 25, nameIndex := 136, descriptorIndex := 124, attributes := #[] }])
  fields := #[{ name := "SIOOBE_FORMATTER", type := (.object "java/util/function/BiFunction"), accessFlags := 25, slot := 0, constantValue := 0 }, { name := "AIOOBE_FORMATTER", type := (.object "java/util/function/BiFunction"), accessFlags := 25, slot := 1, constantValue := 0 }, { name := "IOOBE_FORMATTER", type := (.object "java/util/function/BiFunction"), accessFlags := 25, slot := 2, constantValue := 0 }]
  methods := #[k33m0]
  instanceTypes := #[]
  staticTypes := #[(.object "java/util/function/BiFunction"), (.object "java/util/function/BiFunction"), (.object "java/util/function/BiFunction")]
  resolved := Array.replicate 194 none
  statics := some 4 }

def pool34 : Array CpInfo := pool [(9, u "<init>"), (6, .class_ 18), (1, u "java/lang/Object"), (0, u "()V"), (1, .class_ 23), (1, u "jdk/internal/util/ArraysSupport"), (0, u "LOG2_ARRAY_LONG_INDEX_SCALE"), (0, u "I"), (2, u "U"), (0, u "Ljdk/internal/misc/Unsafe;"), (8, u "BIG_ENDIAN"), (0, u "Z"), (8, u "LOG2_BYTE_BIT_SIZE"), (4, u "LOG2_ARRAY_INT_INDEX_SCALE"), (54, u "JLA"), (0, u "Ljdk/internal/access/JavaLangAccess;"), (11, u "LOG2_ARRAY_BOOLEAN_INDEX_SCALE"), (9, u "LOG2_ARRAY_BYTE_INDEX_SCALE"), (5, u "LOG2_ARRAY_CHAR_INDEX_SCALE"), (5, u "LOG2_ARRAY_SHORT_INDEX_SCALE"), (18, u "LOG2_ARRAY_FLOAT_INDEX_SCALE"), (24, u "LOG2_ARRAY_DOUBLE_INDEX_SCALE"), (89, u "T_BOOLEAN"), (2, u "T_CHAR"), (1, u "T_FLOAT"), (1, u "T_DOUBLE"), (1, u "T_BYTE"), (1, u "T_SHORT"), (1, u "T_INT"), (1, u "T_LONG"), (1, u "SOFT_MAX_ARRAY_LENGTH")] 83

def k34m0 : Method := { name := "<init>", desc := "()V", sig := { parameters := [], returnType := none }, accessFlags := 2, code := none }
/-- jdk/internal/util/ArraysSupport -/
def k34 : Class := { plain "jdk/internal/util/ArraysSupport" (some 0) with
  accessFlags := 33
  interfaces := #[]
  cf := some (fileOf pool34 21 #[] #[{ accessFlags := 2, nameIndex := 9, descriptorIndex := 19, attributes := #[] }] 33 16 #[] #[{ accessFlags := 24, nameIndex := 28, descriptorIndex := 29, attributes := #[] }, { accessFlags := 26, nameIndex := 38, descriptorIndex := 39, attributes := #[] }, { accessFlags := 25, nameIndex := 121, descriptorIndex := 25, attributes := #[] }, { accessFlags := 25, nameIndex := 131, descriptorIndex := 25, attributes := #[] }, { accessFlags := 25, nameIndex := 137, descriptorIndex := 25, attributes := #[] }, { accessFlags := 25, nameIndex := 143, descriptorIndex := 25, attributes := #[] }, { accessFlags := 25, nameIndex := 53, descriptorIndex := 25, attributes := #[] }, { accessFlags := 25, nameIndex := 24, descriptorIndex := 25, attributes := #[] }, { accessFlags := 25, nameIndex := 162, descriptorIndex := 25, attributes := #[] }, { accessFlags := 25, nameIndex := 187, descriptorIndex := 25, attributes := #[] }, { accessFlags := 26, nameIndex := 48, descriptorIndex := 25, attributes := #[] }, { accessFlags := 25, nameIndex := 277, descriptorIndex := 25, attributes := #[] }, { accessFlags := 25, nameIndex := 280, descriptorIndex := 25, attributes := #[] }, { accessFlags := 25, nameIndex := 282, descriptorIndex := 25, attributes := #[] }, { accessFlags := 25, nameIndex := 284, descriptorIndex := 25, attributes := #[] }, { accessFlags := 25, nameIndex := 286, descriptorIndex := 25, attributes := #[] }, { accessFlags := 25, nameIndex := 288, descriptorIndex := 25, attributes := #[] }, { accessFlags := 25, nameIndex := 290, descriptorIndex := 25, attributes := #[] }, { accessFlags := 25, nameIndex := 292, descriptorIndex := 25, attributes := #[] }, { accessFlags := 26, nameIndex := 108, descriptorIndex := 109, attributes := #[] }, { accessFlags := 25, nameIndex := 294, descriptorIndex := 25, attributes := #[] }])
  fields := #[{ name := "U", type := (.object "jdk/internal/misc/Unsafe"), accessFlags := 24, slot := 0, constantValue := 0 }, { name := "BIG_ENDIAN", type := .boolean, accessFlags := 26, slot := 1, constantValue := 0 }, { name := "LOG2_ARRAY_BOOLEAN_INDEX_SCALE", type := .int, accessFlags := 25, slot := 2, constantValue := 0 }, { name := "LOG2_ARRAY_BYTE_INDEX_SCALE", type := .int, accessFlags := 25, slot := 3, constantValue := 0 }, { name := "LOG2_ARRAY_CHAR_INDEX_SCALE", type := .int, accessFlags := 25, slot := 4, constantValue := 0 }, { name := "LOG2_ARRAY_SHORT_INDEX_SCALE", type := .int, accessFlags := 25, slot := 5, constantValue := 0 }, { name := "LOG2_ARRAY_INT_INDEX_SCALE", type := .int, accessFlags := 25, slot := 6, constantValue := 0 }, { name := "LOG2_ARRAY_LONG_INDEX_SCALE", type := .int, accessFlags := 25, slot := 7, constantValue := 0 }, { name := "LOG2_ARRAY_FLOAT_INDEX_SCALE", type := .int, accessFlags := 25, slot := 8, constantValue := 0 }, { name := "LOG2_ARRAY_DOUBLE_INDEX_SCALE", type := .int, accessFlags := 25, slot := 9, constantValue := 0 }, { name := "LOG2_BYTE_BIT_SIZE", type := .int, accessFlags := 26, slot := 10, constantValue := 0 }, { name := "T_BOOLEAN", type := .int, accessFlags := 25, slot := 11, constantValue := 0 }, { name := "T_CHAR", type := .int, accessFlags := 25, slot := 12, constantValue := 0 }, { name := "T_FLOAT", type := .int, accessFlags := 25, slot := 13, constantValue := 0 }, { name := "T_DOUBLE", type := .int, accessFlags := 25, slot := 14, constantValue := 0 }, { name := "T_BYTE", type := .int, accessFlags := 25, slot := 15, constantValue := 0 }, { name := "T_SHORT", type := .int, accessFlags := 25, slot := 16, constantValue := 0 }, { name := "T_INT", type := .int, accessFlags := 25, slot := 17, constantValue := 0 }, { name := "T_LONG", type := .int, accessFlags := 25, slot := 18, constantValue := 0 }, { name := "JLA", type := (.object "jdk/internal/access/JavaLangAccess"), accessFlags := 26, slot := 19, constantValue := 0 }, { name := "SOFT_MAX_ARRAY_LENGTH", type := .int, accessFlags := 25, slot := 20, constantValue := 0 }]
  methods := #[k34m0]
  instanceTypes := #[]
  staticTypes := #[(.object "jdk/internal/misc/Unsafe"), .boolean, .int, .int, .int, .int, .int, .int, .int, .int, .int, .int, .int, .int, .int, .int, .int, .int, .int, (.object "jdk/internal/access/JavaLangAccess"), .int]
  resolved := Array.replicate 378 none
  statics := none }

def pool35 : Array CpInfo := pool [(1, u "java/lang/Class"), (0, .class_ 1), (0, u "java/lang/Object"), (0, .class_ 3)] 0

/-- java/lang/Class -/
def k35 : Class := { plain "java/lang/Class" (some 0) with
  accessFlags := 49
  interfaces := #[]
  cf := some (fileOf pool35 2 #[] #[] 49 4 #[] #[])
  fields := #[]
  methods := #[]
  instanceTypes := #[]
  staticTypes := #[]
  resolved := Array.replicate 5 none
  statics := none }

/-- the primitive byte -/
def k36 : Class := { plain "byte" none with kind := .primitive 'B', accessFlags := 0x411 }
/-- [B -/
def k37 : Class := { plain "[B" (some 0) with kind := .array 36 .byte, interfaces := #[16, 2], accessFlags := 1041 }

/-- the primitive char -/
def k38 : Class := { plain "char" none with kind := .primitive 'C', accessFlags := 0x411 }
/-- [C -/
def k39 : Class := { plain "[C" (some 0) with kind := .array 38 .char, interfaces := #[16, 2], accessFlags := 1041 }

/-- the primitive int -/
def k40 : Class := { plain "int" none with kind := .primitive 'I', accessFlags := 0x411 }
/-- [I -/
def k41 : Class := { plain "[I" (some 0) with kind := .array 40 .int, interfaces := #[16, 2], accessFlags := 1041 }

/-- [Ljava/lang/Object; -/
def k42 : Class := { plain "[Ljava/lang/Object;" (some 0) with kind := .array 0 (.object "java/lang/Object"), interfaces := #[16, 2], accessFlags := 1041, mirror := some 5 }

def heap : Heap := #[{ cls := 7, slots := #[.long 0, .int 1, .null, .int 0, .null, .int 0, .int 0], vm := .statics 7 },
  { cls := 17, slots := #[.long 0, .int 0, .ref 9, .ref 10], vm := .statics 17 },
  { cls := 20, slots := #[.long 0, .int 0, .null, .ref 11, .ref 7, .null, .null, .null, .int 0, .int 1], vm := .statics 20 },
  { cls := 27, slots := #[.ref 8, .null, .null, .null], vm := .statics 27 },
  { cls := 33, slots := #[.null, .null, .null], vm := .statics 33 },
  { cls := 35, slots := #[], vm := .mirror 42 },
  { cls := 42, slots := #[], vm := .none },
  { cls := 24, slots := #[.ref 6, .int 0], vm := .none },
  { cls := 27, slots := #[.null, .int 0, .int 0, .int 0], vm := .none },
  { cls := 42, slots := #[], vm := .none },
  { cls := 42, slots := #[], vm := .none },
  { cls := 0, slots := #[], vm := .none }]
def classes : Array Class := #[k0, k1, k2, k3, k4, k5, k6, k7, k8, k9, k10, k11, k12, k13, k14, k15, k16, k17, k18, k19, k20, k21, k22, k23, k24, k25, k26, k27, k28, k29, k30, k31, k32, k33, k34, k35, k36, k37, k38, k39, k40, k41, k42]
def interned : List (Array UInt16 × Addr) := []
def slotsUsed : Nat := 34
def theMethod : MethodId := ⟨1, 1⟩
def args0 : Array Value := #[.long 1, .int 1, .int 1, .int 1]
def aboutOver (below : List Frame) : State where
  vm := { classes := classes, interned := interned.toArray }
  heap := heap
  slotsUsed := slotsUsed
  threads := #[{ frames := .invoking theMethod args0 :: below }]
def below0 : List Frame := [.native { method := ⟨0, 0⟩, args := #[] }]
def about1 : State := aboutOver below0
def p0 : Program := .bare "" "" ""
def e0 : Env := launch0.env 0 0 0
theorem w_frames : about1.frames = Frame.invoking theMethod args0 :: below0 := rfl
set_option maxRecDepth 65536 in
theorem w_args : argsFit about1.vm theMethod args0 = true := by decide +kernel
set_option maxRecDepth 65536 in
theorem w_heap : heapFits about1 = true := by decide +kernel
set_option maxRecDepth 65536 in
theorem w_runnable : about1.curStatus? = some .runnable := by decide +kernel
set_option maxRecDepth 65536 in
theorem w_alone : about1.alone = true := by decide +kernel
set_option maxRecDepth 65536 in
theorem w_named : about1.methodNamed? x = some theMethod := by decide +kernel
set_option maxRecDepth 65536 in
theorem w_hears : about1.hears theMethod below0 = true := by decide +kernel
set_option maxRecDepth 65536 in
theorem w_ripe : about1.ripe theMethod args0 below0 = true := by decide +kernel
theorem w_running : about1.status = .running := rfl
set_option maxRecDepth 65536 in
theorem w_room : about1.hasRoom e0.platform room_1 = true :=
  launch0.hasRoom_least _ room_1 (by decide +kernel) (by decide +kernel) (by decide +kernel) (by decide +kernel) (by decide +kernel) (by decide +kernel)
theorem allAtoms_all (ts : List Jvm.Cond) (a : Array Jvm.Value) (st : Jvm.State) : (allAtoms ts).before a st = ts.all (fun c => c.before a st) := by
  induction ts with
  | nil => rfl
  | cons c t ih =>
    show (Jvm.Cond.and c (allAtoms t)).before a st = _
    rw [Jvm.Cond.before_and, ih, List.all_cons]
def words1 : List Jvm.Cond := Jvm.Cond.code x code maxLocals ret :: tables_1
/-- a 'code' word, met by the world's own term for the bytes: nothing is compared byte by byte -/
theorem code_word {y : MethodName} {bytes : ByteArray} {mx : Nat} {rt : Option FieldType} {a : Array Value} {s : State} {m : MethodId} {meth : Method} {c : Code} (h1 : s.methodNamed? y = some m) (h2 : s.vm.method? m = some meth) (h3 : meth.code = some c) (h4 : c.code = bytes)
    (h5 : (c.maxLocals == mx && c.exceptionTable.isEmpty && decide (c.maxStack ≤ mostOperands) && decide (meth.sig.returnType = rt) && !meth.locks && decide (parseMethodDescriptor y.desc = some meth.sig)) = true) : (Jvm.Cond.code y bytes mx rt).before a s = true := by
  simp only [Bool.and_eq_true, beq_iff_eq, Bool.not_eq_true', decide_eq_true_eq] at h5
  obtain ⟨⟨⟨⟨⟨g1, g2⟩, g3⟩, g4⟩, g5⟩, g6⟩ := h5
  simp [Cond.before, Cond.holds, Cond.value, h1, h2, h3, h4, g1, g2, g3, g4, g5, g6]
def isCode : Jvm.Cond → Bool
  | .code _ _ _ _ => true
  | _ => false
theorem all_split {L : List Jvm.Cond} {P : Jvm.Cond → Bool} (h1 : L.all (fun c => isCode c || P c) = true) (h2 : ∀ c ∈ L.filter isCode, P c = true) : L.all P = true := by
  refine List.all_eq_true.mpr fun c hc => ?_
  have h := List.all_eq_true.mp h1 c hc
  rcases Bool.eq_false_or_eq_true (isCode c) with hi | hi
  · exact h2 c (List.mem_filter.mpr ⟨hc, hi⟩)
  · simpa [hi] using h
set_option maxRecDepth 65536 in
theorem w_c0 : (Jvm.Cond.code x code maxLocals ret).before args0 about1 = true := code_word (m := ⟨1, 1⟩) (meth := k1m1) (c := k1c1) (by decide +kernel) rfl rfl rfl (by decide +kernel)
set_option maxRecDepth 65536 in
theorem w_c1 : (Jvm.Cond.code ({ cls := "java/lang/String", name := "<init>", desc := "([C)V" } : Jvm.MethodName) jdk_42_method_3_code (2 : Nat) (Option.none : Option Jvm.ClassFile.FieldType)).before args0 about1 = true := code_word (m := ⟨7, 1⟩) (meth := k7m1) (c := k7c1) (by decide +kernel) rfl rfl rfl (by decide +kernel)
set_option maxRecDepth 65536 in
theorem w_c2 : (Jvm.Cond.code ({ cls := "java/lang/String", name := "<init>", desc := "([CIILjava/lang/Void;)V" } : Jvm.MethodName) jdk_42_method_149_code (6 : Nat) (Option.none : Option Jvm.ClassFile.FieldType)).before args0 about1 = true := code_word (m := ⟨7, 2⟩) (meth := k7m2) (c := k7c2) (by decide +kernel) rfl rfl rfl (by decide +kernel)
set_option maxRecDepth 65536 in
theorem w_c3 : (Jvm.Cond.code ({ cls := "java/lang/Object", name := "<init>", desc := "()V" } : Jvm.MethodName) object_method_1_code (1 : Nat) (Option.none : Option Jvm.ClassFile.FieldType)).before args0 about1 = true := code_word (m := ⟨0, 0⟩) (meth := k0m0) (c := k0c0) (by decide +kernel) rfl rfl rfl (by decide +kernel)
set_option maxRecDepth 65536 in
theorem w_c4 : (Jvm.Cond.code ({ cls := "java/lang/StringUTF16", name := "compress", desc := "([CII)[B" } : Jvm.MethodName) jdk_52_method_16_code (6 : Nat) (Option.some (Jvm.ClassFile.FieldType.array Jvm.ClassFile.FieldType.byte))).before args0 about1 = true := code_word (m := ⟨8, 2⟩) (meth := k8m2) (c := k8c2) (by decide +kernel) rfl rfl rfl (by decide +kernel)
set_option maxRecDepth 65536 in
theorem w_c5 : (Jvm.Cond.code ({ cls := "java/lang/StringUTF16", name := "compress", desc := "([CI[BII)I" } : Jvm.MethodName) jdk_52_method_21_code (7 : Nat) (Option.some Jvm.ClassFile.FieldType.int)).before args0 about1 = true := code_word (m := ⟨8, 3⟩) (meth := k8m3) (c := k8c3) (by decide +kernel) rfl rfl rfl (by decide +kernel)
set_option maxRecDepth 65536 in
theorem w_c6 : (Jvm.Cond.code ({ cls := "java/lang/StringUTF16", name := "coderFromArrayLen", desc := "([BI)B" } : Jvm.MethodName) jdk_52_method_15_code (2 : Nat) (Option.some Jvm.ClassFile.FieldType.byte)).before args0 about1 = true := code_word (m := ⟨8, 1⟩) (meth := k8m1) (c := k8c1) (by decide +kernel) rfl rfl rfl (by decide +kernel)
set_option maxRecDepth 65536 in
theorem w_c7 : (Jvm.Cond.code ({ cls := "java/util/ArrayList", name := "<init>", desc := "()V" } : Jvm.MethodName) jdk_38_method_2_code (1 : Nat) (Option.none : Option Jvm.ClassFile.FieldType)).before args0 about1 = true := code_word (m := ⟨17, 0⟩) (meth := k17m0) (c := k17c0) (by decide +kernel) rfl rfl rfl (by decide +kernel)
set_option maxRecDepth 65536 in
theorem w_c8 : (Jvm.Cond.code ({ cls := "java/util/AbstractList", name := "<init>", desc := "()V" } : Jvm.MethodName) jdk_39_method_1_code (1 : Nat) (Option.none : Option Jvm.ClassFile.FieldType)).before args0 about1 = true := code_word (m := ⟨14, 0⟩) (meth := k14m0) (c := k14c0) (by decide +kernel) rfl rfl rfl (by decide +kernel)
set_option maxRecDepth 65536 in
theorem w_c9 : (Jvm.Cond.code ({ cls := "java/util/AbstractCollection", name := "<init>", desc := "()V" } : Jvm.MethodName) jdk_22_method_1_code (1 : Nat) (Option.none : Option Jvm.ClassFile.FieldType)).before args0 about1 = true := code_word (m := ⟨11, 0⟩) (meth := k11m0) (c := k11c0) (by decide +kernel) rfl rfl rfl (by decide +kernel)
set_option maxRecDepth 65536 in
theorem w_c10 : (Jvm.Cond.code ({ cls := "org/quorumweave/LogMetadata", name := "<init>", desc := "(Ljava/lang/String;JLjava/util/List;)V" } : Jvm.MethodName) prog_14_method_1_code (5 : Nat) (Option.none : Option Jvm.ClassFile.FieldType)).before args0 about1 = true := code_word (m := ⟨19, 0⟩) (meth := k19m0) (c := k19c0) (by decide +kernel) rfl rfl rfl (by decide +kernel)
set_option maxRecDepth 65536 in
theorem w_c11 : (Jvm.Cond.code ({ cls := "java/lang/Record", name := "<init>", desc := "()V" } : Jvm.MethodName) jdk_30_method_1_code (1 : Nat) (Option.none : Option Jvm.ClassFile.FieldType)).before args0 about1 = true := code_word (m := ⟨18, 0⟩) (meth := k18m0) (c := k18c0) (by decide +kernel) rfl rfl rfl (by decide +kernel)
set_option maxRecDepth 65536 in
theorem w_c12 : (Jvm.Cond.code ({ cls := "java/util/List", name := "copyOf", desc := "(Ljava/util/Collection;)Ljava/util/List;" } : Jvm.MethodName) jdk_40_method_48_code (1 : Nat) (Option.some (Jvm.ClassFile.FieldType.object "java/util/List"))).before args0 about1 = true := code_word (m := ⟨13, 2⟩) (meth := k13m2) (c := k13c2) (by decide +kernel) rfl rfl rfl (by decide +kernel)
set_option maxRecDepth 65536 in
theorem w_c13 : (Jvm.Cond.code ({ cls := "java/util/ImmutableCollections", name := "listCopy", desc := "(Ljava/util/Collection;)Ljava/util/List;" } : Jvm.MethodName) jdk_56_method_3_code (2 : Nat) (Option.some (Jvm.ClassFile.FieldType.object "java/util/List"))).before args0 about1 = true := code_word (m := ⟨20, 1⟩) (meth := k20m1) (c := k20c1) (by decide +kernel) rfl rfl rfl (by decide +kernel)
set_option maxRecDepth 65536 in
theorem w_c14 : (Jvm.Cond.code ({ cls := "java/util/ArrayList", name := "isEmpty", desc := "()Z" } : Jvm.MethodName) jdk_38_method_9_code (1 : Nat) (Option.some Jvm.ClassFile.FieldType.boolean)).before args0 about1 = true := code_word (m := ⟨17, 3⟩) (meth := k17m3) (c := k17c3) (by decide +kernel) rfl rfl rfl (by decide +kernel)
set_option maxRecDepth 65536 in
theorem w_c15 : (Jvm.Cond.code ({ cls := "java/util/List", name := "of", desc := "()Ljava/util/List;" } : Jvm.MethodName) jdk_40_method_36_code (0 : Nat) (Option.some (Jvm.ClassFile.FieldType.object "java/util/List"))).before args0 about1 = true := code_word (m := ⟨13, 0⟩) (meth := k13m0) (c := k13c0) (by decide +kernel) rfl rfl rfl (by decide +kernel)
set_option maxRecDepth 65536 in
theorem w_c16 : (Jvm.Cond.code ({ cls := "org/quorumweave/LogMetadata", name := "exists", desc := "()Z" } : Jvm.MethodName) prog_14_method_3_code (1 : Nat) (Option.some Jvm.ClassFile.FieldType.boolean)).before args0 about1 = true := code_word (m := ⟨19, 2⟩) (meth := k19m2) (c := k19c2) (by decide +kernel) rfl rfl rfl (by decide +kernel)
set_option maxRecDepth 65536 in
theorem w_c17 : (Jvm.Cond.code ({ cls := "org/quorumweave/LogMetadata", name := "absent", desc := "(Ljava/lang/String;)Lorg/quorumweave/LogMetadata;" } : Jvm.MethodName) prog_14_method_2_code (1 : Nat) (Option.some (Jvm.ClassFile.FieldType.object "org/quorumweave/LogMetadata"))).before args0 about1 = true := code_word (m := ⟨19, 1⟩) (meth := k19m1) (c := k19c1) (by decide +kernel) rfl rfl rfl (by decide +kernel)
set_option maxRecDepth 65536 in
theorem w_c18 : (Jvm.Cond.code ({ cls := "org/quorumweave/Segment", name := "open", desc := "(JLjava/util/List;II)Lorg/quorumweave/Segment;" } : Jvm.MethodName) prog_40_method_2_code (5 : Nat) (Option.some (Jvm.ClassFile.FieldType.object "org/quorumweave/Segment"))).before args0 about1 = true := code_word (m := ⟨25, 1⟩) (meth := k25m1) (c := k25c1) (by decide +kernel) rfl rfl rfl (by decide +kernel)
set_option maxRecDepth 65536 in
theorem w_c19 : (Jvm.Cond.code ({ cls := "org/quorumweave/Segment", name := "<init>", desc := "(JLjava/util/List;IILorg/quorumweave/Segment$State;J)V" } : Jvm.MethodName) prog_40_method_1_code (9 : Nat) (Option.none : Option Jvm.ClassFile.FieldType)).before args0 about1 = true := code_word (m := ⟨25, 0⟩) (meth := k25m0) (c := k25c0) (by decide +kernel) rfl rfl rfl (by decide +kernel)
set_option maxRecDepth 65536 in
theorem w_c20 : (Jvm.Cond.code ({ cls := "java/util/ArrayList", name := "add", desc := "(Ljava/lang/Object;)Z" } : Jvm.MethodName) jdk_38_method_25_code (2 : Nat) (Option.some Jvm.ClassFile.FieldType.boolean)).before args0 about1 = true := code_word (m := ⟨17, 6⟩) (meth := k17m6) (c := k17c6) (by decide +kernel) rfl rfl rfl (by decide +kernel)
set_option maxRecDepth 65536 in
theorem w_c21 : (Jvm.Cond.code ({ cls := "java/util/ArrayList", name := "add", desc := "(Ljava/lang/Object;[Ljava/lang/Object;I)V" } : Jvm.MethodName) jdk_38_method_24_code (4 : Nat) (Option.none : Option Jvm.ClassFile.FieldType)).before args0 about1 = true := code_word (m := ⟨17, 5⟩) (meth := k17m5) (c := k17c5) (by decide +kernel) rfl rfl rfl (by decide +kernel)
set_option maxRecDepth 65536 in
theorem w_c22 : (Jvm.Cond.code ({ cls := "java/util/ArrayList", name := "grow", desc := "()[Ljava/lang/Object;" } : Jvm.MethodName) jdk_38_method_7_code (1 : Nat) (Option.some (Jvm.ClassFile.FieldType.array (Jvm.ClassFile.FieldType.object "java/lang/Object")))).before args0 about1 = true := code_word (m := ⟨17, 2⟩) (meth := k17m2) (c := k17c2) (by decide +kernel) rfl rfl rfl (by decide +kernel)
set_option maxRecDepth 65536 in
theorem w_c23 : (Jvm.Cond.code ({ cls := "java/util/ArrayList", name := "grow", desc := "(I)[Ljava/lang/Object;" } : Jvm.MethodName) jdk_38_method_6_code (4 : Nat) (Option.some (Jvm.ClassFile.FieldType.array (Jvm.ClassFile.FieldType.object "java/lang/Object")))).before args0 about1 = true := code_word (m := ⟨17, 1⟩) (meth := k17m1) (c := k17c1) (by decide +kernel) rfl rfl rfl (by decide +kernel)
set_option maxRecDepth 65536 in
theorem w_c24 : (Jvm.Cond.code ({ cls := "java/lang/Math", name := "max", desc := "(II)I" } : Jvm.MethodName) jdk_29_method_65_code (2 : Nat) (Option.some Jvm.ClassFile.FieldType.int)).before args0 about1 = true := code_word (m := ⟨28, 1⟩) (meth := k28m1) (c := k28c1) (by decide +kernel) rfl rfl rfl (by decide +kernel)
set_option maxRecDepth 65536 in
theorem w_c25 : (Jvm.Cond.code ({ cls := "java/util/ArrayList", name := "toArray", desc := "()[Ljava/lang/Object;" } : Jvm.MethodName) jdk_38_method_16_code (1 : Nat) (Option.some (Jvm.ClassFile.FieldType.array (Jvm.ClassFile.FieldType.object "java/lang/Object")))).before args0 about1 = true := code_word (m := ⟨17, 4⟩) (meth := k17m4) (c := k17c4) (by decide +kernel) rfl rfl rfl (by decide +kernel)
set_option maxRecDepth 65536 in
theorem w_c26 : (Jvm.Cond.code ({ cls := "java/util/Arrays", name := "copyOf", desc := "([Ljava/lang/Object;I)[Ljava/lang/Object;" } : Jvm.MethodName) jdk_65_method_119_code (2 : Nat) (Option.some (Jvm.ClassFile.FieldType.array (Jvm.ClassFile.FieldType.object "java/lang/Object")))).before args0 about1 = true := code_word (m := ⟨29, 1⟩) (meth := k29m1) (c := k29c1) (by decide +kernel) rfl rfl rfl (by decide +kernel)
set_option maxRecDepth 65536 in
theorem w_c27 : (Jvm.Cond.code ({ cls := "java/util/Arrays", name := "copyOf", desc := "([Ljava/lang/Object;ILjava/lang/Class;)[Ljava/lang/Object;" } : Jvm.MethodName) jdk_65_method_120_code (4 : Nat) (Option.some (Jvm.ClassFile.FieldType.array (Jvm.ClassFile.FieldType.object "java/lang/Object")))).before args0 about1 = true := code_word (m := ⟨29, 2⟩) (meth := k29m2) (c := k29c2) (by decide +kernel) rfl rfl rfl (by decide +kernel)
set_option maxRecDepth 65536 in
theorem w_c28 : (Jvm.Cond.code ({ cls := "java/lang/Math", name := "min", desc := "(II)I" } : Jvm.MethodName) jdk_29_method_69_code (2 : Nat) (Option.some Jvm.ClassFile.FieldType.int)).before args0 about1 = true := code_word (m := ⟨28, 2⟩) (meth := k28m2) (c := k28c2) (by decide +kernel) rfl rfl rfl (by decide +kernel)
set_option maxRecDepth 65536 in
theorem w_c29 : (Jvm.Cond.code ({ cls := "java/util/List", name := "of", desc := "([Ljava/lang/Object;)Ljava/util/List;" } : Jvm.MethodName) jdk_40_method_47_code (2 : Nat) (Option.some (Jvm.ClassFile.FieldType.object "java/util/List"))).before args0 about1 = true := code_word (m := ⟨13, 1⟩) (meth := k13m1) (c := k13c1) (by decide +kernel) rfl rfl rfl (by decide +kernel)
set_option maxRecDepth 65536 in
theorem w_c30 : (Jvm.Cond.code ({ cls := "java/util/ImmutableCollections$List12", name := "<init>", desc := "(Ljava/lang/Object;)V" } : Jvm.MethodName) jdk_44_method_1_code (2 : Nat) (Option.none : Option Jvm.ClassFile.FieldType)).before args0 about1 = true := code_word (m := ⟨23, 0⟩) (meth := k23m0) (c := k23c0) (by decide +kernel) rfl rfl rfl (by decide +kernel)
set_option maxRecDepth 65536 in
theorem w_c31 : (Jvm.Cond.code ({ cls := "java/util/ImmutableCollections$AbstractImmutableList", name := "<init>", desc := "()V" } : Jvm.MethodName) jdk_46_method_1_code (1 : Nat) (Option.none : Option Jvm.ClassFile.FieldType)).before args0 about1 = true := code_word (m := ⟨22, 0⟩) (meth := k22m0) (c := k22c0) (by decide +kernel) rfl rfl rfl (by decide +kernel)
set_option maxRecDepth 65536 in
theorem w_c32 : (Jvm.Cond.code ({ cls := "java/util/ImmutableCollections$AbstractImmutableCollection", name := "<init>", desc := "()V" } : Jvm.MethodName) jdk_47_method_1_code (1 : Nat) (Option.none : Option Jvm.ClassFile.FieldType)).before args0 about1 = true := code_word (m := ⟨21, 0⟩) (meth := k21m0) (c := k21c0) (by decide +kernel) rfl rfl rfl (by decide +kernel)
set_option maxRecDepth 65536 in
theorem w_c33 : (Jvm.Cond.code ({ cls := "java/util/Objects", name := "requireNonNull", desc := "(Ljava/lang/Object;)Ljava/lang/Object;" } : Jvm.MethodName) jdk_31_method_10_code (1 : Nat) (Option.some (Jvm.ClassFile.FieldType.object "java/lang/Object"))).before args0 about1 = true := code_word (m := ⟨31, 1⟩) (meth := k31m1) (c := k31c1) (by decide +kernel) rfl rfl rfl (by decide +kernel)
def codes1 : List Jvm.Cond := [Jvm.Cond.code x code maxLocals ret, Jvm.Cond.code ({ cls := "java/lang/String", name := "<init>", desc := "([C)V" } : Jvm.MethodName) jdk_42_method_3_code (2 : Nat) (Option.none : Option Jvm.ClassFile.FieldType), Jvm.Cond.code ({ cls := "java/lang/String", name := "<init>", desc := "([CIILjava/lang/Void;)V" } : Jvm.MethodName) jdk_42_method_149_code (6 : Nat) (Option.none : Option Jvm.ClassFile.FieldType), Jvm.Cond.code ({ cls := "java/lang/Object", name := "<init>", desc := "()V" } : Jvm.MethodName) object_method_1_code (1 : Nat) (Option.none : Option Jvm.ClassFile.FieldType), Jvm.Cond.code ({ cls := "java/lang/StringUTF16", name := "compress", desc := "([CII)[B" } : Jvm.MethodName) jdk_52_method_16_code (6 : Nat) (Option.some (Jvm.ClassFile.FieldType.array Jvm.ClassFile.FieldType.byte)), Jvm.Cond.code ({ cls := "java/lang/StringUTF16", name := "compress", desc := "([CI[BII)I" } : Jvm.MethodName) jdk_52_method_21_code (7 : Nat) (Option.some Jvm.ClassFile.FieldType.int), Jvm.Cond.code ({ cls := "java/lang/StringUTF16", name := "coderFromArrayLen", desc := "([BI)B" } : Jvm.MethodName) jdk_52_method_15_code (2 : Nat) (Option.some Jvm.ClassFile.FieldType.byte), Jvm.Cond.code ({ cls := "java/util/ArrayList", name := "<init>", desc := "()V" } : Jvm.MethodName) jdk_38_method_2_code (1 : Nat) (Option.none : Option Jvm.ClassFile.FieldType), Jvm.Cond.code ({ cls := "java/util/AbstractList", name := "<init>", desc := "()V" } : Jvm.MethodName) jdk_39_method_1_code (1 : Nat) (Option.none : Option Jvm.ClassFile.FieldType), Jvm.Cond.code ({ cls := "java/util/AbstractCollection", name := "<init>", desc := "()V" } : Jvm.MethodName) jdk_22_method_1_code (1 : Nat) (Option.none : Option Jvm.ClassFile.FieldType), Jvm.Cond.code ({ cls := "org/quorumweave/LogMetadata", name := "<init>", desc := "(Ljava/lang/String;JLjava/util/List;)V" } : Jvm.MethodName) prog_14_method_1_code (5 : Nat) (Option.none : Option Jvm.ClassFile.FieldType), Jvm.Cond.code ({ cls := "java/lang/Record", name := "<init>", desc := "()V" } : Jvm.MethodName) jdk_30_method_1_code (1 : Nat) (Option.none : Option Jvm.ClassFile.FieldType), Jvm.Cond.code ({ cls := "java/util/List", name := "copyOf", desc := "(Ljava/util/Collection;)Ljava/util/List;" } : Jvm.MethodName) jdk_40_method_48_code (1 : Nat) (Option.some (Jvm.ClassFile.FieldType.object "java/util/List")), Jvm.Cond.code ({ cls := "java/util/ImmutableCollections", name := "listCopy", desc := "(Ljava/util/Collection;)Ljava/util/List;" } : Jvm.MethodName) jdk_56_method_3_code (2 : Nat) (Option.some (Jvm.ClassFile.FieldType.object "java/util/List")), Jvm.Cond.code ({ cls := "java/util/ArrayList", name := "isEmpty", desc := "()Z" } : Jvm.MethodName) jdk_38_method_9_code (1 : Nat) (Option.some Jvm.ClassFile.FieldType.boolean), Jvm.Cond.code ({ cls := "java/util/List", name := "of", desc := "()Ljava/util/List;" } : Jvm.MethodName) jdk_40_method_36_code (0 : Nat) (Option.some (Jvm.ClassFile.FieldType.object "java/util/List")), Jvm.Cond.code ({ cls := "org/quorumweave/LogMetadata", name := "exists", desc := "()Z" } : Jvm.MethodName) prog_14_method_3_code (1 : Nat) (Option.some Jvm.ClassFile.FieldType.boolean), Jvm.Cond.code ({ cls := "org/quorumweave/LogMetadata", name := "absent", desc := "(Ljava/lang/String;)Lorg/quorumweave/LogMetadata;" } : Jvm.MethodName) prog_14_method_2_code (1 : Nat) (Option.some (Jvm.ClassFile.FieldType.object "org/quorumweave/LogMetadata")), Jvm.Cond.code ({ cls := "org/quorumweave/Segment", name := "open", desc := "(JLjava/util/List;II)Lorg/quorumweave/Segment;" } : Jvm.MethodName) prog_40_method_2_code (5 : Nat) (Option.some (Jvm.ClassFile.FieldType.object "org/quorumweave/Segment")), Jvm.Cond.code ({ cls := "org/quorumweave/Segment", name := "<init>", desc := "(JLjava/util/List;IILorg/quorumweave/Segment$State;J)V" } : Jvm.MethodName) prog_40_method_1_code (9 : Nat) (Option.none : Option Jvm.ClassFile.FieldType), Jvm.Cond.code ({ cls := "java/util/ArrayList", name := "add", desc := "(Ljava/lang/Object;)Z" } : Jvm.MethodName) jdk_38_method_25_code (2 : Nat) (Option.some Jvm.ClassFile.FieldType.boolean), Jvm.Cond.code ({ cls := "java/util/ArrayList", name := "add", desc := "(Ljava/lang/Object;[Ljava/lang/Object;I)V" } : Jvm.MethodName) jdk_38_method_24_code (4 : Nat) (Option.none : Option Jvm.ClassFile.FieldType), Jvm.Cond.code ({ cls := "java/util/ArrayList", name := "grow", desc := "()[Ljava/lang/Object;" } : Jvm.MethodName) jdk_38_method_7_code (1 : Nat) (Option.some (Jvm.ClassFile.FieldType.array (Jvm.ClassFile.FieldType.object "java/lang/Object"))), Jvm.Cond.code ({ cls := "java/util/ArrayList", name := "grow", desc := "(I)[Ljava/lang/Object;" } : Jvm.MethodName) jdk_38_method_6_code (4 : Nat) (Option.some (Jvm.ClassFile.FieldType.array (Jvm.ClassFile.FieldType.object "java/lang/Object"))), Jvm.Cond.code ({ cls := "java/lang/Math", name := "max", desc := "(II)I" } : Jvm.MethodName) jdk_29_method_65_code (2 : Nat) (Option.some Jvm.ClassFile.FieldType.int), Jvm.Cond.code ({ cls := "java/util/ArrayList", name := "toArray", desc := "()[Ljava/lang/Object;" } : Jvm.MethodName) jdk_38_method_16_code (1 : Nat) (Option.some (Jvm.ClassFile.FieldType.array (Jvm.ClassFile.FieldType.object "java/lang/Object"))), Jvm.Cond.code ({ cls := "java/util/Arrays", name := "copyOf", desc := "([Ljava/lang/Object;I)[Ljava/lang/Object;" } : Jvm.MethodName) jdk_65_method_119_code (2 : Nat) (Option.some (Jvm.ClassFile.FieldType.array (Jvm.ClassFile.FieldType.object "java/lang/Object"))), Jvm.Cond.code ({ cls := "java/util/Arrays", name := "copyOf", desc := "([Ljava/lang/Object;ILjava/lang/Class;)[Ljava/lang/Object;" } : Jvm.MethodName) jdk_65_method_120_code (4 : Nat) (Option.some (Jvm.ClassFile.FieldType.array (Jvm.ClassFile.FieldType.object "java/lang/Object"))), Jvm.Cond.code ({ cls := "java/lang/Math", name := "min", desc := "(II)I" } : Jvm.MethodName) jdk_29_method_69_code (2 : Nat) (Option.some Jvm.ClassFile.FieldType.int), Jvm.Cond.code ({ cls := "java/util/List", name := "of", desc := "([Ljava/lang/Object;)Ljava/util/List;" } : Jvm.MethodName) jdk_40_method_47_code (2 : Nat) (Option.some (Jvm.ClassFile.FieldType.object "java/util/List")), Jvm.Cond.code ({ cls := "java/util/ImmutableCollections$List12", name := "<init>", desc := "(Ljava/lang/Object;)V" } : Jvm.MethodName) jdk_44_method_1_code (2 : Nat) (Option.none : Option Jvm.ClassFile.FieldType), Jvm.Cond.code ({ cls := "java/util/ImmutableCollections$AbstractImmutableList", name := "<init>", desc := "()V" } : Jvm.MethodName) jdk_46_method_1_code (1 : Nat) (Option.none : Option Jvm.ClassFile.FieldType), Jvm.Cond.code ({ cls := "java/util/ImmutableCollections$AbstractImmutableCollection", name := "<init>", desc := "()V" } : Jvm.MethodName) jdk_47_method_1_code (1 : Nat) (Option.none : Option Jvm.ClassFile.FieldType), Jvm.Cond.code ({ cls := "java/util/Objects", name := "requireNonNull", desc := "(Ljava/lang/Object;)Ljava/lang/Object;" } : Jvm.MethodName) jdk_31_method_10_code (1 : Nat) (Option.some (Jvm.ClassFile.FieldType.object "java/lang/Object"))]
set_option maxRecDepth 65536 in
theorem codes_eq : words1.filter isCode = codes1 := rfl
theorem w_codes : ∀ c ∈ words1.filter isCode, c.before args0 about1 = true := by
  rw [codes_eq]
  intro c hc
  simp only [codes1, List.mem_cons, List.not_mem_nil, or_false] at hc
  rcases hc with rfl | rfl | rfl | rfl | rfl | rfl | rfl | rfl | rfl | rfl | rfl | rfl | rfl | rfl | rfl | rfl | rfl | rfl | rfl | rfl | rfl | rfl | rfl | rfl | rfl | rfl | rfl | rfl | rfl | rfl | rfl | rfl | rfl | rfl
  · exact w_c0
  · exact w_c1
  · exact w_c2
  · exact w_c3
  · exact w_c4
  · exact w_c5
  · exact w_c6
  · exact w_c7
  · exact w_c8
  · exact w_c9
  · exact w_c10
  · exact w_c11
  · exact w_c12
  · exact w_c13
  · exact w_c14
  · exact w_c15
  · exact w_c16
  · exact w_c17
  · exact w_c18
  · exact w_c19
  · exact w_c20
  · exact w_c21
  · exact w_c22
  · exact w_c23
  · exact w_c24
  · exact w_c25
  · exact w_c26
  · exact w_c27
  · exact w_c28
  · exact w_c29
  · exact w_c30
  · exact w_c31
  · exact w_c32
  · exact w_c33
set_option maxRecDepth 65536 in
theorem w_t1 : (words1.take 24).all (fun c => isCode c || c.before args0 about1) = true := by decide +kernel
set_option maxRecDepth 65536 in
theorem w_t2 : ((words1.drop 24).take 24).all (fun c => isCode c || c.before args0 about1) = true := by decide +kernel
set_option maxRecDepth 65536 in
theorem w_t3 : (((words1.drop 24).drop 24).take 24).all (fun c => isCode c || c.before args0 about1) = true := by decide +kernel
set_option maxRecDepth 65536 in
theorem w_t4 : ((((words1.drop 24).drop 24).drop 24).take 24).all (fun c => isCode c || c.before args0 about1) = true := by decide +kernel
set_option maxRecDepth 65536 in
theorem w_t5 : (((((words1.drop 24).drop 24).drop 24).drop 24).take 24).all (fun c => isCode c || c.before args0 about1) = true := by decide +kernel
set_option maxRecDepth 65536 in
theorem w_t6 : ((((((words1.drop 24).drop 24).drop 24).drop 24).drop 24).take 24).all (fun c => isCode c || c.before args0 about1) = true := by decide +kernel
set_option maxRecDepth 65536 in
theorem w_t7 : (((((((words1.drop 24).drop 24).drop 24).drop 24).drop 24).drop 24).take 24).all (fun c => isCode c || c.before args0 about1) = true := by decide +kernel
set_option maxRecDepth 65536 in
theorem w_t8 : ((((((((words1.drop 24).drop 24).drop 24).drop 24).drop 24).drop 24).drop 24).take 24).all (fun c => isCode c || c.before args0 about1) = true := by decide +kernel
set_option maxRecDepth 65536 in
theorem w_t9 : (((((((((words1.drop 24).drop 24).drop 24).drop 24).drop 24).drop 24).drop 24).drop 24).take 24).all (fun c => isCode c || c.before args0 about1) = true := by decide +kernel
set_option maxRecDepth 65536 in
theorem w_t10 : (((((((((words1.drop 24).drop 24).drop 24).drop 24).drop 24).drop 24).drop 24).drop 24).drop 24).all (fun c => isCode c || c.before args0 about1) = true := by decide +kernel
theorem w_tables : (allAtoms (Jvm.Cond.code x code maxLocals ret :: tables_1)).before args0 about1 = true := by
  rw [allAtoms_all]
  show words1.all (fun c => c.before args0 about1) = true
  refine all_split ?_ w_codes
  rw [← List.take_append_drop 24 words1, List.all_append, w_t1, ← List.take_append_drop 24 (words1.drop 24), List.all_append, w_t2, ← List.take_append_drop 24 ((words1.drop 24).drop 24), List.all_append, w_t3, ← List.take_append_drop 24 (((words1.drop 24).drop 24).drop 24), List.all_append, w_t4, ← List.take_append_drop 24 ((((words1.drop 24).drop 24).drop 24).drop 24), List.all_append, w_t5, ← List.take_append_drop 24 (((((words1.drop 24).drop 24).drop 24).drop 24).drop 24), List.all_append, w_t6, ← List.take_append_drop 24 ((((((words1.drop 24).drop 24).drop 24).drop 24).drop 24).drop 24), List.all_append, w_t7, ← List.take_append_drop 24 (((((((words1.drop 24).drop 24).drop 24).drop 24).drop 24).drop 24).drop 24), List.all_append, w_t8, ← List.take_append_drop 24 ((((((((words1.drop 24).drop 24).drop 24).drop 24).drop 24).drop 24).drop 24).drop 24), List.all_append, w_t9, w_t10]
  rfl
set_option maxRecDepth 65536 in
theorem w_rest : rest_1_c.before args0 about1 = true := by decide +kernel
set_option maxRecDepth 65536 in
theorem w_case : (Jvm.Cond.and given_1 narrow_1).before args0 about1 = true := by decide +kernel
theorem w_applies : (headSpec (Jvm.Cond.code x code maxLocals ret :: tables_1) room_1).applies x e0.platform about1 = true :=
  (Spec.applies_iff w_frames).mpr ⟨w_running, w_runnable, w_alone, w_named, w_hears, w_ripe, w_room, w_tables⟩
theorem atStart : AtStart classFile x code maxLocals ret World_1 tables_1 room_1 Calls_1 rest_1 Pre_1 launch0 p0 e0 about1 theMethod args0 below0 :=
  ⟨lists_1, trivial, launch0.admits_env _ _ _, launch0.least_env, fairChoices_fair.cas, fairChoices_fair.clock, w_frames, w_args, w_heap, w_applies, ⟨⟨42, k42, 5, by decide +kernel, rfl, rfl, _, rfl, rfl⟩, trivial⟩, w_rest, w_case⟩
end start1
theorem witness_1 : WitnessClaimed_1 := ⟨start1.p0, start1.e0, start1.about1, start1.theMethod, start1.args0, start1.below0, start1.atStart⟩
end Jvm.Pilot.@@N@@
