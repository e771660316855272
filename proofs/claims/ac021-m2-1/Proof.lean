import JvmDerived
import JvmDerived.Pilot.@@N@@Statement
import JvmDerived.Pilot.@@N@@Code
set_option linter.unusedVariables false
set_option linter.unusedSimpArgs false
@@BLOCK:NumsL.lean.txt@@
/- laws to paste: Road.backV, Road.eqW, Road.codOf (cut by pick.py; bodies as the Statement names them) -/
namespace Jvm.Pilot.@@N@@
namespace StrChars
open Jvm Sem ClassFile Op Lib Jvm.Stand Jvm.Free.XT Jvm.Free.ALB Jvm.Free.JM Jvm.Free
open Jvm.Lib.Cold (StaticIs)
/-- a char array whose places are chars -/
def Ch (a : Addr) (A : Cell) (U : State) : Prop := Arr .char a A U ∧ Typed .char A
theorem Ch.mv {a : Addr} {A : Cell} {U U' : State} (h : Ch a A U) (hal : U.vm.Alike U'.vm) (hh : U'.heap = U.heap) : Ch a A U' := ⟨h.1.mv hal hh, h.2⟩
theorem Ch.keep {a : Addr} {A : Cell} {U U' : State} (h : Ch a A U) (hal : U.vm.Alike U'.vm) (hk : U'.heap[a]? = some A) : Ch a A U' := ⟨h.1.keep hal hk, h.2⟩
/-- what place i of a char[]'s cell holds -/
def cv (A : Cell) (i : Nat) : Int32 := match A.slots[i]? with | some (.int x) => x | _ => 0
theorem Ch.get {a : Addr} {A : Cell} {U : State} (h : Ch a A U) {i : Nat} (hi : i < A.slots.size) : A.slots[i]? = some (.int (cv A i)) := by
  have e := Array.getElem?_eq_getElem hi
  have f := h.2 i _ e
  unfold cv; rw [e]
  generalize A.slots[i] = v at f
  cases v <;> simp [fits] at f ⊢
/-- the byte that i2b leaves of a char -/
def lo8 (x : Int32) : Int32 := x.toInt8.toInt32
theorem fits_lo8 (y : Int32) : fits .byte (.int (lo8 y)) = true := by
  have h1 := y.toInt8.le_toInt
  have h2 := y.toInt8.toInt_lt
  simp only [lo8, fits, Bool.and_eq_true, decide_eq_true_eq, Int32.le_iff_toInt_le, Int8.toInt_toInt32, show (-128 : Int32).toInt = -128 from by decide, show (127 : Int32).toInt = 127 from by decide]
  omega
/-- A' is A but that each place j of lo .. hi - 1 holds f j -/
def Laid (A A' : Cell) (lo hi : Nat) (f : Nat → Value) : Prop := A'.cls = A.cls ∧ A'.vm = A.vm ∧ A'.slots.size = A.slots.size ∧ ∀ i, A'.slots[i]? = if lo ≤ i ∧ i < hi then some (f i) else A.slots[i]?
theorem Laid.zero (A : Cell) (lo : Nat) (f : Nat → Value) : Laid A A lo (lo + 0) f := ⟨rfl, rfl, rfl, fun i => by rw [if_neg (by omega)]⟩
theorem Laid.step {A Ak : Cell} {lo k : Nat} {f : Nat → Value} {v : Value} (h : Laid A Ak lo k f) (hlo : lo ≤ k) (hk : k < Ak.slots.size) (hv : v = f k) : Laid A (Ak.setSlot k v) lo (k + 1) f := by
  refine ⟨h.1, h.2.1, by simpa [Cell.setSlot] using h.2.2.1, fun i => ?_⟩
  by_cases e : k = i
  · subst e; rw [Cell.slots_setSlot_self v hk, if_pos (by omega), hv]
  · rw [Cell.slots_setSlot_ne v e, h.2.2.2 i]
    by_cases q : lo ≤ i ∧ i < k
    · rw [if_pos q, if_pos (by omega)]
    · rw [if_neg q, if_neg (by omega)]
def U16 : String := "java/lang/StringUTF16"
namespace Cmp5
def yN : MethodName := ⟨"java/lang/StringUTF16", "compress", "([CI[BII)I"⟩
abbrev yB : ByteArray := jdk_52_method_21_code
theorem d0 : decode yB 0 = .ok (.iconst 0, 1) := by decide +kernel
theorem d1 : decode yB 1 = .ok (.istore 5, 2) := by decide +kernel
theorem d3 : decode yB 3 = .ok (.iload 5, 2) := by decide +kernel
theorem d5 : decode yB 5 = .ok (.iload 4, 2) := by decide +kernel
theorem d7 : decode yB 7 = .ok (.if_icmp (.ge) 37, 3) := by decide +kernel
theorem d10 : decode yB 10 = .ok (.aload_n 0, 1) := by decide +kernel
theorem d11 : decode yB 11 = .ok (.iload_n 1, 1) := by decide +kernel
theorem d12 : decode yB 12 = .ok (.caload, 1) := by decide +kernel
theorem d13 : decode yB 13 = .ok (.istore 6, 2) := by decide +kernel
theorem d15 : decode yB 15 = .ok (.iload 6, 2) := by decide +kernel
theorem d17 : decode yB 17 = .ok (.sipush 255, 3) := by decide +kernel
theorem d20 : decode yB 20 = .ok (.if_icmp (.le) 6, 3) := by decide +kernel
theorem d26 : decode yB 26 = .ok (.aload_n 2, 1) := by decide +kernel
theorem d27 : decode yB 27 = .ok (.iload_n 3, 1) := by decide +kernel
theorem d28 : decode yB 28 = .ok (.iload 6, 2) := by decide +kernel
theorem d30 : decode yB 30 = .ok (.i2b, 1) := by decide +kernel
theorem d31 : decode yB 31 = .ok (.bastore, 1) := by decide +kernel
theorem d32 : decode yB 32 = .ok (.iinc 1 1, 3) := by decide +kernel
theorem d35 : decode yB 35 = .ok (.iinc 3 1, 3) := by decide +kernel
theorem d38 : decode yB 38 = .ok (.iinc 5 1, 3) := by decide +kernel
theorem d41 : decode yB 41 = .ok (.goto (-38), 3) := by decide +kernel
theorem d44 : decode yB 44 = .ok (.iload 4, 2) := by decide +kernel
theorem d46 : decode yB 46 = .ok (.ireturn, 1) := by decide +kernel
def site : List Cond := []
def tab : Cond := tabOf yN yB 7 (some .int) site
def P (b : Addr) (A : Cell) (d : Addr) (B : Cell) (o q len : Nat) (args : Array Value) (s : State) : Prop := args = #[.ref b, .int (Int32.ofNat o), .ref d, .int (Int32.ofNat q), .int (Int32.ofNat len)] ∧ Ch b A s ∧ Arr .byte d B s ∧ b ≠ d ∧ o + len ≤ A.slots.size ∧ q + len ≤ B.slots.size ∧ ∀ i, i < len → ¬ 255 < cv A (o + i)
def E (b : Addr) (A : Cell) (d : Addr) (B : Cell) (o q len : Nat) (r : Option Value) (s u : State) : Prop := r = some (.int (Int32.ofNat len)) ∧ ∃ B', Put d B' s u ∧ Laid B B' q (q + len) (fun j => Value.int (lo8 (cv A (o + (j - q)))))
/-- no char of the range above 255: len; the places written hold each char's low byte -/
theorem law (l : Launch) (b : Addr) (A : Cell) (d : Addr) (B : Cell) (o q len : Nat) : Law l yN 5 5 0 0 yB 7 (some .int) site (P b A d B o q len) (E b A d B o q len) (copyLocs d q len) 0 0 := by
  refine Law.of_walk (plainFor_of_name (by decide +kernel)) (by decide +kernel) (by decide +kernel) (by decide) (fun _ _ h => by rw [h.1]; rfl) (fun _ U U' hal hh h => ⟨h.1, h.2.1.mv hal hh, h.2.2.1.mv hal hh, h.2.2.2⟩) (fun r U U' V V' h1 hal h2 h => ⟨h.1, h.2.elim fun B' q => ⟨B', q.1.mv h1 h2, q.2⟩⟩) ?_
  intro p e s m args below meth c s₁ X0 hexec hbytes hml hret hlk hnm hown hh0 W hP
  obtain ⟨rfl, hA, hB, hne, l1, l2, hp⟩ := hP
  have c1 : Steps p.tables e below (s₁.setTop (entryFrame m #[.ref b, .int (Int32.ofNat o), .ref d, .int (Int32.ofNat q), .int (Int32.ofNat len)] 7)) (s₁.setTop (mkF m 0 #[.val (.ref b), .val (.int (Int32.ofNat o)), .val (.ref d), .val (.int (Int32.ofNat q)), .val (.int (Int32.ofNat len)), .unset, .unset] [])) := entry rfl
  have hA0 := hA.1.mv X0.warmed.alike hh0
  have hB0 := hB.mv X0.warmed.alike hh0
  have a31 := hA.1.2.2.2
  have c2 : Steps p.tables e below (s₁.setTop (entryFrame m #[.ref b, .int (Int32.ofNat o), .ref d, .int (Int32.ofNat q), .int (Int32.ofNat len)] 7)) (s₁.setTop (mkF m 3 #[.val (.ref b), .val (.int (Int32.ofNat o)), .val (.ref d), .val (.int (Int32.ofNat q)), .val (.int (Int32.ofNat len)), .val (.int 0), .unset] [])) := c1.trans (by
    refine iconstV X0.here hexec rfl 0 (hb hbytes d0) (by decide) ?_
    refine XS.istore X0.here hexec rfl (hb hbytes d1) rfl rfl ?_
    exact Steps.refl _)
  have loop : ∀ (r i : Nat), i + r = len → ∀ (z : Slot), (z = .unset ∨ ∃ w, z = .val w ∧ w.category = 1) → ∀ (Tl : State) (Bk : Cell), Stand p l e { frames := 0, locals := 0, cells := 0, slots := 0 } s m #[.ref b, .int (Int32.ofNat o), .ref d, .int (Int32.ofNat q), .int (Int32.ofNat len)] below meth c Tl ([] ++ copyLocs d q i) 0 0 → Put d Bk s₁ Tl → Laid B Bk q (q + i) (fun j => Value.int (lo8 (cv A (o + (j - q))))) →
      Steps p.tables e below (s₁.setTop (entryFrame m #[.ref b, .int (Int32.ofNat o), .ref d, .int (Int32.ofNat q), .int (Int32.ofNat len)] 7)) (Tl.setTop (mkF m 3 #[.val (.ref b), .val (.int (Int32.ofNat (o + i))), .val (.ref d), .val (.int (Int32.ofNat (q + i))), .val (.int (Int32.ofNat len)), .val (.int (Int32.ofNat i)), z] [])) → ∃ (T' : State) (B' : Cell) (z' : Slot), Stand p l e { frames := 0, locals := 0, cells := 0, slots := 0 } s m #[.ref b, .int (Int32.ofNat o), .ref d, .int (Int32.ofNat q), .int (Int32.ofNat len)] below meth c T' ([] ++ copyLocs d q len) 0 0 ∧ Put d B' s₁ T' ∧ Laid B B' q (q + len) (fun j => Value.int (lo8 (cv A (o + (j - q))))) ∧
      Steps p.tables e below (s₁.setTop (entryFrame m #[.ref b, .int (Int32.ofNat o), .ref d, .int (Int32.ofNat q), .int (Int32.ofNat len)] 7)) (T'.setTop (mkF m 3 #[.val (.ref b), .val (.int (Int32.ofNat (o + len))), .val (.ref d), .val (.int (Int32.ofNat (q + len))), .val (.int (Int32.ofNat len)), .val (.int (Int32.ofNat len)), z'] [])) := by
    intro r
    induction r with
    | zero =>
      intro i hi z hz Tl Bk Xl pl fl cl
      have hil : i = len := by omega
      rw [hil] at Xl fl cl
      exact ⟨Tl, Bk, z, Xl, pl, fl, cl⟩
    | succ r ih =>
      intro i hi z hz Tl Bk Xl pl fl cl
      have all := X0.warmed.alike.symm.trans Xl.warmed.alike
      have hAl := hA0.keep all (pl.other hne hA0.1)
      have hBk := hB0.like all pl.1 fl.1 fl.2.1 fl.2.2.1
      have hlt : q + i < Bk.slots.size := by rw [fl.2.2.1]; omega
      have c3 : Steps p.tables e below (s₁.setTop (entryFrame m #[.ref b, .int (Int32.ofNat o), .ref d, .int (Int32.ofNat q), .int (Int32.ofNat len)] 7)) (Tl.setTop (mkF m 12 #[.val (.ref b), .val (.int (Int32.ofNat (o + i))), .val (.ref d), .val (.int (Int32.ofNat (q + i))), .val (.int (Int32.ofNat len)), .val (.int (Int32.ofNat i)), z] [.int (Int32.ofNat (o + i)), .ref b])) := cl.trans (by
        refine XS.iload Xl.here hexec rfl (hb hbytes d3) rfl ?_
        refine XS.iload Xl.here hexec rfl (hb hbytes d5) rfl ?_
        refine XS.icmpNo Xl.here hexec rfl (hb hbytes d7) rfl (ii_ge_f (lt32 (by omega) (by omega))) ?_
        refine XS.aloadN Xl.here hexec rfl (hb hbytes d10) rfl rfl ?_
        refine XS.iloadN Xl.here hexec rfl (hb hbytes d11) rfl ?_
        exact Steps.refl _)
      have c4 : Steps p.tables e below (s₁.setTop (entryFrame m #[.ref b, .int (Int32.ofNat o), .ref d, .int (Int32.ofNat q), .int (Int32.ofNat len)] 7)) (Tl.setTop (mkF m 13 #[.val (.ref b), .val (.int (Int32.ofNat (o + i))), .val (.ref d), .val (.int (Int32.ofNat (q + i))), .val (.int (Int32.ofNat len)), .val (.int (Int32.ofNat i)), z] [.int (cv A (o + i))])) := c3.trans (by
        refine Xl.aget hexec hAl rfl (hA.get (i := o + i) (by omega)) rfl rfl (hb hbytes d12) ?_
        exact Steps.refl _)
      have c5 : Steps p.tables e below (s₁.setTop (entryFrame m #[.ref b, .int (Int32.ofNat o), .ref d, .int (Int32.ofNat q), .int (Int32.ofNat len)] 7)) (Tl.setTop (mkF m 15 #[.val (.ref b), .val (.int (Int32.ofNat (o + i))), .val (.ref d), .val (.int (Int32.ofNat (q + i))), .val (.int (Int32.ofNat len)), .val (.int (Int32.ofNat i)), .val (.int (cv A (o + i)))] [])) := c4.trans (by
        refine XS.istoreS Xl.here hexec rfl (hb hbytes d13) rfl rfl hz ?_
        exact Steps.refl _)
      have c6 : Steps p.tables e below (s₁.setTop (entryFrame m #[.ref b, .int (Int32.ofNat o), .ref d, .int (Int32.ofNat q), .int (Int32.ofNat len)] 7)) (Tl.setTop (mkF m 31 #[.val (.ref b), .val (.int (Int32.ofNat (o + i))), .val (.ref d), .val (.int (Int32.ofNat (q + i))), .val (.int (Int32.ofNat len)), .val (.int (Int32.ofNat i)), .val (.int (cv A (o + i)))] [.int (lo8 (cv A (o + i))), .int (Int32.ofNat (q + i)), .ref d])) := c5.trans (by
        refine XS.iload Xl.here hexec rfl (hb hbytes d15) rfl ?_
        refine sipushV Xl.here hexec rfl 255 (hb hbytes d17) (by decide) ?_
        refine XS.icmpYes Xl.here hexec rfl (pc0 := 20) rfl (hb hbytes d20) rfl (ii_le_t (hp i (by omega))) (by decide) rfl ?_
        refine XS.aloadN Xl.here hexec rfl (hb hbytes d26) rfl rfl ?_
        refine XS.iloadN Xl.here hexec rfl (hb hbytes d27) rfl ?_
        refine XS.iload Xl.here hexec rfl (hb hbytes d28) rfl ?_
        refine i2b Xl.here hexec rfl (hb hbytes d30) rfl ?_
        exact Steps.refl _)
      obtain ⟨T7, X7, p7, st7⟩ := Xl.aput hexec hBk rfl hlt rfl (fits_lo8 (cv A (o + i))) (g := (mkF m 31 #[.val (.ref b), .val (.int (Int32.ofNat (o + i))), .val (.ref d), .val (.int (Int32.ofNat (q + i))), .val (.int (Int32.ofNat len)), .val (.int (Int32.ofNat i)), .val (.int (cv A (o + i)))] [.int (lo8 (cv A (o + i))), .int (Int32.ofNat (q + i)), .ref d])) rfl (rest := []) rfl (hb hbytes d31)
      have c8 : Steps p.tables e below (s₁.setTop (entryFrame m #[.ref b, .int (Int32.ofNat o), .ref d, .int (Int32.ofNat q), .int (Int32.ofNat len)] 7)) (T7.setTop (mkF m 32 #[.val (.ref b), .val (.int (Int32.ofNat (o + i))), .val (.ref d), .val (.int (Int32.ofNat (q + i))), .val (.int (Int32.ofNat len)), .val (.int (Int32.ofNat i)), .val (.int (cv A (o + i)))] [])) := c6.trans (st7 _ (Steps.refl _))
      have c9 : Steps p.tables e below (s₁.setTop (entryFrame m #[.ref b, .int (Int32.ofNat o), .ref d, .int (Int32.ofNat q), .int (Int32.ofNat len)] 7)) (T7.setTop (mkF m 3 #[.val (.ref b), .val (.int (Int32.ofNat (o + i) + 1)), .val (.ref d), .val (.int (Int32.ofNat (q + i) + 1)), .val (.int (Int32.ofNat len)), .val (.int (Int32.ofNat i + 1)), .val (.int (cv A (o + i)))] [])) := c8.trans (by
        refine iincV X7.here hexec rfl 1 (hb hbytes d32) (by decide) rfl rfl ?_
        refine iincV X7.here hexec rfl 1 (hb hbytes d35) (by decide) rfl rfl ?_
        refine iincV X7.here hexec rfl 1 (hb hbytes d38) (by decide) rfl rfl ?_
        refine XS.goto X7.here hexec rfl (pc0 := 41) rfl (hb hbytes d41) (by decide) rfl ?_
        exact Steps.refl _)
      have c10 : Steps p.tables e below (s₁.setTop (entryFrame m #[.ref b, .int (Int32.ofNat o), .ref d, .int (Int32.ofNat q), .int (Int32.ofNat len)] 7)) (T7.setTop (mkF m 3 #[.val (.ref b), .val (.int (Int32.ofNat (o + (i + 1)))), .val (.ref d), .val (.int (Int32.ofNat (q + (i + 1)))), .val (.int (Int32.ofNat len)), .val (.int (Int32.ofNat (i + 1))), .val (.int (cv A (o + i)))] [])) := by
        have := c9
        rw [succ32, succ32, succ32] at this
        exact this
      exact ih (i + 1) (by omega) _ (Or.inr ⟨_, rfl, rfl⟩) T7 _ (by rw [copyLocs_step, ← List.append_assoc]; exact X7) (pl.trans p7) (fl.step (by omega) hlt (by simp)) c10
  obtain ⟨T9, B9, z9, X9, p9, f9, g9⟩ := loop len 0 (by omega) .unset (Or.inl rfl) s₁ B (by simpa [copyLocs] using X0) ⟨hB0.1, fun _ _ => rfl, rfl⟩ (Laid.zero _ _ _) c2
  have c11 : Steps p.tables e below (s₁.setTop (entryFrame m #[.ref b, .int (Int32.ofNat o), .ref d, .int (Int32.ofNat q), .int (Int32.ofNat len)] 7)) (T9.setTop (mkF m 46 #[.val (.ref b), .val (.int (Int32.ofNat (o + len))), .val (.ref d), .val (.int (Int32.ofNat (q + len))), .val (.int (Int32.ofNat len)), .val (.int (Int32.ofNat len)), z9] [.int (Int32.ofNat len)])) := g9.trans (by
    refine XS.iload X9.here hexec rfl (hb hbytes d3) rfl ?_
    refine XS.iload X9.here hexec rfl (hb hbytes d5) rfl ?_
    refine XS.icmpYes X9.here hexec rfl (pc0 := 7) rfl (hb hbytes d7) rfl (ii_ge_t (nlt32 (by omega) (Nat.le_refl _))) (by decide) rfl ?_
    refine XS.iload X9.here hexec rfl (hb hbytes d44) rfl ?_
    exact Steps.refl _)
  exact ⟨T9, some (.int (Int32.ofNat len)), _, _, _, X9, by simp, rfl, rfl, (fun h => by cases h), ⟨rfl, B9, p9.from hh0, f9⟩, fun fs hl => c11.trans (X9.ireturnOut hexec hret rfl (Or.inl rfl) (hb hbytes d46) hl)⟩
end Cmp5
namespace Cmp3
def yN : MethodName := ⟨"java/lang/StringUTF16", "compress", "([CII)[B"⟩
abbrev yB : ByteArray := jdk_52_method_16_code
theorem d0 : decode yB 0 = .ok (.iload_n 2, 1) := by decide +kernel
theorem d1 : decode yB 1 = .ok (.newarray .byte, 2) := by decide +kernel
theorem d3 : decode yB 3 = .ok (.astore_n 3, 1) := by decide +kernel
theorem d4 : decode yB 4 = .ok (.aload_n 0, 1) := by decide +kernel
theorem d5 : decode yB 5 = .ok (.iload_n 1, 1) := by decide +kernel
theorem d6 : decode yB 6 = .ok (.aload_n 3, 1) := by decide +kernel
theorem d7 : decode yB 7 = .ok (.iconst 0, 1) := by decide +kernel
theorem d8 : decode yB 8 = .ok (.iload_n 2, 1) := by decide +kernel
theorem d9 : decode yB 9 = .ok (.invokestatic 115, 3) := by decide +kernel
theorem d12 : decode yB 12 = .ok (.istore 4, 2) := by decide +kernel
theorem d14 : decode yB 14 = .ok (.iload 4, 2) := by decide +kernel
theorem d16 : decode yB 16 = .ok (.iload_n 2, 1) := by decide +kernel
theorem d17 : decode yB 17 = .ok (.if_icmp (.eq) 40, 3) := by decide +kernel
theorem d57 : decode yB 57 = .ok (.aload_n 3, 1) := by decide +kernel
theorem d58 : decode yB 58 = .ok (.areturn, 1) := by decide +kernel
def site : List Cond := [.arrayClass .byte, Cmp5.tab] ++ staticW U16 115 Cmp5.yN
def tab : Cond := tabOf yN yB 6 (some (.array .byte)) site
def P (b : Addr) (A : Cell) (o len : Nat) (args : Array Value) (s : State) : Prop := args = #[.ref b, .int (Int32.ofNat o), .int (Int32.ofNat len)] ∧ Ch b A s ∧ o + len ≤ A.slots.size ∧ len ≤ 536870912 ∧ ∀ i, i < len → ¬ 255 < cv A (o + i)
def E (b : Addr) (A : Cell) (o len : Nat) (r : Option Value) (s u : State) : Prop := NewArr .byte "[B" len (fun j => .int (lo8 (cv A (o + j)))) r s u ∧ u.heap.size = s.heap.size + 1
/-- no char of the range above 255: a new byte[] of their low bytes -/
theorem law (l : Launch) (b : Addr) (A : Cell) (o len : Nat) : Law l yN 3 3 1 18 yB 6 (some (.array .byte)) site (P b A o len) (E b A o len) [] 1 len := by
  refine Law.of_walk (plainFor_of_name (by decide +kernel)) (by decide +kernel) (by decide +kernel) (by decide) (fun _ _ h => by rw [h.1]; rfl) (fun _ U U' hal hh h => ⟨h.1, h.2.1.mv hal hh, h.2.2⟩) (fun r U U' V V' h1 hal h2 h => ⟨NewArr.mv r U U' V V' h1 hal h2 h.1, by rw [h1, h2]; exact h.2⟩) ?_
  intro p e s m args below meth c s₁ X0 hexec hbytes hml hret hlk hnm hown hh0 W hP
  obtain ⟨rfl, hA, l1, l2, hp⟩ := hP
  have a31 := hA.1.2.2.2
  have c1 : Steps p.tables e below (s₁.setTop (entryFrame m #[.ref b, .int (Int32.ofNat o), .int (Int32.ofNat len)] 6)) (s₁.setTop (mkF m 0 #[.val (.ref b), .val (.int (Int32.ofNat o)), .val (.int (Int32.ofNat len)), .unset, .unset, .unset] [])) := entry rfl
  have c2 : Steps p.tables e below (s₁.setTop (entryFrame m #[.ref b, .int (Int32.ofNat o), .int (Int32.ofNat len)] 6)) (s₁.setTop (mkF m 1 #[.val (.ref b), .val (.int (Int32.ofNat o)), .val (.int (Int32.ofNat len)), .unset, .unset, .unset] [.int (Int32.ofNat len)])) := c1.trans (by
    refine XS.iloadN X0.here hexec rfl (hb hbytes d0) rfl ?_
    exact Steps.refl _)
  obtain ⟨T3, B3, X3, ba3, bs3, bv3, bh3, bf3, st3⟩ := X0.anew hexec (atype := .byte) (wk W (.arrayClass .byte)) rfl (by show len * 1 ≤ _; omega) (by omega) (g := (mkF m 1 #[.val (.ref b), .val (.int (Int32.ofNat o)), .val (.int (Int32.ofNat len)), .unset, .unset, .unset] [.int (Int32.ofNat len)])) rfl (hb hbytes d1) (rest := []) rfl (Nat.le_refl _) (by show 0 + len ≤ len; omega)
  rw [hh0] at ba3 st3
  have kp3 : XT.Kept s T3 := (XT.Kept.of_eq hh0).push bh3
  have hA3 := hA.keep X3.warmed.alike (kp3 _ _ hA.1.1)
  have hne : b ≠ s.heap.size := hA.1.ne
  have c4 : Steps p.tables e below (s₁.setTop (entryFrame m #[.ref b, .int (Int32.ofNat o), .int (Int32.ofNat len)] 6)) (T3.setTop (mkF m 3 #[.val (.ref b), .val (.int (Int32.ofNat o)), .val (.int (Int32.ofNat len)), .unset, .unset, .unset] [.ref s.heap.size])) := c2.trans (st3 _ (Steps.refl _))
  have c5 : Steps p.tables e below (s₁.setTop (entryFrame m #[.ref b, .int (Int32.ofNat o), .int (Int32.ofNat len)] 6)) (T3.setTop (mkF m 9 #[.val (.ref b), .val (.int (Int32.ofNat o)), .val (.int (Int32.ofNat len)), .val (.ref s.heap.size), .unset, .unset] [.int (Int32.ofNat len), .int 0, .ref s.heap.size, .int (Int32.ofNat o), .ref b])) := c4.trans (by
    refine XS.astoreN X3.here hexec rfl (hb hbytes d3) rfl rfl rfl ?_
    refine XS.aloadN X3.here hexec rfl (hb hbytes d4) rfl rfl ?_
    refine XS.iloadN X3.here hexec rfl (hb hbytes d5) rfl ?_
    refine XS.aloadN X3.here hexec rfl (hb hbytes d6) rfl rfl ?_
    refine iconstV X3.here hexec rfl 0 (hb hbytes d7) (by decide) ?_
    refine XS.iloadN X3.here hexec rfl (hb hbytes d8) rfl ?_
    exact Steps.refl _)
  obtain ⟨v6, T6, X6, E6, g6⟩ := X3.callS hexec (Cmp5.law l b A s.heap.size B3 o 0 len) hown (wks W (staticW U16 115 Cmp5.yN)) (wk W Cmp5.tab) (W := 0) (Nat.le_of_ble_eq_true rfl) (Nat.le_of_ble_eq_true rfl) (Nat.le_refl _) (by show 0 + len + 0 ≤ len; omega) (g := (mkF m 9 #[.val (.ref b), .val (.int (Int32.ofNat o)), .val (.int (Int32.ofNat len)), .val (.ref s.heap.size), .unset, .unset] [.int (Int32.ofNat len), .int (Int32.ofNat 0), .ref s.heap.size, .int (Int32.ofNat o), .ref b])) rfl (by rw [hml]; rfl) c5 (argsL := [.ref b, .int (Int32.ofNat o), .ref s.heap.size, .int (Int32.ofNat 0), .int (Int32.ofNat len)]) (rest := []) rfl rfl (by show 2 * 0 + 0 ≤ _; decide) (hb hbytes d9) (⟨rfl, hA3, ba3, hne, l1, by rw [bs3]; simp, hp⟩)
  obtain ⟨rfl, B6, p6, f6⟩ := E6
  have c7 : Steps p.tables e below (s₁.setTop (entryFrame m #[.ref b, .int (Int32.ofNat o), .int (Int32.ofNat len)] 6)) (T6.setTop (mkF m 12 #[.val (.ref b), .val (.int (Int32.ofNat o)), .val (.int (Int32.ofNat len)), .val (.ref s.heap.size), .unset, .unset] [.int (Int32.ofNat len)])) := g6
  have c8 : Steps p.tables e below (s₁.setTop (entryFrame m #[.ref b, .int (Int32.ofNat o), .int (Int32.ofNat len)] 6)) (T6.setTop (mkF m 58 #[.val (.ref b), .val (.int (Int32.ofNat o)), .val (.int (Int32.ofNat len)), .val (.ref s.heap.size), .val (.int (Int32.ofNat len)), .unset] [.ref s.heap.size])) := c7.trans (by
    refine XS.istore X6.here hexec rfl (hb hbytes d12) rfl rfl ?_
    refine XS.iload X6.here hexec rfl (hb hbytes d14) rfl ?_
    refine XS.iloadN X6.here hexec rfl (hb hbytes d16) rfl ?_
    refine XS.icmpYes X6.here hexec rfl (pc0 := 17) rfl (hb hbytes d17) rfl (ii_eq_t rfl) (by decide) rfl ?_
    refine XS.aloadN X6.here hexec rfl (hb hbytes d57) rfl rfl ?_
    exact Steps.refl _)
  have X8 := X6.wide (L' := []) (cells' := 1) (slots' := len) (fun x hx hlt => by
    simp only [List.nil_append, copyLocs, List.mem_map, List.mem_range] at hx
    obtain ⟨i, -, rfl⟩ := hx
    exact absurd hlt (Nat.lt_irrefl _)) (Nat.le_refl _) (by omega)
  exact ⟨T6, some (.ref s.heap.size), _, _, _, X8, rfl, rfl, rfl, (fun h => by cases h), ⟨⟨rfl, B6, ba3.like (X3.warmed.alike.symm.trans X6.warmed.alike) p6.1 f6.1 f6.2.1 f6.2.2.1, f6.2.1.trans bv3, by rw [X6.warmed.alike.findClass, f6.1]; exact bf3, by rw [f6.2.2.1, bs3]; simp, fun j hj => by rw [f6.2.2.2 j, if_pos (by omega)]; rfl, kp3.put p6 (Nat.le_refl _)⟩, by rw [p6.2.2, bh3, hh0]; simp⟩, fun fs hl => c8.trans (X8.areturnOut hexec rfl hret rfl (hb hbytes d58) hl)⟩
end Cmp3
namespace CodL
def yN : MethodName := ⟨"java/lang/StringUTF16", "coderFromArrayLen", "([BI)B"⟩
abbrev yB : ByteArray := jdk_52_method_15_code
theorem d0 : decode yB 0 = .ok (.iload_n 1, 1) := by decide +kernel
theorem d1 : decode yB 1 = .ok (.aload_n 0, 1) := by decide +kernel
theorem d2 : decode yB 2 = .ok (.arraylength, 1) := by decide +kernel
theorem d3 : decode yB 3 = .ok (.isub, 1) := by decide +kernel
theorem d4 : decode yB 4 = .ok (.bipush 31, 2) := by decide +kernel
theorem d6 : decode yB 6 = .ok (.iushr, 1) := by decide +kernel
theorem d7 : decode yB 7 = .ok (.i2b, 1) := by decide +kernel
theorem d8 : decode yB 8 = .ok (.ireturn, 1) := by decide +kernel
def site : List Cond := []
def tab : Cond := tabOf yN yB 2 (some .byte) site
def P (d : Addr) (B : Cell) (args : Array Value) (s : State) : Prop := args = #[.ref d, .int (Int32.ofNat B.slots.size)] ∧ Arr .byte d B s
def E (r : Option Value) (s u : State) : Prop := XT.PureE (some (.int 0)) r s u
/-- an array as long as the number of chars: LATIN1 -/
theorem law (l : Launch) (d : Addr) (B : Cell) : Law l yN 2 2 0 0 yB 2 (some .byte) site (P d B) E [] 0 0 := by
  refine Law.of_walk (plainFor_of_name (by decide +kernel)) (by decide +kernel) (by decide +kernel) (by decide) (fun _ _ h => by rw [h.1]; rfl) (fun _ U U' hal hh h => ⟨h.1, h.2.mv hal hh⟩) (fun r U U' V V' h1 hal h2 h => XT.PureE.mv r U U' V V' h1 hal h2 h) ?_
  intro p e s m args below meth c s₁ X0 hexec hbytes hml hret hlk hnm hown hh0 W hP
  obtain ⟨rfl, hB⟩ := hP
  have hB0 := hB.mv X0.warmed.alike hh0
  have c1 : Steps p.tables e below (s₁.setTop (entryFrame m #[.ref d, .int (Int32.ofNat B.slots.size)] 2)) (s₁.setTop (mkF m 0 #[.val (.ref d), .val (.int (Int32.ofNat B.slots.size))] [])) := entry rfl
  have c2 : Steps p.tables e below (s₁.setTop (entryFrame m #[.ref d, .int (Int32.ofNat B.slots.size)] 2)) (s₁.setTop (mkF m 2 #[.val (.ref d), .val (.int (Int32.ofNat B.slots.size))] [.ref d, .int (Int32.ofNat B.slots.size)])) := c1.trans (by
    refine XS.iloadN X0.here hexec rfl (hb hbytes d0) rfl ?_
    refine XS.aloadN X0.here hexec rfl (hb hbytes d1) rfl rfl ?_
    exact Steps.refl _)
  have c3 : Steps p.tables e below (s₁.setTop (entryFrame m #[.ref d, .int (Int32.ofNat B.slots.size)] 2)) (s₁.setTop (mkF m 8 #[.val (.ref d), .val (.int (Int32.ofNat B.slots.size))] [.int (lo8 (ushr (Int32.ofNat B.slots.size - Int32.ofNat B.slots.size) 31))])) := c2.trans (by
    refine X0.alen hexec hB0 rfl rfl (hb hbytes d2) ?_
    refine XS.isub X0.here hexec rfl (hb hbytes d3) rfl ?_
    refine bipushV X0.here hexec rfl 31 (hb hbytes d4) (by decide) ?_
    refine iushr X0.here hexec rfl (hb hbytes d6) rfl ?_
    refine i2b X0.here hexec rfl (hb hbytes d7) rfl ?_
    exact Steps.refl _)
  have e0 : lo8 (ushr (Int32.ofNat B.slots.size - Int32.ofNat B.slots.size) 31) = 0 := by rw [Int32.sub_self]; decide
  rw [e0] at c3
  exact ⟨s₁, some (.int 0), _, _, _, X0, rfl, rfl, rfl, (fun h => by cases h), ⟨rfl, hh0⟩, fun fs hl => c3.trans (X0.ireturnOut hexec hret rfl (Or.inr (Or.inr (Or.inl rfl))) (hb hbytes d8) hl)⟩
end CodL
/-- the String at a is Latin-1 over a new byte[] (the heap's one new cell): the low bytes of the len chars of A from o on; every cell but a is kept -/
def Got (a : Addr) (D : Cell) (fV fC : Field) (A : Cell) (o len : Nat) (r : Option Value) (s u : State) : Prop := r = none ∧ ∃ D' V : Cell, Blank "java/lang/String" a D' u ∧ Same D D' [fV.slot, fC.slot] ∧ D'.slots[fV.slot]? = some (.ref s.heap.size) ∧ D'.slots[fC.slot]? = some (.int 0) ∧ Arr .byte s.heap.size V u ∧ V.vm = .none ∧ u.vm.findClass "[B" = some V.cls ∧ V.slots.size = len ∧ (∀ j, j < len → V.slots[j]? = some (.int (lo8 (cv A (o + j))))) ∧ (∀ (y : Addr) (c : Cell), y ≠ a → s.heap[y]? = some c → u.heap[y]? = some c) ∧ u.heap.size = s.heap.size + 1
theorem Got.mv {a : Addr} {D A : Cell} {fV fC : Field} {o len : Nat} : ∀ r (U U' V V' : State), U'.heap = U.heap → V.vm.Alike V'.vm → V'.heap = V.heap → Got a D fV fC A o len r U V → Got a D fV fC A o len r U' V' :=
  fun r U U' V V' h1 hal h2 ⟨e0, D', X, a1, a2, a3, a4, a5, a6, a7, a8, a9, a10, a11⟩ => ⟨e0, D', X, a1.mv hal h2, a2, by rw [h1]; exact a3, a4, by rw [h1]; exact a5.mv hal h2, a6, by rw [hal.findClass]; exact a7, a8, a9, by rw [h1, h2]; exact a10, by rw [h1, h2]; exact a11⟩
namespace New4
def yN : MethodName := ⟨"java/lang/String", "<init>", "([CIILjava/lang/Void;)V"⟩
abbrev yB : ByteArray := jdk_42_method_149_code
theorem d0 : decode yB 0 = .ok (.aload_n 0, 1) := by decide +kernel
theorem d1 : decode yB 1 = .ok (.invokespecial 1, 3) := by decide +kernel
theorem d4 : decode yB 4 = .ok (.iload_n 3, 1) := by decide +kernel
theorem d5 : decode yB 5 = .ok (.ifCond (.ne) 22, 3) := by decide +kernel
theorem d27 : decode yB 27 = .ok (.getstatic 38, 3) := by decide +kernel
theorem d30 : decode yB 30 = .ok (.ifCond (.eq) 28, 3) := by decide +kernel
theorem d33 : decode yB 33 = .ok (.aload_n 1, 1) := by decide +kernel
theorem d34 : decode yB 34 = .ok (.iload_n 2, 1) := by decide +kernel
theorem d35 : decode yB 35 = .ok (.iload_n 3, 1) := by decide +kernel
theorem d36 : decode yB 36 = .ok (.invokestatic 177, 3) := by decide +kernel
theorem d39 : decode yB 39 = .ok (.astore 5, 2) := by decide +kernel
theorem d41 : decode yB 41 = .ok (.aload_n 0, 1) := by decide +kernel
theorem d42 : decode yB 42 = .ok (.aload 5, 2) := by decide +kernel
theorem d44 : decode yB 44 = .ok (.iload_n 3, 1) := by decide +kernel
theorem d45 : decode yB 45 = .ok (.invokestatic 47, 3) := by decide +kernel
theorem d48 : decode yB 48 = .ok (.putfield 15, 3) := by decide +kernel
theorem d51 : decode yB 51 = .ok (.aload_n 0, 1) := by decide +kernel
theorem d52 : decode yB 52 = .ok (.aload 5, 2) := by decide +kernel
theorem d54 : decode yB 54 = .ok (.putfield 9, 3) := by decide +kernel
theorem d57 : decode yB 57 = .ok (.return_, 1) := by decide +kernel
def site : List Cond := [.fieldLink "java/lang/String" 38 "java/lang/String" "COMPACT_STRINGS" "Z", Cmp3.tab, CodL.tab, .laysFinal "java/lang/String" "java/lang/String" "value" "[B", .fieldLink "java/lang/String" 9 "java/lang/String" "value" "[B", .laysFinal "java/lang/String" "java/lang/String" "coder" "B", .fieldLink "java/lang/String" 15 "java/lang/String" "coder" "B"] ++ objW "java/lang/String" 1 ++ staticW "java/lang/String" 177 Cmp3.yN ++ staticW "java/lang/String" 47 CodL.yN
def tab : Cond := tabOf yN yB 6 none site
def P (a : Addr) (D : Cell) (fV fC : Field) (b : Addr) (A : Cell) (z : Int32) (o len : Nat) (args : Array Value) (s : State) : Prop := args = #[.ref a, .ref b, .int (Int32.ofNat o), .int (Int32.ofNat len), .null] ∧ Blank "java/lang/String" a D s ∧ Found "java/lang/String" "value" "[B" fV s ∧ Found "java/lang/String" "coder" "B" fC s ∧ Ch b A s ∧ StaticIs s "java/lang/String" "COMPACT_STRINGS" "Z" (.int z) ∧ ¬ z = 0 ∧ 0 < len ∧ o + len ≤ A.slots.size ∧ len ≤ 536870912 ∧ ∀ i, i < len → ¬ 255 < cv A (o + i)
def E (a : Addr) (D : Cell) (fV fC : Field) (A : Cell) (o len : Nat) (r : Option Value) (s u : State) : Prop := Got a D fV fC A o len r s u
/-- len > 0, no char of the range above 255: a Latin-1 String of their low bytes -/
theorem law (l : Launch) (a : Addr) (D : Cell) (fV fC : Field) (b : Addr) (A : Cell) (z : Int32) (o len : Nat) : Law l yN 5 4 2 35 yB 6 none site (P a D fV fC b A z o len) (E a D fV fC A o len) [⟨a, fC.slot⟩, ⟨a, fV.slot⟩] 1 len := by
  refine Law.of_walk (plainFor_of_name (by decide +kernel)) (by decide +kernel) (by decide +kernel) (by decide) (fun _ _ h => by rw [h.1]; rfl) (fun _ U U' hal hh h => ⟨h.1, h.2.1.mv hal hh, h.2.2.1.al hal, h.2.2.2.1.al hal, h.2.2.2.2.1.mv hal hh, h.2.2.2.2.2.1.there hal hh, h.2.2.2.2.2.2⟩) (fun r U U' V V' h1 hal h2 h => Got.mv r U U' V V' h1 hal h2 h) ?_
  intro p e s m args below meth c s₁ X0 hexec hbytes hml hret hlk hnm hown hh0 W hP
  obtain ⟨rfl, hB, f1, f2, hA, s1, hz, l0, l1, l2, hp⟩ := hP
  have a31 := hA.1.2.2.2
  have c1 : Steps p.tables e below (s₁.setTop (entryFrame m #[.ref a, .ref b, .int (Int32.ofNat o), .int (Int32.ofNat len), .null] 6)) (s₁.setTop (mkF m 0 #[.val (.ref a), .val (.ref b), .val (.int (Int32.ofNat o)), .val (.int (Int32.ofNat len)), .val .null, .unset] [])) := entry rfl
  have c2 : Steps p.tables e below (s₁.setTop (entryFrame m #[.ref a, .ref b, .int (Int32.ofNat o), .int (Int32.ofNat len), .null] 6)) (s₁.setTop (mkF m 1 #[.val (.ref a), .val (.ref b), .val (.int (Int32.ofNat o)), .val (.int (Int32.ofNat len)), .val .null, .unset] [.ref a])) := c1.trans (by
    refine XS.aloadN X0.here hexec rfl (hb hbytes d0) rfl rfl ?_
    exact Steps.refl _)
  obtain ⟨T3, X3, q3, st3⟩ := X0.oinit hexec hown (wks W (objW "java/lang/String" 1)) (g := (mkF m 1 #[.val (.ref a), .val (.ref b), .val (.int (Int32.ofNat o)), .val (.int (Int32.ofNat len)), .val .null, .unset] [.ref a])) rfl (by rw [hml]; rfl) (rest := []) rfl (hb hbytes d1) (W := 0) (by show 2 * 0 + 0 ≤ _; decide) (Nat.le_of_ble_eq_true rfl) (Nat.le_of_ble_eq_true rfl)
  have hh3 := q3.trans hh0
  have c4 : Steps p.tables e below (s₁.setTop (entryFrame m #[.ref a, .ref b, .int (Int32.ofNat o), .int (Int32.ofNat len), .null] 6)) (T3.setTop (mkF m 27 #[.val (.ref a), .val (.ref b), .val (.int (Int32.ofNat o)), .val (.int (Int32.ofNat len)), .val .null, .unset] [])) := (c2.trans (st3 _ (Steps.refl _))).trans (by
    refine XS.iloadN X3.here hexec rfl (hb hbytes d4) rfl ?_
    refine XS.ifYes X3.here hexec rfl (pc0 := 5) rfl (hb hbytes d5) rfl (i0_ne_t (nz32 (by omega) l0)) (by decide) rfl ?_
    exact Steps.refl _)
  obtain ⟨T5, X5, q5, st5⟩ := X3.sget hexec hown (wk W (.fieldLink "java/lang/String" 38 "java/lang/String" "COMPACT_STRINGS" "Z")) s1 (fun _ _ h => by rw [hh3]; exact h) (g := (mkF m 27 #[.val (.ref a), .val (.ref b), .val (.int (Int32.ofNat o)), .val (.int (Int32.ofNat len)), .val .null, .unset] [])) rfl (hb hbytes d27)
  have hh5 := q5.trans hh3
  have c6 : Steps p.tables e below (s₁.setTop (entryFrame m #[.ref a, .ref b, .int (Int32.ofNat o), .int (Int32.ofNat len), .null] 6)) (T5.setTop (mkF m 30 #[.val (.ref a), .val (.ref b), .val (.int (Int32.ofNat o)), .val (.int (Int32.ofNat len)), .val .null, .unset] [.int z])) := c4.trans (st5 _ (Steps.refl _))
  have c7 : Steps p.tables e below (s₁.setTop (entryFrame m #[.ref a, .ref b, .int (Int32.ofNat o), .int (Int32.ofNat len), .null] 6)) (T5.setTop (mkF m 36 #[.val (.ref a), .val (.ref b), .val (.int (Int32.ofNat o)), .val (.int (Int32.ofNat len)), .val .null, .unset] [.int (Int32.ofNat len), .int (Int32.ofNat o), .ref b])) := c6.trans (by
    refine XS.ifNo X5.here hexec rfl (hb hbytes d30) rfl (i0_eq_f hz) ?_
    refine XS.aloadN X5.here hexec rfl (hb hbytes d33) rfl rfl ?_
    refine XS.iloadN X5.here hexec rfl (hb hbytes d34) rfl ?_
    refine XS.iloadN X5.here hexec rfl (hb hbytes d35) rfl ?_
    exact Steps.refl _)
  obtain ⟨v8, T8, X8, E8, g8⟩ := X5.callS hexec (Cmp3.law l b A o len) hown (wks W (staticW "java/lang/String" 177 Cmp3.yN)) (wk W Cmp3.tab) (W := 0) (Nat.le_of_ble_eq_true rfl) (Nat.le_of_ble_eq_true rfl) (Nat.le_refl _) (by show 0 + len ≤ len; omega) (g := (mkF m 36 #[.val (.ref a), .val (.ref b), .val (.int (Int32.ofNat o)), .val (.int (Int32.ofNat len)), .val .null, .unset] [.int (Int32.ofNat len), .int (Int32.ofNat o), .ref b])) rfl (by rw [hml]; rfl) c7 (argsL := [.ref b, .int (Int32.ofNat o), .int (Int32.ofNat len)]) (rest := []) rfl rfl (by show 2 * 0 + 0 ≤ _; decide) (hb hbytes d36) (⟨rfl, hA.mv X5.warmed.alike hh5, l1, l2, hp⟩)
  obtain ⟨e8, z8⟩ := E8
  obtain ⟨rfl, N, n1, n2, n3, n4, n5, n6⟩ := NewArr.mv _ T5 s _ _ hh5.symm (Vm.Alike.refl _) rfl e8
  rw [hh5] at z8
  have hB1 := hB.keep X8.warmed.alike (n6 _ _ hB.1)
  have hne : s.heap.size ≠ a := (Nat.ne_of_lt (Array.getElem?_eq_some_iff.mp hB.1).1).symm
  have c9 : Steps p.tables e below (s₁.setTop (entryFrame m #[.ref a, .ref b, .int (Int32.ofNat o), .int (Int32.ofNat len), .null] 6)) (T8.setTop (mkF m 39 #[.val (.ref a), .val (.ref b), .val (.int (Int32.ofNat o)), .val (.int (Int32.ofNat len)), .val .null, .unset] [.ref s.heap.size])) := g8
  have c10 : Steps p.tables e below (s₁.setTop (entryFrame m #[.ref a, .ref b, .int (Int32.ofNat o), .int (Int32.ofNat len), .null] 6)) (T8.setTop (mkF m 45 #[.val (.ref a), .val (.ref b), .val (.int (Int32.ofNat o)), .val (.int (Int32.ofNat len)), .val .null, .val (.ref s.heap.size)] [.int (Int32.ofNat N.slots.size), .ref s.heap.size, .ref a])) := by
    have hc : Steps p.tables e below (s₁.setTop (entryFrame m #[.ref a, .ref b, .int (Int32.ofNat o), .int (Int32.ofNat len), .null] 6)) (T8.setTop (mkF m 45 #[.val (.ref a), .val (.ref b), .val (.int (Int32.ofNat o)), .val (.int (Int32.ofNat len)), .val .null, .val (.ref s.heap.size)] [.int (Int32.ofNat len), .ref s.heap.size, .ref a])) := c9.trans (by
      refine XS.astore X8.here hexec rfl (hb hbytes d39) rfl rfl rfl ?_
      refine XS.aloadN X8.here hexec rfl (hb hbytes d41) rfl rfl ?_
      refine XS.aload X8.here hexec rfl (hb hbytes d42) rfl rfl ?_
      refine XS.iloadN X8.here hexec rfl (hb hbytes d44) rfl ?_
      exact Steps.refl _)
    rw [n4]; exact hc
  obtain ⟨v11, T11, X11, E11, g11⟩ := X8.callS hexec (CodL.law l s.heap.size N) hown (wks W (staticW "java/lang/String" 47 CodL.yN)) (wk W CodL.tab) (W := 1) (Nat.le_of_ble_eq_true rfl) (Nat.le_of_ble_eq_true rfl) (Nat.le_refl _) (by show 0 + len + 0 ≤ len; omega) (g := (mkF m 45 #[.val (.ref a), .val (.ref b), .val (.int (Int32.ofNat o)), .val (.int (Int32.ofNat len)), .val .null, .val (.ref s.heap.size)] [.int (Int32.ofNat N.slots.size), .ref s.heap.size, .ref a])) rfl (by rw [hml]; rfl) c10 (argsL := [.ref s.heap.size, .int (Int32.ofNat N.slots.size)]) (rest := [.ref a]) rfl rfl (by show 2 * 0 + (1 + 0) ≤ _; decide) (hb hbytes d45) (⟨rfl, n1⟩)
  obtain ⟨rfl, q11⟩ := E11
  have hB11 := hB1.mv (X8.warmed.alike.symm.trans X11.warmed.alike) q11
  have c12 : Steps p.tables e below (s₁.setTop (entryFrame m #[.ref a, .ref b, .int (Int32.ofNat o), .int (Int32.ofNat len), .null] 6)) (T11.setTop (mkF m 48 #[.val (.ref a), .val (.ref b), .val (.int (Int32.ofNat o)), .val (.int (Int32.ofNat len)), .val .null, .val (.ref s.heap.size)] [.int 0, .ref a])) := g11
  obtain ⟨T13, X13, p13, bl13, sl13, st13⟩ := X11.finit hexec hown (wk W (.fieldLink "java/lang/String" 15 "java/lang/String" "coder" "B")) (Or.inr ⟨_, (wk W (.laysFinal "java/lang/String" "java/lang/String" "coder" "B"))⟩) (Or.inl ⟨rfl, hnm⟩) f2 (Or.inl rfl) hB11 (t := .byte) (by decide +kernel) rfl (g := (mkF m 48 #[.val (.ref a), .val (.ref b), .val (.int (Int32.ofNat o)), .val (.int (Int32.ofNat len)), .val .null, .val (.ref s.heap.size)] [.int 0, .ref a])) rfl (rest := []) rfl (hb hbytes d48)
  have c14 : Steps p.tables e below (s₁.setTop (entryFrame m #[.ref a, .ref b, .int (Int32.ofNat o), .int (Int32.ofNat len), .null] 6)) (T13.setTop (mkF m 54 #[.val (.ref a), .val (.ref b), .val (.int (Int32.ofNat o)), .val (.int (Int32.ofNat len)), .val .null, .val (.ref s.heap.size)] [.ref s.heap.size, .ref a])) := (c12.trans (st13 _ (Steps.refl _))).trans (by
    refine XS.aloadN X13.here hexec rfl (hb hbytes d51) rfl rfl ?_
    refine XS.aload X13.here hexec rfl (hb hbytes d52) rfl rfl ?_
    exact Steps.refl _)
  obtain ⟨T15, X15, p15, bl15, sl15, st15⟩ := X13.finit hexec hown (wk W (.fieldLink "java/lang/String" 9 "java/lang/String" "value" "[B")) (Or.inr ⟨_, (wk W (.laysFinal "java/lang/String" "java/lang/String" "value" "[B"))⟩) (Or.inl ⟨rfl, hnm⟩) f1 (Or.inl rfl) bl13 (t := (.array .byte)) (by decide +kernel) rfl (g := (mkF m 54 #[.val (.ref a), .val (.ref b), .val (.int (Int32.ofNat o)), .val (.int (Int32.ofNat len)), .val .null, .val (.ref s.heap.size)] [.ref s.heap.size, .ref a])) rfl (rest := []) rfl (hb hbytes d54)
  have c16 : Steps p.tables e below (s₁.setTop (entryFrame m #[.ref a, .ref b, .int (Int32.ofNat o), .int (Int32.ofNat len), .null] 6)) (T15.setTop (mkF m 57 #[.val (.ref a), .val (.ref b), .val (.int (Int32.ofNat o)), .val (.int (Int32.ofNat len)), .val .null, .val (.ref s.heap.size)] [])) := c14.trans (st15 _ (Steps.refl _))
  have ap := apart (Or.inr ⟨_, (wk W (.laysFinal "java/lang/String" "java/lang/String" "value" "[B"))⟩) (Or.inr ⟨_, (wk W (.laysFinal "java/lang/String" "java/lang/String" "coder" "B"))⟩) f1 f2 (t₁ := .array .byte) (t₂ := .byte) (by decide +kernel) (by decide +kernel) (by decide)
  have al := X8.warmed.alike.symm.trans X15.warmed.alike
  have n7 : T11.heap[s.heap.size]? = some N := by rw [q11]; exact n1.1
  exact ⟨T15, none, _, _, _, X15, by simp, rfl, by omega, (fun _ => rfl), ⟨rfl, _, N, bl15, ((Same.refl D _).set _ (by simp)).set _ (by simp), sl15, (Cell.slots_setSlot_ne _ ap).trans sl13, n1.keep al (p15.other hne (p13.other hne n7)), n2, by rw [al.findClass]; exact n3, n4, n5, fun y c h1 h2 => p15.other h1 (p13.other h1 (by rw [q11]; exact n6 y c h2)), by rw [p15.2.2, p13.2.2, q11]; exact z8⟩, fun fs hl => c16.trans (X15.returnOut hexec hret (hb hbytes d57) hl)⟩
end New4
namespace New1
def yN : MethodName := ⟨"java/lang/String", "<init>", "([C)V"⟩
abbrev yB : ByteArray := jdk_42_method_3_code
theorem d0 : decode yB 0 = .ok (.aload_n 0, 1) := by decide +kernel
theorem d1 : decode yB 1 = .ok (.aload_n 1, 1) := by decide +kernel
theorem d2 : decode yB 2 = .ok (.iconst 0, 1) := by decide +kernel
theorem d3 : decode yB 3 = .ok (.aload_n 1, 1) := by decide +kernel
theorem d4 : decode yB 4 = .ok (.arraylength, 1) := by decide +kernel
theorem d5 : decode yB 5 = .ok (.aconst_null, 1) := by decide +kernel
theorem d6 : decode yB 6 = .ok (.invokespecial 27, 3) := by decide +kernel
theorem d9 : decode yB 9 = .ok (.return_, 1) := by decide +kernel
def site : List Cond := [New4.tab] ++ initW "java/lang/String" 27 New4.yN
def tab : Cond := tabOf yN yB 2 none site
def P (a : Addr) (D : Cell) (fV fC : Field) (b : Addr) (A : Cell) (z : Int32) (args : Array Value) (s : State) : Prop := args = #[.ref a, .ref b] ∧ Blank "java/lang/String" a D s ∧ Found "java/lang/String" "value" "[B" fV s ∧ Found "java/lang/String" "coder" "B" fC s ∧ Ch b A s ∧ StaticIs s "java/lang/String" "COMPACT_STRINGS" "Z" (.int z) ∧ ¬ z = 0 ∧ 0 < A.slots.size ∧ A.slots.size ≤ 536870912 ∧ ∀ i, i < A.slots.size → ¬ 255 < cv A i
def E (a : Addr) (D : Cell) (fV fC : Field) (A : Cell) (r : Option Value) (s u : State) : Prop := Got a D fV fC A 0 A.slots.size r s u
/-- new String(chars), not empty, no char above 255: a Latin-1 String of their low bytes -/
theorem law (l : Launch) (a : Addr) (D : Cell) (fV fC : Field) (b : Addr) (A : Cell) (z : Int32) : Law l yN 2 1 3 52 yB 2 none site (P a D fV fC b A z) (E a D fV fC A) [⟨a, fC.slot⟩, ⟨a, fV.slot⟩] 1 A.slots.size := by
  refine Law.of_walk (plainFor_of_name (by decide +kernel)) (by decide +kernel) (by decide +kernel) (by decide) (fun _ _ h => by rw [h.1]; rfl) (fun _ U U' hal hh h => ⟨h.1, h.2.1.mv hal hh, h.2.2.1.al hal, h.2.2.2.1.al hal, h.2.2.2.2.1.mv hal hh, h.2.2.2.2.2.1.there hal hh, h.2.2.2.2.2.2⟩) (fun r U U' V V' h1 hal h2 h => Got.mv r U U' V V' h1 hal h2 h) ?_
  intro p e s m args below meth c s₁ X0 hexec hbytes hml hret hlk hnm hown hh0 W hP
  obtain ⟨rfl, hB, f1, f2, hA, s1, hz, l0, l2, hp⟩ := hP
  have c1 : Steps p.tables e below (s₁.setTop (entryFrame m #[.ref a, .ref b] 2)) (s₁.setTop (mkF m 0 #[.val (.ref a), .val (.ref b)] [])) := entry rfl
  have c2 : Steps p.tables e below (s₁.setTop (entryFrame m #[.ref a, .ref b] 2)) (s₁.setTop (mkF m 6 #[.val (.ref a), .val (.ref b)] [.null, .int (Int32.ofNat A.slots.size), .int 0, .ref b, .ref a])) := c1.trans (by
    refine XS.aloadN X0.here hexec rfl (hb hbytes d0) rfl rfl ?_
    refine XS.aloadN X0.here hexec rfl (hb hbytes d1) rfl rfl ?_
    refine iconstV X0.here hexec rfl 0 (hb hbytes d2) (by decide) ?_
    refine XS.aloadN X0.here hexec rfl (hb hbytes d3) rfl rfl ?_
    refine X0.alen hexec (hA.1.mv X0.warmed.alike hh0) rfl rfl (hb hbytes d4) ?_
    refine XS.aconstNull X0.here hexec rfl (hb hbytes d5) ?_
    exact Steps.refl _)
  obtain ⟨v3, T3, X3, E3, g3⟩ := X0.callN hexec (New4.law l a D fV fC b A z 0 A.slots.size) rfl hown (wks W (initW "java/lang/String" 27 New4.yN)) (W New4.tab (by simp only [site, List.mem_cons, List.mem_append, true_or, or_true])) (W := 0) (Nat.le_of_ble_eq_true rfl) (Nat.le_of_ble_eq_true rfl) (Nat.le_refl _) (by show 0 + A.slots.size ≤ A.slots.size; omega) (g := (mkF m 6 #[.val (.ref a), .val (.ref b)] [.null, .int (Int32.ofNat A.slots.size), .int (Int32.ofNat 0), .ref b, .ref a])) rfl (by rw [hml]; rfl) c2 (argsL := [.ref b, .int (Int32.ofNat 0), .int (Int32.ofNat A.slots.size), .null]) (rest := []) rfl rfl (by show 2 * 0 + 0 ≤ _; decide) (hb hbytes d6) (⟨rfl, hB.mv X0.warmed.alike hh0, f1.al X0.warmed.alike, f2.al X0.warmed.alike, hA.mv X0.warmed.alike hh0, s1.there X0.warmed.alike hh0, hz, l0, by omega, l2, fun i hi => by rw [Nat.zero_add]; exact hp i hi⟩)
  have e0 := Got.mv _ s₁ s _ _ hh0.symm (Vm.Alike.refl _) rfl E3
  obtain rfl := e0.1
  have c4 : Steps p.tables e below (s₁.setTop (entryFrame m #[.ref a, .ref b] 2)) (T3.setTop (mkF m 9 #[.val (.ref a), .val (.ref b)] [])) := g3
  exact ⟨T3, none, _, _, _, X3, by simp, rfl, by omega, (fun _ => rfl), e0, fun fs hl => c4.trans (X3.returnOut hexec hret (hb hbytes d9) hl)⟩
theorem pays {l : Launch} {R : Room} {p : Program} {e : Env} {below : List Frame} {s : State} {sargs : Array Value} {len W : Nat} (a : Addr) (D : Cell) (fV fC : Field) (b : Addr) (A : Cell) (z : Int32) (htab : tab.before sargs s = true) (hfr : 4 ≤ R.frames) (hlo : W + 65 ≤ R.locals) :
    Back l R p e below s sargs yN len W (fun A₁ a₁ => A₁.cells + 1 ≤ R.cells ∧ A₁.slots + A.slots.size ≤ R.slots ∧ P a D fV fC b A z a₁ A₁.U) (fun A₁ _ v₁ B₁ => E a D fV fC A v₁ A₁.U B₁.U ∧ B₁.locs = A₁.locs ++ [⟨a, fC.slot⟩, ⟨a, fV.slot⟩] ∧ B₁.cells = A₁.cells + 1 ∧ B₁.slots = A₁.slots + A.slots.size) :=
  (law l a D fV fC b A z).pays htab hfr (by omega)
end New1
/-- the byte, read back as charAt reads it, is the char -/
theorem lo8_mask {x : Int32} (h0 : ¬ x < 0) (h1 : ¬ 255 < x) : lo8 x &&& 255 = x := by
  have t : ∀ k : Fin 256, lo8 (Int32.ofNat k.val) &&& 255 = Int32.ofNat k.val := by decide +kernel
  rw [Int32.lt_iff_toInt_lt] at h0 h1
  have e0 : (0 : Int32).toInt = 0 := rfl
  have e1 : (255 : Int32).toInt = 255 := rfl
  obtain ⟨k, hk⟩ : ∃ k : Nat, x.toInt = k := ⟨x.toInt.toNat, by omega⟩
  have hx : x = Int32.ofNat k := Int32.toInt_inj.mp (by rw [hk, Int32.toInt_ofNat_small (by omega)])
  rw [hx]
  exact t ⟨k, by omega⟩
end StrChars
namespace StrChars.Road
open Jvm Sem ClassFile Op Lib Jvm.Stand Jvm.Free Jvm.Free.XT
open Jvm.Lib.Cold (StaticIs)
abbrev ST : String := "java/lang/String"
/-- every table word that New1's law asks, flat -/
abbrev words : List Jvm.Cond := [.code New1.yN New1.yB 2 none, .initialized ST, .methodLink ST 27 New4.yN, .instanceMethod New4.yN,
  .code New4.yN New4.yB 6 none, .fieldLink ST 38 ST "COMPACT_STRINGS" "Z", .laysFinal ST ST "value" "[B", .fieldLink ST 9 ST "value" "[B", .laysFinal ST ST "coder" "B", .fieldLink ST 15 ST "coder" "B",
  .methodLink ST 1 Lib.objectInit, .instanceMethod Lib.objectInit, .code Lib.objectInit ⟨#[0xb1]⟩ 1 none, .methodLink ST 177 Cmp3.yN, .static Cmp3.yN, .methodLink ST 47 CodL.yN, .static CodL.yN,
  .code Cmp3.yN Cmp3.yB 6 (some (.array .byte)), .initialized U16, .arrayClass .byte, .methodLink U16 115 Cmp5.yN, .static Cmp5.yN, .code Cmp5.yN Cmp5.yB 7 (some .int), .code CodL.yN CodL.yB 2 (some .byte)]
theorem tab_of {a : Array Value} {s : State} (h : ∀ w ∈ words, w.before a s = true) : New1.tab.before a s = true := by
  have h5 : Cmp5.tab.before a s = true := unparts (wk h (.code Cmp5.yN Cmp5.yB 7 (some .int))) (wks h (.initialized Cmp5.yN.cls :: Cmp5.site))
  have hc : CodL.tab.before a s = true := unparts (wk h (.code CodL.yN CodL.yB 2 (some .byte))) (wks h (.initialized CodL.yN.cls :: CodL.site))
  have q5 : ∀ w ∈ Cmp5.tab :: words, w.before a s = true := fun w hw => (List.mem_cons.mp hw).elim (fun e => e ▸ h5) (h w)
  have h3 : Cmp3.tab.before a s = true := unparts (wk q5 (.code Cmp3.yN Cmp3.yB 6 (some (.array .byte)))) (wks q5 (.initialized Cmp3.yN.cls :: Cmp3.site))
  have q3 : ∀ w ∈ Cmp3.tab :: CodL.tab :: words, w.before a s = true := fun w hw => (List.mem_cons.mp hw).elim (fun e => e ▸ h3) fun hw => (List.mem_cons.mp hw).elim (fun e => e ▸ hc) (h w)
  have h4 : New4.tab.before a s = true := unparts (wk q3 (.code New4.yN New4.yB 6 none)) (wks q3 (.initialized New4.yN.cls :: New4.site))
  have q4 : ∀ w ∈ New4.tab :: words, w.before a s = true := fun w hw => (List.mem_cons.mp hw).elim (fun e => e ▸ h4) (h w)
  exact unparts (wk q4 (.code New1.yN New1.yB 2 none)) (wks q4 (.initialized New1.yN.cls :: New1.site))
/-- the words ride from the start Z to the walk's own state -/
theorem moved {Z s : State} {a0 args : Array Value} (hZ : Z.Warmed39 s.vm) (hw : ∀ d ∈ words, d.before a0 Z = true) : ∀ d ∈ words, d.before args s = true := fun d hd => by
  have q := hw d hd
  have t : ∀ d ∈ words, d = .arrayClass .byte ∨ (d.onTables && d.keepsFace) = true := by decide +kernel
  rcases t d hd with rfl | t
  · exact RoadKit.mvA hZ q
  · exact RoadKit.mv hZ q t
/-- WHAT COMES BACK, over the tables of the start Z: h the heap at the call, h' behind it -/
def Q (Z : State) (x : Addr) (A : Cell) (h : Heap) (v : Option Value) (h' : Heap) (L : List Loc) : Prop := v = none ∧ (∀ y ∈ L, y.base = x) ∧ RoadKit.Keep h h' [x] ∧ h'.size = h.size + 1 ∧ RoadKit.Exa Z h' x ST ∧ RoadKit.Fld Z h' x ST "value" "[B" (.ref h.size) ∧ RoadKit.Fld Z h' x ST "coder" "B" (.int 0) ∧
  (∃ V : Cell, RoadKit.Arr Z h' h.size V .byte ∧ V.vm = .none ∧ Z.vm.findClass "[B" = some V.cls ∧ V.slots.size = A.slots.size ∧ ∀ j, j < A.slots.size → V.slots[j]? = some (.int (lo8 (cv A j)))) ∧
  ∀ (O n d : String) (w : Value), RoadKit.Fld Z h x O n d w → RoadKit.slotOf Z O n d ≠ RoadKit.slotOf Z ST "value" "[B" → RoadKit.slotOf Z O n d ≠ RoadKit.slotOf Z ST "coder" "B" → RoadKit.Fld Z h' x O n d w
/-- **new String(chars) AT A CALL, IN THE ROAD'S FORM**: for specialBack behind newO: x the fresh String, b the char[] with the cell A -/
theorem back {p : Program} {l : Launch} {e : Env} {R : Room} {s : State} {args : Array Value} {below : List Frame} {len W : Nat} {Z : State} {a0 : Array Value} {h : Heap} (hZ : Z.Warmed39 s.vm) (hw : ∀ d ∈ words, d.before a0 Z = true) {kI : Nat} (wi : (Jvm.Cond.instantiable ST kI).before a0 Z = true)
    {x b : Addr} {A : Cell} {z : Int32} {v0 c0 : Value} (E : RoadKit.Exa Z h x ST) (V : RoadKit.Fld Z h x ST "value" "[B" v0) (C : RoadKit.Fld Z h x ST "coder" "B" c0) (K : RoadKit.Arr Z h b A .char) (hty : Typed .char A) (S : RoadKit.Sta Z h ST "COMPACT_STRINGS" "Z" (.int z)) (hz : ¬ z = 0)
    (l0 : 0 < A.slots.size) (l2 : A.slots.size ≤ 536870912) (hp : ∀ i, i < A.slots.size → ¬ 255 < cv A i) (hfr : 4 ≤ R.frames) (hlo : W + 65 ≤ R.locals) :
    Back l R p e below s args New1.yN len W (fun P a => a = #[.ref x, .ref b] ∧ P.U.heap = h ∧ P.cells + 1 ≤ R.cells ∧ P.slots + A.slots.size ≤ R.slots)
      (fun P _ v B => ∃ L, Q Z x A h v B.U.heap L ∧ B.locs = P.locs ++ L ∧ B.cells = P.cells + 1 ∧ B.slots = P.slots + A.slots.size) := by
  intro m meth c P g ig mk a X hg hsize hdg hW hn hp'
  obtain ⟨rfl, rfl, r1, r2⟩ := hp'
  have al : Z.vm.Alike P.U.vm := hZ.alike.trans X.warmed.alike
  obtain ⟨D, cfV, kV, iV, fV, hD, gV, stV, knV, obV, asV, slV⟩ := id V
  obtain ⟨D', cfC, kC, iC, fC, hD', gC, stC, -, -, asC, slC⟩ := id C
  cases hD.symm.trans hD'
  obtain ⟨D2, kD, e1, e2, e3, e4, e5⟩ := id E
  cases hD.symm.trans e1
  obtain ⟨c2, k2, i1, i2, i3, -⟩ := Cond.instantiable_spec wi
  cases e2.symm.trans i1
  cases e3.symm.trans i2
  obtain ⟨kU, u1, u2⟩ := al.2.2 _ _ e3
  have hB : Blank ST x D P.U := ⟨hD, ⟨knV, fun q hq => by rw [hq] at obV; cases obV⟩, by rw [al.findClass]; exact e2, kU, u1, by rw [u2]; exact i3, by rw [u2]; exact e5 i3⟩
  have F1 : Found ST "value" "[B" fV P.U := ⟨SBG.found_only al ⟨cfV, kV, iV, gV⟩, stV⟩
  have F2 : Found ST "coder" "B" fC P.U := ⟨SBG.found_only al ⟨cfC, kC, iC, gC⟩, stC⟩
  have hA : Ch b A P.U := ⟨⟨K.1, State.isArrayOf_alike al K.2.1, K.2.2, by omega⟩, hty⟩
  have hS : StaticIs P.U ST "COMPACT_STRINGS" "Z" (.int z) := by
    obtain ⟨cfS, iS, kS, fS, st, cS, t1, t2, t3, t4, t5, t6, t7⟩ := S
    exact StaticIs.there (s := { Z with heap := P.U.heap }) ⟨cfS, iS, kS, fS, st, cS, t1, t2, t3, t4, t5, (fun q => by rw [q] at t6; cases t6), t7⟩ al rfl
  obtain ⟨v, B, X', ⟨⟨hv, E', V', q1, q2, q3, q4, q5, q6, q7, q8, q9, q10, q11⟩, hl, hc, hs⟩, st⟩ := New1.pays x D fV fC b A z (tab_of (moved hZ hw)) hfr hlo m meth c P g ig mk _ X hg hsize hdg hW hn ⟨r1, r2, rfl, hB, F1, F2, hA, hS, hz, l0, l2, hp⟩
  have al' : Z.vm.Alike B.U.vm := hZ.alike.trans X'.warmed.alike
  have hsz : E'.slots.size = D.slots.size := by
    obtain ⟨-, -, -, kB, w1, w2, w3⟩ := q1
    obtain ⟨kB', y1, y2⟩ := al'.2.2 _ _ e3
    rw [q2.2.1] at w1
    cases w1.symm.trans y1
    rw [w3, e5 i3, y2]
  refine ⟨v, B, X', ⟨_, ⟨hv, ?_, ⟨by omega, fun y cy hy hn' => q10 y cy (by simpa using hn') hy, fun y cy hy => ?_⟩, q11, ⟨E', _, q1.1, by rw [q2.2.1]; exact e2, by rw [q2.2.1]; exact e3, by rw [q2.1]; exact obV, fun _ => by rw [hsz]; exact e5 i3⟩,
    ⟨E', cfV, kV, iV, fV, q1.1, gV, stV, by rw [q2.1]; exact knV, by rw [q2.1]; exact obV, by rw [q2.2.1]; exact asV, q3⟩, ⟨E', cfC, kC, iC, fC, q1.1, gC, stC, by rw [q2.1]; exact knV, by rw [q2.1]; exact obV, by rw [q2.2.1]; exact asC, q4⟩,
    ⟨V', ⟨q5.1, State.isArrayOf_alike al'.symm q5.2.1, q5.2.2.1⟩, q6, by rw [← al'.findClass]; exact q7, q8, fun j hj => by have := q9 j hj; rwa [Nat.zero_add] at this⟩, fun O n d w F n1 n2 => ?_⟩, hl, hc, hs⟩, st⟩
  · intro y hy
    simp only [List.mem_cons, List.not_mem_nil, or_false] at hy
    rcases hy with rfl | rfl <;> rfl
  · by_cases q : y = x
    · subst q
      cases hD.symm.trans hy
      exact ⟨E', q1.1, q2.2.1, q2.1, hsz⟩
    · exact ⟨cy, q10 y cy q hy, rfl, rfl, rfl⟩
  · obtain ⟨D3, cf, k, i, f, g1, g2, g3, g4, g5, g6, g7⟩ := F
    cases hD.symm.trans g1
    simp only [RoadKit.slotOf, g2, gV, gC, Option.map_some, Option.getD_some] at n1 n2
    exact ⟨E', cf, k, i, f, q1.1, g2, g3, by rw [q2.1]; exact g4, by rw [q2.1]; exact g5, by rw [q2.2.1]; exact g6, by rw [q2.2.2 f.slot (by simp [n1, n2])]; exact g7⟩
end StrChars.Road
namespace StrChars.Road
open Jvm Sem ClassFile Op Lib Jvm.Stand Jvm.Free Jvm.Free.XT
/-- WHAT COMES BACK, the byte[] as a list of values -/
def QA (Z : State) (x : Addr) (zn : Int32) (cs : List Int32) (h : Heap) (v : Option Value) (h' : Heap) (L : List Loc) : Prop := v = none ∧ (∀ y ∈ L, y.base = x) ∧ RoadKit.Keep h h' [x] ∧ h'.size = h.size + 1 ∧ RoadKit.Exa Z h' x ST ∧ RoadKit.Fld Z h' x ST "value" "[B" (.ref h.size) ∧ RoadKit.Fld Z h' x ST "coder" "B" (.int 0) ∧
  (∃ kb, Z.vm.findClass "[B" = some kb ∧ RoadKit.Arv Z h' h.size kb .byte zn (cs.map fun c => .int (lo8 c)) (.int 0)) ∧
  ∀ (O n d : String) (w : Value), RoadKit.Fld Z h x O n d w → RoadKit.slotOf Z O n d ≠ RoadKit.slotOf Z ST "value" "[B" → RoadKit.slotOf Z O n d ≠ RoadKit.slotOf Z ST "coder" "B" → RoadKit.Fld Z h' x O n d w
/-- **new String(chars) AT A CALL, THE ARRAYS AS LISTS**: the char[] at b holds cs, not empty, no char above 255 -/
theorem backArv {p : Program} {l : Launch} {e : Env} {R : Room} {s : State} {args : Array Value} {below : List Frame} {len W : Nat} {Z : State} {a0 : Array Value} {h : Heap} (hZ : Z.Warmed39 s.vm) (hw : ∀ d ∈ words, d.before a0 Z = true) {kI : Nat} (wi : (Jvm.Cond.instantiable ST kI).before a0 Z = true)
    {x b : Addr} {k : ClassId} {zn z : Int32} {cs : List Int32} {dv v0 c0 : Value} (E : RoadKit.Exa Z h x ST) (V : RoadKit.Fld Z h x ST "value" "[B" v0) (C : RoadKit.Fld Z h x ST "coder" "B" c0) (K : RoadKit.Arv Z h b k .char zn (cs.map Value.int) dv) (S : RoadKit.Sta Z h ST "COMPACT_STRINGS" "Z" (.int z)) (hz : ¬ z = 0)
    (hlen : zn.toNatClampNeg = cs.length) (h0 : 0 < cs.length) (hbig : cs.length ≤ 536870912) (hall : ∀ c ∈ cs, ¬ 255 < c) (hfr : 4 ≤ R.frames) (hlo : W + 65 ≤ R.locals) :
    Back l R p e below s args New1.yN len W (fun P a => a = #[.ref x, .ref b] ∧ P.U.heap = h ∧ P.cells + 1 ≤ R.cells ∧ P.slots + cs.length ≤ R.slots)
      (fun P _ v B => ∃ L, QA Z x zn cs h v B.U.heap L ∧ B.locs = P.locs ++ L ∧ B.cells = P.cells + 1 ∧ B.slots = P.slots + cs.length) := by
  obtain ⟨A, K1, K2, K3, K4, K5, K6⟩ := K
  have e : A.slots.size = cs.length := K3.trans hlen
  have hat : ∀ (i : Nat) (hi : i < cs.length), A.slots[i]? = some (.int cs[i]) := fun i hi => by rw [K5 i (by omega)]; simp [List.getD_eq_getElem?_getD, hi]
  have hcv : ∀ (i : Nat) (hi : i < cs.length), cv A i = cs[i] := fun i hi => by unfold cv; rw [hat i hi]
  have hty : Typed .char A := fun i v hv => by
    have hi : i < A.slots.size := (Array.getElem?_eq_some_iff.mp hv).1
    have q := K5 i hi
    rw [hv] at q
    rw [Option.some.inj q]
    exact K6 i hi
  refine Back.mono (back hZ hw wi E V C K1 hty S hz (by omega) (by omega) (fun i hi => by rw [hcv i (by omega)]; exact hall _ (List.getElem_mem _)) hfr hlo) (fun P a hp => ⟨hp.1, hp.2.1, hp.2.2.1, by rw [e]; exact hp.2.2.2⟩) (fun P a v B hp hq => ?_)
  obtain ⟨L, ⟨q1, q2, q3, q4, q5, q6, q7, ⟨V', v1, v2, v3, v4, v5⟩, q9⟩, hl, hc, hs⟩ := hq
  refine ⟨L, ⟨q1, q2, q3, q4, q5, q6, q7, ⟨V'.cls, v3, V', v1, rfl, by rw [v4, e, hlen], K4, fun i hi => ?_, fun i hi => ?_⟩, q9⟩, hl, hc, by rw [hs, e]⟩
  · have hi' : i < cs.length := by omega
    rw [v5 i (by omega), hcv i hi']; simp [List.getD_eq_getElem?_getD, hi']
  · have hi' : i < cs.length := by omega
    simp only [List.getD_eq_getElem?_getD, List.getElem?_map, List.getElem?_eq_getElem hi', Option.map_some, Option.getD_some]
    exact fits_lo8 _
end StrChars.Road
namespace StrChars.Road
open Jvm Sem ClassFile Op Lib Jvm.Stand Jvm.Free Jvm.Free.XT
/-- WHAT COMES BACK, in the writer's own shape -/
def QV (Z : State) (x : Addr) (N : Int32) (bs : List Int32) (h : Heap) (n0 : Nat) (v : Option Value) (h' : Heap) (L : List Loc) : Prop := v = none ∧ RoadKit.Fr n0 L ∧ RoadKit.Keep h h' [x] ∧ RoadKit.Exa Z h' x ST ∧ RoadKit.Fld Z h' x ST "coder" "B" (.int 0) ∧
  ∃ (t : Addr) (kb : ClassId), n0 ≤ t ∧ h.size ≤ t ∧ ¬ t = x ∧ RoadKit.Fld Z h' x ST "value" "[B" (.ref t) ∧ RoadKit.Arv Z h' t kb .byte N (bs.map Value.int) (.int 0)
/-- **new String(chars) AT A CALL, FOR THE WRITER**: a char[] of n known ints, each 0 to 255 -/
theorem backV {p : Program} {l : Launch} {e : Env} {R : Room} {s : State} {args : Array Value} {below : List Frame} {len W : Nat} {Z : State} {a0 : Array Value} {h : Heap} (hZ : Z.Warmed39 s.vm) (hw : ∀ d ∈ words, d.before a0 Z = true) {kI : Nat} (wi : (Jvm.Cond.instantiable ST kI).before a0 Z = true)
    {x b : Addr} {kC : ClassId} {cs bs : List Int32} {d v0 c0 : Value} {z N : Int32} {n n0 : Nat} (hx0 : n0 ≤ x) (hh0 : n0 ≤ h.size) (E : RoadKit.Exa Z h x ST) (V : RoadKit.Fld Z h x ST "value" "[B" v0) (C : RoadKit.Fld Z h x ST "coder" "B" c0) (K : RoadKit.Arv Z h b kC .char N (cs.map Value.int) d) (S : RoadKit.Sta Z h ST "COMPACT_STRINGS" "Z" (.int z)) (hz : ¬ z = 0)
    (hn : cs.length = n) (hN : N = Int32.ofNat n) (l0 : 0 < n) (l2 : n ≤ 4000) (hp : ∀ c ∈ cs, ¬ c < 0 ∧ ¬ (255 : Int32) < c) (hb : bs = cs.map (fun c => c.toInt8.toInt32)) (hfr : 4 ≤ R.frames) (hlo : W + 65 ≤ R.locals) :
    Back l R p e below s args (⟨"java/lang/String", "<init>", "([C)V"⟩ : MethodName) len W (fun P a => a = #[.ref x, .ref b] ∧ P.U.heap = h ∧ P.cells + 1 ≤ R.cells ∧ P.slots + n ≤ R.slots)
      (fun P _ v B => ∃ L, QV Z x N bs h n0 v B.U.heap L ∧ B.locs = P.locs ++ L ∧ B.cells = P.cells + 1 ∧ B.slots = P.slots + n) := by
  subst hn hN hb
  refine Back.mono (backArv hZ hw wi E V C K S hz (n32 (by omega)) l0 (by omega) (fun c hc => (hp c hc).2) hfr hlo) (fun P a hp => hp) (fun P a v B hp hq => ?_)
  obtain ⟨L, ⟨q1, q2, q3, q4, q5, q6, q7, ⟨kb, v1, v2⟩, q9⟩, hl, hc, hs⟩ := hq
  exact ⟨L, ⟨q1, fun y hy => by rw [q2 y hy]; exact hx0, q3, q5, q7, h.size, kb, hh0, Nat.le_refl _, Nat.ne_of_gt E.lt, q6, by rw [List.map_map]; exact v2⟩, hl, hc, hs⟩
end StrChars.Road
namespace StrChars
open Jvm Sem ClassFile Op Lib Jvm.Stand Jvm.Free.XT Jvm.Free.ALB Jvm.Free.JM Jvm.Free
open Jvm.Lib.Cold (StaticIs)
def hi8 (x : Int32) : Int32 := lo8 (x >>> ((8 : Int32) &&& 31))
/-- what StringUTF16.getChar makes of two bytes -/
def pairCh (u v : Int32) : Int32 := (((u &&& 255) <<< ((0 : Int32) &&& 31)) ||| ((v &&& 255) <<< ((8 : Int32) &&& 31))).toUInt32.toUInt16.toUInt32.toInt32
theorem lo8_and (x : Int32) : (lo8 x &&& 255).toBitVec.toNat = x.toBitVec.toNat % 256 := by
  have h : (lo8 x).toBitVec = (x.toBitVec.signExtend 8).signExtend 32 := by rw [lo8, Int8.toBitVec_toInt32, Int32.toBitVec_toInt8]
  rw [Int32.toBitVec_and, BitVec.toNat_and, h]
  have e : ((x.toBitVec.signExtend 8).signExtend 32).toNat % 256 = x.toBitVec.toNat % 256 := by
    rw [BitVec.toNat_signExtend]
    have hlt := x.toBitVec.isLt
    simp only [BitVec.toNat_setWidth, BitVec.toNat_signExtend]
    split <;> split <;> omega
  rw [← e]
  exact Nat.and_two_pow_sub_one_eq_mod _ 8
theorem pair_says {c : Int32} (h0 : ¬ c < 0) (h1 : ¬ 65535 < c) : pairCh (lo8 c) (hi8 c) = c := by
  rw [Int32.lt_iff_toInt_lt] at h0 h1
  have e0 : (0 : Int32).toInt = 0 := rfl
  have e1 : (65535 : Int32).toInt = 65535 := rfl
  have hc : c.toInt = c.toBitVec.toNat := by
    have := c.toBitVec.isLt
    have e : c.toInt = c.toBitVec.toInt := rfl
    rw [e] at h0 h1
    rw [e]
    rw [BitVec.toInt_eq_toNat_cond] at h0 h1 ⊢
    split at h0 <;> split <;> omega
  have hn : c.toBitVec.toNat < 65536 := by omega
  have a1 := lo8_and c
  have a2 : (hi8 c &&& 255).toBitVec.toNat = c.toBitVec.toNat / 256 := by
    rw [hi8, lo8_and]
    have e : ((8 : Int32) &&& 31) = 8 := by decide
    rw [e, Int32.toBitVec_shiftRight]
    have e2 : ((8 : Int32).toBitVec.smod 32) = 8#32 := by decide
    rw [e2, BitVec.sshiftRight_eq', BitVec.toNat_sshiftRight_of_msb_false (by rw [BitVec.msb_eq_false_iff_two_mul_lt]; omega)]
    show c.toBitVec.toNat >>> 8 % 256 = _
    rw [Nat.shiftRight_eq_div_pow]
    omega
  unfold pairCh
  apply Int32.toBitVec_inj.mp
  apply BitVec.eq_of_toNat_eq
  have f0 : ((0 : Int32) &&& 31) = 0 := by decide
  have f8 : ((8 : Int32) &&& 31) = 8 := by decide
  rw [f0, f8]
  have g : (((lo8 c &&& 255) <<< (0 : Int32)) ||| ((hi8 c &&& 255) <<< (8 : Int32))).toBitVec.toNat = c.toBitVec.toNat := by
    rw [Int32.toBitVec_or, Int32.toBitVec_shiftLeft, Int32.toBitVec_shiftLeft]
    have s0 : ((0 : Int32).toBitVec.smod 32) = 0#32 := by decide
    have s8 : ((8 : Int32).toBitVec.smod 32) = 8#32 := by decide
    rw [s0, s8, BitVec.toNat_or]
    simp only [BitVec.shiftLeft_eq', BitVec.toNat_shiftLeft, a1, a2]
    show (c.toBitVec.toNat % 256) <<< 0 % 2 ^ 32 ||| (c.toBitVec.toNat / 256) <<< 8 % 2 ^ 32 = _
    rw [Nat.shiftLeft_zero, Nat.mod_eq_of_lt (show c.toBitVec.toNat % 256 < 2 ^ 32 by omega), Nat.mod_eq_of_lt (show (c.toBitVec.toNat / 256) <<< 8 < 2 ^ 32 by rw [Nat.shiftLeft_eq]; omega), Nat.or_comm, ← Nat.shiftLeft_add_eq_or_of_lt (by omega), Nat.shiftLeft_eq]
    omega
  show BitVec.toNat (((((lo8 c &&& 255) <<< (0 : Int32)) ||| ((hi8 c &&& 255) <<< (8 : Int32))).toBitVec.setWidth 16).setWidth 32) = _
  rw [BitVec.toNat_setWidth, BitVec.toNat_setWidth, g]
  omega
end StrChars
namespace StrChars
open Jvm Sem ClassFile Op Lib Jvm.Stand Jvm.Free.XT Jvm.Free.ALB Jvm.Free.JM Jvm.Free
open Jvm.Lib.Cold (StaticIs)
/-- the array's cell V codes the n chars f 0 .. f (n - 1) by the coder cd, as the JDK does: coder 1 just where some char is above 255 -/
def Cod (cd : Int32) (n : Nat) (f : Nat → Int32) (V : Cell) : Prop := (cd = 0 ∧ V.slots.size = n ∧ ∀ j, j < n → V.slots[j]? = some (.int (lo8 (f j))) ∧ ¬ 255 < f j) ∨ (cd = 1 ∧ V.slots.size = 2 * n ∧ (∀ j, j < n → V.slots[2 * j]? = some (.int (lo8 (f j))) ∧ V.slots[2 * j + 1]? = some (.int (hi8 (f j)))) ∧ ∃ j, j < n ∧ 255 < f j)
/-- **x is a String of the n chars f 0 .. f (n - 1)**, Latin-1 or UTF-16; its array at t has the cell V -/
def Txt (x t : Addr) (V : Cell) (cd : Int32) (n : Nat) (f : Nat → Int32) (U : State) : Prop := Exact "java/lang/String" x U ∧ Has x "java/lang/String" "value" "[B" (.ref t) U ∧ Has x "java/lang/String" "coder" "B" (.int cd) U ∧ XT.Arr .byte t V U ∧ Cod cd n f V ∧ ∀ j, j < n → ¬ f j < 0 ∧ ¬ 65535 < f j
theorem Txt.mv {x t : Addr} {V : Cell} {cd : Int32} {n : Nat} {f : Nat → Int32} {U U' : State} (h : Txt x t V cd n f U) (hal : U.vm.Alike U'.vm) (hh : U'.heap = U.heap) : Txt x t V cd n f U' := ⟨h.1.mv hal hh, h.2.1.mv hal hh, h.2.2.1.mv hal hh, h.2.2.2.1.mv hal hh, h.2.2.2.2⟩
end StrChars
namespace StrChars.Road
open Jvm Sem ClassFile Op Lib Jvm.Stand Jvm.Free Jvm.Free.XT
open Jvm.Lib.Cold (StaticIs)
theorem consq {a : Array Value} {s : State} {c : Jvm.Cond} {L : List Jvm.Cond} (h0 : c.before a s = true) (h : ∀ w ∈ L, w.before a s = true) : ∀ w ∈ c :: L, w.before a s = true := fun w hw => (List.mem_cons.mp hw).elim (fun e => e ▸ h0) (h w)
/-- the bytes of the chars cs, low before high -/
def wideBytes : List Int32 → List Value
  | [] => []
  | c :: cs => .int (lo8 c) :: .int (hi8 c) :: wideBytes cs
theorem wide_lo (d : Value) : ∀ (cs : List Int32) (j : Nat), j < cs.length → (wideBytes cs).getD (2 * j) d = .int (lo8 (cs.getD j 0))
  | [], j, h => absurd h (Nat.not_lt_zero j)
  | c :: cs, 0, _ => rfl
  | c :: cs, j + 1, h => by
    have q := wide_lo d cs j (by simpa using h)
    rw [show 2 * (j + 1) = 2 * j + 1 + 1 from by omega]
    simpa [wideBytes] using q
theorem wide_hi (d : Value) : ∀ (cs : List Int32) (j : Nat), j < cs.length → (wideBytes cs).getD (2 * j + 1) d = .int (hi8 (cs.getD j 0))
  | [], j, h => absurd h (Nat.not_lt_zero j)
  | c :: cs, 0, _ => rfl
  | c :: cs, j + 1, h => by
    have q := wide_hi d cs j (by simpa using h)
    rw [show 2 * (j + 1) + 1 = 2 * j + 1 + 1 + 1 from by omega]
    simpa [wideBytes] using q
theorem low_at (d : Value) (cs : List Int32) (j : Nat) (h : j < cs.length) : (cs.map fun c => Value.int (lo8 c)).getD j d = .int (lo8 (cs.getD j 0)) := by
  simp [List.getD_eq_getElem?_getD, h]
/-- an array of N2 bytes vs codes the chars cs by the coder cd -/
def CodA (cs : List Int32) (cd N2 : Int32) (vs : List Value) : Prop := (cd = 0 ∧ N2 = Int32.ofNat cs.length ∧ vs = (cs.map fun c => Value.int (lo8 c)) ∧ ∀ c ∈ cs, ¬ 255 < c) ∨ (cd = 1 ∧ N2 = Int32.ofNat (2 * cs.length) ∧ vs = wideBytes cs ∧ ∃ c ∈ cs, 255 < c)
theorem CodA.cod {cs : List Int32} {cd N2 : Int32} {vs : List Value} {V : Cell} (h : CodA cs cd N2 vs) (hn : 2 * cs.length < 2 ^ 31) (hs : V.slots.size = N2.toNatClampNeg) (hv : RoadKit.Has V vs (.int 0)) : Cod cd cs.length (fun j => cs.getD j 0) V := by
  rcases h with ⟨rfl, rfl, rfl, h⟩ | ⟨rfl, rfl, rfl, c, hc, hw⟩
  · rw [n32 (by omega)] at hs
    exact Or.inl ⟨rfl, hs, fun j hj => ⟨by rw [hv j (by omega), low_at _ _ _ hj], by
      have e : cs.getD j 0 = cs[j] := by simp [List.getD_eq_getElem?_getD, hj]
      show ¬ 255 < cs.getD j 0
      rw [e]; exact h _ (List.getElem_mem _)⟩⟩
  · rw [n32 (by omega)] at hs
    obtain ⟨j, hj, rfl⟩ := List.getElem_of_mem hc
    exact Or.inr ⟨rfl, hs, fun j hj => ⟨by rw [hv _ (by omega), wide_lo _ _ _ hj], by rw [hv _ (by omega), wide_hi _ _ _ hj]⟩, j, hj, by
      have e : cs.getD j 0 = cs[j] := by simp [List.getD_eq_getElem?_getD, hj]
      show 255 < cs.getD j 0
      rw [e]; exact hw⟩
/-- an object of exactly java/lang/String, its two fields found: as the laws ask it -/
theorem strObj {Z U : State} {a0 : Array Value} {kI : Nat} (wi : (Jvm.Cond.instantiable ST kI).before a0 Z = true) (al : Z.vm.Alike U.vm) {x : Addr} {v0 c0 : Value} (E : RoadKit.Exa Z U.heap x ST) (V : RoadKit.Fld Z U.heap x ST "value" "[B" v0) (C : RoadKit.Fld Z U.heap x ST "coder" "B" c0) :
    ∃ (D : Cell) (fV fC : Field), Blank ST x D U ∧ Found ST "value" "[B" fV U ∧ Found ST "coder" "B" fC U ∧ D.slots[fV.slot]? = some v0 ∧ D.slots[fC.slot]? = some c0 ∧ RoadKit.slotOf Z ST "value" "[B" = fV.slot ∧ RoadKit.slotOf Z ST "coder" "B" = fC.slot := by
  obtain ⟨D, cfV, kV, iV, fV, hD, gV, stV, knV, obV, asV, slV⟩ := V
  obtain ⟨D', cfC, kC, iC, fC, hD', gC, stC, -, -, asC, slC⟩ := C
  cases hD.symm.trans hD'
  obtain ⟨D2, kD, e1, e2, e3, e4, e5⟩ := E
  cases hD.symm.trans e1
  obtain ⟨c2, k2, i1, i2, i3, -⟩ := Cond.instantiable_spec wi
  cases e2.symm.trans i1
  cases e3.symm.trans i2
  obtain ⟨kU, u1, u2⟩ := al.2.2 _ _ e3
  exact ⟨D, fV, fC, ⟨hD, ⟨knV, fun q hq => by rw [hq] at obV; cases obV⟩, by rw [al.findClass]; exact e2, kU, u1, by rw [u2]; exact i3, by rw [u2]; exact e5 i3⟩, ⟨SBG.found_only al ⟨cfV, kV, iV, gV⟩, stV⟩, ⟨SBG.found_only al ⟨cfC, kC, iC, gC⟩, stC⟩, slV, slC, by simp [RoadKit.slotOf, gV], by simp [RoadKit.slotOf, gC]⟩
theorem sta_is {Z U : State} (al : Z.vm.Alike U.vm) {C n d : String} {v : Value} (S : RoadKit.Sta Z U.heap C n d v) : StaticIs U C n d v := by
  obtain ⟨cfS, iS, kS, fS, st, cS, t1, t2, t3, t4, t5, t6, t7⟩ := S
  exact StaticIs.there (s := { Z with heap := U.heap }) ⟨cfS, iS, kS, fS, st, cS, t1, t2, t3, t4, t5, (fun q => by rw [q] at t6; cases t6), t7⟩ al rfl
end StrChars.Road
namespace StrChars
open Jvm Sem ClassFile Op Lib Jvm.Stand Jvm.Free.XT Jvm.Free.ALB Jvm.Free.JM Jvm.Free
open Jvm.Lib.Cold (StaticIs)
/-- what place i of a byte[]'s cell holds -/
def yv (A : Cell) (i : Nat) : Int32 := match A.slots[i]? with | some (.int x) => x | _ => 0
theorem yv_get {a : Addr} {A : Cell} {U : State} (h : XT.Arr .byte a A U) (ht : Typed .byte A) {i : Nat} (hi : i < A.slots.size) : A.slots[i]? = some (.int (yv A i)) := by
  have e := Array.getElem?_eq_getElem hi
  have f := ht i _ e
  unfold yv; rw [e]
  generalize A.slots[i] = v at f
  cases v <;> simp [fits] at f ⊢
/-- the two arrays are equal, place for place -/
def EqC (A B : Cell) : Prop := A.slots.size = B.slots.size ∧ ∀ i, i < A.slots.size → yv A i = yv B i
/-- a boolean that says whether p -/
def Says01 (q : Prop) (r : Option Value) (s u : State) : Prop := ∃ v : Int32, r = some (.int v) ∧ u.heap = s.heap ∧ ((v = 1 ∧ q) ∨ (v = 0 ∧ ¬ q))
theorem Says01.mv {q : Prop} : ∀ r (U U' V V' : State), U'.heap = U.heap → V.vm.Alike V'.vm → V'.heap = V.heap → Says01 q r U V → Says01 q r U' V' :=
  fun r U U' V V' h1 _ h2 ⟨v, a, b, c⟩ => ⟨v, a, by rw [h1, h2]; exact b, c⟩
namespace LEq
def yN : MethodName := ⟨"java/lang/StringLatin1", "equals", "([B[B)Z"⟩
abbrev yB : ByteArray := jdk_43_method_13_code
theorem d0 : decode yB 0 = .ok (.aload_n 0, 1) := by decide +kernel
theorem d1 : decode yB 1 = .ok (.arraylength, 1) := by decide +kernel
theorem d2 : decode yB 2 = .ok (.aload_n 1, 1) := by decide +kernel
theorem d3 : decode yB 3 = .ok (.arraylength, 1) := by decide +kernel
theorem d4 : decode yB 4 = .ok (.if_icmp (.ne) 30, 3) := by decide +kernel
theorem d7 : decode yB 7 = .ok (.iconst 0, 1) := by decide +kernel
theorem d8 : decode yB 8 = .ok (.istore_n 2, 1) := by decide +kernel
theorem d9 : decode yB 9 = .ok (.iload_n 2, 1) := by decide +kernel
theorem d10 : decode yB 10 = .ok (.aload_n 0, 1) := by decide +kernel
theorem d11 : decode yB 11 = .ok (.arraylength, 1) := by decide +kernel
theorem d12 : decode yB 12 = .ok (.if_icmp (.ge) 20, 3) := by decide +kernel
theorem d15 : decode yB 15 = .ok (.aload_n 0, 1) := by decide +kernel
theorem d16 : decode yB 16 = .ok (.iload_n 2, 1) := by decide +kernel
theorem d17 : decode yB 17 = .ok (.baload, 1) := by decide +kernel
theorem d18 : decode yB 18 = .ok (.aload_n 1, 1) := by decide +kernel
theorem d19 : decode yB 19 = .ok (.iload_n 2, 1) := by decide +kernel
theorem d20 : decode yB 20 = .ok (.baload, 1) := by decide +kernel
theorem d21 : decode yB 21 = .ok (.if_icmp (.eq) 5, 3) := by decide +kernel
theorem d24 : decode yB 24 = .ok (.iconst 0, 1) := by decide +kernel
theorem d25 : decode yB 25 = .ok (.ireturn, 1) := by decide +kernel
theorem d26 : decode yB 26 = .ok (.iinc 2 1, 3) := by decide +kernel
theorem d29 : decode yB 29 = .ok (.goto (-20), 3) := by decide +kernel
theorem d32 : decode yB 32 = .ok (.iconst 1, 1) := by decide +kernel
theorem d33 : decode yB 33 = .ok (.ireturn, 1) := by decide +kernel
theorem d34 : decode yB 34 = .ok (.iconst 0, 1) := by decide +kernel
theorem d35 : decode yB 35 = .ok (.ireturn, 1) := by decide +kernel
def site : List Cond := []
def tab : Cond := tabOf yN yB 3 (some .boolean) site
def P (a : Addr) (A : Cell) (b : Addr) (B : Cell) (args : Array Value) (s : State) : Prop := args = #[.ref a, .ref b] ∧ XT.Arr .byte a A s ∧ Typed .byte A ∧ XT.Arr .byte b B s ∧ Typed .byte B
/-- whether two byte[] are equal, place for place -/
theorem law (l : Launch) (a : Addr) (A : Cell) (b : Addr) (B : Cell) : Law l yN 2 2 0 0 yB 3 (some .boolean) site (P a A b B) (Says01 (EqC A B)) [] 0 0 := by
  refine Law.of_walk (plainFor_of_name (by decide +kernel)) (by decide +kernel) (by decide +kernel) (by decide) (fun _ _ h => by rw [h.1]; rfl) (fun _ U U' hal hh h => ⟨h.1, h.2.1.mv hal hh, h.2.2.1, h.2.2.2.1.mv hal hh, h.2.2.2.2⟩) (fun r U U' V V' h1 hal h2 h => Says01.mv r U U' V V' h1 hal h2 h) ?_
  intro p e s m args below meth c s₁ X0 hexec hbytes hml hret hlk hnm hown hh0 W hP
  obtain ⟨rfl, hA, tA, hB, tB⟩ := hP
  have a31 := hA.2.2.2
  have b31 := hB.2.2.2
  have hA0 := hA.mv X0.warmed.alike hh0
  have hB0 := hB.mv X0.warmed.alike hh0
  have c1 : Steps p.tables e below (s₁.setTop (entryFrame m #[.ref a, .ref b] 3)) (s₁.setTop (mkF m 0 #[.val (.ref a), .val (.ref b), .unset] [])) := entry rfl
  have c2 : Steps p.tables e below (s₁.setTop (entryFrame m #[.ref a, .ref b] 3)) (s₁.setTop (mkF m 4 #[.val (.ref a), .val (.ref b), .unset] [.int (Int32.ofNat B.slots.size), .int (Int32.ofNat A.slots.size)])) := c1.trans (by
    refine XS.aloadN X0.here hexec rfl (hb hbytes d0) rfl rfl ?_
    refine X0.alen hexec hA0 rfl rfl (hb hbytes d1) ?_
    refine XS.aloadN X0.here hexec rfl (hb hbytes d2) rfl rfl ?_
    refine X0.alen hexec hB0 rfl rfl (hb hbytes d3) ?_
    exact Steps.refl _)
  by_cases hs : A.slots.size = B.slots.size
  · have c3 : Steps p.tables e below (s₁.setTop (entryFrame m #[.ref a, .ref b] 3)) (s₁.setTop (mkF m 9 #[.val (.ref a), .val (.ref b), .val (.int 0)] [])) := c2.trans (by
      refine XS.icmpNo X0.here hexec rfl (hb hbytes d4) rfl (ii_ne_f (by rw [hs])) ?_
      refine iconstV X0.here hexec rfl 0 (hb hbytes d7) (by decide) ?_
      refine XS.istoreN X0.here hexec rfl (hb hbytes d8) rfl rfl ?_
      exact Steps.refl _)
    have loop : ∀ (r i : Nat), i + r = A.slots.size → (∀ j, j < i → yv A j = yv B j) → Steps p.tables e below (s₁.setTop (entryFrame m #[.ref a, .ref b] 3)) (s₁.setTop (mkF m 9 #[.val (.ref a), .val (.ref b), .val (.int (Int32.ofNat i))] [])) → ∃ (pc : Nat) (Ls : Array Slot) (v : Int32), (pc = 25 ∨ pc = 33) ∧ ((v = 1 ∧ EqC A B) ∨ (v = 0 ∧ ¬ EqC A B)) ∧ Steps p.tables e below (s₁.setTop (entryFrame m #[.ref a, .ref b] 3)) (s₁.setTop (mkF m pc Ls [.int v])) := by
      intro r
      induction r with
      | zero =>
        intro i hi he cl
        exact ⟨33, _, 1, Or.inr rfl, Or.inl ⟨rfl, hs, fun j hj => he j (by omega)⟩, cl.trans (by
          refine XS.iloadN X0.here hexec rfl (hb hbytes d9) rfl ?_
          refine XS.aloadN X0.here hexec rfl (hb hbytes d10) rfl rfl ?_
          refine X0.alen hexec hA0 rfl rfl (hb hbytes d11) ?_
          refine XS.icmpYes X0.here hexec rfl (pc0 := 12) rfl (hb hbytes d12) rfl (ii_ge_t (nlt32 (by omega) (by omega))) (by decide) rfl ?_
          refine iconstV X0.here hexec rfl 1 (hb hbytes d32) (by decide) ?_
          exact Steps.refl _)⟩
      | succ r ih =>
        intro i hi he cl
        have c4 : Steps p.tables e below (s₁.setTop (entryFrame m #[.ref a, .ref b] 3)) (s₁.setTop (mkF m 21 #[.val (.ref a), .val (.ref b), .val (.int (Int32.ofNat i))] [.int (yv B i), .int (yv A i)])) := cl.trans (by
          refine XS.iloadN X0.here hexec rfl (hb hbytes d9) rfl ?_
          refine XS.aloadN X0.here hexec rfl (hb hbytes d10) rfl rfl ?_
          refine X0.alen hexec hA0 rfl rfl (hb hbytes d11) ?_
          refine XS.icmpNo X0.here hexec rfl (hb hbytes d12) rfl (ii_ge_f (lt32 (by omega) (by omega))) ?_
          refine XS.aloadN X0.here hexec rfl (hb hbytes d15) rfl rfl ?_
          refine XS.iloadN X0.here hexec rfl (hb hbytes d16) rfl ?_
          refine X0.aget hexec hA0 rfl (yv_get hA tA (i := i) (by omega)) rfl rfl (hb hbytes d17) ?_
          refine XS.aloadN X0.here hexec rfl (hb hbytes d18) rfl rfl ?_
          refine XS.iloadN X0.here hexec rfl (hb hbytes d19) rfl ?_
          refine X0.aget hexec hB0 rfl (yv_get hB tB (i := i) (by omega)) rfl rfl (hb hbytes d20) ?_
          exact Steps.refl _)
        by_cases hv : yv A i = yv B i
        · have c5 : Steps p.tables e below (s₁.setTop (entryFrame m #[.ref a, .ref b] 3)) (s₁.setTop (mkF m 9 #[.val (.ref a), .val (.ref b), .val (.int (Int32.ofNat i + 1))] [])) := c4.trans (by
            refine XS.icmpYes X0.here hexec rfl (pc0 := 21) rfl (hb hbytes d21) rfl (ii_eq_t hv) (by decide) rfl ?_
            refine iincV X0.here hexec rfl 1 (hb hbytes d26) (by decide) rfl rfl ?_
            refine XS.goto X0.here hexec rfl (pc0 := 29) rfl (hb hbytes d29) (by decide) rfl ?_
            exact Steps.refl _)
          rw [succ32] at c5
          exact ih (i + 1) (by omega) (fun j hj => by
            by_cases e : j = i
            · rw [e]; exact hv
            · exact he j (by omega)) c5
        · exact ⟨25, _, 0, Or.inl rfl, Or.inr ⟨rfl, fun q => hv (q.2 i (by omega))⟩, c4.trans (by
            refine XS.icmpNo X0.here hexec rfl (hb hbytes d21) rfl (ii_eq_f hv) ?_
            refine iconstV X0.here hexec rfl 0 (hb hbytes d24) (by decide) ?_
            exact Steps.refl _)⟩
    obtain ⟨pc, Ls, v, hpc, hv, cz⟩ := loop A.slots.size 0 (by omega) (fun j hj => absurd hj (Nat.not_lt_zero j)) c3
    have nv : narrow .boolean (.int v) = .int v := by rcases hv with ⟨rfl, -⟩ | ⟨rfl, -⟩ <;> rfl
    rcases hpc with rfl | rfl
    · exact ⟨s₁, some (.int v), _, _, _, X0, rfl, rfl, rfl, (fun h => by cases h), ⟨v, rfl, hh0, hv⟩, fun fs hl => cz.trans (X0.ireturnOut hexec hret nv (Or.inr (Or.inl rfl)) (hb hbytes d25) hl)⟩
    · exact ⟨s₁, some (.int v), _, _, _, X0, rfl, rfl, rfl, (fun h => by cases h), ⟨v, rfl, hh0, hv⟩, fun fs hl => cz.trans (X0.ireturnOut hexec hret nv (Or.inr (Or.inl rfl)) (hb hbytes d33) hl)⟩
  · have c3 : Steps p.tables e below (s₁.setTop (entryFrame m #[.ref a, .ref b] 3)) (s₁.setTop (mkF m 35 #[.val (.ref a), .val (.ref b), .unset] [.int 0])) := c2.trans (by
      refine XS.icmpYes X0.here hexec rfl (pc0 := 4) rfl (hb hbytes d4) rfl (ii_ne_t (ne32 a31 b31 hs)) (by decide) rfl ?_
      refine iconstV X0.here hexec rfl 0 (hb hbytes d34) (by decide) ?_
      exact Steps.refl _)
    exact ⟨s₁, some (.int 0), _, _, _, X0, rfl, rfl, rfl, (fun h => by cases h), ⟨0, rfl, hh0, Or.inr ⟨rfl, fun q => hs q.1⟩⟩, fun fs hl => c3.trans (X0.ireturnOut hexec hret rfl (Or.inr (Or.inl rfl)) (hb hbytes d35) hl)⟩
end LEq
theorem Cod.ty {cd : Int32} {n : Nat} {f : Nat → Int32} {V : Cell} (h : Cod cd n f V) : Typed .byte V := fun i v hv => by
  have hi : i < V.slots.size := (Array.getElem?_eq_some_iff.mp hv).1
  rcases h with ⟨-, k1, k2⟩ | ⟨-, k1, k2, -⟩
  · rw [(k2 i (by omega)).1] at hv; cases hv; exact fits_lo8 _
  · rcases Nat.mod_two_eq_zero_or_one i with e | e
    · obtain ⟨j, rfl⟩ : ∃ j, i = 2 * j := ⟨i / 2, by omega⟩
      rw [(k2 j (by omega)).1] at hv; cases hv; exact fits_lo8 _
    · obtain ⟨j, rfl⟩ : ∃ j, i = 2 * j + 1 := ⟨i / 2, by omega⟩
      rw [(k2 j (by omega)).2] at hv; cases hv; exact fits_lo8 _
/-- the same text -/
def SameT (n : Nat) (f : Nat → Int32) (k : Nat) (g : Nat → Int32) : Prop := n = k ∧ ∀ j, j < n → f j = g j
theorem lo8_inj {x y : Int32} (h0 : ¬ x < 0) (h1 : ¬ 255 < x) (k0 : ¬ y < 0) (k1 : ¬ 255 < y) (h : lo8 x = lo8 y) : x = y := by
  rw [← lo8_mask h0 h1, ← lo8_mask k0 k1, h]
/-- arrays coded by one coder are equal just where the texts are -/
theorem Cod.eqv {cd : Int32} {n k : Nat} {f g : Nat → Int32} {V V' : Cell} (h : Cod cd n f V) (h' : Cod cd k g V') (hf : ∀ j, j < n → ¬ f j < 0 ∧ ¬ 65535 < f j) (hg : ∀ j, j < k → ¬ g j < 0 ∧ ¬ 65535 < g j) : EqC V V' ↔ SameT n f k g := by
  have yvv : ∀ {W : Cell} {i : Nat} {x : Int32}, W.slots[i]? = some (.int x) → yv W i = x := fun q => by unfold yv; rw [q]
  rcases h with ⟨rfl, k1, k2⟩ | ⟨rfl, k1, k2, -⟩
  · rcases h' with ⟨-, m1, m2⟩ | ⟨e, -⟩
    · constructor
      · rintro ⟨e1, e2⟩
        refine ⟨by omega, fun j hj => ?_⟩
        have q := e2 j (by omega)
        rw [yvv (k2 j hj).1, yvv (m2 j (by omega)).1] at q
        exact lo8_inj (hf j hj).1 (k2 j hj).2 (hg j (by omega)).1 (m2 j (by omega)).2 q
      · rintro ⟨rfl, e2⟩
        refine ⟨by omega, fun j hj => ?_⟩
        rw [yvv (k2 j (by omega)).1, yvv (m2 j (by omega)).1, e2 j (by omega)]
    · exact absurd e (by decide)
  · rcases h' with ⟨e, -⟩ | ⟨-, m1, m2, -⟩
    · exact absurd e (by decide)
    · constructor
      · rintro ⟨e1, e2⟩
        refine ⟨by omega, fun j hj => ?_⟩
        have q1 := e2 (2 * j) (by omega)
        have q2 := e2 (2 * j + 1) (by omega)
        rw [yvv (k2 j hj).1, yvv (m2 j (by omega)).1] at q1
        rw [yvv (k2 j hj).2, yvv (m2 j (by omega)).2] at q2
        rw [← pair_says (hf j hj).1 (hf j hj).2, ← pair_says (hg j (by omega)).1 (hg j (by omega)).2, q1, q2]
      · rintro ⟨rfl, e2⟩
        refine ⟨by omega, fun i hi => ?_⟩
        rcases Nat.mod_two_eq_zero_or_one i with e | e
        · obtain ⟨j, rfl⟩ : ∃ j, i = 2 * j := ⟨i / 2, by omega⟩
          rw [yvv (k2 j (by omega)).1, yvv (m2 j (by omega)).1, e2 j (by omega)]
        · obtain ⟨j, rfl⟩ : ∃ j, i = 2 * j + 1 := ⟨i / 2, by omega⟩
          rw [yvv (k2 j (by omega)).2, yvv (m2 j (by omega)).2, e2 j (by omega)]
/-- two codings differ: so do the texts -/
theorem Cod.dif {cd cd' : Int32} {n k : Nat} {f g : Nat → Int32} {V V' : Cell} (h : Cod cd n f V) (h' : Cod cd' k g V') (hne : ¬ cd = cd') : ¬ SameT n f k g := by
  rintro ⟨rfl, e⟩
  rcases h with ⟨rfl, -, k2⟩ | ⟨rfl, -, -, j, hj, hw⟩
  · rcases h' with ⟨rfl, -⟩ | ⟨-, -, -, j, hj, hw⟩
    · exact hne rfl
    · exact (k2 j hj).2 (by rw [e j hj]; exact hw)
  · rcases h' with ⟨-, -, m2⟩ | ⟨rfl, -⟩
    · exact (m2 j hj).2 (by rw [← e j hj]; exact hw)
    · exact hne rfl
/-- an object of exactly C is an instance of C -/
theorem cinst {p : Program} {l : Launch} {e : Env} {R : Room} {s : State} {m : MethodId} {args : Array Value} {below : List Frame} {meth : Method} {c : Code} {T : State} {locs : List Loc} {cells slots : Nat} (X : Stand p l e R s m args below meth c T locs cells slots) (hexec : p.tables.exec = Jvm.exec) {own C : String} {index : Nat} (hown : s.vm.findClass own = some m.cls) (hlink : (Cond.classLink own index C).before args s = true) {a : Addr} (hE : Exact C a T)
    {g : JFrame} (hg : g.method = m) {rest : List Value} (hstack : g.stack = .ref a :: rest) (hdg : decode c.code g.pc = .ok (.instanceof index, 3)) :
    ∃ T', Stand p l e R s m args below meth c T' locs cells slots ∧ T'.heap = T.heap ∧ ∀ target, Steps p.tables e below (T'.setTop { g with pc := g.pc + 3, stack := .int 1 :: rest }) target → Steps p.tables e below (T.setTop g) target := by
  obtain ⟨cB, h1, D, h2, h3, h4⟩ := hE
  have h1' : s.vm.findClass C = some cB := by rw [← X.warmed.alike.findClass]; exact h1
  obtain ⟨vm', X', st⟩ := X.instanceofYes hexec hown hlink h2 h4 h1' (by rw [h3]; exact Jvm.Free.SB.assignable_self _ _) hg hstack hdg
  exact ⟨_, X', rfl, st⟩
theorem cself {p : Program} {l : Launch} {e : Env} {R : Room} {s : State} {m : MethodId} {args : Array Value} {below : List Frame} {meth : Method} {c : Code} {T : State} {locs : List Loc} {cells slots : Nat} (X : Stand p l e R s m args below meth c T locs cells slots) (hexec : p.tables.exec = Jvm.exec) {own C : String} {index : Nat} (hown : s.vm.findClass own = some m.cls) (hlink : (Cond.classLink own index C).before args s = true) {a : Addr} (hE : Exact C a T)
    {g : JFrame} (hg : g.method = m) {rest : List Value} (hstack : g.stack = .ref a :: rest) (hdg : decode c.code g.pc = .ok (.checkcast index, 3)) :
    ∃ T', Stand p l e R s m args below meth c T' locs cells slots ∧ T'.heap = T.heap ∧ ∀ target, Steps p.tables e below (T'.setTop { g with pc := g.pc + 3, stack := .ref a :: rest }) target → Steps p.tables e below (T.setTop g) target := by
  obtain ⟨cB, h1, D, h2, h3, h4⟩ := hE
  have h1' : s.vm.findClass C = some cB := by rw [← X.warmed.alike.findClass]; exact h1
  obtain ⟨vm', X', st⟩ := X.checkcastYes hexec hown hlink h2 h4 h1' (by rw [h3]; exact Jvm.Free.SB.assignable_self _ _) hg hstack hdg
  exact ⟨_, X', rfl, fun t h => st t (by rw [← hstack] at h; exact h)⟩
namespace SEq
def yN : MethodName := ⟨"java/lang/String", "equals", "(Ljava/lang/Object;)Z"⟩
abbrev yB : ByteArray := jdk_42_method_66_code
theorem d0 : decode yB 0 = .ok (.aload_n 0, 1) := by decide +kernel
theorem d1 : decode yB 1 = .ok (.aload_n 1, 1) := by decide +kernel
theorem d2 : decode yB 2 = .ok (.if_acmp (.ne) 5, 3) := by decide +kernel
theorem d5 : decode yB 5 = .ok (.iconst 1, 1) := by decide +kernel
theorem d6 : decode yB 6 = .ok (.ireturn, 1) := by decide +kernel
theorem d7 : decode yB 7 = .ok (.aload_n 1, 1) := by decide +kernel
theorem d8 : decode yB 8 = .ok (.instanceof 10, 3) := by decide +kernel
theorem d11 : decode yB 11 = .ok (.ifCond (.eq) 43, 3) := by decide +kernel
theorem d14 : decode yB 14 = .ok (.aload_n 1, 1) := by decide +kernel
theorem d15 : decode yB 15 = .ok (.checkcast 10, 3) := by decide +kernel
theorem d18 : decode yB 18 = .ok (.astore_n 2, 1) := by decide +kernel
theorem d19 : decode yB 19 = .ok (.getstatic 38, 3) := by decide +kernel
theorem d22 : decode yB 22 = .ok (.ifCond (.eq) 14, 3) := by decide +kernel
theorem d25 : decode yB 25 = .ok (.aload_n 0, 1) := by decide +kernel
theorem d26 : decode yB 26 = .ok (.getfield 15, 3) := by decide +kernel
theorem d29 : decode yB 29 = .ok (.aload_n 2, 1) := by decide +kernel
theorem d30 : decode yB 30 = .ok (.getfield 15, 3) := by decide +kernel
theorem d33 : decode yB 33 = .ok (.if_icmp (.ne) 21, 3) := by decide +kernel
theorem d36 : decode yB 36 = .ok (.aload_n 0, 1) := by decide +kernel
theorem d37 : decode yB 37 = .ok (.getfield 9, 3) := by decide +kernel
theorem d40 : decode yB 40 = .ok (.aload_n 2, 1) := by decide +kernel
theorem d41 : decode yB 41 = .ok (.getfield 9, 3) := by decide +kernel
theorem d44 : decode yB 44 = .ok (.invokestatic 541, 3) := by decide +kernel
theorem d47 : decode yB 47 = .ok (.ifCond (.eq) 7, 3) := by decide +kernel
theorem d50 : decode yB 50 = .ok (.iconst 1, 1) := by decide +kernel
theorem d51 : decode yB 51 = .ok (.goto 4, 3) := by decide +kernel
theorem d54 : decode yB 54 = .ok (.iconst 0, 1) := by decide +kernel
theorem d55 : decode yB 55 = .ok (.ireturn, 1) := by decide +kernel
def site : List Cond := [.classLink "java/lang/String" 10 "java/lang/String", .fieldLink "java/lang/String" 38 "java/lang/String" "COMPACT_STRINGS" "Z", .fieldLink "java/lang/String" 15 "java/lang/String" "coder" "B", .fieldLink "java/lang/String" 9 "java/lang/String" "value" "[B", LEq.tab] ++ staticW "java/lang/String" 541 LEq.yN
def tab : Cond := tabOf yN yB 3 (some .boolean) site
def P (x t : Addr) (V : Cell) (cd : Int32) (n : Nat) (f : Nat → Int32) (y t' : Addr) (V' : Cell) (cd' : Int32) (k : Nat) (g : Nat → Int32) (z : Int32) (args : Array Value) (s : State) : Prop := args = #[.ref x, .ref y] ∧ Txt x t V cd n f s ∧ Txt y t' V' cd' k g s ∧ StaticIs s "java/lang/String" "COMPACT_STRINGS" "Z" (.int z) ∧ ¬ z = 0
/-- equals(Object) of two Strings: whether the texts are the same -/
theorem law (l : Launch) (x t : Addr) (V : Cell) (cd : Int32) (n : Nat) (f : Nat → Int32) (y t' : Addr) (V' : Cell) (cd' : Int32) (k : Nat) (g : Nat → Int32) (z : Int32) : Law l yN 2 1 1 14 yB 3 (some .boolean) site (P x t V cd n f y t' V' cd' k g z) (Says01 (SameT n f k g)) [] 0 0 := by
  refine Law.of_walk (plainFor_of_name (by decide +kernel)) (by decide +kernel) (by decide +kernel) (by decide) (fun _ _ h => by rw [h.1]; rfl) (fun _ U U' hal hh h => ⟨h.1, h.2.1.mv hal hh, h.2.2.1.mv hal hh, h.2.2.2.1.there hal hh, h.2.2.2.2⟩) (fun r U U' V V' h1 hal h2 h => Says01.mv r U U' V V' h1 hal h2 h) ?_
  intro p e s m args below meth c s₁ X0 hexec hbytes hml hret hlk hnm hown hh0 W hP
  obtain ⟨rfl, hx, hy, s1, hz⟩ := hP
  have c1 : Steps p.tables e below (s₁.setTop (entryFrame m #[.ref x, .ref y] 3)) (s₁.setTop (mkF m 2 #[.val (.ref x), .val (.ref y), .unset] [.ref y, .ref x])) := Steps.trans (entry rfl) (by
    show Steps p.tables e below (s₁.setTop (mkF m 0 #[.val (.ref x), .val (.ref y), .unset] [])) _
    refine XS.aloadN X0.here hexec rfl (hb hbytes d0) rfl rfl ?_
    refine XS.aloadN X0.here hexec rfl (hb hbytes d1) rfl rfl ?_
    exact Steps.refl _)
  by_cases hxy : x = y
  · have c2 : Steps p.tables e below (s₁.setTop (entryFrame m #[.ref x, .ref y] 3)) (s₁.setTop (mkF m 6 #[.val (.ref x), .val (.ref y), .unset] [.int 1])) := c1.trans (by
      refine acmpNo X0.here hexec rfl (hb hbytes d2) rfl rfl rfl (by simp [acmp, hxy]) ?_
      refine iconstV X0.here hexec rfl 1 (hb hbytes d5) (by decide) ?_
      exact Steps.refl _)
    subst hxy
    have ec : cd = cd' := by
      obtain ⟨D, fd, a1, a2, a3⟩ := hx.2.2.1
      obtain ⟨D', fd', b1, b2, b3⟩ := hy.2.2.1
      cases a1.symm.trans b1
      obtain ⟨q1, q2, q3, q4⟩ := a2.1
      obtain ⟨r1, r2, r3, r4⟩ := b2.1
      cases q4.symm.trans r4
      cases a3.symm.trans b3; rfl
    have et : t = t' := by
      obtain ⟨D, fd, a1, a2, a3⟩ := hx.2.1
      obtain ⟨D', fd', b1, b2, b3⟩ := hy.2.1
      cases a1.symm.trans b1
      obtain ⟨q1, q2, q3, q4⟩ := a2.1
      obtain ⟨r1, r2, r3, r4⟩ := b2.1
      cases q4.symm.trans r4
      cases a3.symm.trans b3; rfl
    subst ec et
    have ev : V = V' := by cases hx.2.2.2.1.1.symm.trans hy.2.2.2.1.1; rfl
    subst ev
    have hs : SameT n f k g := (Cod.eqv hx.2.2.2.2.1 hy.2.2.2.2.1 hx.2.2.2.2.2 hy.2.2.2.2.2).mp ⟨rfl, fun _ _ => rfl⟩
    exact ⟨s₁, some (.int 1), _, _, _, X0, rfl, rfl, rfl, (fun h => by cases h), ⟨1, rfl, hh0, Or.inl ⟨rfl, hs⟩⟩, fun fs hl => c2.trans (X0.ireturnOut hexec hret rfl (Or.inr (Or.inl rfl)) (hb hbytes d6) hl)⟩
  · have c2 : Steps p.tables e below (s₁.setTop (entryFrame m #[.ref x, .ref y] 3)) (s₁.setTop (mkF m 8 #[.val (.ref x), .val (.ref y), .unset] [.ref y])) := c1.trans (by
      refine acmpYes X0.here hexec rfl (pc0 := 2) rfl (hb hbytes d2) rfl rfl rfl (by simp [acmp, hxy]) (by decide) rfl ?_
      refine XS.aloadN X0.here hexec rfl (hb hbytes d7) rfl rfl ?_
      exact Steps.refl _)
    obtain ⟨T3, X3, q3, st3⟩ := cinst X0 hexec hown (wk W (.classLink "java/lang/String" 10 "java/lang/String")) (hy.mv X0.warmed.alike hh0).1 (g := (mkF m 8 #[.val (.ref x), .val (.ref y), .unset] [.ref y])) rfl (rest := []) rfl (hb hbytes d8)
    have hh3 := q3.trans hh0
    have c4 : Steps p.tables e below (s₁.setTop (entryFrame m #[.ref x, .ref y] 3)) (T3.setTop (mkF m 15 #[.val (.ref x), .val (.ref y), .unset] [.ref y])) := (c2.trans (st3 _ (Steps.refl _))).trans (by
      refine XS.ifNo X3.here hexec rfl (hb hbytes d11) rfl (i0_eq_f (by decide)) ?_
      refine XS.aloadN X3.here hexec rfl (hb hbytes d14) rfl rfl ?_
      exact Steps.refl _)
    obtain ⟨T5, X5, q5, st5⟩ := cself X3 hexec hown (wk W (.classLink "java/lang/String" 10 "java/lang/String")) (hy.mv X3.warmed.alike hh3).1 (g := (mkF m 15 #[.val (.ref x), .val (.ref y), .unset] [.ref y])) rfl (rest := []) rfl (hb hbytes d15)
    have hh5 := q5.trans hh3
    have c6 : Steps p.tables e below (s₁.setTop (entryFrame m #[.ref x, .ref y] 3)) (T5.setTop (mkF m 19 #[.val (.ref x), .val (.ref y), .val (.ref y)] [])) := (c4.trans (st5 _ (Steps.refl _))).trans (by
      refine XS.astoreN X5.here hexec rfl (hb hbytes d18) rfl rfl rfl ?_
      exact Steps.refl _)
    obtain ⟨T7, X7, q7, st7⟩ := X5.sget hexec hown (wk W (.fieldLink "java/lang/String" 38 "java/lang/String" "COMPACT_STRINGS" "Z")) s1 (fun _ _ h => by rw [hh5]; exact h) (g := (mkF m 19 #[.val (.ref x), .val (.ref y), .val (.ref y)] [])) rfl (hb hbytes d19)
    have hh7 := q7.trans hh5
    have c8 : Steps p.tables e below (s₁.setTop (entryFrame m #[.ref x, .ref y] 3)) (T7.setTop (mkF m 26 #[.val (.ref x), .val (.ref y), .val (.ref y)] [.ref x])) := (c6.trans (st7 _ (Steps.refl _))).trans (by
      refine XS.ifNo X7.here hexec rfl (hb hbytes d22) rfl (i0_eq_f hz) ?_
      refine XS.aloadN X7.here hexec rfl (hb hbytes d25) rfl rfl ?_
      exact Steps.refl _)
    obtain ⟨T9, X9, q9, st9⟩ := X7.hget hexec hown (wk W (.fieldLink "java/lang/String" 15 "java/lang/String" "coder" "B")) (hx.mv X7.warmed.alike hh7).2.2.1 (g := (mkF m 26 #[.val (.ref x), .val (.ref y), .val (.ref y)] [.ref x])) rfl (rest := []) rfl (hb hbytes d26)
    have hh9 := q9.trans hh7
    have c10 : Steps p.tables e below (s₁.setTop (entryFrame m #[.ref x, .ref y] 3)) (T9.setTop (mkF m 30 #[.val (.ref x), .val (.ref y), .val (.ref y)] [.ref y, .int cd])) := (c8.trans (st9 _ (Steps.refl _))).trans (by
      refine XS.aloadN X9.here hexec rfl (hb hbytes d29) rfl rfl ?_
      exact Steps.refl _)
    obtain ⟨T11, X11, q11, st11⟩ := X9.hget hexec hown (wk W (.fieldLink "java/lang/String" 15 "java/lang/String" "coder" "B")) (hy.mv X9.warmed.alike hh9).2.2.1 (g := (mkF m 30 #[.val (.ref x), .val (.ref y), .val (.ref y)] [.ref y, .int cd])) rfl (rest := [.int cd]) rfl (hb hbytes d30)
    have hh11 := q11.trans hh9
    have c12 : Steps p.tables e below (s₁.setTop (entryFrame m #[.ref x, .ref y] 3)) (T11.setTop (mkF m 33 #[.val (.ref x), .val (.ref y), .val (.ref y)] [.int cd', .int cd])) := c10.trans (st11 _ (Steps.refl _))
    by_cases hcd : cd = cd'
    · subst hcd
      have c13 : Steps p.tables e below (s₁.setTop (entryFrame m #[.ref x, .ref y] 3)) (T11.setTop (mkF m 37 #[.val (.ref x), .val (.ref y), .val (.ref y)] [.ref x])) := c12.trans (by
        refine XS.icmpNo X11.here hexec rfl (hb hbytes d33) rfl (ii_ne_f rfl) ?_
        refine XS.aloadN X11.here hexec rfl (hb hbytes d36) rfl rfl ?_
        exact Steps.refl _)
      obtain ⟨T14, X14, q14, st14⟩ := X11.hget hexec hown (wk W (.fieldLink "java/lang/String" 9 "java/lang/String" "value" "[B")) (hx.mv X11.warmed.alike hh11).2.1 (g := (mkF m 37 #[.val (.ref x), .val (.ref y), .val (.ref y)] [.ref x])) rfl (rest := []) rfl (hb hbytes d37)
      have hh14 := q14.trans hh11
      have c15 : Steps p.tables e below (s₁.setTop (entryFrame m #[.ref x, .ref y] 3)) (T14.setTop (mkF m 41 #[.val (.ref x), .val (.ref y), .val (.ref y)] [.ref y, .ref t])) := (c13.trans (st14 _ (Steps.refl _))).trans (by
        refine XS.aloadN X14.here hexec rfl (hb hbytes d40) rfl rfl ?_
        exact Steps.refl _)
      obtain ⟨T16, X16, q16, st16⟩ := X14.hget hexec hown (wk W (.fieldLink "java/lang/String" 9 "java/lang/String" "value" "[B")) (hy.mv X14.warmed.alike hh14).2.1 (g := (mkF m 41 #[.val (.ref x), .val (.ref y), .val (.ref y)] [.ref y, .ref t])) rfl (rest := [.ref t]) rfl (hb hbytes d41)
      have hh16 := q16.trans hh14
      have c17 : Steps p.tables e below (s₁.setTop (entryFrame m #[.ref x, .ref y] 3)) (T16.setTop (mkF m 44 #[.val (.ref x), .val (.ref y), .val (.ref y)] [.ref t', .ref t])) := c15.trans (st16 _ (Steps.refl _))
      obtain ⟨v18, T18, X18, E18, g18⟩ := X16.callS hexec (LEq.law l t V t' V') hown (wks W (staticW "java/lang/String" 541 LEq.yN)) (wk W LEq.tab) (W := 0) (Nat.le_of_ble_eq_true rfl) (Nat.le_of_ble_eq_true rfl) (Nat.le_refl _) (Nat.le_refl _) (g := (mkF m 44 #[.val (.ref x), .val (.ref y), .val (.ref y)] [.ref t', .ref t])) rfl (by rw [hml]; rfl) c17 (argsL := [.ref t, .ref t']) (rest := []) rfl rfl (by show 2 * 0 + 0 ≤ _; decide) (hb hbytes d44) (⟨rfl, hx.2.2.2.1.mv X16.warmed.alike hh16, hx.2.2.2.2.1.ty, hy.2.2.2.1.mv X16.warmed.alike hh16, hy.2.2.2.2.1.ty⟩)
      obtain ⟨v, rfl, q18, hv⟩ := E18
      have iff := Cod.eqv hx.2.2.2.2.1 hy.2.2.2.2.1 hx.2.2.2.2.2 hy.2.2.2.2.2
      rcases hv with ⟨rfl, he⟩ | ⟨rfl, he⟩
      · have c19 : Steps p.tables e below (s₁.setTop (entryFrame m #[.ref x, .ref y] 3)) (T18.setTop (mkF m 55 #[.val (.ref x), .val (.ref y), .val (.ref y)] [.int 1])) := Steps.trans g18 (by
          refine XS.ifNo X18.here hexec rfl (hb hbytes d47) rfl (i0_eq_f (by decide)) ?_
          refine iconstV X18.here hexec rfl 1 (hb hbytes d50) (by decide) ?_
          refine XS.goto X18.here hexec rfl (pc0 := 51) rfl (hb hbytes d51) (by decide) rfl ?_
          exact Steps.refl _)
        exact ⟨T18, some (.int 1), _, _, _, X18, rfl, rfl, rfl, (fun h => by cases h), ⟨1, rfl, q18.trans hh16, Or.inl ⟨rfl, iff.mp he⟩⟩, fun fs hl => c19.trans (X18.ireturnOut hexec hret rfl (Or.inr (Or.inl rfl)) (hb hbytes d55) hl)⟩
      · have c19 : Steps p.tables e below (s₁.setTop (entryFrame m #[.ref x, .ref y] 3)) (T18.setTop (mkF m 55 #[.val (.ref x), .val (.ref y), .val (.ref y)] [.int 0])) := Steps.trans g18 (by
          refine XS.ifYes X18.here hexec rfl (pc0 := 47) rfl (hb hbytes d47) rfl (i0_eq_t rfl) (by decide) rfl ?_
          refine iconstV X18.here hexec rfl 0 (hb hbytes d54) (by decide) ?_
          exact Steps.refl _)
        exact ⟨T18, some (.int 0), _, _, _, X18, rfl, rfl, rfl, (fun h => by cases h), ⟨0, rfl, q18.trans hh16, Or.inr ⟨rfl, fun q => he (iff.mpr q)⟩⟩, fun fs hl => c19.trans (X18.ireturnOut hexec hret rfl (Or.inr (Or.inl rfl)) (hb hbytes d55) hl)⟩
    · have c13 : Steps p.tables e below (s₁.setTop (entryFrame m #[.ref x, .ref y] 3)) (T11.setTop (mkF m 55 #[.val (.ref x), .val (.ref y), .val (.ref y)] [.int 0])) := c12.trans (by
        refine XS.icmpYes X11.here hexec rfl (pc0 := 33) rfl (hb hbytes d33) rfl (ii_ne_t hcd) (by decide) rfl ?_
        refine iconstV X11.here hexec rfl 0 (hb hbytes d54) (by decide) ?_
        exact Steps.refl _)
      exact ⟨T11, some (.int 0), _, _, _, X11, rfl, rfl, rfl, (fun h => by cases h), ⟨0, rfl, hh11, Or.inr ⟨rfl, Cod.dif hx.2.2.2.2.1 hy.2.2.2.2.1 hcd⟩⟩, fun fs hl => c13.trans (X11.ireturnOut hexec hret rfl (Or.inr (Or.inl rfl)) (hb hbytes d55) hl)⟩
theorem pays {l : Launch} {R : Room} {p : Program} {e : Env} {below : List Frame} {s : State} {sargs : Array Value} {len W : Nat} (x t : Addr) (V : Cell) (cd : Int32) (n : Nat) (f : Nat → Int32) (y t' : Addr) (V' : Cell) (cd' : Int32) (k : Nat) (g : Nat → Int32) (z : Int32) (htab : tab.before sargs s = true) (hfr : 2 ≤ R.frames) (hlo : W + 28 ≤ R.locals) :
    Back l R p e below s sargs yN len W (fun A₁ a₁ => A₁.cells + 0 ≤ R.cells ∧ A₁.slots + 0 ≤ R.slots ∧ P x t V cd n f y t' V' cd' k g z a₁ A₁.U) (fun A₁ _ v₁ B₁ => Says01 (SameT n f k g) v₁ A₁.U B₁.U ∧ B₁.locs = A₁.locs ++ [] ∧ B₁.cells = A₁.cells + 0 ∧ B₁.slots = A₁.slots + 0) :=
  (law l x t V cd n f y t' V' cd' k g z).pays htab hfr (by omega)
end SEq
end StrChars
namespace StrChars.Road
open Jvm Sem ClassFile Op Lib Jvm.Stand Jvm.Free Jvm.Free.XT
open Jvm.Lib.Cold (StaticIs)
/-- the words of String.equals(Object) -/
abbrev wordsEq : List Jvm.Cond := [.code SEq.yN SEq.yB 3 (some .boolean), .initialized ST, .classLink ST 10 ST, .fieldLink ST 38 ST "COMPACT_STRINGS" "Z", .fieldLink ST 15 ST "coder" "B", .fieldLink ST 9 ST "value" "[B", .methodLink ST 541 LEq.yN, .static LEq.yN, .code LEq.yN LEq.yB 3 (some .boolean), .initialized "java/lang/StringLatin1"]
theorem tabEq_of {a : Array Value} {s : State} (h : ∀ w ∈ wordsEq, w.before a s = true) : SEq.tab.before a s = true := by
  have hl : LEq.tab.before a s = true := unparts (wk h (.code LEq.yN LEq.yB 3 (some .boolean))) (wks h (.initialized LEq.yN.cls :: LEq.site))
  have q := consq hl h
  exact unparts (wk q (.code SEq.yN SEq.yB 3 (some .boolean))) (wks q (.initialized SEq.yN.cls :: SEq.site))
theorem movedEq {Z s : State} {a0 args : Array Value} (hZ : Z.Warmed39 s.vm) (hw : ∀ d ∈ wordsEq, d.before a0 Z = true) : ∀ d ∈ wordsEq, d.before args s = true := fun d hd => by
  have t : ∀ d ∈ wordsEq, (d.onTables && d.keepsFace) = true := by decide +kernel
  exact RoadKit.mv hZ (hw d hd) (t d hd)
/-- the road's facts of a String, as the laws ask it -/
theorem txt_of {Z U : State} {a0 : Array Value} {kI : Nat} (wi : (Jvm.Cond.instantiable ST kI).before a0 Z = true) (al : Z.vm.Alike U.vm) {x t : Addr} {kb : ClassId} {cs : List Int32} {cd N2 : Int32} {vs : List Value} (E : RoadKit.Exa Z U.heap x ST) (V : RoadKit.Fld Z U.heap x ST "value" "[B" (.ref t)) (C : RoadKit.Fld Z U.heap x ST "coder" "B" (.int cd)) (K : RoadKit.Arv Z U.heap t kb .byte N2 vs (.int 0)) (hc : CodA cs cd N2 vs) (hb : ∀ c ∈ cs, ¬ c < 0 ∧ ¬ (65535 : Int32) < c) (l2 : cs.length ≤ 4000) :
    ∃ A, Txt x t A cd cs.length (fun j => cs.getD j 0) U := by
  obtain ⟨A, K1, K2, K3, K4, K5, K6⟩ := K
  have hcod := hc.cod (by omega) K3 K5
  obtain ⟨D, fV, fC, hB, F1, F2, g1, g2, -, -⟩ := strObj wi al E V C
  exact ⟨A, ⟨_, hB.2.2.1, D, hB.1, rfl, by cases q : D.vm <;> first | rfl | exact absurd q (hB.2.1.2 _)⟩, Has.of hB F1 g1, Has.of hB F2 g2, ⟨K1.1, State.isArrayOf_alike al K1.2.1, K1.2.2, by rcases hcod with ⟨-, q, -⟩ | ⟨-, q, -⟩ <;> omega⟩, hcod, fun j hj => by
    have e : cs.getD j 0 = cs[j] := by simp [List.getD_eq_getElem?_getD, hj]
    show ¬ cs.getD j 0 < 0 ∧ ¬ 65535 < cs.getD j 0
    rw [e]; exact hb _ (List.getElem_mem _)⟩
theorem same_list (cs ds : List Int32) : SameT cs.length (fun j => cs.getD j 0) ds.length (fun j => ds.getD j 0) ↔ cs = ds := by
  constructor
  · rintro ⟨e, q⟩
    refine List.ext_getElem e fun j h1 h2 => ?_
    have := q j h1
    simpa [List.getD_eq_getElem?_getD, h1, h2] using this
  · rintro rfl
    exact ⟨rfl, fun _ _ => rfl⟩
/-- **equals(Object) OF TWO SUCH STRINGS**: 1 just where the chars are the same -/
theorem eqW {p : Program} {l : Launch} {e : Env} {R : Room} {s : State} {args : Array Value} {below : List Frame} {len W : Nat} {Z : State} {a0 : Array Value} {h : Heap} (hZ : Z.Warmed39 s.vm) (hw : ∀ d ∈ wordsEq, d.before a0 Z = true) {kI : Nat} (wi : (Jvm.Cond.instantiable ST kI).before a0 Z = true)
    {x t : Addr} {kb : ClassId} {cs : List Int32} {cd N2 : Int32} {vs : List Value} (E : RoadKit.Exa Z h x ST) (V : RoadKit.Fld Z h x ST "value" "[B" (.ref t)) (C : RoadKit.Fld Z h x ST "coder" "B" (.int cd)) (K : RoadKit.Arv Z h t kb .byte N2 vs (.int 0)) (hc : CodA cs cd N2 vs) (hb : ∀ c ∈ cs, ¬ c < 0 ∧ ¬ (65535 : Int32) < c) (l2 : cs.length ≤ 4000)
    {y t' : Addr} {kb' : ClassId} {ds : List Int32} {cd' N2' : Int32} {vs' : List Value} (E' : RoadKit.Exa Z h y ST) (V' : RoadKit.Fld Z h y ST "value" "[B" (.ref t')) (C' : RoadKit.Fld Z h y ST "coder" "B" (.int cd')) (K' : RoadKit.Arv Z h t' kb' .byte N2' vs' (.int 0)) (hc' : CodA ds cd' N2' vs') (hb' : ∀ c ∈ ds, ¬ c < 0 ∧ ¬ (65535 : Int32) < c) (l2' : ds.length ≤ 4000)
    {z : Int32} (S : RoadKit.Sta Z h ST "COMPACT_STRINGS" "Z" (.int z)) (hz : ¬ z = 0) (hfr : 2 ≤ R.frames) (hlo : W + 28 ≤ R.locals) :
    Back l R p e below s args (⟨"java/lang/String", "equals", "(Ljava/lang/Object;)Z"⟩ : MethodName) len W (fun P a => a = #[.ref x, .ref y] ∧ P.U.heap = h ∧ P.cells + 0 ≤ R.cells ∧ P.slots + 0 ≤ R.slots)
      (fun P _ v B => ∃ L, (((v = some (.int 1) ∧ cs = ds) ∨ (v = some (.int 0) ∧ ¬ cs = ds)) ∧ L = [] ∧ B.U.heap = h) ∧ B.locs = P.locs ++ L ∧ B.cells = P.cells + 0 ∧ B.slots = P.slots + 0) := by
  intro m meth c P g ig mk a X hg hsize hdg hW hn hp'
  obtain ⟨rfl, rfl, r1, r2⟩ := hp'
  have al : Z.vm.Alike P.U.vm := hZ.alike.trans X.warmed.alike
  obtain ⟨A, hx⟩ := txt_of wi al E V C K hc hb l2
  obtain ⟨A', hy⟩ := txt_of wi al E' V' C' K' hc' hb' l2'
  obtain ⟨v, B, X', ⟨⟨w, hv, hh, hq⟩, hl, hk, hs⟩, st⟩ := SEq.pays x t A cd cs.length (fun j => cs.getD j 0) y t' A' cd' ds.length (fun j => ds.getD j 0) z (tabEq_of (movedEq hZ hw)) hfr hlo m meth c P g ig mk _ X hg hsize hdg hW hn ⟨r1, r2, rfl, hx, hy, sta_is al S, hz⟩
  refine ⟨v, B, X', ⟨[], ⟨?_, rfl, hh⟩, hl, hk, hs⟩, st⟩
  rcases hq with ⟨rfl, q⟩ | ⟨rfl, q⟩
  · exact Or.inl ⟨hv, (same_list cs ds).mp q⟩
  · exact Or.inr ⟨hv, fun e => q ((same_list cs ds).mpr e)⟩
end StrChars.Road
namespace StrChars.Road
open Jvm Sem ClassFile Op Lib Jvm.Stand Jvm.Free Jvm.Free.XT
open Jvm.Lib.Cold (StaticIs)
/-- what backV says of its String, as the contracts of this text ask it: cs's low bytes, coder 0 -/
theorem codOf {cs : List Int32} {n : Nat} (hn : cs.length = n) (hb : ∀ c ∈ cs, ¬ 255 < c) : CodA cs 0 (Int32.ofNat n) ((cs.map lo8).map Value.int) := Or.inl ⟨rfl, by rw [hn], by simp [List.map_map, Function.comp_def], hb⟩
end StrChars.Road
end Jvm.Pilot.@@N@@

namespace Jvm.Pilot.@@N@@
open Jvm Jvm.ClassFile Sem Op Lib Jvm.Free Jvm.Stand Jvm.LawKit Jvm.RoadKit Bundle Jvm.Free.SB Jvm.Free.SBG Jvm.Pilot.@@N@@.Jvm.D
section own_kit
variable {p : Program} {l : Launch} {e : Env} {R : Room} {s : State} {m : MethodId} {args : Array Value} {below : List Frame} {meth : Method} {c : Code} {T T' : State} {locs : List Loc} {cells slots : Nat}
/-- from the frame g over the state T the run comes to an end of which K speaks -/
def Go (p : Program) (e : Env) (below : List Frame) (T : State) (g : JFrame) (K : Outcome → State → Prop) : Prop :=
  ∃ s₂ o, Steps p.tables e below (T.setTop g) s₂ ∧ s₂.status = .running ∧ Ended s₂ below o ∧ K o s₂
def KQ (s : State) (Q : Option Value → Heap → List Loc → Prop) (k n : Nat) (o : Outcome) (U : State) : Prop :=
  ∃ v L, o = .returned v ∧ Q v U.heap L ∧ FrameEnd s o U L k n
theorem Go.of {g g' : JFrame} {K : Outcome → State → Prop} (h : ∀ t, Steps p.tables e below (T'.setTop g') t → Steps p.tables e below (T.setTop g) t) (k : Go p e below T' g' K) : Go p e below T g K := by
  obtain ⟨s₂, o, h1, h2⟩ := k
  exact ⟨s₂, o, h _ h1, h2⟩
theorem Go.cast {g g' : JFrame} {K : Outcome → State → Prop} (q : g = g') (k : Go p e below T g' K) : Go p e below T g K := q ▸ k
theorem Go.ret0 (X : Stand p l e R s m args below meth c T locs cells slots) (hx : p.tables.exec = Jvm.exec) (hret : meth.sig.returnType = none) (hlk : meth.locks = false) {pc : Nat} {Ls : Array Slot} {Q : Option Value → Heap → List Loc → Prop} {k n : Nat} {h : Heap}
    (hd : decode c.code pc = .ok (.return_, 1)) (eT : T.heap = h) (hk : cells ≤ k) (hn : slots ≤ n) (hq : Q none h locs) : Go p e below T (mkF m pc Ls []) (KQ s Q k n) := by
  obtain ⟨fs, hr, hrun, hended, hW, hsame⟩ := X.leave (v := none) (fun _ => rfl) hlk
  exact ⟨_, _, X.returnOut hx hret hd hr, hrun, hended, _, _, rfl, by show Q none T.heap _; rw [eT]; exact hq, ⟨_, rfl⟩, hW, hsame.mono hk hn⟩
theorem Go.retV (X : Stand p l e R s m args below meth c T locs cells slots) (hx : p.tables.exec = Jvm.exec) {t : FieldType} {w : Value} {i : Instr} {rest : List Value} (hret : meth.sig.returnType = some t) (hlk : meth.locks = false) {pc : Nat} {Ls : Array Slot} {Q : Option Value → Heap → List Loc → Prop} {k n : Nat} {h : Heap} (hn0 : narrow t w = w)
    (hi : (i = .ireturn ∧ (t = .int ∨ t = .boolean ∨ t = .byte ∨ t = .char ∨ t = .short) ∧ ∃ z, w = .int z) ∨ (i = .lreturn ∧ t = .long ∧ ∃ z, w = .long z) ∨ (i = .dreturn ∧ t = .double ∧ ∃ z, w = .double z) ∨ (i = .freturn ∧ t = .float ∧ ∃ z, w = .float z) ∨ (i = .areturn ∧ t.isReference = true ∧ w.isRef = true))
    (hd : decode c.code pc = .ok (i, 1)) (eT : T.heap = h) (hk : cells ≤ k) (hn : slots ≤ n) (hq : Q (some w) h locs) : Go p e below T (mkF m pc Ls (w :: rest)) (KQ s Q k n) := by
  obtain ⟨fs, hr, hrun, hended, hW, hsame⟩ := X.leave (v := some w) (fun h => by rw [hret] at h; cases h) hlk
  exact ⟨_, _, retOut X hx hret hn0 hi hd hr, hrun, hended, _, _, rfl, by show Q (some w) T.heap _; rw [eT]; exact hq, ⟨_, rfl⟩, hW, hsame.mono hk hn⟩
theorem Go.retI (X : Stand p l e R s m args below meth c T locs cells slots) (hx : p.tables.exec = Jvm.exec) {z : Int32} {rest : List Value} (hret : meth.sig.returnType = some .int) (hlk : meth.locks = false) {pc : Nat} {Ls : Array Slot} {Q : Option Value → Heap → List Loc → Prop} {k n : Nat} {h : Heap}
    (hd : decode c.code pc = .ok (.ireturn, 1)) (eT : T.heap = h) (hk : cells ≤ k) (hn : slots ≤ n) (hq : Q (some (.int z)) h locs) : Go p e below T (mkF m pc Ls (.int z :: rest)) (KQ s Q k n) :=
  Go.retV X hx hret hlk rfl (Or.inl ⟨rfl, Or.inl rfl, z, rfl⟩) hd eT hk hn hq
theorem Go.retJ (X : Stand p l e R s m args below meth c T locs cells slots) (hx : p.tables.exec = Jvm.exec) {z : Int64} {rest : List Value} (hret : meth.sig.returnType = some .long) (hlk : meth.locks = false) {pc : Nat} {Ls : Array Slot} {Q : Option Value → Heap → List Loc → Prop} {k n : Nat} {h : Heap}
    (hd : decode c.code pc = .ok (.lreturn, 1)) (eT : T.heap = h) (hk : cells ≤ k) (hn : slots ≤ n) (hq : Q (some (.long z)) h locs) : Go p e below T (mkF m pc Ls (.long z :: rest)) (KQ s Q k n) :=
  Go.retV X hx hret hlk rfl (Or.inr (Or.inl ⟨rfl, rfl, z, rfl⟩)) hd eT hk hn hq
theorem narrow_ref {t : FieldType} {w : Value} (ht : t.isReference = true) (hw : w.isRef = true) : narrow t w = w := by
  rcases ref_cases hw with rfl | ⟨z, rfl⟩ <;> cases t <;> first | rfl | (cases ht; done)
theorem Go.retA (X : Stand p l e R s m args below meth c T locs cells slots) (hx : p.tables.exec = Jvm.exec) {t : FieldType} {w : Value} {rest : List Value} (hret : meth.sig.returnType = some t) (hlk : meth.locks = false) {pc : Nat} {Ls : Array Slot} {Q : Option Value → Heap → List Loc → Prop} {k n : Nat} {h : Heap} (ht : t.isReference = true) (hw : w.isRef = true)
    (hd : decode c.code pc = .ok (.areturn, 1)) (eT : T.heap = h) (hk : cells ≤ k) (hn : slots ≤ n) (hq : Q (some w) h locs) : Go p e below T (mkF m pc Ls (w :: rest)) (KQ s Q k n) :=
  Go.retV X hx hret hlk (narrow_ref ht hw) (Or.inr (Or.inr (Or.inr (Or.inr ⟨rfl, ht, hw⟩)))) hd eT hk hn hq
theorem Go.retN (X : Stand p l e R s m args below meth c T locs cells slots) (hx : p.tables.exec = Jvm.exec) {t : FieldType} {z : Int32} {rest : List Value} (hret : meth.sig.returnType = some t) (hlk : meth.locks = false) {pc : Nat} {Ls : Array Slot} {Q : Option Value → Heap → List Loc → Prop} {k n : Nat} {h : Heap} (ht : t = .boolean ∨ t = .byte ∨ t = .char ∨ t = .short)
    (hd : decode c.code pc = .ok (.ireturn, 1)) (eT : T.heap = h) (hk : cells ≤ k) (hn : slots ≤ n) (hq : Q (some (.int (nar t z))) h locs) : Go p e below T (mkF m pc Ls (.int z :: rest)) (KQ s Q k n) := by
  obtain ⟨fs, hr, hrun, hended, hW, hsame⟩ := X.leave (v := some (.int (nar t z))) (fun h => by rw [hret] at h; cases h) hlk
  exact ⟨_, _, Jvm.RoadKit.retN X hx hret ht hd hr, hrun, hended, _, _, rfl, by show Q _ T.heap _; rw [eT]; exact hq, ⟨_, rfl⟩, hW, hsame.mono hk hn⟩
/-- the contract of one body, at the arguments as and the heap h0 -/
abbrev Ctr (l : Launch) (Z : State) (y : MethodName) (bytes : ByteArray) (mx : Nat) (rt : Option FieldType) (ws : List Jvm.Cond) (R : Room) (as : Array Value) (h0 : Heap) (Q : Option Value → Heap → List Loc → Prop) : Prop :=
  MetFree l y (head1 (Jvm.Cond.code y bytes mx rt :: ws) R) (fun a U => a = as ∧ Z.Warmed39 U.vm ∧ U.heap = h0) (fun _ _ _ _ _ => True) (fun _ U o U' => ∃ v L, o = .returned v ∧ Q v U'.heap L ∧ FrameEnd U o U' L R.cells R.slots)
theorem Ctr.intro {Z : State} {y : MethodName} {bytes : ByteArray} {mx : Nat} {rt : Option FieldType} {ws : List Jvm.Cond} {as : Array Value} {h0 : Heap} {Q : Option Value → Heap → List Loc → Prop} (hpl : plainFor y = true)
    (body : ∀ (p : Program) (e : Env) (s : State) (m : MethodId) (below : List Frame) (meth : Method) (c : Code) (s₁ : State), p.tables.exec = Jvm.exec → c.code = bytes → c.maxLocals = mx → s.vm.findClass y.cls = some m.cls → meth.name = y.name → meth.sig.returnType = rt → meth.locks = false → Z.Warmed39 s.vm →
      Stand p l e R s m as below meth c s₁ [] 0 0 → s₁.heap = h0 → Go p e below s₁ (entryFrame m as mx) (KQ s Q R.cells R.slots)) : Ctr l Z y bytes mx rt ws R as h0 Q := by
  refine MetFree.of_bodySF hpl hisR ?_
  intro p e s m args below meth c s₁ Bd hml0 hP hK
  obtain ⟨rfl, hZ, hh⟩ := hP
  obtain ⟨s₂, o, h1, h2, h3, h4⟩ := body p e s m below meth c s₁ Bd.exec Bd.bytes hml0 (findClass_of_methodNamed Bd.named) (name_of_methodNamed Bd.named Bd.method).1 Bd.returns Bd.notSynchronized hZ (Stand.of_body Bd) (by rw [← hh, Bd.state]; rfl)
  exact ⟨s₂, o, h1, h2, h3, h4⟩
end own_kit
theorem own_mask31 (x : Int32) : 0 ≤ (x &&& 2147483647).toInt ∧ (x &&& 2147483647).toInt < 2 ^ 31 := by
  have e : (x &&& 2147483647).toInt = x.toInt % 2 ^ 31 := Jvm.Kit.i32_mask x 2147483647 (k := 31) (by decide) (by decide)
  omega
theorem own_rem {x y : Int32} (hx : 0 ≤ x.toInt) (hy : 0 < y.toInt) : 0 ≤ (x % y).toInt ∧ (x % y).toInt < y.toInt := by
  have e : (x % y).toInt = x.toInt.tmod y.toInt := Int32.toInt_mod x y
  rw [Int.tmod_eq_emod_of_nonneg hx] at e
  have h1 := Int.emod_nonneg x.toInt (show y.toInt ≠ 0 by omega)
  have h2 := Int.emod_lt_of_pos x.toInt hy
  omega
theorem own_lt {a b : Int32} : a < b ↔ a.toInt < b.toInt := Int32.lt_iff_toInt_lt
theorem own_eq {a b : Int32} : a = b ↔ a.toInt = b.toInt := Int32.toInt_inj.symm
theorem own_or' {args : Array Value} {first s : State} {o : Option Outcome} {idx : List Nat} {G Y : Jvm.Cond} {P : Prop} [Decidable P] (h : (Jvm.Cond.or G Y).value args first o s idx = some true) (hG : G.value args first o s idx = some (decide P)) (hn : ¬ P) : Y.value args first o s idx = some true := by
  simpa [Cond.value, hG, hn] using h
theorem own_len {Z : State} {args : Array Value} {t : Term} {a : Addr} {cl : Cell} {ty : FieldType} {n : Int32} (ea : t.eval args Z none [] Z = some (.ref a)) (A : Arr Z Z.heap a cl ty) (h : (Term.length t).eval args Z none [] Z = some (.int n)) : cl.slots.size = n.toNatClampNeg ∧ ¬ n < 0 := by
  have ha := A.fin (Vm.Alike.refl _)
  by_cases p : cl.slots.size < 2 ^ 31
  · have e := (len_f ea ha p).symm.trans h
    have e2 : cl.slots.size.toInt32 = n := Value.int.inj (Option.some.inj e)
    have e3 := len_toInt p
    rw [e2] at e3
    refine ⟨by simp only [Int32.toNatClampNeg, e3]; rfl, by rw [Int32.lt_iff_toInt_lt, e3]; simp⟩
  · simp [Term.eval, ea, ha, p] at h
theorem own_at {Z : State} {args : Array Value} {t F : Term} {a : Addr} {cl : Cell} {ty : FieldType} {j y : Int32} (et : ∀ idx, t.eval args Z none idx Z = some (.ref a)) (A : Arr Z Z.heap a cl ty) (nn : ¬ j < 0) (hF : F.eval args Z none [j.toNatClampNeg] Z = some (.int y))
    (h : (Jvm.Cond.eq (.elem t (.index 0)) F).value args Z none Z [j.toNatClampNeg] = some true) : cl.slots[j.toNatClampNeg]? = some (.int y) :=
  (elem_f (et _) (idx_at nn) (A.fin (Vm.Alike.refl _)) nn).symm.trans (eqv_i hF h)
theorem own_nlt {a b : Int32} : ¬ a < b ↔ b.toInt ≤ a.toInt := by rw [own_lt]; omega
theorem own_le {a b : Int32} : a ≤ b ↔ a.toInt ≤ b.toInt := Int32.le_iff_toInt_le
theorem own_clamp {j n : Int32} {k : Nat} (h0 : ¬ j < 0) (h1 : j < n) (hk : k = n.toNatClampNeg) : j.toNatClampNeg < k := by
  rw [own_lt] at h0 h1; subst hk
  have : (0 : Int32).toInt = 0 := by decide
  simp only [Int32.toNatClampNeg]; omega

section own_hkit
variable {p : Program} {l : Launch} {e : Env} {R : Room} {s : State} {m : MethodId} {args : Array Value} {below : List Frame} {meth : Method} {c : Code} {T T' : State} {locs : List Loc} {cells slots : Nat} {Z : State} {EL : List (String × Nat)} {vm0 vm : Vm} {k0 : Nat} {h h0 : Heap} {a0 : Array Value}
/-- the end of a body that may have loaded literals -/
def KQH (Z : State) (EL : List (String × Nat)) (s : State) (Q : Option Value → Heap → List Loc → Prop) (k n : Nat) (o : Outcome) (U : State) : Prop :=
  ∃ v L, o = .returned v ∧ Q v U.heap L ∧ CHr Z EL s.vm s.heap U.vm U.heap ∧ ReturnedEndW s o U L k n
abbrev CtrH (l : Launch) (Z : State) (EL : List (String × Nat)) (y : MethodName) (bytes : ByteArray) (mx : Nat) (rt : Option FieldType) (ws : List Jvm.Cond) (R : Room) (as : Array Value) (h0 : Heap) (Q : Option Value → Heap → List Loc → Prop) : Prop :=
  MetFree l y (head1 (Jvm.Cond.code y bytes mx rt :: ws) R) (fun a U => a = as ∧ Z.Warmed39 U.vm ∧ U.heap = h0 ∧ CHv Z EL U.vm h0) (fun _ _ _ _ _ => True) (fun _ U o U' => ∃ v L, o = .returned v ∧ Q v U'.heap L ∧ CHr Z EL U.vm U.heap U'.vm U'.heap ∧ ReturnedEndW U o U' L R.cells R.slots)
theorem CtrH.intro {y : MethodName} {bytes : ByteArray} {mx : Nat} {rt : Option FieldType} {ws : List Jvm.Cond} {as : Array Value} {Q : Option Value → Heap → List Loc → Prop} (hpl : plainFor y = true)
    (body : ∀ (p : Program) (e : Env) (s : State) (m : MethodId) (below : List Frame) (meth : Method) (c : Code) (s₁ : State), p.tables.exec = Jvm.exec → c.code = bytes → c.maxLocals = mx → (s.setVm s.vm).vm.findClass y.cls = some m.cls → meth.name = y.name → meth.sig.returnType = rt → meth.locks = false → Z.Warmed39 (s.setVm s.vm).vm →
      Stand p l e R (s.setVm s.vm) m as below meth c s₁ [] 0 0 → s₁.heap = h0 → s.heap = h0 → CHv Z EL s.vm h0 → Go p e below s₁ (entryFrame m as mx) (KQH Z EL s Q R.cells R.slots)) : CtrH l Z EL y bytes mx rt ws R as h0 Q := by
  refine MetFree.of_bodySF hpl hisR ?_
  intro p e s m args below meth c s₁ Bd hml0 hP hK
  obtain ⟨rfl, hZ, hh, hC⟩ := hP
  obtain ⟨s₂, o, h1, h2, h3, h4⟩ := body p e s m below meth c s₁ Bd.exec Bd.bytes hml0 (findClass_of_methodNamed Bd.named) (name_of_methodNamed Bd.named Bd.method).1 Bd.returns Bd.notSynchronized hZ (Stand.of_body Bd) (by rw [← hh, Bd.state]; rfl) hh hC
  exact ⟨s₂, o, h1, h2, h3, h4⟩
theorem Go.endH (X : Stand p l e R (s.setVm vm0) m args below meth c T locs cells slots) {g : JFrame} {v : Option Value} (hv : meth.sig.returnType = none → v = none) (hlk : meth.locks = false) {Q : Option Value → Heap → List Loc → Prop} {k n : Nat}
    (hst : ∀ fs, (∀ (f : JFrame) (acts : List Action), f.method = m → f.locked = none → f.entered = [] → (doReturn e (T.setTop f) acts v).1 = T.setFrames fs) → Steps p.tables e below (T.setTop g) (T.setFrames fs))
    (eT : T.heap = h) (hS : s.Since vm0 k0) (hk0 : k0 ≤ h.size) (hZ : Z.Warmed39 (s.setVm vm0).vm) (hEL : EW Z a0 EL) (hs0 : s.heap = h0) (HR : CHr Z EL s.vm h0 vm0 h) (hk : cells ≤ k) (hn : slots ≤ n) (hq : Q v h locs) : Go p e below T g (KQH Z EL s Q k n) := by
  obtain ⟨fs, hr, hrun, hended, h1, h2, h3, h4⟩ := X.leaveW hS (by rw [eT]; exact hk0) hv hlk
  refine ⟨_, _, hst fs hr, hrun, hended, v, locs, rfl, by show Q v T.heap _; rw [eT]; exact hq, ?_, h1, h2, h3, h4.mono hk hn⟩
  show CHr Z EL s.vm s.heap T.vm T.heap
  rw [eT, hs0]; exact HR.trans (CHv.at X hZ hEL HR.1)
theorem Go.ret0H (X : Stand p l e R (s.setVm vm0) m args below meth c T locs cells slots) (hx : p.tables.exec = Jvm.exec) (hret : meth.sig.returnType = none) (hlk : meth.locks = false) {pc : Nat} {Ls : Array Slot} {Q : Option Value → Heap → List Loc → Prop} {k n : Nat}
    (hd : decode c.code pc = .ok (.return_, 1)) (eT : T.heap = h) (hS : s.Since vm0 k0) (hk0 : k0 ≤ h.size) (hZ : Z.Warmed39 (s.setVm vm0).vm) (hEL : EW Z a0 EL) (hs0 : s.heap = h0) (HR : CHr Z EL s.vm h0 vm0 h) (hk : cells ≤ k) (hn : slots ≤ n) (hq : Q none h locs) : Go p e below T (mkF m pc Ls []) (KQH Z EL s Q k n) :=
  Go.endH X (fun _ => rfl) hlk (fun _ hr => X.returnOut hx hret hd hr) eT hS hk0 hZ hEL hs0 HR hk hn hq
theorem Go.retNH (X : Stand p l e R (s.setVm vm0) m args below meth c T locs cells slots) (hx : p.tables.exec = Jvm.exec) {t : FieldType} {z : Int32} {rest : List Value} (hret : meth.sig.returnType = some t) (hlk : meth.locks = false) {pc : Nat} {Ls : Array Slot} {Q : Option Value → Heap → List Loc → Prop} {k n : Nat} (ht : t = .boolean ∨ t = .byte ∨ t = .char ∨ t = .short)
    (hd : decode c.code pc = .ok (.ireturn, 1)) (eT : T.heap = h) (hS : s.Since vm0 k0) (hk0 : k0 ≤ h.size) (hZ : Z.Warmed39 (s.setVm vm0).vm) (hEL : EW Z a0 EL) (hs0 : s.heap = h0) (HR : CHr Z EL s.vm h0 vm0 h) (hk : cells ≤ k) (hn : slots ≤ n) (hq : Q (some (.int (nar t z))) h locs) : Go p e below T (mkF m pc Ls (.int z :: rest)) (KQH Z EL s Q k n) :=
  Go.endH X (fun h => by rw [hret] at h; cases h) hlk (fun _ hr => Jvm.RoadKit.retN X hx hret ht hd hr) eT hS hk0 hZ hEL hs0 HR hk hn hq
theorem Go.retAH (X : Stand p l e R (s.setVm vm0) m args below meth c T locs cells slots) (hx : p.tables.exec = Jvm.exec) {t : FieldType} {w : Value} {rest : List Value} (hret : meth.sig.returnType = some t) (hlk : meth.locks = false) {pc : Nat} {Ls : Array Slot} {Q : Option Value → Heap → List Loc → Prop} {k n : Nat} (ht : t.isReference = true) (hw : w.isRef = true)
    (hd : decode c.code pc = .ok (.areturn, 1)) (eT : T.heap = h) (hS : s.Since vm0 k0) (hk0 : k0 ≤ h.size) (hZ : Z.Warmed39 (s.setVm vm0).vm) (hEL : EW Z a0 EL) (hs0 : s.heap = h0) (HR : CHr Z EL s.vm h0 vm0 h) (hk : cells ≤ k) (hn : slots ≤ n) (hq : Q (some w) h locs) : Go p e below T (mkF m pc Ls (w :: rest)) (KQH Z EL s Q k n) :=
  Go.endH X (fun h => by rw [hret] at h; cases h) hlk (fun _ hr => retOut X hx hret (narrow_ref ht hw) (Or.inr (Or.inr (Or.inr (Or.inr ⟨rfl, ht, hw⟩)))) hd hr) eT hS hk0 hZ hEL hs0 HR hk hn hq
/-- a String whose value is still null is no booked one, nor a booked one's array -/
theorem own_safe {x : Addr} (hal : Z.vm.Alike vm) (E : Exa Z h x "java/lang/String") (F : Fld Z h x "java/lang/String" "value" "[B" .null) : Safe Z EL vm h x := fun B => by
  obtain ⟨cell, k, e1, e2, e3, -, -⟩ := E
  obtain ⟨cell', cf, k', i, f, f1, f2, f3, -, -, -, f7⟩ := F
  cases e1.symm.trans f1
  obtain ⟨p, -, u, a, -, q, -, F, rfl | rfl⟩ := B
  · cases (show h[q.sa]? = some q.sC from F.ha).symm.trans e1
    obtain ⟨cS, ⟨⟨s1, s2, s3, ⟨cv, kv, iv, s4, s4'⟩, ⟨cc, kc, ic, s5, s5'⟩, s6, s7, s8, -⟩, -⟩, -⟩ := F
    obtain ⟨kv', z4⟩ := ff_back (Z := Z) (U := Wst Z vm h) hal s4
    have e := f2.symm.trans z4
    simp only [Option.some.injEq, Prod.mk.injEq] at e
    rw [e.2.2.2] at f7
    have := f7.symm.trans s8
    cases this
  · cases (show h[q.sd]? = some q.SA from F.hd).symm.trans e1
    obtain ⟨cS, -, -, fB, -⟩ := F
    have fB' : Z.vm.findClass "[B" = some q.SA.cls := by rw [← hal.findClass]; exact fB
    obtain ⟨k1, q1, q2⟩ := Vm.findClass_spec fB'
    obtain ⟨k2, q3, q4⟩ := Vm.findClass_spec e2
    cases q1.symm.trans q3
    have := q2.symm.trans q4
    exact absurd this (by decide)
theorem own_pad (X : Stand p l e R s m args below meth c T locs cells slots) {c' n' : Nat} (h1 : cells ≤ c') (h2 : slots ≤ n') : Stand p l e R s m args below meth c T locs c' n' :=
  ⟨X.admits, X.cas, X.clock, X.frames, X.room, X.hears, X.method, X.code, X.here, X.tail, X.warmed, X.limits, X.bytes, X.same.mono h1 h2⟩
theorem own_since (s : State) : s.Since s.vm 0 := (State.WarmedH.refl s).since 0
end own_hkit

abbrev EL : List (String × Nat) := [("java/lang/String", 7)]
theorem d2_0 : decode jdk_42_method_149_code 0 = .ok (.aload_n 0, 1) := by decide +kernel
theorem d2_1 : decode jdk_42_method_149_code 1 = .ok (.invokespecial 1, 3) := by decide +kernel
theorem d2_4 : decode jdk_42_method_149_code 4 = .ok (.iload_n 3, 1) := by decide +kernel
theorem d2_5 : decode jdk_42_method_149_code 5 = .ok (.ifCond .ne 22, 3) := by decide +kernel
theorem d2_8 : decode jdk_42_method_149_code 8 = .ok (.aload_n 0, 1) := by decide +kernel
theorem d2_9 : decode jdk_42_method_149_code 9 = .ok (.ldc 7, 2) := by decide +kernel
theorem d2_11 : decode jdk_42_method_149_code 11 = .ok (.getfield 9, 3) := by decide +kernel
theorem d2_14 : decode jdk_42_method_149_code 14 = .ok (.putfield 9, 3) := by decide +kernel
theorem d2_17 : decode jdk_42_method_149_code 17 = .ok (.aload_n 0, 1) := by decide +kernel
theorem d2_18 : decode jdk_42_method_149_code 18 = .ok (.ldc 7, 2) := by decide +kernel
theorem d2_20 : decode jdk_42_method_149_code 20 = .ok (.getfield 15, 3) := by decide +kernel
theorem d2_23 : decode jdk_42_method_149_code 23 = .ok (.putfield 15, 3) := by decide +kernel
theorem d2_26 : decode jdk_42_method_149_code 26 = .ok (.return_, 1) := by decide +kernel
theorem own_pn0 : plainName "java/lang/String" = true := by first | (simp [plainName, overriddenIn]; done) | decide +kernel
theorem own_ef_rm2 (m : MethodId) (x0 : Addr) (x1 : Addr) : entryFrame m #[(.ref x0), (.ref x1), (.int (0 : Int32)), (.int (0 : Int32)), .null] 6 = mkF m 0 #[.val (.ref x0), .val (.ref x1), .val (.int (0 : Int32)), .val (.int (0 : Int32)), .val .null, .unset] [] := by first | (simp [entryFrame, mkF, argsToLocals, Value.category]; done) | rfl
def Q_rm2 (Z : State) (x0 x1 : Addr) (h0 : Heap) (n0 : Nat) : Option Value → Heap → List Loc → Prop := fun v h L => v = none ∧ Fr n0 L ∧ Keep h0 h [x0] ∧ Exa Z h x0 "java/lang/String" ∧ Fld Z h x0 "java/lang/String" "coder" "B" (.int 0) ∧ ∃ (t : Addr) (kb : ClassId), Fld Z h x0 "java/lang/String" "value" "[B" (.ref t) ∧ Arv Z h t kb .byte 0 [] (.int 0)
set_option maxRecDepth 65536 in
set_option maxHeartbeats 40000000 in
theorem rm2 (l : Launch) (Z : State) (a0 : Array Value) (hw : ∀ d ∈ tables_1, d.before a0 Z = true) (ws : List Jvm.Cond) (x0 x1 : Addr) (h0 : Heap) (n0 : Nat) (Z0 : n0 ≤ h0.size) (hEL : EW Z a0 EL) (wS : ∀ a ∈ Bundle.stringAtoms, a.before a0 Z = true) (g0 : n0 ≤ x0) (E_x0 : Exa Z h0 x0 "java/lang/String") (F_value : Fld Z h0 x0 "java/lang/String" "value" "[B" .null) (F_coder : Fld Z h0 x0 "java/lang/String" "coder" "B" (.int 0)) :
    CtrH l Z EL (⟨"java/lang/String", "<init>", "([CIILjava/lang/Void;)V"⟩ : MethodName) jdk_42_method_149_code 6 none ws ({ frames := 1, cells := 4, slots := 8, locals := 12 } : Room) #[(.ref x0), (.ref x1), (.int (0 : Int32)), (.int (0 : Int32)), .null] h0 (Q_rm2 Z x0 x1 h0 n0) := by
  refine CtrH.intro (plainFor_of_name own_pn0) ?_
  intro p e s m below meth c s₁ hx hby hml hown hnm hret hlk hZ X0 e0 hs0 hC0
  have hown : (s.setVm s.vm).vm.findClass "java/lang/String" = some m.cls := hown
  have hml : c.maxLocals = 6 := hml
  have N0 := Fr.nil n0
  refine Go.cast (own_ef_rm2 m x0 x1) ?_
  have hS : s.Since s.vm 0 := own_since s
  have hk : 0 ≤ h0.size := Nat.zero_le _
  have HR := CHr.refl hC0
  have KK := Keep.refl h0 [x0]
  have S_x0 : Safe Z EL s.vm h0 x0 := own_safe hZ.alike E_x0 F_value
  show Go p e below s₁ (mkF m 0 #[.val (.ref x0), .val (.ref x1), .val (.int (0 : Int32)), .val (.int (0 : Int32)), .val .null, .unset] []) _
  refine Go.of (fun _ k => XS.aloadN X0.here hx rfl (hb hby d2_0) rfl rfl  k) ?_
  show Go p e below s₁ (mkF m 1 #[.val (.ref x0), .val (.ref x1), .val (.int (0 : Int32)), .val (.int (0 : Int32)), .val .null, .unset] [(.ref x0)]) _
  obtain ⟨T1, X1, e1, st1⟩ := initO X0 hx hZ hown (hw _ (List.mem_of_getElem? (i := 12) rfl)) (hw _ (List.mem_of_getElem? (i := 13) rfl)) (hw _ (List.mem_of_getElem? (i := 14) rfl)) e0 (g := (mkF m 1 #[.val (.ref x0), .val (.ref x1), .val (.int (0 : Int32)), .val (.int (0 : Int32)), .val .null, .unset] [(.ref x0)])) rfl (by rw [hml]; rfl) rfl (hb hby d2_1) (by decide) (W := 0) (by show 2 * 0 + _ ≤ _; exact Nat.le_of_eq rfl) (by decide)
  refine Go.of (fun _ k => st1 _ k) ?_
  show Go p e below T1 (mkF m 4 #[.val (.ref x0), .val (.ref x1), .val (.int (0 : Int32)), .val (.int (0 : Int32)), .val .null, .unset] []) _
  refine Go.of (fun _ k => XS.iloadN X1.here hx rfl (hb hby d2_4) rfl  k) ?_
  show Go p e below T1 (mkF m 5 #[.val (.ref x0), .val (.ref x1), .val (.int (0 : Int32)), .val (.int (0 : Int32)), .val .null, .unset] [(.int (0 : Int32))]) _
  refine Go.of (fun _ k => XS.ifNo X1.here hx rfl (hb hby d2_5) rfl ((if0 _ _).trans (teq (show (0 : Int32) = (0 : Int32) from (by decide))).2) k) ?_
  show Go p e below T1 (mkF m 8 #[.val (.ref x0), .val (.ref x1), .val (.int (0 : Int32)), .val (.int (0 : Int32)), .val .null, .unset] []) _
  refine Go.of (fun _ k => XS.aloadN X1.here hx rfl (hb hby d2_8) rfl rfl  k) ?_
  show Go p e below T1 (mkF m 9 #[.val (.ref x0), .val (.ref x1), .val (.int (0 : Int32)), .val (.int (0 : Int32)), .val .null, .unset] [(.ref x0)]) _
  obtain ⟨la2, T2, h2, k2, lb2, kk2, X2, e2, E2, hS, hkN, hZ, hown, Ea2, Fc2, Fv2, Vb2, -, -, hC2, -, hsf2, st2⟩ := ldcCH X1 hx hZ hown (hw _ (List.mem_of_getElem? (i := 15) rfl)) wS e1 hS hk hEL (List.mem_of_getElem? (i := 0) rfl) HR.1 (vs := []) (z := 0) ⟨by decide, rfl⟩ (by decide) rfl (g := (mkF m 9 #[.val (.ref x0), .val (.ref x1), .val (.int (0 : Int32)), .val (.int (0 : Int32)), .val .null, .unset] [(.ref x0)])) rfl (hb hby d2_9) (n := 0) (by decide) (by decide) (by decide) (by decide)
  have S_x0 := hC2.safe E_x0.lt S_x0
  have ne_x0_la2 := (hsf2 _ S_x0).1
  have ne_x0_lb2 := (hsf2 _ S_x0).2
  have HR := HR.trans hC2
  have hk := hkN
  have KK := KK.ext E2
  have E_x0 := E_x0.ext E2
  have F_value := F_value.ext E2
  have F_coder := F_coder.ext E2
  refine Go.of (fun _ k => st2 _ k) ?_
  show Go p e below T2 (mkF m 11 #[.val (.ref x0), .val (.ref x1), .val (.int (0 : Int32)), .val (.int (0 : Int32)), .val .null, .unset] [(.ref la2), (.ref x0)]) _
  obtain ⟨T3, X3, e3, st3⟩ := getF X2 hx hZ hown (host := "") (Or.inl (hw _ (List.mem_of_getElem? (i := 21) rfl))) Via.refl e2 Fv2 (g := (mkF m 11 #[.val (.ref x0), .val (.ref x1), .val (.int (0 : Int32)), .val (.int (0 : Int32)), .val .null, .unset] [(.ref la2), (.ref x0)])) rfl rfl (hb hby d2_11)
  refine Go.of (fun _ k => st3 _ k) ?_
  show Go p e below T3 (mkF m 14 #[.val (.ref x0), .val (.ref x1), .val (.int (0 : Int32)), .val (.int (0 : Int32)), .val .null, .unset] [(.ref lb2), (.ref x0)]) _
  obtain ⟨T4, h4, X4, e4, W4, st4⟩ := putF X3 hx hZ hown (host := "") (Or.inl (hw _ (List.mem_of_getElem? (i := 21) rfl))) Via.refl e3 F_value E_x0 (Or.inr ⟨(hw _ (List.mem_of_getElem? (i := 17) rfl)), rfl, hnm⟩) (hw _ (List.mem_of_getElem? (i := 3) rfl)) (ty := (.array .byte)) (by decide) rfl rfl (g := (mkF m 14 #[.val (.ref x0), .val (.ref x1), .val (.int (0 : Int32)), .val (.int (0 : Int32)), .val .null, .unset] [(.ref lb2), (.ref x0)])) rfl rfl (hb hby d2_14)
  have sf4 := S_x0
  have N4 := Fr.snoc X4 N0 g0
  have F_value := F_value.same W4
  have S_x0 := Safe.wr W4 sf4 HR.1 S_x0
  have HR := HR.trans (CHr.wr W4 sf4 HR.1)
  have hk := Nat.le_trans hk (Keep.of_wr W4).1
  have KK := KK.wr W4 (Or.inl (List.mem_of_getElem? (i := 0) rfl))
  have E_x0 := E_x0.wr W4
  have F_coder := F_coder.other W4 (Or.inr (slot_ne (Or.inr (hw _ (List.mem_of_getElem? (i := 18) rfl))) (Or.inr (hw _ (List.mem_of_getElem? (i := 17) rfl))) (by decide) (t := .byte) (t' := (.array .byte)) (by decide) (by decide)))
  have Ea2 := Ea2.wr W4
  have Fc2 := Fc2.other W4 (Or.inl (Ne.symm ne_x0_la2))
  have Fv2 := Fv2.other W4 (Or.inl (Ne.symm ne_x0_la2))
  have Vb2 := Vb2.other W4 (Ne.symm ne_x0_lb2)
  refine Go.of (fun _ k => st4 _ k) ?_
  show Go p e below T4 (mkF m 17 #[.val (.ref x0), .val (.ref x1), .val (.int (0 : Int32)), .val (.int (0 : Int32)), .val .null, .unset] []) _
  refine Go.of (fun _ k => XS.aloadN X4.here hx rfl (hb hby d2_17) rfl rfl  k) ?_
  show Go p e below T4 (mkF m 18 #[.val (.ref x0), .val (.ref x1), .val (.int (0 : Int32)), .val (.int (0 : Int32)), .val .null, .unset] [(.ref x0)]) _
  obtain ⟨la5, T5, h5, k5, lb5, kk5, X5, e5, E5, hS, hkN, hZ, hown, Ea5, Fc5, Fv5, Vb5, -, -, hC5, -, hsf5, st5⟩ := ldcCH X4 hx hZ hown (hw _ (List.mem_of_getElem? (i := 15) rfl)) wS e4 hS hk hEL (List.mem_of_getElem? (i := 0) rfl) HR.1 (vs := []) (z := 0) ⟨by decide, rfl⟩ (by decide) rfl (g := (mkF m 18 #[.val (.ref x0), .val (.ref x1), .val (.int (0 : Int32)), .val (.int (0 : Int32)), .val .null, .unset] [(.ref x0)])) rfl (hb hby d2_18) (n := 0) (by decide) (by decide) (by decide) (by decide)
  have S_x0 := hC5.safe E_x0.lt S_x0
  have ne_x0_la5 := (hsf5 _ S_x0).1
  have ne_x0_lb5 := (hsf5 _ S_x0).2
  have HR := HR.trans hC5
  have hk := hkN
  have KK := KK.ext E5
  have E_x0 := E_x0.ext E5
  have F_value := F_value.ext E5
  have F_coder := F_coder.ext E5
  have Ea2 := Ea2.ext E5
  have Fc2 := Fc2.ext E5
  have Fv2 := Fv2.ext E5
  have Vb2 := Vb2.ext E5
  refine Go.of (fun _ k => st5 _ k) ?_
  show Go p e below T5 (mkF m 20 #[.val (.ref x0), .val (.ref x1), .val (.int (0 : Int32)), .val (.int (0 : Int32)), .val .null, .unset] [(.ref la5), (.ref x0)]) _
  obtain ⟨T6, X6, e6, st6⟩ := getF X5 hx hZ hown (host := "") (Or.inl (hw _ (List.mem_of_getElem? (i := 22) rfl))) Via.refl e5 Fc5 (g := (mkF m 20 #[.val (.ref x0), .val (.ref x1), .val (.int (0 : Int32)), .val (.int (0 : Int32)), .val .null, .unset] [(.ref la5), (.ref x0)])) rfl rfl (hb hby d2_20)
  refine Go.of (fun _ k => st6 _ k) ?_
  show Go p e below T6 (mkF m 23 #[.val (.ref x0), .val (.ref x1), .val (.int (0 : Int32)), .val (.int (0 : Int32)), .val .null, .unset] [(.int (0 : Int32)), (.ref x0)]) _
  obtain ⟨T7, h7, X7, e7, W7, st7⟩ := putFN X6 hx hZ hown (hw _ (List.mem_of_getElem? (i := 22) rfl)) Via.refl e6 F_coder E_x0 (Or.inr ⟨(hw _ (List.mem_of_getElem? (i := 18) rfl)), rfl, hnm⟩) (hw _ (List.mem_of_getElem? (i := 3) rfl)) (ty := .byte) (v' := (.int (0 : Int32))) (by decide) rfl (by decide) (g := (mkF m 23 #[.val (.ref x0), .val (.ref x1), .val (.int (0 : Int32)), .val (.int (0 : Int32)), .val .null, .unset] [(.int (0 : Int32)), (.ref x0)])) rfl rfl (hb hby d2_23)
  have sf7 := S_x0
  have N7 := Fr.snoc X7 N4 g0
  have F_coder := F_coder.same W7
  have S_x0 := Safe.wr W7 sf7 HR.1 S_x0
  have HR := HR.trans (CHr.wr W7 sf7 HR.1)
  have hk := Nat.le_trans hk (Keep.of_wr W7).1
  have KK := KK.wr W7 (Or.inl (List.mem_of_getElem? (i := 0) rfl))
  have E_x0 := E_x0.wr W7
  have F_value := F_value.other W7 (Or.inr (slot_ne (Or.inr (hw _ (List.mem_of_getElem? (i := 17) rfl))) (Or.inr (hw _ (List.mem_of_getElem? (i := 18) rfl))) (by decide) (t := (.array .byte)) (t' := .byte) (by decide) (by decide)))
  have Ea2 := Ea2.wr W7
  have Fc2 := Fc2.other W7 (Or.inl (Ne.symm ne_x0_la2))
  have Fv2 := Fv2.other W7 (Or.inl (Ne.symm ne_x0_la2))
  have Vb2 := Vb2.other W7 (Ne.symm ne_x0_lb2)
  have Ea5 := Ea5.wr W7
  have Fc5 := Fc5.other W7 (Or.inl (Ne.symm ne_x0_la5))
  have Fv5 := Fv5.other W7 (Or.inl (Ne.symm ne_x0_la5))
  have Vb5 := Vb5.other W7 (Ne.symm ne_x0_lb5)
  refine Go.of (fun _ k => st7 _ k) ?_
  show Go p e below T7 (mkF m 26 #[.val (.ref x0), .val (.ref x1), .val (.int (0 : Int32)), .val (.int (0 : Int32)), .val .null, .unset] []) _
  refine Go.ret0H X7 hx hret hlk (hb hby d2_26) e7 hS hk hZ hEL hs0 HR (by decide) (by decide) ?_
  exact ⟨rfl, N7, KK, E_x0, F_coder, _, _, F_value, Vb2⟩
theorem d1_0 : decode jdk_42_method_3_code 0 = .ok (.aload_n 0, 1) := by decide +kernel
theorem d1_1 : decode jdk_42_method_3_code 1 = .ok (.aload_n 1, 1) := by decide +kernel
theorem d1_2 : decode jdk_42_method_3_code 2 = .ok (.iconst 0, 1) := by decide +kernel
theorem d1_3 : decode jdk_42_method_3_code 3 = .ok (.aload_n 1, 1) := by decide +kernel
theorem d1_4 : decode jdk_42_method_3_code 4 = .ok (.arraylength, 1) := by decide +kernel
theorem d1_5 : decode jdk_42_method_3_code 5 = .ok (.aconst_null, 1) := by decide +kernel
theorem d1_6 : decode jdk_42_method_3_code 6 = .ok (.invokespecial 27, 3) := by decide +kernel
theorem own_pd0 : parseMethodDescriptor "([CIILjava/lang/Void;)V" = some ⟨[(.array .char), .int, .int, (.object "java/lang/Void")], none⟩ := by decide +kernel
theorem d1_9 : decode jdk_42_method_3_code 9 = .ok (.return_, 1) := by decide +kernel
theorem own_ef_rm1 (m : MethodId) (x0 : Addr) (x1 : Addr) : entryFrame m #[(.ref x0), (.ref x1)] 2 = mkF m 0 #[.val (.ref x0), .val (.ref x1)] [] := by first | (simp [entryFrame, mkF, argsToLocals, Value.category]; done) | rfl
def Q_rm1 (Z : State) (x0 x1 : Addr) (kC : ClassId) (dC : Value) (h0 : Heap) (n0 : Nat) : Option Value → Heap → List Loc → Prop := fun v h L => v = none ∧ Fr n0 L ∧ Keep h0 h [x0] ∧ Exa Z h x0 "java/lang/String" ∧ Fld Z h x0 "java/lang/String" "coder" "B" (.int 0) ∧ ∃ (t : Addr) (kb : ClassId), Fld Z h x0 "java/lang/String" "value" "[B" (.ref t) ∧ Arv Z h t kb .byte 0 [] (.int 0)
set_option maxRecDepth 65536 in
set_option maxHeartbeats 40000000 in
theorem rm1 (l : Launch) (Z : State) (a0 : Array Value) (hw : ∀ d ∈ tables_1, d.before a0 Z = true) (ws : List Jvm.Cond) (x0 x1 : Addr) (kC : ClassId) (dC : Value) (h0 : Heap) (n0 : Nat) (Z0 : n0 ≤ h0.size) (hEL : EW Z a0 EL) (wS : ∀ a ∈ Bundle.stringAtoms, a.before a0 Z = true) (g0 : n0 ≤ x0) (E_x0 : Exa Z h0 x0 "java/lang/String") (F_value : Fld Z h0 x0 "java/lang/String" "value" "[B" .null) (F_coder : Fld Z h0 x0 "java/lang/String" "coder" "B" (.int 0)) (V_c : Arv Z h0 x1 kC .char 0 [] dC) :
    CtrH l Z EL (⟨"java/lang/String", "<init>", "([C)V"⟩ : MethodName) jdk_42_method_3_code 2 none ws ({ frames := 2, cells := 4, slots := 8, locals := 29 } : Room) #[(.ref x0), (.ref x1)] h0 (Q_rm1 Z x0 x1 kC dC h0 n0) := by
  refine CtrH.intro (plainFor_of_name own_pn0) ?_
  intro p e s m below meth c s₁ hx hby hml hown hnm hret hlk hZ X0 e0 hs0 hC0
  have hown : (s.setVm s.vm).vm.findClass "java/lang/String" = some m.cls := hown
  have hml : c.maxLocals = 2 := hml
  have N0 := Fr.nil n0
  refine Go.cast (own_ef_rm1 m x0 x1) ?_
  have hS : s.Since s.vm 0 := own_since s
  have hk : 0 ≤ h0.size := Nat.zero_le _
  have HR := CHr.refl hC0
  have KK := Keep.refl h0 [x0]
  show Go p e below s₁ (mkF m 0 #[.val (.ref x0), .val (.ref x1)] []) _
  refine Go.of (fun _ k => XS.aloadN X0.here hx rfl (hb hby d1_0) rfl rfl  k) ?_
  show Go p e below s₁ (mkF m 1 #[.val (.ref x0), .val (.ref x1)] [(.ref x0)]) _
  refine Go.of (fun _ k => XS.aloadN X0.here hx rfl (hb hby d1_1) rfl rfl  k) ?_
  show Go p e below s₁ (mkF m 2 #[.val (.ref x0), .val (.ref x1)] [(.ref x1), (.ref x0)]) _
  refine Go.of (fun _ k => XS.iconst X0.here hx rfl (hb hby d1_2) k) ?_
  show Go p e below s₁ (mkF m 3 #[.val (.ref x0), .val (.ref x1)] [(.int (0 : Int32)), (.ref x1), (.ref x0)]) _
  refine Go.of (fun _ k => XS.aloadN X0.here hx rfl (hb hby d1_3) rfl rfl  k) ?_
  show Go p e below s₁ (mkF m 4 #[.val (.ref x0), .val (.ref x1)] [(.ref x1), (.int (0 : Int32)), (.ref x1), (.ref x0)]) _
  obtain ⟨cl1, Ac1, -, Sc1, -, -, -⟩ := id V_c
  refine Go.of (fun _ k => X0.arraylength hx (by rw [e0]; exact Ac1.1) (State.isArrayOf_alike hZ.alike Ac1.2.1) (g := (mkF m 4 #[.val (.ref x0), .val (.ref x1)] [(.ref x1), (.int (0 : Int32)), (.ref x1), (.ref x0)])) rfl rfl (hb hby d1_4) _ k) ?_
  rw [len_of Sc1 (by decide)]
  show Go p e below s₁ (mkF m 5 #[.val (.ref x0), .val (.ref x1)] [(.int (0 : Int32)), (.int (0 : Int32)), (.ref x1), (.ref x0)]) _
  refine Go.of (fun _ k => XS.aconstNull X0.here hx rfl (hb hby d1_5) k) ?_
  show Go p e below s₁ (mkF m 6 #[.val (.ref x0), .val (.ref x1)] [.null, (.int (0 : Int32)), (.int (0 : Int32)), (.ref x1), (.ref x0)]) _
  obtain ⟨_, _, ⟨T1, L1, kq1, nq1⟩, -, X1, hS1, hg1, ⟨Lc1, hQ1, l1, y1, z1, hC1⟩, st1⟩ := X0.specialBackS hx (y := (⟨"java/lang/String", "<init>", "([CIILjava/lang/Void;)V"⟩ : MethodName)) rfl hown (mvT hZ (hw _ (List.mem_of_getElem? (i := 8) rfl))) (mvT hZ (hw _ (List.mem_of_getElem? (i := 9) rfl))) (mvT hZ (hw _ (List.mem_of_getElem? (i := 11) rfl))) (by decide) (backOfSH (W := 0) (rm2 l Z a0 hw [] x0 x1 h0 n0 Z0 hEL wS g0 E_x0 F_value F_coder) hZ (hw _ (List.mem_of_getElem? (i := 11) rfl)) (hw _ (List.mem_of_getElem? (i := 4) rfl)) (by decide) (by decide) hEL HR.1) (g := (mkF m 6 #[.val (.ref x0), .val (.ref x1)] [.null, (.int (0 : Int32)), (.int (0 : Int32)), (.ref x1), (.ref x0)])) rfl (by rw [hml]; rfl) (Steps.refl _) (a := x0) (argsL := [(.ref x1), (.int (0 : Int32)), (.int (0 : Int32)), .null]) (rest := []) (lenOf own_pd0 rfl) rfl (by show 2 * 0 + _ ≤ _; exact Nat.le_of_eq rfl) (hb hby d1_6) (fun _ _ => ⟨rfl, e0, (by decide : 0 + 4 ≤ _), (by decide : 0 + 8 ≤ _)⟩)
  dsimp only [Pt.U, Pt.locs, Pt.cells, Pt.slots] at X1 l1 y1 z1 st1 hQ1 hS1 hg1 hC1
  subst l1 y1 z1
  obtain ⟨X1, hS, hZ, hown⟩ := rebS hS (by rw [e0]; exact hk) X1 hS1 hg1 hZ hown
  have HR := HR.trans hC1
  have hk : T1.heap.size ≤ T1.heap.size := Nat.le_refl _
  obtain ⟨rfl, Nq1, Kq1, Eq1, Fc, t, kb, Fv, Vt⟩ := hQ1
  have N1 := Fr.app N0 Nq1
  have KK := KK.trans Kq1 (allS (Or.inl (List.mem_of_getElem? (i := 0) rfl)) all0)
  have E_x0 := E_x0.keep Kq1
  have E_x0 := Eq1
  refine Go.of (fun _ k => st1.trans k) ?_
  show Go p e below T1 (mkF m 9 #[.val (.ref x0), .val (.ref x1)] []) _
  refine Go.ret0H X1 hx hret hlk (hb hby d1_9) rfl hS hk hZ hEL hs0 HR (by decide) (by decide) ?_
  exact ⟨rfl, N1, KK, E_x0, Fc, t, kb, Fv, Vt⟩
theorem own_words {Z : State} {a0 : Array Value} (hw : ∀ d ∈ tables_1, d.before a0 Z = true) : ∀ d ∈ StrChars.Road.words, d.before a0 Z = true := fun d hd => hw d ((by decide +kernel : ∀ d ∈ StrChars.Road.words, d ∈ tables_1) d hd)
theorem own_wS {Z : State} {a0 : Array Value} (hw : ∀ d ∈ tables_1, d.before a0 Z = true) : ∀ d ∈ Bundle.stringAtoms, d.before a0 Z = true := fun d hd => hw d ((by decide +kernel : ∀ d ∈ Bundle.stringAtoms, d ∈ tables_1) d hd)
theorem own_EL {Z : State} {a0 : Array Value} (hw : ∀ d ∈ tables_1, d.before a0 Z = true) : EW Z a0 EL := EW.cons (hw _ (List.mem_of_getElem? (i := 15) rfl)) (by decide) EW.nil
abbrev byt (cs : List Int32) : List Value := (cs.map fun c => c.toInt8.toInt32).map Value.int
def QS (Z : State) (x : Addr) (cs : List Int32) (h : Heap) (n0 : Nat) (v : Option Value) (h' : Heap) (L : List Loc) : Prop := v = none ∧ Fr n0 L ∧ Keep h h' [x] ∧ Exa Z h' x "java/lang/String" ∧ Fld Z h' x "java/lang/String" "coder" "B" (.int 0) ∧ ∃ (t : Addr) (kb : ClassId), Fld Z h' x "java/lang/String" "value" "[B" (.ref t) ∧ Arv Z h' t kb .byte (Int32.ofNat cs.length) (byt cs) (.int 0)
/-- new String(chars), up to three of them, each 0 to 255; an empty one loads the literal -/
theorem own_newS {p : Program} {l : Launch} {e : Env} {R : Room} {s : State} {args : Array Value} {below : List Frame} {W : Nat} {Z : State} {a0 : Array Value} {h : Heap} {v0 : Vm} (hw : ∀ d ∈ tables_1, d.before a0 Z = true) (hZ : Z.Warmed39 (s.setVm v0).vm) (HC : CHv Z EL v0 h)
    {x b : Addr} {kC : ClassId} {cs : List Int32} {d : Value} {z N : Int32} {n0 : Nat} (hx0 : n0 ≤ x) (hh0 : n0 ≤ h.size) (E : Exa Z h x "java/lang/String") (V : Fld Z h x "java/lang/String" "value" "[B" .null) (C : Fld Z h x "java/lang/String" "coder" "B" (.int 0)) (K : Arv Z h b kC .char N (cs.map Value.int) d) (S : Sta Z h "java/lang/String" "COMPACT_STRINGS" "Z" (.int z)) (hz : ¬ z = 0)
    (hN : N = Int32.ofNat cs.length) (hl : cs.length ≤ 3) (hp : ∀ c ∈ cs, ¬ c < 0 ∧ ¬ (255 : Int32) < c) (hfr : 4 ≤ R.frames) (hlo : W + 65 ≤ R.locals) :
    BackS l R p e below (s.setVm v0) args (⟨"java/lang/String", "<init>", "([C)V"⟩ : MethodName) 3 W (fun A a => a = #[.ref x, .ref b] ∧ A.U.heap = h ∧ A.cells + 4 ≤ R.cells ∧ A.slots + 12 ≤ R.slots)
      (fun A _ v B => ∃ L, QS Z x cs h n0 v B.U.heap L ∧ B.locs = A.locs ++ L ∧ B.cells = A.cells + 4 ∧ B.slots = A.slots + 12 ∧ CHr Z EL v0 h B.U.vm B.U.heap) := by
  by_cases h0 : cs = []
  · subst h0
    have hN0 : N = 0 := hN
    subst hN0
    have hB := backOfSH (s := s) (p := p) (e := e) (below := below) (args := args) (R := R) (len := 3) (W := W) (rm1 l Z a0 hw [] x b kC d h n0 hh0 (own_EL hw) (own_wS hw) hx0 E V C K) hZ (hw _ (List.mem_of_getElem? (i := 7) rfl)) (hw _ (List.mem_of_getElem? (i := 4) rfl)) (by show 2 + 1 ≤ _; omega) (by show W + (2 + 11) + 29 ≤ _; omega) (own_EL hw) HC
    intro m meth c A g ig mk a X hg hsize hdg hW hn hP
    obtain ⟨v, B, X', hS, hgr, ⟨L, ⟨q1, q2, q3, q4, q5, t, kb, q6, q7⟩, e1, e2, e3, hC⟩, st⟩ := hB m meth c A g ig mk a X hg hsize hdg hW hn ⟨hP.1, hP.2.1, by show A.cells + 4 ≤ _; have := hP.2.2.1; omega, by show A.slots + 8 ≤ _; have := hP.2.2.2; omega⟩
    have e2' : B.cells = A.cells + 4 := e2
    have e3' : B.slots = A.slots + 8 := e3
    exact ⟨v, ⟨B.U, B.locs, A.cells + 4, A.slots + 12⟩, own_pad X' (c' := A.cells + 4) (n' := A.slots + 12) (by omega) (by omega), hS, hgr, ⟨L, ⟨q1, q2, q3, q4, q5, t, kb, q6, q7⟩, e1, rfl, rfl, hC⟩, st⟩
  · have l0 : 0 < cs.length := List.length_pos_iff.mpr h0
    have hB := StrChars.Road.backV (l := l) (R := R) (p := p) (e := e) (below := below) (s := s.setVm v0) (args := args) (len := 3) (W := W) hZ (own_words hw) (kI := 4) (hw _ (List.mem_of_getElem? (i := 3) rfl)) (n := cs.length) hx0 hh0 E V C K S hz rfl hN l0 (by omega) hp rfl hfr hlo
    intro m meth c A g ig mk a X hg hsize hdg hW hn hP
    obtain ⟨v, B, X', ⟨L, ⟨q1, q2, q3, q4, q5, t, kb, q6, q7, q8, q9, q10⟩, e1, e2, e3⟩, st⟩ := hB m meth c A g ig mk a X hg hsize hdg hW hn ⟨hP.1, hP.2.1, by have := hP.2.2.1; omega, by have := hP.2.2.2; omega⟩
    have sx : Safe Z EL v0 h x := own_safe hZ.alike E V
    have hC := CHr.keep q3 (sfS sx sf0) HC
    refine ⟨v, ⟨B.U, B.locs, A.cells + 4, A.slots + 12⟩, (own_pad X' (c' := A.cells + 4) (n' := A.slots + 12) (by omega) (by omega)).retabled X'.warmed.wide, X'.warmed.since _, ?_, ⟨L, ⟨q1, q2, q3, q4, q5, t, kb, q9, ?_⟩, e1, rfl, rfl, hC.trans (CHv.at X' hZ (own_EL hw) hC.1)⟩, st⟩
    · show A.U.heap.size ≤ B.U.heap.size
      rw [hP.2.1]; exact q3.1
    · rw [← hN]; exact q10
theorem k0 : (0 : Int32).toInt = 0 := by decide
theorem k1 : (1 : Int32).toInt = 1 := by decide
theorem k2 : (2 : Int32).toInt = 2 := by decide
theorem k3 : (3 : Int32).toInt = 3 := by decide
theorem k4 : (4 : Int32).toInt = 4 := by decide
theorem k5 : (5 : Int32).toInt = 5 := by decide
theorem k255 : (255 : Int32).toInt = 255 := by decide
theorem k65535 : (65535 : Int32).toInt = 65535 := by decide

def fCs (n a b : Int32) : List Int32 := if n = 0 then [] else if n = 1 then [a] else [a, b]
abbrev chr (c : Int32) : Prop := ¬ c < 0 ∧ ¬ (255 : Int32) < c
theorem own_fcs {n a b : Int32} (hl : n = 0 ∨ n = 1 ∨ n = 2) (ha : chr a) (hb : chr b) : n = Int32.ofNat (fCs n a b).length ∧ (fCs n a b).length ≤ 3 ∧ ∀ c ∈ fCs n a b, chr c := by
  rcases hl with rfl | rfl | rfl
  · exact ⟨rfl, by simp [fCs], fun c hc => by simp [fCs] at hc⟩
  · refine ⟨rfl, by simp [fCs], fun c hc => ?_⟩
    obtain rfl : c = a := by simpa [fCs] using hc
    exact ha
  · refine ⟨rfl, by simp [fCs], fun c hc => ?_⟩
    rcases (show c = a ∨ c = b by simpa [fCs] using hc) with rfl | rfl
    · exact ha
    · exact hb
theorem own_cs {n k a b c d : Int32} (hn : n = 0 ∨ n = 1 ∨ n = 2) (hk : k = 0 ∨ k = 1 ∨ k = 2) : (fCs n a b = fCs k c d) ↔ (n = k ∧ (n < 1 ∨ a = c) ∧ (n < 2 ∨ b = d)) := by
  rcases hn with rfl | rfl | rfl <;> rcases hk with rfl | rfl | rfl <;> simp [fCs]
theorem own_ch (y : Int32) : chr ((y &&& 255).toUInt32.toUInt16.toUInt32.toInt32) := by
  rw [i2c_mask]
  have e : (y &&& 255).toInt = y.toInt % 2 ^ 8 := Jvm.Kit.i32_mask y 255 (k := 8) (by decide) (by decide)
  constructor
  · rw [own_lt, k0]; omega
  · rw [own_lt, k255]; omega
theorem own_nar {c : Int32} (h : chr c) : nar .char c = c := by
  obtain ⟨h1, h2⟩ := h
  rw [own_lt, k0] at h1; rw [own_lt, k255] at h2
  show c.toUInt32.toUInt16.toUInt32.toInt32 = c
  have e : c &&& 255 = c := by
    have q : (c &&& 255).toInt = c.toInt % 2 ^ 8 := Jvm.Kit.i32_mask c 255 (k := 8) (by decide) (by decide)
    rw [own_eq, q]; omega
  rw [← e]; exact i2c_mask c
theorem own_up {cs : List Int32} (h : ∀ c ∈ cs, chr c) : ∀ c ∈ cs, ¬ c < 0 ∧ ¬ (65535 : Int32) < c := fun c hc => ⟨(h c hc).1, fun q => (h c hc).2 (by rw [own_lt, k255]; rw [own_lt, k65535] at q; omega)⟩
theorem own_5 {j : Int32} (h1 : ¬ j < 0) (h2 : j < 5) : j = 0 ∨ j = 1 ∨ j = 2 ∨ j = 3 ∨ j = 4 := by
  simp only [own_lt, own_eq, k0, k1, k2, k3, k4, k5, k255, k65535] at *
  omega
theorem own_3 {j : Int32} (h : 0 ≤ j.toInt ∧ j.toInt < 3) : j = 0 ∨ j = 1 ∨ j = 2 := by
  simp only [own_eq, k0, k1, k2, k3, k4, k5, k255, k65535]
  omega
theorem own_weq {Z : State} {a0 : Array Value} (hw : ∀ d ∈ tables_1, d.before a0 Z = true) : ∀ d ∈ StrChars.Road.wordsEq, d.before a0 Z = true := fun d hd => hw d ((by decide +kernel : ∀ d ∈ StrChars.Road.wordsEq, d ∈ tables_1) d hd)
def fIs (i j : Int32) (cs ds : List Int32) : Int32 := if i = j then (if cs = ds then 1 else 0) else 0

theorem d4_0 : decode method_2_code 0 = .ok (.iload_n 0, 1) := by decide +kernel
theorem d4_1 : decode method_2_code 1 = .ok (.ifCond .ne 7, 3) := by decide +kernel
theorem d4_4 : decode method_2_code 4 = .ok (.getstatic 7, 3) := by decide +kernel
theorem d4_7 : decode method_2_code 7 = .ok (.areturn, 1) := by decide +kernel
theorem d4_8 : decode method_2_code 8 = .ok (.iload_n 0, 1) := by decide +kernel
theorem d4_9 : decode method_2_code 9 = .ok (.iconst 1, 1) := by decide +kernel
theorem d4_10 : decode method_2_code 10 = .ok (.if_icmp .ne 7, 3) := by decide +kernel
theorem d4_13 : decode method_2_code 13 = .ok (.getstatic 13, 3) := by decide +kernel
theorem d4_16 : decode method_2_code 16 = .ok (.areturn, 1) := by decide +kernel
theorem d4_17 : decode method_2_code 17 = .ok (.iload_n 0, 1) := by decide +kernel
theorem d4_18 : decode method_2_code 18 = .ok (.iconst 2, 1) := by decide +kernel
theorem d4_19 : decode method_2_code 19 = .ok (.if_icmp .ne 7, 3) := by decide +kernel
theorem d4_22 : decode method_2_code 22 = .ok (.getstatic 16, 3) := by decide +kernel
theorem d4_25 : decode method_2_code 25 = .ok (.areturn, 1) := by decide +kernel
theorem d4_26 : decode method_2_code 26 = .ok (.iload_n 0, 1) := by decide +kernel
theorem d4_27 : decode method_2_code 27 = .ok (.iconst 3, 1) := by decide +kernel
theorem d4_28 : decode method_2_code 28 = .ok (.if_icmp .ne 7, 3) := by decide +kernel
theorem d4_31 : decode method_2_code 31 = .ok (.getstatic 19, 3) := by decide +kernel
theorem d4_34 : decode method_2_code 34 = .ok (.areturn, 1) := by decide +kernel
theorem d4_35 : decode method_2_code 35 = .ok (.getstatic 22, 3) := by decide +kernel
theorem d4_38 : decode method_2_code 38 = .ok (.areturn, 1) := by decide +kernel
theorem own_pn1 : plainName "com/example/automata_over_chains/automataoverchains/TokenIsPinLaw" = true := by first | (simp [plainName, overriddenIn]; done) | decide +kernel
theorem own_ef_rm4 (m : MethodId) (x0 : Int32) : entryFrame m #[(.int x0)] 1 = mkF m 0 #[.val (.int x0)] [] := by first | (simp [entryFrame, mkF, argsToLocals, Value.category]; done) | rfl
def Q_rm4 (Z : State) (x0 : Int32) (aF : Int32 → Addr) (h0 : Heap) (n0 : Nat) : Option Value → Heap → List Loc → Prop := fun v h L => v = some (.ref (aF x0)) ∧ Fr n0 L ∧ h = h0
set_option maxRecDepth 65536 in
set_option maxHeartbeats 40000000 in
theorem rm4 (l : Launch) (Z : State) (a0 : Array Value) (hw : ∀ d ∈ tables_1, d.before a0 Z = true) (ws : List Jvm.Cond) (x0 : Int32) (aF : Int32 → Addr) (h0 : Heap) (n0 : Nat) (Z0 : n0 ≤ h0.size) (hi1 : ¬ x0 < 0) (hi2 : x0 < 5) (OL : Old Z n0 h0) (S0 : Sta Z Z.heap "com/example/automata_over_chains/automataoverchains/Tokens$Kind" "NAME" "Lcom/example/automata_over_chains/automataoverchains/Tokens$Kind;" (.ref (aF 0))) (S1 : Sta Z Z.heap "com/example/automata_over_chains/automataoverchains/Tokens$Kind" "LABEL" "Lcom/example/automata_over_chains/automataoverchains/Tokens$Kind;" (.ref (aF 1))) (S2 : Sta Z Z.heap "com/example/automata_over_chains/automataoverchains/Tokens$Kind" "NUMBER" "Lcom/example/automata_over_chains/automataoverchains/Tokens$Kind;" (.ref (aF 2))) (S3 : Sta Z Z.heap "com/example/automata_over_chains/automataoverchains/Tokens$Kind" "SYMBOL" "Lcom/example/automata_over_chains/automataoverchains/Tokens$Kind;" (.ref (aF 3))) (S4 : Sta Z Z.heap "com/example/automata_over_chains/automataoverchains/Tokens$Kind" "END" "Lcom/example/automata_over_chains/automataoverchains/Tokens$Kind;" (.ref (aF 4))) :
    Ctr l Z (⟨"com/example/automata_over_chains/automataoverchains/TokenIsPinLaw", "kind", "(I)Lcom/example/automata_over_chains/automataoverchains/Tokens$Kind;"⟩ : MethodName) method_2_code 1 (some (.object "com/example/automata_over_chains/automataoverchains/Tokens$Kind")) ws ({ frames := 0, cells := 0, slots := 0, locals := 0 } : Room) #[(.int x0)] h0 (Q_rm4 Z x0 aF h0 n0) := by
  refine Ctr.intro (plainFor_of_name own_pn1) ?_
  intro p e s m below meth c s₁ hx hby hml hown hnm hret hlk hZ X0 e0
  have hown : s.vm.findClass "com/example/automata_over_chains/automataoverchains/TokenIsPinLaw" = some m.cls := hown
  have hml : c.maxLocals = 1 := hml
  have N0 := Fr.nil n0
  refine Go.cast (own_ef_rm4 m x0) ?_
  show Go p e below s₁ (mkF m 0 #[.val (.int x0)] []) _
  refine Go.of (fun _ k => XS.iloadN X0.here hx rfl (hb hby d4_0) rfl  k) ?_
  show Go p e below s₁ (mkF m 1 #[.val (.int x0)] [(.int x0)]) _
  by_cases hc1_0 : x0 = (0 : Int32)
  · refine Go.of (fun _ k => XS.ifNo X0.here hx rfl (hb hby d4_1) rfl ((if0 _ _).trans (teq hc1_0).2) k) ?_
    show Go p e below s₁ (mkF m 4 #[.val (.int x0)] []) _
    obtain ⟨T1, X1, e1, st1⟩ := getS2 X0 hx hZ hown (host := "") (Or.inl (hw _ (List.mem_of_getElem? (i := 30) rfl))) Via.refl e0 (S0.ext OL.2) (g := (mkF m 4 #[.val (.int x0)] [])) rfl (hb hby d4_4)
    refine Go.of (fun _ k => st1 _ k) ?_
    show Go p e below T1 (mkF m 7 #[.val (.int x0)] [(.ref (aF 0))]) _
    refine Go.retA X1 hx hret hlk rfl rfl (hb hby d4_7) e1 (by decide) (by decide) ?_
    exact ⟨by rw [hc1_0], N0, rfl⟩
  · refine Go.of (fun _ k => XS.ifYes X0.here hx rfl (pc0 := 1) (pc' := 8) rfl (hb hby d4_1) rfl ((if0 _ _).trans (feq hc1_0).2) (by decide) (by decide) k) ?_
    show Go p e below s₁ (mkF m 8 #[.val (.int x0)] []) _
    refine Go.of (fun _ k => XS.iloadN X0.here hx rfl (hb hby d4_8) rfl  k) ?_
    show Go p e below s₁ (mkF m 9 #[.val (.int x0)] [(.int x0)]) _
    refine Go.of (fun _ k => XS.iconst X0.here hx rfl (hb hby d4_9) k) ?_
    show Go p e below s₁ (mkF m 10 #[.val (.int x0)] [(.int (1 : Int32)), (.int x0)]) _
    by_cases hc10_1 : x0 = (1 : Int32)
    · refine Go.of (fun _ k => XS.icmpNo X0.here hx rfl (hb hby d4_10) rfl (teq hc10_1).2 k) ?_
      show Go p e below s₁ (mkF m 13 #[.val (.int x0)] []) _
      obtain ⟨T2, X2, e2, st2⟩ := getS2 X0 hx hZ hown (host := "") (Or.inl (hw _ (List.mem_of_getElem? (i := 80) rfl))) Via.refl e0 (S1.ext OL.2) (g := (mkF m 13 #[.val (.int x0)] [])) rfl (hb hby d4_13)
      refine Go.of (fun _ k => st2 _ k) ?_
      show Go p e below T2 (mkF m 16 #[.val (.int x0)] [(.ref (aF 1))]) _
      refine Go.retA X2 hx hret hlk rfl rfl (hb hby d4_16) e2 (by decide) (by decide) ?_
      exact ⟨by rw [hc10_1], N0, rfl⟩
    · refine Go.of (fun _ k => XS.icmpYes X0.here hx rfl (pc0 := 10) (pc' := 17) rfl (hb hby d4_10) rfl (feq hc10_1).2 (by decide) (by decide) k) ?_
      show Go p e below s₁ (mkF m 17 #[.val (.int x0)] []) _
      refine Go.of (fun _ k => XS.iloadN X0.here hx rfl (hb hby d4_17) rfl  k) ?_
      show Go p e below s₁ (mkF m 18 #[.val (.int x0)] [(.int x0)]) _
      refine Go.of (fun _ k => XS.iconst X0.here hx rfl (hb hby d4_18) k) ?_
      show Go p e below s₁ (mkF m 19 #[.val (.int x0)] [(.int (2 : Int32)), (.int x0)]) _
      by_cases hc19_2 : x0 = (2 : Int32)
      · refine Go.of (fun _ k => XS.icmpNo X0.here hx rfl (hb hby d4_19) rfl (teq hc19_2).2 k) ?_
        show Go p e below s₁ (mkF m 22 #[.val (.int x0)] []) _
        obtain ⟨T3, X3, e3, st3⟩ := getS2 X0 hx hZ hown (host := "") (Or.inl (hw _ (List.mem_of_getElem? (i := 68) rfl))) Via.refl e0 (S2.ext OL.2) (g := (mkF m 22 #[.val (.int x0)] [])) rfl (hb hby d4_22)
        refine Go.of (fun _ k => st3 _ k) ?_
        show Go p e below T3 (mkF m 25 #[.val (.int x0)] [(.ref (aF 2))]) _
        refine Go.retA X3 hx hret hlk rfl rfl (hb hby d4_25) e3 (by decide) (by decide) ?_
        exact ⟨by rw [hc19_2], N0, rfl⟩
      · refine Go.of (fun _ k => XS.icmpYes X0.here hx rfl (pc0 := 19) (pc' := 26) rfl (hb hby d4_19) rfl (feq hc19_2).2 (by decide) (by decide) k) ?_
        show Go p e below s₁ (mkF m 26 #[.val (.int x0)] []) _
        refine Go.of (fun _ k => XS.iloadN X0.here hx rfl (hb hby d4_26) rfl  k) ?_
        show Go p e below s₁ (mkF m 27 #[.val (.int x0)] [(.int x0)]) _
        refine Go.of (fun _ k => XS.iconst X0.here hx rfl (hb hby d4_27) k) ?_
        show Go p e below s₁ (mkF m 28 #[.val (.int x0)] [(.int (3 : Int32)), (.int x0)]) _
        by_cases hc28_3 : x0 = (3 : Int32)
        · refine Go.of (fun _ k => XS.icmpNo X0.here hx rfl (hb hby d4_28) rfl (teq hc28_3).2 k) ?_
          show Go p e below s₁ (mkF m 31 #[.val (.int x0)] []) _
          obtain ⟨T4, X4, e4, st4⟩ := getS2 X0 hx hZ hown (host := "") (Or.inl (hw _ (List.mem_of_getElem? (i := 48) rfl))) Via.refl e0 (S3.ext OL.2) (g := (mkF m 31 #[.val (.int x0)] [])) rfl (hb hby d4_31)
          refine Go.of (fun _ k => st4 _ k) ?_
          show Go p e below T4 (mkF m 34 #[.val (.int x0)] [(.ref (aF 3))]) _
          refine Go.retA X4 hx hret hlk rfl rfl (hb hby d4_34) e4 (by decide) (by decide) ?_
          exact ⟨by rw [hc28_3], N0, rfl⟩
        · refine Go.of (fun _ k => XS.icmpYes X0.here hx rfl (pc0 := 28) (pc' := 35) rfl (hb hby d4_28) rfl (feq hc28_3).2 (by decide) (by decide) k) ?_
          show Go p e below s₁ (mkF m 35 #[.val (.int x0)] []) _
          obtain ⟨T5, X5, e5, st5⟩ := getS2 X0 hx hZ hown (host := "") (Or.inl (hw _ (List.mem_of_getElem? (i := 66) rfl))) Via.refl e0 (S4.ext OL.2) (g := (mkF m 35 #[.val (.int x0)] [])) rfl (hb hby d4_35)
          refine Go.of (fun _ k => st5 _ k) ?_
          show Go p e below T5 (mkF m 38 #[.val (.int x0)] [(.ref (aF 4))]) _
          refine Go.retA X5 hx hret hlk rfl rfl (hb hby d4_38) e5 (by decide) (by decide) ?_
          obtain rfl : x0 = 4 := by
            rcases own_5 hi1 hi2 with h | h | h | h | h <;> first | exact h | (exfalso; simp_all; done)
          exact ⟨rfl, N0, rfl⟩
theorem d6_0 : decode jdk_30_method_1_code 0 = .ok (.aload_n 0, 1) := by decide +kernel
theorem d6_1 : decode jdk_30_method_1_code 1 = .ok (.invokespecial 1, 3) := by decide +kernel
theorem d6_4 : decode jdk_30_method_1_code 4 = .ok (.return_, 1) := by decide +kernel
theorem own_pn2 : plainName "java/lang/Record" = true := by first | (simp [plainName, overriddenIn]; done) | decide +kernel
theorem own_ef_rm6 (m : MethodId) (x0 : Addr) : entryFrame m #[(.ref x0)] 1 = mkF m 0 #[.val (.ref x0)] [] := by first | (simp [entryFrame, mkF, argsToLocals, Value.category]; done) | rfl
def Q_rm6 (Z : State) (x0 : Addr) (h0 : Heap) (n0 : Nat) : Option Value → Heap → List Loc → Prop := fun v h L => v = none ∧ Fr n0 L ∧ h = h0
set_option maxRecDepth 65536 in
set_option maxHeartbeats 40000000 in
theorem rm6 (l : Launch) (Z : State) (a0 : Array Value) (hw : ∀ d ∈ tables_1, d.before a0 Z = true) (ws : List Jvm.Cond) (x0 : Addr) (h0 : Heap) (n0 : Nat) (Z0 : n0 ≤ h0.size)  :
    Ctr l Z (⟨"java/lang/Record", "<init>", "()V"⟩ : MethodName) jdk_30_method_1_code 1 none ws ({ frames := 1, cells := 0, slots := 0, locals := 12 } : Room) #[(.ref x0)] h0 (Q_rm6 Z x0 h0 n0) := by
  refine Ctr.intro (plainFor_of_name own_pn2) ?_
  intro p e s m below meth c s₁ hx hby hml hown hnm hret hlk hZ X0 e0
  have hown : s.vm.findClass "java/lang/Record" = some m.cls := hown
  have hml : c.maxLocals = 1 := hml
  have N0 := Fr.nil n0
  refine Go.cast (own_ef_rm6 m x0) ?_
  show Go p e below s₁ (mkF m 0 #[.val (.ref x0)] []) _
  refine Go.of (fun _ k => XS.aloadN X0.here hx rfl (hb hby d6_0) rfl rfl  k) ?_
  show Go p e below s₁ (mkF m 1 #[.val (.ref x0)] [(.ref x0)]) _
  obtain ⟨T1, X1, e1, st1⟩ := initO X0 hx hZ hown (hw _ (List.mem_of_getElem? (i := 41) rfl)) (hw _ (List.mem_of_getElem? (i := 13) rfl)) (hw _ (List.mem_of_getElem? (i := 14) rfl)) e0 (g := (mkF m 1 #[.val (.ref x0)] [(.ref x0)])) rfl (by rw [hml]; rfl) rfl (hb hby d6_1) (by decide) (W := 0) (by show 2 * 0 + _ ≤ _; exact Nat.le_of_eq rfl) (by decide)
  refine Go.of (fun _ k => st1 _ k) ?_
  show Go p e below T1 (mkF m 4 #[.val (.ref x0)] []) _
  refine Go.ret0 X1 hx hret hlk (hb hby d6_4) e1 (by decide) (by decide) ?_
  exact ⟨rfl, N0, rfl⟩
theorem d5_0 : decode prog_81_method_1_code 0 = .ok (.aload_n 0, 1) := by decide +kernel
theorem d5_1 : decode prog_81_method_1_code 1 = .ok (.invokespecial 1, 3) := by decide +kernel
theorem own_pd1 : parseMethodDescriptor "()V" = some ⟨[], none⟩ := by decide +kernel
theorem d5_4 : decode prog_81_method_1_code 4 = .ok (.aload_n 0, 1) := by decide +kernel
theorem d5_5 : decode prog_81_method_1_code 5 = .ok (.aload_n 1, 1) := by decide +kernel
theorem d5_6 : decode prog_81_method_1_code 6 = .ok (.putfield 7, 3) := by decide +kernel
theorem d5_9 : decode prog_81_method_1_code 9 = .ok (.aload_n 0, 1) := by decide +kernel
theorem d5_10 : decode prog_81_method_1_code 10 = .ok (.aload_n 2, 1) := by decide +kernel
theorem d5_11 : decode prog_81_method_1_code 11 = .ok (.putfield 13, 3) := by decide +kernel
theorem d5_14 : decode prog_81_method_1_code 14 = .ok (.aload_n 0, 1) := by decide +kernel
theorem d5_15 : decode prog_81_method_1_code 15 = .ok (.iload_n 3, 1) := by decide +kernel
theorem d5_16 : decode prog_81_method_1_code 16 = .ok (.putfield 17, 3) := by decide +kernel
theorem d5_19 : decode prog_81_method_1_code 19 = .ok (.return_, 1) := by decide +kernel
theorem own_pn3 : plainName "com/example/automata_over_chains/automataoverchains/Tokens$Token" = true := by first | (simp [plainName, overriddenIn]; done) | decide +kernel
theorem own_ef_rm5 (m : MethodId) (x0 : Addr) (x1 : Addr) (x2 : Addr) (x3 : Int32) : entryFrame m #[(.ref x0), (.ref x1), (.ref x2), (.int x3)] 4 = mkF m 0 #[.val (.ref x0), .val (.ref x1), .val (.ref x2), .val (.int x3)] [] := by first | (simp [entryFrame, mkF, argsToLocals, Value.category]; done) | rfl
def Q_rm5 (Z : State) (x0 x1 x2 : Addr) (x3 : Int32) (h0 : Heap) (n0 : Nat) : Option Value → Heap → List Loc → Prop := fun v h L => v = none ∧ Fr n0 L ∧ Keep h0 h [x0] ∧ Exa Z h x0 "com/example/automata_over_chains/automataoverchains/Tokens$Token" ∧ Fld Z h x0 "com/example/automata_over_chains/automataoverchains/Tokens$Token" "kind" "Lcom/example/automata_over_chains/automataoverchains/Tokens$Kind;" (.ref x1) ∧ Fld Z h x0 "com/example/automata_over_chains/automataoverchains/Tokens$Token" "text" "Ljava/lang/String;" (.ref x2) ∧ Fld Z h x0 "com/example/automata_over_chains/automataoverchains/Tokens$Token" "column" "I" (.int x3)
set_option maxRecDepth 65536 in
set_option maxHeartbeats 40000000 in
theorem rm5 (l : Launch) (Z : State) (a0 : Array Value) (hw : ∀ d ∈ tables_1, d.before a0 Z = true) (ws : List Jvm.Cond) (x0 x1 x2 : Addr) (x3 : Int32) (h0 : Heap) (n0 : Nat) (Z0 : n0 ≤ h0.size) (g0 : n0 ≤ x0) (E_x0 : Exa Z h0 x0 "com/example/automata_over_chains/automataoverchains/Tokens$Token") (F_kind : Fld Z h0 x0 "com/example/automata_over_chains/automataoverchains/Tokens$Token" "kind" "Lcom/example/automata_over_chains/automataoverchains/Tokens$Kind;" .null) (F_text : Fld Z h0 x0 "com/example/automata_over_chains/automataoverchains/Tokens$Token" "text" "Ljava/lang/String;" .null) (F_column : Fld Z h0 x0 "com/example/automata_over_chains/automataoverchains/Tokens$Token" "column" "I" (.int 0)) :
    Ctr l Z (⟨"com/example/automata_over_chains/automataoverchains/Tokens$Token", "<init>", "(Lcom/example/automata_over_chains/automataoverchains/Tokens$Kind;Ljava/lang/String;I)V"⟩ : MethodName) prog_81_method_1_code 4 none ws ({ frames := 2, cells := 0, slots := 0, locals := 24 } : Room) #[(.ref x0), (.ref x1), (.ref x2), (.int x3)] h0 (Q_rm5 Z x0 x1 x2 x3 h0 n0) := by
  refine Ctr.intro (plainFor_of_name own_pn3) ?_
  intro p e s m below meth c s₁ hx hby hml hown hnm hret hlk hZ X0 e0
  have hown : s.vm.findClass "com/example/automata_over_chains/automataoverchains/Tokens$Token" = some m.cls := hown
  have hml : c.maxLocals = 4 := hml
  have N0 := Fr.nil n0
  refine Go.cast (own_ef_rm5 m x0 x1 x2 x3) ?_
  have KK := Keep.refl h0 [x0]
  show Go p e below s₁ (mkF m 0 #[.val (.ref x0), .val (.ref x1), .val (.ref x2), .val (.int x3)] []) _
  refine Go.of (fun _ k => XS.aloadN X0.here hx rfl (hb hby d5_0) rfl rfl  k) ?_
  show Go p e below s₁ (mkF m 1 #[.val (.ref x0), .val (.ref x1), .val (.ref x2), .val (.int x3)] [(.ref x0)]) _
  obtain ⟨_, _, ⟨T1, L1, kq1, nq1⟩, -, X1, ⟨Lc1, hQ1, l1, y1, z1⟩, st1⟩ := X0.specialBack hx (y := (⟨"java/lang/Record", "<init>", "()V"⟩ : MethodName)) rfl hown (mvT hZ (hw _ (List.mem_of_getElem? (i := 36) rfl))) (mvT hZ (hw _ (List.mem_of_getElem? (i := 37) rfl))) (mvT hZ (hw _ (List.mem_of_getElem? (i := 40) rfl))) (by decide) (backOf (W := 0) (rm6 l Z a0 hw [] x0 h0 n0 Z0 ) hZ (hw _ (List.mem_of_getElem? (i := 40) rfl)) (hw _ (List.mem_of_getElem? (i := 39) rfl)) (by decide) (by decide)) (g := (mkF m 1 #[.val (.ref x0), .val (.ref x1), .val (.ref x2), .val (.int x3)] [(.ref x0)])) rfl (by rw [hml]; rfl) (Steps.refl _) (a := x0) (argsL := []) (rest := []) (lenOf own_pd1 rfl) rfl (by show 2 * 0 + _ ≤ _; exact Nat.le_of_eq rfl) (hb hby d5_1) (fun _ _ => ⟨rfl, e0, (by decide : 0 + 0 ≤ _), (by decide : 0 + 0 ≤ _)⟩)
  dsimp only [Pt.U, Pt.locs, Pt.cells, Pt.slots] at X1 l1 y1 z1 st1 hQ1
  subst l1 y1 z1
  obtain ⟨rfl, Nq1, e1⟩ := hQ1
  have e1 := e1.trans rfl
  have N1 := Fr.app N0 Nq1
  refine Go.of (fun _ k => st1.trans k) ?_
  show Go p e below T1 (mkF m 4 #[.val (.ref x0), .val (.ref x1), .val (.ref x2), .val (.int x3)] []) _
  refine Go.of (fun _ k => XS.aloadN X1.here hx rfl (hb hby d5_4) rfl rfl  k) ?_
  show Go p e below T1 (mkF m 5 #[.val (.ref x0), .val (.ref x1), .val (.ref x2), .val (.int x3)] [(.ref x0)]) _
  refine Go.of (fun _ k => XS.aloadN X1.here hx rfl (hb hby d5_5) rfl rfl  k) ?_
  show Go p e below T1 (mkF m 6 #[.val (.ref x0), .val (.ref x1), .val (.ref x2), .val (.int x3)] [(.ref x1), (.ref x0)]) _
  obtain ⟨T2, h2, X2, e2, W2, st2⟩ := putF X1 hx hZ hown (host := "") (Or.inl (hw _ (List.mem_of_getElem? (i := 42) rfl))) Via.refl e1 F_kind E_x0 (Or.inr ⟨(hw _ (List.mem_of_getElem? (i := 43) rfl)), rfl, hnm⟩) (hw _ (List.mem_of_getElem? (i := 24) rfl)) (ty := (.object "com/example/automata_over_chains/automataoverchains/Tokens$Kind")) (by decide) rfl rfl (g := (mkF m 6 #[.val (.ref x0), .val (.ref x1), .val (.ref x2), .val (.int x3)] [(.ref x1), (.ref x0)])) rfl rfl (hb hby d5_6)
  have N2 := Fr.snoc X2 N1 g0
  have F_kind := F_kind.same W2
  have KK := KK.wr W2 (Or.inl (List.mem_of_getElem? (i := 0) rfl))
  have E_x0 := E_x0.wr W2
  have Z0 := Nat.le_trans Z0 (Keep.of_wr W2).1
  have F_text := F_text.other W2 (Or.inr (slot_ne (Or.inr (hw _ (List.mem_of_getElem? (i := 45) rfl))) (Or.inr (hw _ (List.mem_of_getElem? (i := 43) rfl))) (by decide) (t := (.object "java/lang/String")) (t' := (.object "com/example/automata_over_chains/automataoverchains/Tokens$Kind")) (by decide) (by decide)))
  have F_column := F_column.other W2 (Or.inr (slot_ne (Or.inr (hw _ (List.mem_of_getElem? (i := 47) rfl))) (Or.inr (hw _ (List.mem_of_getElem? (i := 43) rfl))) (by decide) (t := .int) (t' := (.object "com/example/automata_over_chains/automataoverchains/Tokens$Kind")) (by decide) (by decide)))
  refine Go.of (fun _ k => st2 _ k) ?_
  show Go p e below T2 (mkF m 9 #[.val (.ref x0), .val (.ref x1), .val (.ref x2), .val (.int x3)] []) _
  refine Go.of (fun _ k => XS.aloadN X2.here hx rfl (hb hby d5_9) rfl rfl  k) ?_
  show Go p e below T2 (mkF m 10 #[.val (.ref x0), .val (.ref x1), .val (.ref x2), .val (.int x3)] [(.ref x0)]) _
  refine Go.of (fun _ k => XS.aloadN X2.here hx rfl (hb hby d5_10) rfl rfl  k) ?_
  show Go p e below T2 (mkF m 11 #[.val (.ref x0), .val (.ref x1), .val (.ref x2), .val (.int x3)] [(.ref x2), (.ref x0)]) _
  obtain ⟨T3, h3, X3, e3, W3, st3⟩ := putF X2 hx hZ hown (host := "") (Or.inl (hw _ (List.mem_of_getElem? (i := 44) rfl))) Via.refl e2 F_text E_x0 (Or.inr ⟨(hw _ (List.mem_of_getElem? (i := 45) rfl)), rfl, hnm⟩) (hw _ (List.mem_of_getElem? (i := 24) rfl)) (ty := (.object "java/lang/String")) (by decide) rfl rfl (g := (mkF m 11 #[.val (.ref x0), .val (.ref x1), .val (.ref x2), .val (.int x3)] [(.ref x2), (.ref x0)])) rfl rfl (hb hby d5_11)
  have N3 := Fr.snoc X3 N2 g0
  have F_text := F_text.same W3
  have KK := KK.wr W3 (Or.inl (List.mem_of_getElem? (i := 0) rfl))
  have E_x0 := E_x0.wr W3
  have Z0 := Nat.le_trans Z0 (Keep.of_wr W3).1
  have F_kind := F_kind.other W3 (Or.inr (slot_ne (Or.inr (hw _ (List.mem_of_getElem? (i := 43) rfl))) (Or.inr (hw _ (List.mem_of_getElem? (i := 45) rfl))) (by decide) (t := (.object "com/example/automata_over_chains/automataoverchains/Tokens$Kind")) (t' := (.object "java/lang/String")) (by decide) (by decide)))
  have F_column := F_column.other W3 (Or.inr (slot_ne (Or.inr (hw _ (List.mem_of_getElem? (i := 47) rfl))) (Or.inr (hw _ (List.mem_of_getElem? (i := 45) rfl))) (by decide) (t := .int) (t' := (.object "java/lang/String")) (by decide) (by decide)))
  refine Go.of (fun _ k => st3 _ k) ?_
  show Go p e below T3 (mkF m 14 #[.val (.ref x0), .val (.ref x1), .val (.ref x2), .val (.int x3)] []) _
  refine Go.of (fun _ k => XS.aloadN X3.here hx rfl (hb hby d5_14) rfl rfl  k) ?_
  show Go p e below T3 (mkF m 15 #[.val (.ref x0), .val (.ref x1), .val (.ref x2), .val (.int x3)] [(.ref x0)]) _
  refine Go.of (fun _ k => XS.iloadN X3.here hx rfl (hb hby d5_15) rfl  k) ?_
  show Go p e below T3 (mkF m 16 #[.val (.ref x0), .val (.ref x1), .val (.ref x2), .val (.int x3)] [(.int x3), (.ref x0)]) _
  obtain ⟨T4, h4, X4, e4, W4, st4⟩ := putF X3 hx hZ hown (host := "") (Or.inl (hw _ (List.mem_of_getElem? (i := 46) rfl))) Via.refl e3 F_column E_x0 (Or.inr ⟨(hw _ (List.mem_of_getElem? (i := 47) rfl)), rfl, hnm⟩) (hw _ (List.mem_of_getElem? (i := 24) rfl)) (ty := .int) (by decide) rfl rfl (g := (mkF m 16 #[.val (.ref x0), .val (.ref x1), .val (.ref x2), .val (.int x3)] [(.int x3), (.ref x0)])) rfl rfl (hb hby d5_16)
  have N4 := Fr.snoc X4 N3 g0
  have F_column := F_column.same W4
  have KK := KK.wr W4 (Or.inl (List.mem_of_getElem? (i := 0) rfl))
  have E_x0 := E_x0.wr W4
  have Z0 := Nat.le_trans Z0 (Keep.of_wr W4).1
  have F_kind := F_kind.other W4 (Or.inr (slot_ne (Or.inr (hw _ (List.mem_of_getElem? (i := 43) rfl))) (Or.inr (hw _ (List.mem_of_getElem? (i := 47) rfl))) (by decide) (t := (.object "com/example/automata_over_chains/automataoverchains/Tokens$Kind")) (t' := .int) (by decide) (by decide)))
  have F_text := F_text.other W4 (Or.inr (slot_ne (Or.inr (hw _ (List.mem_of_getElem? (i := 45) rfl))) (Or.inr (hw _ (List.mem_of_getElem? (i := 47) rfl))) (by decide) (t := (.object "java/lang/String")) (t' := .int) (by decide) (by decide)))
  refine Go.of (fun _ k => st4 _ k) ?_
  show Go p e below T4 (mkF m 19 #[.val (.ref x0), .val (.ref x1), .val (.ref x2), .val (.int x3)] []) _
  refine Go.ret0 X4 hx hret hlk (hb hby d5_19) e4 (by decide) (by decide) ?_
  exact ⟨rfl, N4, KK, E_x0, F_kind, F_text, F_column⟩
theorem d7_0 : decode prog_81_method_2_code 0 = .ok (.aload_n 0, 1) := by decide +kernel
theorem d7_1 : decode prog_81_method_2_code 1 = .ok (.getfield 7, 3) := by decide +kernel
theorem d7_4 : decode prog_81_method_2_code 4 = .ok (.aload_n 1, 1) := by decide +kernel
theorem d7_5 : decode prog_81_method_2_code 5 = .ok (.if_acmp .ne 18, 3) := by decide +kernel
theorem d7_8 : decode prog_81_method_2_code 8 = .ok (.aload_n 0, 1) := by decide +kernel
theorem d7_9 : decode prog_81_method_2_code 9 = .ok (.getfield 13, 3) := by decide +kernel
theorem d7_12 : decode prog_81_method_2_code 12 = .ok (.aload_n 2, 1) := by decide +kernel
theorem d7_13 : decode prog_81_method_2_code 13 = .ok (.invokevirtual 21, 3) := by decide +kernel
theorem own_pd2 : parseMethodDescriptor "(Ljava/lang/Object;)Z" = some ⟨[(.object "java/lang/Object")], some .boolean⟩ := by decide +kernel
theorem d7_16 : decode prog_81_method_2_code 16 = .ok (.ifCond .eq 7, 3) := by decide +kernel
theorem d7_19 : decode prog_81_method_2_code 19 = .ok (.iconst 1, 1) := by decide +kernel
theorem d7_20 : decode prog_81_method_2_code 20 = .ok (.goto 4, 3) := by decide +kernel
theorem d7_24 : decode prog_81_method_2_code 24 = .ok (.ireturn, 1) := by decide +kernel
theorem d7_23 : decode prog_81_method_2_code 23 = .ok (.iconst 0, 1) := by decide +kernel
theorem own_ef_rm7 (m : MethodId) (x0 : Addr) (x1 : Addr) (x2 : Addr) : entryFrame m #[(.ref x0), (.ref x1), (.ref x2)] 3 = mkF m 0 #[.val (.ref x0), .val (.ref x1), .val (.ref x2)] [] := by first | (simp [entryFrame, mkF, argsToLocals, Value.category]; done) | rfl
def Q_rm7 (Z : State) (x0 x1 x2 xs ts ty : Addr) (ks ky : ClassId) (cs ds : List Int32) (ii jj zc : Int32) (aF : Int32 → Addr) (h0 : Heap) (n0 : Nat) : Option Value → Heap → List Loc → Prop := fun v h L => v = some (.int (fIs ii jj cs ds)) ∧ Fr n0 L ∧ h = h0
set_option maxRecDepth 65536 in
set_option maxHeartbeats 40000000 in
theorem rm7 (l : Launch) (Z : State) (a0 : Array Value) (hw : ∀ d ∈ tables_1, d.before a0 Z = true) (ws : List Jvm.Cond) (x0 x1 x2 xs ts ty : Addr) (ks ky : ClassId) (cs ds : List Int32) (ii jj zc : Int32) (aF : Int32 → Addr) (h0 : Heap) (n0 : Nat) (Z0 : n0 ≤ h0.size) (OL : Old Z n0 h0) (HE : ∀ j : Int32, ¬ j < 0 → j < 5 → Exa Z Z.heap (aF j) "com/example/automata_over_chains/automataoverchains/Tokens$Kind" ∧ Fld Z Z.heap (aF j) "java/lang/Enum" "ordinal" "I" (.int j)) (hx1 : x1 = aF jj) (hi1 : ¬ ii < 0) (hi2 : ii < 5) (hj1 : ¬ jj < 0) (hj2 : jj < 5) (F_kind : Fld Z h0 x0 "com/example/automata_over_chains/automataoverchains/Tokens$Token" "kind" "Lcom/example/automata_over_chains/automataoverchains/Tokens$Kind;" (.ref (aF ii))) (F_text : Fld Z h0 x0 "com/example/automata_over_chains/automataoverchains/Tokens$Token" "text" "Ljava/lang/String;" (.ref xs)) (Es_xs : Exa Z h0 xs "java/lang/String") (Fc_xs : Fld Z h0 xs "java/lang/String" "coder" "B" (.int 0)) (Fv_xs : Fld Z h0 xs "java/lang/String" "value" "[B" (.ref ts)) (Vs_xs : Arv Z h0 ts ks .byte (Int32.ofNat cs.length) (byt cs) (.int 0)) (hp_xs : ∀ c ∈ cs, chr c) (hl_xs : cs.length ≤ 3) (Es_x2 : Exa Z h0 x2 "java/lang/String") (Fc_x2 : Fld Z h0 x2 "java/lang/String" "coder" "B" (.int 0)) (Fv_x2 : Fld Z h0 x2 "java/lang/String" "value" "[B" (.ref ty)) (Vs_x2 : Arv Z h0 ty ky .byte (Int32.ofNat ds.length) (byt ds) (.int 0)) (hp_x2 : ∀ c ∈ ds, chr c) (hl_x2 : ds.length ≤ 3) (O2 : Sta Z Z.heap "java/lang/String" "COMPACT_STRINGS" "Z" (.int zc)) (hzc : ¬ zc = 0) :
    Ctr l Z (⟨"com/example/automata_over_chains/automataoverchains/Tokens$Token", "is", "(Lcom/example/automata_over_chains/automataoverchains/Tokens$Kind;Ljava/lang/String;)Z"⟩ : MethodName) prog_81_method_2_code 3 (some .boolean) ws ({ frames := 2, cells := 0, slots := 0, locals := 28 } : Room) #[(.ref x0), (.ref x1), (.ref x2)] h0 (Q_rm7 Z x0 x1 x2 xs ts ty ks ky cs ds ii jj zc aF h0 n0) := by
  refine Ctr.intro (plainFor_of_name own_pn3) ?_
  intro p e s m below meth c s₁ hx hby hml hown hnm hret hlk hZ X0 e0
  have hown : s.vm.findClass "com/example/automata_over_chains/automataoverchains/Tokens$Token" = some m.cls := hown
  have hml : c.maxLocals = 3 := hml
  have N0 := Fr.nil n0
  refine Go.cast (own_ef_rm7 m x0 x1 x2) ?_
  have own_ne : ¬ (ii = jj) → aF ii = aF jj → False := fun h1 h4 => (Fld.ne (HE ii hi1 hi2).2 (HE jj hj1 hj2).2 (fun q => h1 (Value.int.inj q))) h4
  show Go p e below s₁ (mkF m 0 #[.val (.ref x0), .val (.ref x1), .val (.ref x2)] []) _
  refine Go.of (fun _ k => XS.aloadN X0.here hx rfl (hb hby d7_0) rfl rfl  k) ?_
  show Go p e below s₁ (mkF m 1 #[.val (.ref x0), .val (.ref x1), .val (.ref x2)] [(.ref x0)]) _
  obtain ⟨T1, X1, e1, st1⟩ := getF X0 hx hZ hown (host := "") (Or.inl (hw _ (List.mem_of_getElem? (i := 42) rfl))) Via.refl e0 F_kind (g := (mkF m 1 #[.val (.ref x0), .val (.ref x1), .val (.ref x2)] [(.ref x0)])) rfl rfl (hb hby d7_1)
  refine Go.of (fun _ k => st1 _ k) ?_
  show Go p e below T1 (mkF m 4 #[.val (.ref x0), .val (.ref x1), .val (.ref x2)] [(.ref (aF ii))]) _
  refine Go.of (fun _ k => XS.aloadN X1.here hx rfl (hb hby d7_4) rfl rfl  k) ?_
  show Go p e below T1 (mkF m 5 #[.val (.ref x0), .val (.ref x1), .val (.ref x2)] [(.ref x1), (.ref (aF ii))]) _
  by_cases hij : ii = jj
  · refine Go.of (fun _ k => Jvm.RoadKit.acmp (g := (mkF m 5 #[.val (.ref x0), .val (.ref x1), .val (.ref x2)] [(.ref x1), (.ref (aF ii))])) X1 hx rfl rfl rfl (pc0 := 5) (pc' := 8) (same := true) rfl (hb hby d7_5) rfl (decide_eq_true (by rw [hx1, hij])) (by decide) (by decide) k) ?_
    show Go p e below T1 (mkF m 8 #[.val (.ref x0), .val (.ref x1), .val (.ref x2)] []) _
    refine Go.of (fun _ k => XS.aloadN X1.here hx rfl (hb hby d7_8) rfl rfl  k) ?_
    show Go p e below T1 (mkF m 9 #[.val (.ref x0), .val (.ref x1), .val (.ref x2)] [(.ref x0)]) _
    obtain ⟨T2, X2, e2, st2⟩ := getF X1 hx hZ hown (host := "") (Or.inl (hw _ (List.mem_of_getElem? (i := 44) rfl))) Via.refl e1 F_text (g := (mkF m 9 #[.val (.ref x0), .val (.ref x1), .val (.ref x2)] [(.ref x0)])) rfl rfl (hb hby d7_9)
    refine Go.of (fun _ k => st2 _ k) ?_
    show Go p e below T2 (mkF m 12 #[.val (.ref x0), .val (.ref x1), .val (.ref x2)] [(.ref xs)]) _
    refine Go.of (fun _ k => XS.aloadN X2.here hx rfl (hb hby d7_12) rfl rfl  k) ?_
    show Go p e below T2 (mkF m 13 #[.val (.ref x0), .val (.ref x1), .val (.ref x2)] [(.ref x2), (.ref xs)]) _
    obtain ⟨cq3, kq3, q3a, q3b, q3c⟩ := isOf hZ e2 Es_xs
    obtain ⟨_, _, ⟨T3, L3, kq3, nq3⟩, -, X3, ⟨Lc3, hQ3, l3, y3, z3⟩, st3⟩ := X2.virtualBack hx (y := (⟨"java/lang/String", "equals", "(Ljava/lang/Object;)Z"⟩ : MethodName)) (z := (⟨"java/lang/String", "equals", "(Ljava/lang/Object;)Z"⟩ : MethodName)) hown (mvT hZ (hw _ (List.mem_of_getElem? (i := 70) rfl))) (mvT hZ (hw _ (List.mem_of_getElem? (i := 71) rfl))) (notFace_of_selects (args := #[]) (mvT hZ (hw _ (List.mem_of_getElem? (i := 73) rfl)))) (mvT hZ (hw _ (List.mem_of_getElem? (i := 73) rfl))) (mvT hZ (hw _ (List.mem_of_getElem? (i := 72) rfl))) (by decide) (StrChars.Road.eqW (W := 0) hZ (own_weq hw) (kI := 4) (hw _ (List.mem_of_getElem? (i := 3) rfl)) Es_xs Fv_xs Fc_xs Vs_xs (StrChars.Road.codOf (n := cs.length) rfl (fun c hc => (hp_xs c hc).2)) (own_up hp_xs) (by omega) Es_x2 Fv_x2 Fc_x2 Vs_x2 (StrChars.Road.codOf (n := ds.length) rfl (fun c hc => (hp_x2 c hc).2)) (own_up hp_x2) (by omega) (O2.ext OL.2) hzc (by decide) (by decide)) q3a q3c (g := (mkF m 13 #[.val (.ref x0), .val (.ref x1), .val (.ref x2)] [(.ref x2), (.ref xs)])) rfl (by rw [hml]; rfl) (Steps.refl _) (argsL := [(.ref x2)]) (rest := []) (lenOf own_pd2 rfl) rfl (by show 2 * 0 + _ ≤ _; exact Nat.le_of_eq rfl) (hb hby d7_13) (fun _ _ => ⟨rfl, e2, (by decide : 0 + 0 ≤ _), (by decide : 0 + 0 ≤ _)⟩)
    dsimp only [Pt.U, Pt.locs, Pt.cells, Pt.slots] at X3 l3 y3 z3 st3 hQ3
    subst l3 y3 z3
    obtain ⟨hcase, rfl, e3⟩ := hQ3
    have N3 := Fr.app N0 (Fr.nil n0)
    rcases hcase with ⟨rfl, hq⟩ | ⟨rfl, hq⟩
    · refine Go.of (fun _ k => st3.trans k) ?_
      show Go p e below T3 (mkF m 16 #[.val (.ref x0), .val (.ref x1), .val (.ref x2)] [(.int (1 : Int32))]) _
      refine Go.of (fun _ k => XS.ifNo X3.here hx rfl (hb hby d7_16) rfl ((if0 _ _).trans (feq (show ¬ ((1 : Int32) = (0 : Int32)) from (by decide))).1) k) ?_
      show Go p e below T3 (mkF m 19 #[.val (.ref x0), .val (.ref x1), .val (.ref x2)] []) _
      refine Go.of (fun _ k => XS.iconst X3.here hx rfl (hb hby d7_19) k) ?_
      show Go p e below T3 (mkF m 20 #[.val (.ref x0), .val (.ref x1), .val (.ref x2)] [(.int (1 : Int32))]) _
      refine Go.of (fun _ k => XS.goto X3.here hx rfl (pc0 := 20) (pc' := 24) rfl (hb hby d7_20) (by decide) (by decide) k) ?_
      show Go p e below T3 (mkF m 24 #[.val (.ref x0), .val (.ref x1), .val (.ref x2)] [(.int (1 : Int32))]) _
      refine Go.retN X3 hx (t := .boolean) hret hlk (by simp) (hb hby d7_24) e3 (by decide) (by decide) ?_
      exact ⟨show some (Value.int (1 : Int32)) = _ from by simp [fIs, *], N3, rfl⟩
    · refine Go.of (fun _ k => st3.trans k) ?_
      show Go p e below T3 (mkF m 16 #[.val (.ref x0), .val (.ref x1), .val (.ref x2)] [(.int (0 : Int32))]) _
      refine Go.of (fun _ k => XS.ifYes X3.here hx rfl (pc0 := 16) (pc' := 23) rfl (hb hby d7_16) rfl ((if0 _ _).trans (teq (show (0 : Int32) = (0 : Int32) from (by decide))).1) (by decide) (by decide) k) ?_
      show Go p e below T3 (mkF m 23 #[.val (.ref x0), .val (.ref x1), .val (.ref x2)] []) _
      refine Go.of (fun _ k => XS.iconst X3.here hx rfl (hb hby d7_23) k) ?_
      show Go p e below T3 (mkF m 24 #[.val (.ref x0), .val (.ref x1), .val (.ref x2)] [(.int (0 : Int32))]) _
      refine Go.retN X3 hx (t := .boolean) hret hlk (by simp) (hb hby d7_24) e3 (by decide) (by decide) ?_
      exact ⟨show some (Value.int (0 : Int32)) = _ from by simp [fIs, *], N3, rfl⟩
  · refine Go.of (fun _ k => Jvm.RoadKit.acmp (g := (mkF m 5 #[.val (.ref x0), .val (.ref x1), .val (.ref x2)] [(.ref x1), (.ref (aF ii))])) X1 hx rfl rfl rfl (pc0 := 5) (pc' := 23) (same := false) rfl (hb hby d7_5) rfl (decide_eq_false fun q => own_ne hij ((Value.ref.inj q).trans hx1)) (by decide) (by decide) k) ?_
    show Go p e below T1 (mkF m 23 #[.val (.ref x0), .val (.ref x1), .val (.ref x2)] []) _
    refine Go.of (fun _ k => XS.iconst X1.here hx rfl (hb hby d7_23) k) ?_
    show Go p e below T1 (mkF m 24 #[.val (.ref x0), .val (.ref x1), .val (.ref x2)] [(.int (0 : Int32))]) _
    refine Go.retN X1 hx (t := .boolean) hret hlk (by simp) (hb hby d7_24) e1 (by decide) (by decide) ?_
    exact ⟨show some (Value.int (0 : Int32)) = _ from by simp [fIs, *], N0, rfl⟩
theorem own_pd3 : parseMethodDescriptor "([C)V" = some ⟨[(.array .char)], none⟩ := by decide +kernel
theorem own_pd4 : parseMethodDescriptor "(I)Lcom/example/automata_over_chains/automataoverchains/Tokens$Kind;" = some ⟨[.int], some (.object "com/example/automata_over_chains/automataoverchains/Tokens$Kind")⟩ := by decide +kernel
theorem own_pd5 : parseMethodDescriptor "(Lcom/example/automata_over_chains/automataoverchains/Tokens$Kind;Ljava/lang/String;I)V" = some ⟨[(.object "com/example/automata_over_chains/automataoverchains/Tokens$Kind"), (.object "java/lang/String"), .int], none⟩ := by decide +kernel
theorem own_pd6 : parseMethodDescriptor "(Lcom/example/automata_over_chains/automataoverchains/Tokens$Kind;Ljava/lang/String;)Z" = some ⟨[(.object "com/example/automata_over_chains/automataoverchains/Tokens$Kind"), (.object "java/lang/String")], some .boolean⟩ := by decide +kernel
theorem own_ef_rm0 (m : MethodId) (x0 : Int32) (x1 : Int32) (x2 : Int32) (x3 : Int32) (x4 : Int32) (x5 : Int32) : entryFrame m #[(.int x0), (.int x1), (.int x2), (.int x3), (.int x4), (.int x5)] maxLocals = mkF m 0 #[.val (.int x0), .val (.int x1), .val (.int x2), .val (.int x3), .val (.int x4), .val (.int x5), .unset, .unset, .unset, .unset, .unset, .unset, .unset, .unset, .unset, .unset, .unset, .unset, .unset, .unset, .unset, .unset] [] := by first | (simp [entryFrame, mkF, argsToLocals, Value.category, maxLocals]; done) | rfl
def Q_rm0 (Z : State) (x0 x1 x2 x3 x4 x5 : Int32) (aF : Int32 → Addr) (zc : Int32) (h0 : Heap) (n0 : Nat) : Option Value → Heap → List Loc → Prop := fun v h L => v = some (.int 1) ∧ Fr n0 L
set_option maxRecDepth 65536 in
set_option maxHeartbeats 40000000 in
theorem rm0 (l : Launch) (Z : State) (a0 : Array Value) (hw : ∀ d ∈ tables_1, d.before a0 Z = true) (ws : List Jvm.Cond) (x0 x1 x2 x3 x4 x5 : Int32) (aF : Int32 → Addr) (zc : Int32) (h0 : Heap) (n0 : Nat) (Z0 : n0 ≤ h0.size) (OL : Old Z n0 h0) (HE : ∀ j : Int32, ¬ j < 0 → j < 5 → Exa Z Z.heap (aF j) "com/example/automata_over_chains/automataoverchains/Tokens$Kind" ∧ Fld Z Z.heap (aF j) "java/lang/Enum" "ordinal" "I" (.int j)) (S0 : Sta Z Z.heap "com/example/automata_over_chains/automataoverchains/Tokens$Kind" "NAME" "Lcom/example/automata_over_chains/automataoverchains/Tokens$Kind;" (.ref (aF 0))) (S1 : Sta Z Z.heap "com/example/automata_over_chains/automataoverchains/Tokens$Kind" "LABEL" "Lcom/example/automata_over_chains/automataoverchains/Tokens$Kind;" (.ref (aF 1))) (S2 : Sta Z Z.heap "com/example/automata_over_chains/automataoverchains/Tokens$Kind" "NUMBER" "Lcom/example/automata_over_chains/automataoverchains/Tokens$Kind;" (.ref (aF 2))) (S3 : Sta Z Z.heap "com/example/automata_over_chains/automataoverchains/Tokens$Kind" "SYMBOL" "Lcom/example/automata_over_chains/automataoverchains/Tokens$Kind;" (.ref (aF 3))) (S4 : Sta Z Z.heap "com/example/automata_over_chains/automataoverchains/Tokens$Kind" "END" "Lcom/example/automata_over_chains/automataoverchains/Tokens$Kind;" (.ref (aF 4))) (O2 : Sta Z Z.heap "java/lang/String" "COMPACT_STRINGS" "Z" (.int zc)) (hzc : ¬ zc = 0) :
    CtrH l Z EL x code maxLocals ret ws room_1 #[(.int x0), (.int x1), (.int x2), (.int x3), (.int x4), (.int x5)] h0 (Q_rm0 Z x0 x1 x2 x3 x4 x5 aF zc h0 n0) := by
  refine CtrH.intro (plainFor_of_name own_pn1) ?_
  intro p e s m below meth c s₁ hx hby hml hown hnm hret hlk hZ X0 e0 hs0 hC0
  have hown : (s.setVm s.vm).vm.findClass "com/example/automata_over_chains/automataoverchains/TokenIsPinLaw" = some m.cls := hown
  have hml : c.maxLocals = 22 := hml
  have N0 := Fr.nil n0
  refine Go.cast (own_ef_rm0 m x0 x1 x2 x3 x4 x5) ?_
  have hS : s.Since s.vm 0 := own_since s
  have hk : 0 ≤ h0.size := Nat.zero_le _
  have HR := CHr.refl hC0
  have hEL := own_EL hw
  have wS := own_wS hw
  show Go p e below s₁ (mkF m 0 #[.val (.int x0), .val (.int x1), .val (.int x2), .val (.int x3), .val (.int x4), .val (.int x5), .unset, .unset, .unset, .unset, .unset, .unset, .unset, .unset, .unset, .unset, .unset, .unset, .unset, .unset, .unset, .unset] []) _
  refine Go.of (fun _ k => XS.iloadN X0.here hx rfl (hb hby at_0) rfl  k) ?_
  show Go p e below s₁ (mkF m 1 #[.val (.int x0), .val (.int x1), .val (.int x2), .val (.int x3), .val (.int x4), .val (.int x5), .unset, .unset, .unset, .unset, .unset, .unset, .unset, .unset, .unset, .unset, .unset, .unset, .unset, .unset, .unset, .unset] [(.int x0)]) _
  refine Go.of (fun _ k => X0.ldcInt hx hown (mvT hZ (hw _ (List.mem_of_getElem? (i := 0) rfl))) (g := (mkF m 1 #[.val (.int x0), .val (.int x1), .val (.int x2), .val (.int x3), .val (.int x4), .val (.int x5), .unset, .unset, .unset, .unset, .unset, .unset, .unset, .unset, .unset, .unset, .unset, .unset, .unset, .unset, .unset, .unset] [(.int x0)])) rfl (hb hby at_1) _ k) ?_
  show Go p e below s₁ (mkF m 3 #[.val (.int x0), .val (.int x1), .val (.int x2), .val (.int x3), .val (.int x4), .val (.int x5), .unset, .unset, .unset, .unset, .unset, .unset, .unset, .unset, .unset, .unset, .unset, .unset, .unset, .unset, .unset, .unset] [(.int (2147483647 : Int32)), (.int x0)]) _
  refine Go.of (fun _ k => XS.iand X0.here hx rfl (hb hby at_3) rfl k) ?_
  show Go p e below s₁ (mkF m 4 #[.val (.int x0), .val (.int x1), .val (.int x2), .val (.int x3), .val (.int x4), .val (.int x5), .unset, .unset, .unset, .unset, .unset, .unset, .unset, .unset, .unset, .unset, .unset, .unset, .unset, .unset, .unset, .unset] [(.int (x0 &&& (2147483647 : Int32)))]) _
  refine Go.of (fun _ k => XS.iconst X0.here hx rfl (hb hby at_4) k) ?_
  show Go p e below s₁ (mkF m 5 #[.val (.int x0), .val (.int x1), .val (.int x2), .val (.int x3), .val (.int x4), .val (.int x5), .unset, .unset, .unset, .unset, .unset, .unset, .unset, .unset, .unset, .unset, .unset, .unset, .unset, .unset, .unset, .unset] [(.int (5 : Int32)), (.int (x0 &&& (2147483647 : Int32)))]) _
  refine Go.of (fun _ k => iremM X0 hx rfl (hb hby at_5) rfl (by decide) k) ?_
  show Go p e below s₁ (mkF m 6 #[.val (.int x0), .val (.int x1), .val (.int x2), .val (.int x3), .val (.int x4), .val (.int x5), .unset, .unset, .unset, .unset, .unset, .unset, .unset, .unset, .unset, .unset, .unset, .unset, .unset, .unset, .unset, .unset] [(.int ((x0 &&& (2147483647 : Int32)) % (5 : Int32)))]) _
  refine Go.of (fun _ k => XS.istore X0.here hx rfl (hb hby at_6) rfl (l' := #[.val (.int x0), .val (.int x1), .val (.int x2), .val (.int x3), .val (.int x4), .val (.int x5), .val (.int ((x0 &&& (2147483647 : Int32)) % (5 : Int32))), .unset, .unset, .unset, .unset, .unset, .unset, .unset, .unset, .unset, .unset, .unset, .unset, .unset, .unset, .unset]) rfl k) ?_
  show Go p e below s₁ (mkF m 8 #[.val (.int x0), .val (.int x1), .val (.int x2), .val (.int x3), .val (.int x4), .val (.int x5), .val (.int ((x0 &&& (2147483647 : Int32)) % (5 : Int32))), .unset, .unset, .unset, .unset, .unset, .unset, .unset, .unset, .unset, .unset, .unset, .unset, .unset, .unset, .unset] []) _
  generalize h_ii : ((x0 &&& (2147483647 : Int32)) % (5 : Int32)) = ii
  have r_ii := own_rem (x := x0 &&& 2147483647) (y := 5) (own_mask31 _).1 (by decide)
  rw [h_ii, k5] at r_ii
  have p_ii : ¬ ii < 0 := by rw [own_lt, k0]; omega
  have q_ii : ii < 5 := by rw [own_lt, k5]; omega
  refine Go.of (fun _ k => XS.iloadN X0.here hx rfl (hb hby at_8) rfl  k) ?_
  show Go p e below s₁ (mkF m 9 #[.val (.int x0), .val (.int x1), .val (.int x2), .val (.int x3), .val (.int x4), .val (.int x5), .val (.int ii), .unset, .unset, .unset, .unset, .unset, .unset, .unset, .unset, .unset, .unset, .unset, .unset, .unset, .unset, .unset] [(.int x1)]) _
  refine Go.of (fun _ k => X0.ldcInt hx hown (mvT hZ (hw _ (List.mem_of_getElem? (i := 0) rfl))) (g := (mkF m 9 #[.val (.int x0), .val (.int x1), .val (.int x2), .val (.int x3), .val (.int x4), .val (.int x5), .val (.int ii), .unset, .unset, .unset, .unset, .unset, .unset, .unset, .unset, .unset, .unset, .unset, .unset, .unset, .unset, .unset] [(.int x1)])) rfl (hb hby at_9) _ k) ?_
  show Go p e below s₁ (mkF m 11 #[.val (.int x0), .val (.int x1), .val (.int x2), .val (.int x3), .val (.int x4), .val (.int x5), .val (.int ii), .unset, .unset, .unset, .unset, .unset, .unset, .unset, .unset, .unset, .unset, .unset, .unset, .unset, .unset, .unset] [(.int (2147483647 : Int32)), (.int x1)]) _
  refine Go.of (fun _ k => XS.iand X0.here hx rfl (hb hby at_11) rfl k) ?_
  show Go p e below s₁ (mkF m 12 #[.val (.int x0), .val (.int x1), .val (.int x2), .val (.int x3), .val (.int x4), .val (.int x5), .val (.int ii), .unset, .unset, .unset, .unset, .unset, .unset, .unset, .unset, .unset, .unset, .unset, .unset, .unset, .unset, .unset] [(.int (x1 &&& (2147483647 : Int32)))]) _
  refine Go.of (fun _ k => XS.iconst X0.here hx rfl (hb hby at_12) k) ?_
  show Go p e below s₁ (mkF m 13 #[.val (.int x0), .val (.int x1), .val (.int x2), .val (.int x3), .val (.int x4), .val (.int x5), .val (.int ii), .unset, .unset, .unset, .unset, .unset, .unset, .unset, .unset, .unset, .unset, .unset, .unset, .unset, .unset, .unset] [(.int (5 : Int32)), (.int (x1 &&& (2147483647 : Int32)))]) _
  refine Go.of (fun _ k => iremM X0 hx rfl (hb hby at_13) rfl (by decide) k) ?_
  show Go p e below s₁ (mkF m 14 #[.val (.int x0), .val (.int x1), .val (.int x2), .val (.int x3), .val (.int x4), .val (.int x5), .val (.int ii), .unset, .unset, .unset, .unset, .unset, .unset, .unset, .unset, .unset, .unset, .unset, .unset, .unset, .unset, .unset] [(.int ((x1 &&& (2147483647 : Int32)) % (5 : Int32)))]) _
  refine Go.of (fun _ k => XS.istore X0.here hx rfl (hb hby at_14) rfl (l' := #[.val (.int x0), .val (.int x1), .val (.int x2), .val (.int x3), .val (.int x4), .val (.int x5), .val (.int ii), .val (.int ((x1 &&& (2147483647 : Int32)) % (5 : Int32))), .unset, .unset, .unset, .unset, .unset, .unset, .unset, .unset, .unset, .unset, .unset, .unset, .unset, .unset]) rfl k) ?_
  show Go p e below s₁ (mkF m 16 #[.val (.int x0), .val (.int x1), .val (.int x2), .val (.int x3), .val (.int x4), .val (.int x5), .val (.int ii), .val (.int ((x1 &&& (2147483647 : Int32)) % (5 : Int32))), .unset, .unset, .unset, .unset, .unset, .unset, .unset, .unset, .unset, .unset, .unset, .unset, .unset, .unset] []) _
  generalize h_jj : ((x1 &&& (2147483647 : Int32)) % (5 : Int32)) = jj
  have r_jj := own_rem (x := x1 &&& 2147483647) (y := 5) (own_mask31 _).1 (by decide)
  rw [h_jj, k5] at r_jj
  have p_jj : ¬ jj < 0 := by rw [own_lt, k0]; omega
  have q_jj : jj < 5 := by rw [own_lt, k5]; omega
  refine Go.of (fun _ k => XS.iload X0.here hx rfl (hb hby at_16) rfl  k) ?_
  show Go p e below s₁ (mkF m 18 #[.val (.int x0), .val (.int x1), .val (.int x2), .val (.int x3), .val (.int x4), .val (.int x5), .val (.int ii), .val (.int jj), .unset, .unset, .unset, .unset, .unset, .unset, .unset, .unset, .unset, .unset, .unset, .unset, .unset, .unset] [(.int x4)]) _
  refine Go.of (fun _ k => X0.ldcInt hx hown (mvT hZ (hw _ (List.mem_of_getElem? (i := 0) rfl))) (g := (mkF m 18 #[.val (.int x0), .val (.int x1), .val (.int x2), .val (.int x3), .val (.int x4), .val (.int x5), .val (.int ii), .val (.int jj), .unset, .unset, .unset, .unset, .unset, .unset, .unset, .unset, .unset, .unset, .unset, .unset, .unset, .unset] [(.int x4)])) rfl (hb hby at_18) _ k) ?_
  show Go p e below s₁ (mkF m 20 #[.val (.int x0), .val (.int x1), .val (.int x2), .val (.int x3), .val (.int x4), .val (.int x5), .val (.int ii), .val (.int jj), .unset, .unset, .unset, .unset, .unset, .unset, .unset, .unset, .unset, .unset, .unset, .unset, .unset, .unset] [(.int (2147483647 : Int32)), (.int x4)]) _
  refine Go.of (fun _ k => XS.iand X0.here hx rfl (hb hby at_20) rfl k) ?_
  show Go p e below s₁ (mkF m 21 #[.val (.int x0), .val (.int x1), .val (.int x2), .val (.int x3), .val (.int x4), .val (.int x5), .val (.int ii), .val (.int jj), .unset, .unset, .unset, .unset, .unset, .unset, .unset, .unset, .unset, .unset, .unset, .unset, .unset, .unset] [(.int (x4 &&& (2147483647 : Int32)))]) _
  refine Go.of (fun _ k => XS.iconst X0.here hx rfl (hb hby at_21) k) ?_
  show Go p e below s₁ (mkF m 22 #[.val (.int x0), .val (.int x1), .val (.int x2), .val (.int x3), .val (.int x4), .val (.int x5), .val (.int ii), .val (.int jj), .unset, .unset, .unset, .unset, .unset, .unset, .unset, .unset, .unset, .unset, .unset, .unset, .unset, .unset] [(.int (3 : Int32)), (.int (x4 &&& (2147483647 : Int32)))]) _
  refine Go.of (fun _ k => iremM X0 hx rfl (hb hby at_22) rfl (by decide) k) ?_
  show Go p e below s₁ (mkF m 23 #[.val (.int x0), .val (.int x1), .val (.int x2), .val (.int x3), .val (.int x4), .val (.int x5), .val (.int ii), .val (.int jj), .unset, .unset, .unset, .unset, .unset, .unset, .unset, .unset, .unset, .unset, .unset, .unset, .unset, .unset] [(.int ((x4 &&& (2147483647 : Int32)) % (3 : Int32)))]) _
  refine Go.of (fun _ k => XS.istore X0.here hx rfl (hb hby at_23) rfl (l' := #[.val (.int x0), .val (.int x1), .val (.int x2), .val (.int x3), .val (.int x4), .val (.int x5), .val (.int ii), .val (.int jj), .val (.int ((x4 &&& (2147483647 : Int32)) % (3 : Int32))), .unset, .unset, .unset, .unset, .unset, .unset, .unset, .unset, .unset, .unset, .unset, .unset, .unset]) rfl k) ?_
  show Go p e below s₁ (mkF m 25 #[.val (.int x0), .val (.int x1), .val (.int x2), .val (.int x3), .val (.int x4), .val (.int x5), .val (.int ii), .val (.int jj), .val (.int ((x4 &&& (2147483647 : Int32)) % (3 : Int32))), .unset, .unset, .unset, .unset, .unset, .unset, .unset, .unset, .unset, .unset, .unset, .unset, .unset] []) _
  generalize h_l1 : ((x4 &&& (2147483647 : Int32)) % (3 : Int32)) = l1
  have r_l1 := own_rem (x := x4 &&& 2147483647) (y := 3) (own_mask31 _).1 (by decide)
  rw [h_l1, k3] at r_l1
  have hl_l1 := own_3 r_l1
  refine Go.of (fun _ k => XS.iload X0.here hx rfl (hb hby at_25) rfl  k) ?_
  show Go p e below s₁ (mkF m 27 #[.val (.int x0), .val (.int x1), .val (.int x2), .val (.int x3), .val (.int x4), .val (.int x5), .val (.int ii), .val (.int jj), .val (.int l1), .unset, .unset, .unset, .unset, .unset, .unset, .unset, .unset, .unset, .unset, .unset, .unset, .unset] [(.int x4)]) _
  refine Go.of (fun _ k => XS.bipush X0.here hx rfl (hb hby at_27) k) ?_
  show Go p e below s₁ (mkF m 29 #[.val (.int x0), .val (.int x1), .val (.int x2), .val (.int x3), .val (.int x4), .val (.int x5), .val (.int ii), .val (.int jj), .val (.int l1), .unset, .unset, .unset, .unset, .unset, .unset, .unset, .unset, .unset, .unset, .unset, .unset, .unset] [(.int (8 : Int32)), (.int x4)]) _
  refine Go.of (fun _ k => XS.iushr X0.here hx rfl (hb hby at_29) rfl k) ?_
  show Go p e below s₁ (mkF m 30 #[.val (.int x0), .val (.int x1), .val (.int x2), .val (.int x3), .val (.int x4), .val (.int x5), .val (.int ii), .val (.int jj), .val (.int l1), .unset, .unset, .unset, .unset, .unset, .unset, .unset, .unset, .unset, .unset, .unset, .unset, .unset] [(.int ((x4.toUInt32 >>> ((8 : Int32) &&& 31).toUInt32).toInt32))]) _
  refine Go.of (fun _ k => X0.ldcInt hx hown (mvT hZ (hw _ (List.mem_of_getElem? (i := 0) rfl))) (g := (mkF m 30 #[.val (.int x0), .val (.int x1), .val (.int x2), .val (.int x3), .val (.int x4), .val (.int x5), .val (.int ii), .val (.int jj), .val (.int l1), .unset, .unset, .unset, .unset, .unset, .unset, .unset, .unset, .unset, .unset, .unset, .unset, .unset] [(.int ((x4.toUInt32 >>> ((8 : Int32) &&& 31).toUInt32).toInt32))])) rfl (hb hby at_30) _ k) ?_
  show Go p e below s₁ (mkF m 32 #[.val (.int x0), .val (.int x1), .val (.int x2), .val (.int x3), .val (.int x4), .val (.int x5), .val (.int ii), .val (.int jj), .val (.int l1), .unset, .unset, .unset, .unset, .unset, .unset, .unset, .unset, .unset, .unset, .unset, .unset, .unset] [(.int (2147483647 : Int32)), (.int ((x4.toUInt32 >>> ((8 : Int32) &&& 31).toUInt32).toInt32))]) _
  refine Go.of (fun _ k => XS.iand X0.here hx rfl (hb hby at_32) rfl k) ?_
  show Go p e below s₁ (mkF m 33 #[.val (.int x0), .val (.int x1), .val (.int x2), .val (.int x3), .val (.int x4), .val (.int x5), .val (.int ii), .val (.int jj), .val (.int l1), .unset, .unset, .unset, .unset, .unset, .unset, .unset, .unset, .unset, .unset, .unset, .unset, .unset] [(.int (((x4.toUInt32 >>> ((8 : Int32) &&& 31).toUInt32).toInt32) &&& (2147483647 : Int32)))]) _
  refine Go.of (fun _ k => XS.iconst X0.here hx rfl (hb hby at_33) k) ?_
  show Go p e below s₁ (mkF m 34 #[.val (.int x0), .val (.int x1), .val (.int x2), .val (.int x3), .val (.int x4), .val (.int x5), .val (.int ii), .val (.int jj), .val (.int l1), .unset, .unset, .unset, .unset, .unset, .unset, .unset, .unset, .unset, .unset, .unset, .unset, .unset] [(.int (3 : Int32)), (.int (((x4.toUInt32 >>> ((8 : Int32) &&& 31).toUInt32).toInt32) &&& (2147483647 : Int32)))]) _
  refine Go.of (fun _ k => iremM X0 hx rfl (hb hby at_34) rfl (by decide) k) ?_
  show Go p e below s₁ (mkF m 35 #[.val (.int x0), .val (.int x1), .val (.int x2), .val (.int x3), .val (.int x4), .val (.int x5), .val (.int ii), .val (.int jj), .val (.int l1), .unset, .unset, .unset, .unset, .unset, .unset, .unset, .unset, .unset, .unset, .unset, .unset, .unset] [(.int ((((x4.toUInt32 >>> ((8 : Int32) &&& 31).toUInt32).toInt32) &&& (2147483647 : Int32)) % (3 : Int32)))]) _
  refine Go.of (fun _ k => XS.istore X0.here hx rfl (hb hby at_35) rfl (l' := #[.val (.int x0), .val (.int x1), .val (.int x2), .val (.int x3), .val (.int x4), .val (.int x5), .val (.int ii), .val (.int jj), .val (.int l1), .val (.int ((((x4.toUInt32 >>> ((8 : Int32) &&& 31).toUInt32).toInt32) &&& (2147483647 : Int32)) % (3 : Int32))), .unset, .unset, .unset, .unset, .unset, .unset, .unset, .unset, .unset, .unset, .unset, .unset]) rfl k) ?_
  show Go p e below s₁ (mkF m 37 #[.val (.int x0), .val (.int x1), .val (.int x2), .val (.int x3), .val (.int x4), .val (.int x5), .val (.int ii), .val (.int jj), .val (.int l1), .val (.int ((((x4.toUInt32 >>> ((8 : Int32) &&& 31).toUInt32).toInt32) &&& (2147483647 : Int32)) % (3 : Int32))), .unset, .unset, .unset, .unset, .unset, .unset, .unset, .unset, .unset, .unset, .unset, .unset] []) _
  generalize h_l2 : ((((x4.toUInt32 >>> ((8 : Int32) &&& 31).toUInt32).toInt32) &&& (2147483647 : Int32)) % (3 : Int32)) = l2
  have r_l2 := own_rem (x := (x4.toUInt32 >>> ((8 : Int32) &&& 31).toUInt32).toInt32 &&& 2147483647) (y := 3) (own_mask31 _).1 (by decide)
  rw [h_l2, k3] at r_l2
  have hl_l2 := own_3 r_l2
  refine Go.of (fun _ k => XS.iloadN X0.here hx rfl (hb hby at_37) rfl  k) ?_
  show Go p e below s₁ (mkF m 38 #[.val (.int x0), .val (.int x1), .val (.int x2), .val (.int x3), .val (.int x4), .val (.int x5), .val (.int ii), .val (.int jj), .val (.int l1), .val (.int l2), .unset, .unset, .unset, .unset, .unset, .unset, .unset, .unset, .unset, .unset, .unset, .unset] [(.int x2)]) _
  refine Go.of (fun _ k => XS.sipush X0.here hx rfl (hb hby at_38) k) ?_
  show Go p e below s₁ (mkF m 41 #[.val (.int x0), .val (.int x1), .val (.int x2), .val (.int x3), .val (.int x4), .val (.int x5), .val (.int ii), .val (.int jj), .val (.int l1), .val (.int l2), .unset, .unset, .unset, .unset, .unset, .unset, .unset, .unset, .unset, .unset, .unset, .unset] [(.int (255 : Int32)), (.int x2)]) _
  refine Go.of (fun _ k => XS.iand X0.here hx rfl (hb hby at_41) rfl k) ?_
  show Go p e below s₁ (mkF m 42 #[.val (.int x0), .val (.int x1), .val (.int x2), .val (.int x3), .val (.int x4), .val (.int x5), .val (.int ii), .val (.int jj), .val (.int l1), .val (.int l2), .unset, .unset, .unset, .unset, .unset, .unset, .unset, .unset, .unset, .unset, .unset, .unset] [(.int (x2 &&& (255 : Int32)))]) _
  refine Go.of (fun _ k => XS.i2c X0.here hx rfl (hb hby at_42) rfl k) ?_
  show Go p e below s₁ (mkF m 43 #[.val (.int x0), .val (.int x1), .val (.int x2), .val (.int x3), .val (.int x4), .val (.int x5), .val (.int ii), .val (.int jj), .val (.int l1), .val (.int l2), .unset, .unset, .unset, .unset, .unset, .unset, .unset, .unset, .unset, .unset, .unset, .unset] [(.int ((x2 &&& (255 : Int32)).toUInt32.toUInt16.toUInt32.toInt32))]) _
  refine Go.of (fun _ k => XS.istore X0.here hx rfl (hb hby at_43) rfl (l' := #[.val (.int x0), .val (.int x1), .val (.int x2), .val (.int x3), .val (.int x4), .val (.int x5), .val (.int ii), .val (.int jj), .val (.int l1), .val (.int l2), .val (.int ((x2 &&& (255 : Int32)).toUInt32.toUInt16.toUInt32.toInt32)), .unset, .unset, .unset, .unset, .unset, .unset, .unset, .unset, .unset, .unset, .unset]) rfl k) ?_
  show Go p e below s₁ (mkF m 45 #[.val (.int x0), .val (.int x1), .val (.int x2), .val (.int x3), .val (.int x4), .val (.int x5), .val (.int ii), .val (.int jj), .val (.int l1), .val (.int l2), .val (.int ((x2 &&& (255 : Int32)).toUInt32.toUInt16.toUInt32.toInt32)), .unset, .unset, .unset, .unset, .unset, .unset, .unset, .unset, .unset, .unset, .unset] []) _
  generalize h_c0 : ((x2 &&& (255 : Int32)).toUInt32.toUInt16.toUInt32.toInt32) = c0
  have b_c0 : chr c0 := by rw [← h_c0]; exact own_ch _
  refine Go.of (fun _ k => XS.iloadN X0.here hx rfl (hb hby at_45) rfl  k) ?_
  show Go p e below s₁ (mkF m 46 #[.val (.int x0), .val (.int x1), .val (.int x2), .val (.int x3), .val (.int x4), .val (.int x5), .val (.int ii), .val (.int jj), .val (.int l1), .val (.int l2), .val (.int c0), .unset, .unset, .unset, .unset, .unset, .unset, .unset, .unset, .unset, .unset, .unset] [(.int x2)]) _
  refine Go.of (fun _ k => XS.bipush X0.here hx rfl (hb hby at_46) k) ?_
  show Go p e below s₁ (mkF m 48 #[.val (.int x0), .val (.int x1), .val (.int x2), .val (.int x3), .val (.int x4), .val (.int x5), .val (.int ii), .val (.int jj), .val (.int l1), .val (.int l2), .val (.int c0), .unset, .unset, .unset, .unset, .unset, .unset, .unset, .unset, .unset, .unset, .unset] [(.int (8 : Int32)), (.int x2)]) _
  refine Go.of (fun _ k => XS.iushr X0.here hx rfl (hb hby at_48) rfl k) ?_
  show Go p e below s₁ (mkF m 49 #[.val (.int x0), .val (.int x1), .val (.int x2), .val (.int x3), .val (.int x4), .val (.int x5), .val (.int ii), .val (.int jj), .val (.int l1), .val (.int l2), .val (.int c0), .unset, .unset, .unset, .unset, .unset, .unset, .unset, .unset, .unset, .unset, .unset] [(.int ((x2.toUInt32 >>> ((8 : Int32) &&& 31).toUInt32).toInt32))]) _
  refine Go.of (fun _ k => XS.sipush X0.here hx rfl (hb hby at_49) k) ?_
  show Go p e below s₁ (mkF m 52 #[.val (.int x0), .val (.int x1), .val (.int x2), .val (.int x3), .val (.int x4), .val (.int x5), .val (.int ii), .val (.int jj), .val (.int l1), .val (.int l2), .val (.int c0), .unset, .unset, .unset, .unset, .unset, .unset, .unset, .unset, .unset, .unset, .unset] [(.int (255 : Int32)), (.int ((x2.toUInt32 >>> ((8 : Int32) &&& 31).toUInt32).toInt32))]) _
  refine Go.of (fun _ k => XS.iand X0.here hx rfl (hb hby at_52) rfl k) ?_
  show Go p e below s₁ (mkF m 53 #[.val (.int x0), .val (.int x1), .val (.int x2), .val (.int x3), .val (.int x4), .val (.int x5), .val (.int ii), .val (.int jj), .val (.int l1), .val (.int l2), .val (.int c0), .unset, .unset, .unset, .unset, .unset, .unset, .unset, .unset, .unset, .unset, .unset] [(.int (((x2.toUInt32 >>> ((8 : Int32) &&& 31).toUInt32).toInt32) &&& (255 : Int32)))]) _
  refine Go.of (fun _ k => XS.i2c X0.here hx rfl (hb hby at_53) rfl k) ?_
  show Go p e below s₁ (mkF m 54 #[.val (.int x0), .val (.int x1), .val (.int x2), .val (.int x3), .val (.int x4), .val (.int x5), .val (.int ii), .val (.int jj), .val (.int l1), .val (.int l2), .val (.int c0), .unset, .unset, .unset, .unset, .unset, .unset, .unset, .unset, .unset, .unset, .unset] [(.int ((((x2.toUInt32 >>> ((8 : Int32) &&& 31).toUInt32).toInt32) &&& (255 : Int32)).toUInt32.toUInt16.toUInt32.toInt32))]) _
  refine Go.of (fun _ k => XS.istore X0.here hx rfl (hb hby at_54) rfl (l' := #[.val (.int x0), .val (.int x1), .val (.int x2), .val (.int x3), .val (.int x4), .val (.int x5), .val (.int ii), .val (.int jj), .val (.int l1), .val (.int l2), .val (.int c0), .val (.int ((((x2.toUInt32 >>> ((8 : Int32) &&& 31).toUInt32).toInt32) &&& (255 : Int32)).toUInt32.toUInt16.toUInt32.toInt32)), .unset, .unset, .unset, .unset, .unset, .unset, .unset, .unset, .unset, .unset]) rfl k) ?_
  show Go p e below s₁ (mkF m 56 #[.val (.int x0), .val (.int x1), .val (.int x2), .val (.int x3), .val (.int x4), .val (.int x5), .val (.int ii), .val (.int jj), .val (.int l1), .val (.int l2), .val (.int c0), .val (.int ((((x2.toUInt32 >>> ((8 : Int32) &&& 31).toUInt32).toInt32) &&& (255 : Int32)).toUInt32.toUInt16.toUInt32.toInt32)), .unset, .unset, .unset, .unset, .unset, .unset, .unset, .unset, .unset, .unset] []) _
  generalize h_c1 : ((((x2.toUInt32 >>> ((8 : Int32) &&& 31).toUInt32).toInt32) &&& (255 : Int32)).toUInt32.toUInt16.toUInt32.toInt32) = c1
  have b_c1 : chr c1 := by rw [← h_c1]; exact own_ch _
  refine Go.of (fun _ k => XS.iloadN X0.here hx rfl (hb hby at_56) rfl  k) ?_
  show Go p e below s₁ (mkF m 57 #[.val (.int x0), .val (.int x1), .val (.int x2), .val (.int x3), .val (.int x4), .val (.int x5), .val (.int ii), .val (.int jj), .val (.int l1), .val (.int l2), .val (.int c0), .val (.int c1), .unset, .unset, .unset, .unset, .unset, .unset, .unset, .unset, .unset, .unset] [(.int x3)]) _
  refine Go.of (fun _ k => XS.iconst X0.here hx rfl (hb hby at_57) k) ?_
  show Go p e below s₁ (mkF m 58 #[.val (.int x0), .val (.int x1), .val (.int x2), .val (.int x3), .val (.int x4), .val (.int x5), .val (.int ii), .val (.int jj), .val (.int l1), .val (.int l2), .val (.int c0), .val (.int c1), .unset, .unset, .unset, .unset, .unset, .unset, .unset, .unset, .unset, .unset] [(.int (2 : Int32)), (.int x3)]) _
  refine Go.of (fun _ k => XS.iushr X0.here hx rfl (hb hby at_58) rfl k) ?_
  show Go p e below s₁ (mkF m 59 #[.val (.int x0), .val (.int x1), .val (.int x2), .val (.int x3), .val (.int x4), .val (.int x5), .val (.int ii), .val (.int jj), .val (.int l1), .val (.int l2), .val (.int c0), .val (.int c1), .unset, .unset, .unset, .unset, .unset, .unset, .unset, .unset, .unset, .unset] [(.int ((x3.toUInt32 >>> ((2 : Int32) &&& 31).toUInt32).toInt32))]) _
  refine Go.of (fun _ k => XS.sipush X0.here hx rfl (hb hby at_59) k) ?_
  show Go p e below s₁ (mkF m 62 #[.val (.int x0), .val (.int x1), .val (.int x2), .val (.int x3), .val (.int x4), .val (.int x5), .val (.int ii), .val (.int jj), .val (.int l1), .val (.int l2), .val (.int c0), .val (.int c1), .unset, .unset, .unset, .unset, .unset, .unset, .unset, .unset, .unset, .unset] [(.int (255 : Int32)), (.int ((x3.toUInt32 >>> ((2 : Int32) &&& 31).toUInt32).toInt32))]) _
  refine Go.of (fun _ k => XS.iand X0.here hx rfl (hb hby at_62) rfl k) ?_
  show Go p e below s₁ (mkF m 63 #[.val (.int x0), .val (.int x1), .val (.int x2), .val (.int x3), .val (.int x4), .val (.int x5), .val (.int ii), .val (.int jj), .val (.int l1), .val (.int l2), .val (.int c0), .val (.int c1), .unset, .unset, .unset, .unset, .unset, .unset, .unset, .unset, .unset, .unset] [(.int (((x3.toUInt32 >>> ((2 : Int32) &&& 31).toUInt32).toInt32) &&& (255 : Int32)))]) _
  refine Go.of (fun _ k => XS.i2c X0.here hx rfl (hb hby at_63) rfl k) ?_
  show Go p e below s₁ (mkF m 64 #[.val (.int x0), .val (.int x1), .val (.int x2), .val (.int x3), .val (.int x4), .val (.int x5), .val (.int ii), .val (.int jj), .val (.int l1), .val (.int l2), .val (.int c0), .val (.int c1), .unset, .unset, .unset, .unset, .unset, .unset, .unset, .unset, .unset, .unset] [(.int ((((x3.toUInt32 >>> ((2 : Int32) &&& 31).toUInt32).toInt32) &&& (255 : Int32)).toUInt32.toUInt16.toUInt32.toInt32))]) _
  refine Go.of (fun _ k => XS.istore X0.here hx rfl (hb hby at_64) rfl (l' := #[.val (.int x0), .val (.int x1), .val (.int x2), .val (.int x3), .val (.int x4), .val (.int x5), .val (.int ii), .val (.int jj), .val (.int l1), .val (.int l2), .val (.int c0), .val (.int c1), .val (.int ((((x3.toUInt32 >>> ((2 : Int32) &&& 31).toUInt32).toInt32) &&& (255 : Int32)).toUInt32.toUInt16.toUInt32.toInt32)), .unset, .unset, .unset, .unset, .unset, .unset, .unset, .unset, .unset]) rfl k) ?_
  show Go p e below s₁ (mkF m 66 #[.val (.int x0), .val (.int x1), .val (.int x2), .val (.int x3), .val (.int x4), .val (.int x5), .val (.int ii), .val (.int jj), .val (.int l1), .val (.int l2), .val (.int c0), .val (.int c1), .val (.int ((((x3.toUInt32 >>> ((2 : Int32) &&& 31).toUInt32).toInt32) &&& (255 : Int32)).toUInt32.toUInt16.toUInt32.toInt32)), .unset, .unset, .unset, .unset, .unset, .unset, .unset, .unset, .unset] []) _
  generalize h_d0 : ((((x3.toUInt32 >>> ((2 : Int32) &&& 31).toUInt32).toInt32) &&& (255 : Int32)).toUInt32.toUInt16.toUInt32.toInt32) = d0
  have b_d0 : chr d0 := by rw [← h_d0]; exact own_ch _
  refine Go.of (fun _ k => XS.iloadN X0.here hx rfl (hb hby at_66) rfl  k) ?_
  show Go p e below s₁ (mkF m 67 #[.val (.int x0), .val (.int x1), .val (.int x2), .val (.int x3), .val (.int x4), .val (.int x5), .val (.int ii), .val (.int jj), .val (.int l1), .val (.int l2), .val (.int c0), .val (.int c1), .val (.int d0), .unset, .unset, .unset, .unset, .unset, .unset, .unset, .unset, .unset] [(.int x3)]) _
  refine Go.of (fun _ k => XS.bipush X0.here hx rfl (hb hby at_67) k) ?_
  show Go p e below s₁ (mkF m 69 #[.val (.int x0), .val (.int x1), .val (.int x2), .val (.int x3), .val (.int x4), .val (.int x5), .val (.int ii), .val (.int jj), .val (.int l1), .val (.int l2), .val (.int c0), .val (.int c1), .val (.int d0), .unset, .unset, .unset, .unset, .unset, .unset, .unset, .unset, .unset] [(.int (10 : Int32)), (.int x3)]) _
  refine Go.of (fun _ k => XS.iushr X0.here hx rfl (hb hby at_69) rfl k) ?_
  show Go p e below s₁ (mkF m 70 #[.val (.int x0), .val (.int x1), .val (.int x2), .val (.int x3), .val (.int x4), .val (.int x5), .val (.int ii), .val (.int jj), .val (.int l1), .val (.int l2), .val (.int c0), .val (.int c1), .val (.int d0), .unset, .unset, .unset, .unset, .unset, .unset, .unset, .unset, .unset] [(.int ((x3.toUInt32 >>> ((10 : Int32) &&& 31).toUInt32).toInt32))]) _
  refine Go.of (fun _ k => XS.sipush X0.here hx rfl (hb hby at_70) k) ?_
  show Go p e below s₁ (mkF m 73 #[.val (.int x0), .val (.int x1), .val (.int x2), .val (.int x3), .val (.int x4), .val (.int x5), .val (.int ii), .val (.int jj), .val (.int l1), .val (.int l2), .val (.int c0), .val (.int c1), .val (.int d0), .unset, .unset, .unset, .unset, .unset, .unset, .unset, .unset, .unset] [(.int (255 : Int32)), (.int ((x3.toUInt32 >>> ((10 : Int32) &&& 31).toUInt32).toInt32))]) _
  refine Go.of (fun _ k => XS.iand X0.here hx rfl (hb hby at_73) rfl k) ?_
  show Go p e below s₁ (mkF m 74 #[.val (.int x0), .val (.int x1), .val (.int x2), .val (.int x3), .val (.int x4), .val (.int x5), .val (.int ii), .val (.int jj), .val (.int l1), .val (.int l2), .val (.int c0), .val (.int c1), .val (.int d0), .unset, .unset, .unset, .unset, .unset, .unset, .unset, .unset, .unset] [(.int (((x3.toUInt32 >>> ((10 : Int32) &&& 31).toUInt32).toInt32) &&& (255 : Int32)))]) _
  refine Go.of (fun _ k => XS.i2c X0.here hx rfl (hb hby at_74) rfl k) ?_
  show Go p e below s₁ (mkF m 75 #[.val (.int x0), .val (.int x1), .val (.int x2), .val (.int x3), .val (.int x4), .val (.int x5), .val (.int ii), .val (.int jj), .val (.int l1), .val (.int l2), .val (.int c0), .val (.int c1), .val (.int d0), .unset, .unset, .unset, .unset, .unset, .unset, .unset, .unset, .unset] [(.int ((((x3.toUInt32 >>> ((10 : Int32) &&& 31).toUInt32).toInt32) &&& (255 : Int32)).toUInt32.toUInt16.toUInt32.toInt32))]) _
  refine Go.of (fun _ k => XS.istore X0.here hx rfl (hb hby at_75) rfl (l' := #[.val (.int x0), .val (.int x1), .val (.int x2), .val (.int x3), .val (.int x4), .val (.int x5), .val (.int ii), .val (.int jj), .val (.int l1), .val (.int l2), .val (.int c0), .val (.int c1), .val (.int d0), .val (.int ((((x3.toUInt32 >>> ((10 : Int32) &&& 31).toUInt32).toInt32) &&& (255 : Int32)).toUInt32.toUInt16.toUInt32.toInt32)), .unset, .unset, .unset, .unset, .unset, .unset, .unset, .unset]) rfl k) ?_
  show Go p e below s₁ (mkF m 77 #[.val (.int x0), .val (.int x1), .val (.int x2), .val (.int x3), .val (.int x4), .val (.int x5), .val (.int ii), .val (.int jj), .val (.int l1), .val (.int l2), .val (.int c0), .val (.int c1), .val (.int d0), .val (.int ((((x3.toUInt32 >>> ((10 : Int32) &&& 31).toUInt32).toInt32) &&& (255 : Int32)).toUInt32.toUInt16.toUInt32.toInt32)), .unset, .unset, .unset, .unset, .unset, .unset, .unset, .unset] []) _
  generalize h_d1 : ((((x3.toUInt32 >>> ((10 : Int32) &&& 31).toUInt32).toInt32) &&& (255 : Int32)).toUInt32.toUInt16.toUInt32.toInt32) = d1
  have b_d1 : chr d1 := by rw [← h_d1]; exact own_ch _
  have J91 : ∀ (f0 : Int32) (f1 : Int32), (chr f0) → (chr f1) → Go p e below s₁ (mkF m 91 #[.val (.int x0), .val (.int x1), .val (.int x2), .val (.int x3), .val (.int x4), .val (.int x5), .val (.int ii), .val (.int jj), .val (.int l1), .val (.int l2), .val (.int c0), .val (.int c1), .val (.int f0), .val (.int f1), .unset, .unset, .unset, .unset, .unset, .unset, .unset, .unset] []) (KQH Z EL s (Q_rm0 Z x0 x1 x2 x3 x4 x5 aF zc h0 n0) room_1.cells room_1.slots) := by
    intro f0 f1 b_f0 b_f1
    have S120 : ∀ (T1 : State) (h1 : Heap) (L1 : List Loc) (tA : Addr) (kA : ClassId), Stand p l e room_1 (s.setVm s.vm) m #[(.int x0), (.int x1), (.int x2), (.int x3), (.int x4), (.int x5)] below meth c T1 L1 1 2 → T1.heap = h1 → Fr n0 L1 → CHr Z EL s.vm h0 s.vm h1 → 0 ≤ h1.size → n0 ≤ h1.size → Old Z n0 h1 → Arv Z h1 tA kA .char l1 ((fCs l1 c0 c1).map Value.int) (.int 0) → Go p e below T1 (mkF m 120 #[.val (.int x0), .val (.int x1), .val (.int x2), .val (.int x3), .val (.int x4), .val (.int x5), .val (.int ii), .val (.int jj), .val (.int l1), .val (.int l2), .val (.int c0), .val (.int c1), .val (.int f0), .val (.int f1), .val (.ref tA), .unset, .unset, .unset, .unset, .unset, .unset, .unset] []) (KQH Z EL s (Q_rm0 Z x0 x1 x2 x3 x4 x5 aF zc h0 n0) room_1.cells room_1.slots) := by
      intro T1 h1 L1 tA kA X1 e1 N1 HR hk Z0 OL V_t
      show Go p e below T1 (mkF m 120 #[.val (.int x0), .val (.int x1), .val (.int x2), .val (.int x3), .val (.int x4), .val (.int x5), .val (.int ii), .val (.int jj), .val (.int l1), .val (.int l2), .val (.int c0), .val (.int c1), .val (.int f0), .val (.int f1), .val (.ref tA), .unset, .unset, .unset, .unset, .unset, .unset, .unset] []) _
      have S149 : ∀ (T2 : State) (h2 : Heap) (L2 : List Loc) (tB : Addr) (kB : ClassId), Stand p l e room_1 (s.setVm s.vm) m #[(.int x0), (.int x1), (.int x2), (.int x3), (.int x4), (.int x5)] below meth c T2 L2 2 4 → T2.heap = h2 → Fr n0 L2 → CHr Z EL s.vm h0 s.vm h2 → 0 ≤ h2.size → n0 ≤ h2.size → Old Z n0 h2 → Arv Z h2 tA kA .char l1 ((fCs l1 c0 c1).map Value.int) (.int 0) → Arv Z h2 tB kB .char l2 ((fCs l2 f0 f1).map Value.int) (.int 0) → Go p e below T2 (mkF m 149 #[.val (.int x0), .val (.int x1), .val (.int x2), .val (.int x3), .val (.int x4), .val (.int x5), .val (.int ii), .val (.int jj), .val (.int l1), .val (.int l2), .val (.int c0), .val (.int c1), .val (.int f0), .val (.int f1), .val (.ref tA), .val (.ref tB), .unset, .unset, .unset, .unset, .unset, .unset] []) (KQH Z EL s (Q_rm0 Z x0 x1 x2 x3 x4 x5 aF zc h0 n0) room_1.cells room_1.slots) := by
        intro T2 h2 L2 tB kB X2 e2 N2 HR hk Z0 OL V_t V_u
        show Go p e below T2 (mkF m 149 #[.val (.int x0), .val (.int x1), .val (.int x2), .val (.int x3), .val (.int x4), .val (.int x5), .val (.int ii), .val (.int jj), .val (.int l1), .val (.int l2), .val (.int c0), .val (.int c1), .val (.int f0), .val (.int f1), .val (.ref tA), .val (.ref tB), .unset, .unset, .unset, .unset, .unset, .unset] []) _
        obtain ⟨T3, h3, X3, e3, E3, A3, D3, -, st3⟩ := newO X2 hx hZ hown (hw _ (List.mem_of_getElem? (i := 2) rfl)) (hw _ (List.mem_of_getElem? (i := 3) rfl)) (hw _ (List.mem_of_getElem? (i := 4) rfl)) e2 (g := (mkF m 149 #[.val (.int x0), .val (.int x1), .val (.int x2), .val (.int x3), .val (.int x4), .val (.int x5), .val (.int ii), .val (.int jj), .val (.int l1), .val (.int l2), .val (.int c0), .val (.int c1), .val (.int f0), .val (.int f1), .val (.ref tA), .val (.ref tB), .unset, .unset, .unset, .unset, .unset, .unset] [])) rfl (hb hby at_149) (by decide) (by decide)
        obtain ⟨ad3, g3⟩ : ∃ z, z = h2.size := ⟨_, rfl⟩
        rw [← g3] at A3 D3 st3
        have ne_tA_ad3 : tA ≠ ad3 := Nat.ne_of_lt (Nat.lt_of_lt_of_le V_t.lt (Nat.le_of_eq g3.symm))
        have ne_tB_ad3 : tB ≠ ad3 := Nat.ne_of_lt (Nat.lt_of_lt_of_le V_u.lt (Nat.le_of_eq g3.symm))
        have ge_ad3 : n0 ≤ ad3 := Nat.le_trans Z0 (Nat.le_of_eq g3.symm)
        have HR := HR.trans (CHr.ext E3 HR.1)
        have hk := Nat.le_trans hk E3.1
        have Z0 := Nat.le_trans Z0 E3.1
        have OL := OL.ext E3
        have V_t := V_t.ext E3
        have V_u := V_u.ext E3
        have E_ad3 := A3
        have F_value_ad3 : Fld Z h3 ad3 "java/lang/String" "value" "[B" .null := D3 (Or.inr (hw _ (List.mem_of_getElem? (i := 17) rfl))) (ty := (.array .byte)) (by decide)
        have F_coder_ad3 : Fld Z h3 ad3 "java/lang/String" "coder" "B" (.int (0 : Int32)) := D3 (Or.inr (hw _ (List.mem_of_getElem? (i := 18) rfl))) (ty := .byte) (by decide)
        refine Go.of (fun _ k => st3 _ k) ?_
        show Go p e below T3 (mkF m 152 #[.val (.int x0), .val (.int x1), .val (.int x2), .val (.int x3), .val (.int x4), .val (.int x5), .val (.int ii), .val (.int jj), .val (.int l1), .val (.int l2), .val (.int c0), .val (.int c1), .val (.int f0), .val (.int f1), .val (.ref tA), .val (.ref tB), .unset, .unset, .unset, .unset, .unset, .unset] [(.ref ad3)]) _
        refine Go.of (fun _ k => XS.dup X3.here hx rfl (hb hby at_152) rfl rfl k) ?_
        show Go p e below T3 (mkF m 153 #[.val (.int x0), .val (.int x1), .val (.int x2), .val (.int x3), .val (.int x4), .val (.int x5), .val (.int ii), .val (.int jj), .val (.int l1), .val (.int l2), .val (.int c0), .val (.int c1), .val (.int f0), .val (.int f1), .val (.ref tA), .val (.ref tB), .unset, .unset, .unset, .unset, .unset, .unset] [(.ref ad3), (.ref ad3)]) _
        refine Go.of (fun _ k => XS.aload X3.here hx rfl (hb hby at_153) rfl rfl  k) ?_
        show Go p e below T3 (mkF m 155 #[.val (.int x0), .val (.int x1), .val (.int x2), .val (.int x3), .val (.int x4), .val (.int x5), .val (.int ii), .val (.int jj), .val (.int l1), .val (.int l2), .val (.int c0), .val (.int c1), .val (.int f0), .val (.int f1), .val (.ref tA), .val (.ref tB), .unset, .unset, .unset, .unset, .unset, .unset] [(.ref tA), (.ref ad3), (.ref ad3)]) _
        have fc1 := own_fcs hl_l1 b_c0 b_c1
        obtain ⟨_, _, ⟨T4, L4, kq4, nq4⟩, -, X4, hS4, hg4, ⟨Lc4, hQ4, l4, y4, z4, hC4⟩, st4⟩ := X3.specialBackS hx (y := (⟨"java/lang/String", "<init>", "([C)V"⟩ : MethodName)) rfl hown (mvT hZ (hw _ (List.mem_of_getElem? (i := 5) rfl))) (mvT hZ (hw _ (List.mem_of_getElem? (i := 6) rfl))) (mvT hZ (hw _ (List.mem_of_getElem? (i := 7) rfl))) (by decide) (own_newS (W := 1) (cs := (fCs l1 c0 c1)) hw hZ HR.1 ge_ad3 Z0 E_ad3 F_value_ad3 F_coder_ad3 V_t (O2.ext OL.2) hzc fc1.1 fc1.2.1 fc1.2.2 (by decide) (by decide)) (g := (mkF m 155 #[.val (.int x0), .val (.int x1), .val (.int x2), .val (.int x3), .val (.int x4), .val (.int x5), .val (.int ii), .val (.int jj), .val (.int l1), .val (.int l2), .val (.int c0), .val (.int c1), .val (.int f0), .val (.int f1), .val (.ref tA), .val (.ref tB), .unset, .unset, .unset, .unset, .unset, .unset] [(.ref tA), (.ref ad3), (.ref ad3)])) rfl (by rw [hml]; rfl) (Steps.refl _) (a := ad3) (argsL := [(.ref tA)]) (rest := [(.ref ad3)]) (lenOf own_pd3 rfl) rfl (by show 2 * 0 + _ ≤ _; exact Nat.le_of_eq rfl) (hb hby at_155) (fun _ _ => ⟨rfl, e3, (by decide : 3 + 4 ≤ _), (by decide : 8 + 12 ≤ _)⟩)
        dsimp only [Pt.U, Pt.locs, Pt.cells, Pt.slots] at X4 l4 y4 z4 st4 hQ4 hS4 hg4 hC4
        subst l4 y4 z4
        obtain ⟨X4, hS, hZ, hown⟩ := rebS hS (by rw [e3]; exact hk) X4 hS4 hg4 hZ hown
        have HR := HR.trans hC4
        have hk : T4.heap.size ≤ T4.heap.size := Nat.le_refl _
        obtain ⟨rfl, Nq4, Kq4, Eq4, Fc4, ts4, ks4, Fv4, Vs4⟩ := hQ4
        have N4 := Fr.app N2 Nq4
        have Z0 := Nat.le_trans Z0 Kq4.1
        have OL := OL.keep Kq4 (allS ge_ad3 all0)
        have V_t := V_t.keep Kq4 (ninS ne_tA_ad3 nin0)
        have V_u := V_u.keep Kq4 (ninS ne_tB_ad3 nin0)
        have E_ad3 := E_ad3.keep Kq4
        refine Go.of (fun _ k => st4.trans k) ?_
        show Go p e below T4 (mkF m 158 #[.val (.int x0), .val (.int x1), .val (.int x2), .val (.int x3), .val (.int x4), .val (.int x5), .val (.int ii), .val (.int jj), .val (.int l1), .val (.int l2), .val (.int c0), .val (.int c1), .val (.int f0), .val (.int f1), .val (.ref tA), .val (.ref tB), .unset, .unset, .unset, .unset, .unset, .unset] [(.ref ad3)]) _
        refine Go.of (fun _ k => XS.astore X4.here hx rfl (hb hby at_158) rfl rfl (l' := #[.val (.int x0), .val (.int x1), .val (.int x2), .val (.int x3), .val (.int x4), .val (.int x5), .val (.int ii), .val (.int jj), .val (.int l1), .val (.int l2), .val (.int c0), .val (.int c1), .val (.int f0), .val (.int f1), .val (.ref tA), .val (.ref tB), .val (.ref ad3), .unset, .unset, .unset, .unset, .unset]) rfl k) ?_
        show Go p e below T4 (mkF m 160 #[.val (.int x0), .val (.int x1), .val (.int x2), .val (.int x3), .val (.int x4), .val (.int x5), .val (.int ii), .val (.int jj), .val (.int l1), .val (.int l2), .val (.int c0), .val (.int c1), .val (.int f0), .val (.int f1), .val (.ref tA), .val (.ref tB), .val (.ref ad3), .unset, .unset, .unset, .unset, .unset] []) _
        obtain ⟨T5, h5, X5, e5, E5, A5, D5, -, st5⟩ := newO X4 hx hZ hown (hw _ (List.mem_of_getElem? (i := 2) rfl)) (hw _ (List.mem_of_getElem? (i := 3) rfl)) (hw _ (List.mem_of_getElem? (i := 4) rfl)) rfl (g := (mkF m 160 #[.val (.int x0), .val (.int x1), .val (.int x2), .val (.int x3), .val (.int x4), .val (.int x5), .val (.int ii), .val (.int jj), .val (.int l1), .val (.int l2), .val (.int c0), .val (.int c1), .val (.int f0), .val (.int f1), .val (.ref tA), .val (.ref tB), .val (.ref ad3), .unset, .unset, .unset, .unset, .unset] [])) rfl (hb hby at_160) (by decide) (by decide)
        obtain ⟨ad5, g5⟩ : ∃ z, z = T4.heap.size := ⟨_, rfl⟩
        rw [← g5] at A5 D5 st5
        have ne_tA_ad5 : tA ≠ ad5 := Nat.ne_of_lt (Nat.lt_of_lt_of_le V_t.lt (Nat.le_of_eq g5.symm))
        have ne_tB_ad5 : tB ≠ ad5 := Nat.ne_of_lt (Nat.lt_of_lt_of_le V_u.lt (Nat.le_of_eq g5.symm))
        have ne_ad3_ad5 : ad3 ≠ ad5 := Nat.ne_of_lt (Nat.lt_of_lt_of_le E_ad3.lt (Nat.le_of_eq g5.symm))
        have ne_ts4_ad5 : ts4 ≠ ad5 := Nat.ne_of_lt (Nat.lt_of_lt_of_le Vs4.lt (Nat.le_of_eq g5.symm))
        have ge_ad5 : n0 ≤ ad5 := Nat.le_trans Z0 (Nat.le_of_eq g5.symm)
        have HR := HR.trans (CHr.ext E5 HR.1)
        have hk := Nat.le_trans hk E5.1
        have Z0 := Nat.le_trans Z0 E5.1
        have OL := OL.ext E5
        have V_t := V_t.ext E5
        have V_u := V_u.ext E5
        have E_ad3 := E_ad3.ext E5
        have Fc4 := Fc4.ext E5
        have Fv4 := Fv4.ext E5
        have Vs4 := Vs4.ext E5
        have E_ad5 := A5
        have F_value_ad5 : Fld Z h5 ad5 "java/lang/String" "value" "[B" .null := D5 (Or.inr (hw _ (List.mem_of_getElem? (i := 17) rfl))) (ty := (.array .byte)) (by decide)
        have F_coder_ad5 : Fld Z h5 ad5 "java/lang/String" "coder" "B" (.int (0 : Int32)) := D5 (Or.inr (hw _ (List.mem_of_getElem? (i := 18) rfl))) (ty := .byte) (by decide)
        refine Go.of (fun _ k => st5 _ k) ?_
        show Go p e below T5 (mkF m 163 #[.val (.int x0), .val (.int x1), .val (.int x2), .val (.int x3), .val (.int x4), .val (.int x5), .val (.int ii), .val (.int jj), .val (.int l1), .val (.int l2), .val (.int c0), .val (.int c1), .val (.int f0), .val (.int f1), .val (.ref tA), .val (.ref tB), .val (.ref ad3), .unset, .unset, .unset, .unset, .unset] [(.ref ad5)]) _
        refine Go.of (fun _ k => XS.dup X5.here hx rfl (hb hby at_163) rfl rfl k) ?_
        show Go p e below T5 (mkF m 164 #[.val (.int x0), .val (.int x1), .val (.int x2), .val (.int x3), .val (.int x4), .val (.int x5), .val (.int ii), .val (.int jj), .val (.int l1), .val (.int l2), .val (.int c0), .val (.int c1), .val (.int f0), .val (.int f1), .val (.ref tA), .val (.ref tB), .val (.ref ad3), .unset, .unset, .unset, .unset, .unset] [(.ref ad5), (.ref ad5)]) _
        refine Go.of (fun _ k => XS.aload X5.here hx rfl (hb hby at_164) rfl rfl  k) ?_
        show Go p e below T5 (mkF m 166 #[.val (.int x0), .val (.int x1), .val (.int x2), .val (.int x3), .val (.int x4), .val (.int x5), .val (.int ii), .val (.int jj), .val (.int l1), .val (.int l2), .val (.int c0), .val (.int c1), .val (.int f0), .val (.int f1), .val (.ref tA), .val (.ref tB), .val (.ref ad3), .unset, .unset, .unset, .unset, .unset] [(.ref tB), (.ref ad5), (.ref ad5)]) _
        have fc2 := own_fcs hl_l2 b_f0 b_f1
        obtain ⟨_, _, ⟨T6, L6, kq6, nq6⟩, -, X6, hS6, hg6, ⟨Lc6, hQ6, l6, y6, z6, hC6⟩, st6⟩ := X5.specialBackS hx (y := (⟨"java/lang/String", "<init>", "([C)V"⟩ : MethodName)) rfl hown (mvT hZ (hw _ (List.mem_of_getElem? (i := 5) rfl))) (mvT hZ (hw _ (List.mem_of_getElem? (i := 6) rfl))) (mvT hZ (hw _ (List.mem_of_getElem? (i := 7) rfl))) (by decide) (own_newS (W := 1) (cs := (fCs l2 f0 f1)) hw hZ HR.1 ge_ad5 Z0 E_ad5 F_value_ad5 F_coder_ad5 V_u (O2.ext OL.2) hzc fc2.1 fc2.2.1 fc2.2.2 (by decide) (by decide)) (g := (mkF m 166 #[.val (.int x0), .val (.int x1), .val (.int x2), .val (.int x3), .val (.int x4), .val (.int x5), .val (.int ii), .val (.int jj), .val (.int l1), .val (.int l2), .val (.int c0), .val (.int c1), .val (.int f0), .val (.int f1), .val (.ref tA), .val (.ref tB), .val (.ref ad3), .unset, .unset, .unset, .unset, .unset] [(.ref tB), (.ref ad5), (.ref ad5)])) rfl (by rw [hml]; rfl) (Steps.refl _) (a := ad5) (argsL := [(.ref tB)]) (rest := [(.ref ad5)]) (lenOf own_pd3 rfl) rfl (by show 2 * 0 + _ ≤ _; exact Nat.le_of_eq rfl) (hb hby at_166) (fun _ _ => ⟨rfl, e5, (by decide : 8 + 4 ≤ _), (by decide : 24 + 12 ≤ _)⟩)
        dsimp only [Pt.U, Pt.locs, Pt.cells, Pt.slots] at X6 l6 y6 z6 st6 hQ6 hS6 hg6 hC6
        subst l6 y6 z6
        obtain ⟨X6, hS, hZ, hown⟩ := rebS hS (by rw [e5]; exact hk) X6 hS6 hg6 hZ hown
        have HR := HR.trans hC6
        have hk : T6.heap.size ≤ T6.heap.size := Nat.le_refl _
        obtain ⟨rfl, Nq6, Kq6, Eq6, Fc6, ts6, ks6, Fv6, Vs6⟩ := hQ6
        have N6 := Fr.app N4 Nq6
        have Z0 := Nat.le_trans Z0 Kq6.1
        have OL := OL.keep Kq6 (allS ge_ad5 all0)
        have V_t := V_t.keep Kq6 (ninS ne_tA_ad5 nin0)
        have V_u := V_u.keep Kq6 (ninS ne_tB_ad5 nin0)
        have E_ad3 := E_ad3.keep Kq6
        have Fc4 := Fc4.keep Kq6 (ninS ne_ad3_ad5 nin0)
        have Fv4 := Fv4.keep Kq6 (ninS ne_ad3_ad5 nin0)
        have Vs4 := Vs4.keep Kq6 (ninS ne_ts4_ad5 nin0)
        have E_ad5 := E_ad5.keep Kq6
        refine Go.of (fun _ k => st6.trans k) ?_
        show Go p e below T6 (mkF m 169 #[.val (.int x0), .val (.int x1), .val (.int x2), .val (.int x3), .val (.int x4), .val (.int x5), .val (.int ii), .val (.int jj), .val (.int l1), .val (.int l2), .val (.int c0), .val (.int c1), .val (.int f0), .val (.int f1), .val (.ref tA), .val (.ref tB), .val (.ref ad3), .unset, .unset, .unset, .unset, .unset] [(.ref ad5)]) _
        refine Go.of (fun _ k => XS.astore X6.here hx rfl (hb hby at_169) rfl rfl (l' := #[.val (.int x0), .val (.int x1), .val (.int x2), .val (.int x3), .val (.int x4), .val (.int x5), .val (.int ii), .val (.int jj), .val (.int l1), .val (.int l2), .val (.int c0), .val (.int c1), .val (.int f0), .val (.int f1), .val (.ref tA), .val (.ref tB), .val (.ref ad3), .val (.ref ad5), .unset, .unset, .unset, .unset]) rfl k) ?_
        show Go p e below T6 (mkF m 171 #[.val (.int x0), .val (.int x1), .val (.int x2), .val (.int x3), .val (.int x4), .val (.int x5), .val (.int ii), .val (.int jj), .val (.int l1), .val (.int l2), .val (.int c0), .val (.int c1), .val (.int f0), .val (.int f1), .val (.ref tA), .val (.ref tB), .val (.ref ad3), .val (.ref ad5), .unset, .unset, .unset, .unset] []) _
        obtain ⟨T7, h7, X7, e7, E7, A7, D7, -, st7⟩ := newO X6 hx hZ hown (hw _ (List.mem_of_getElem? (i := 23) rfl)) (hw _ (List.mem_of_getElem? (i := 24) rfl)) (hw _ (List.mem_of_getElem? (i := 25) rfl)) rfl (g := (mkF m 171 #[.val (.int x0), .val (.int x1), .val (.int x2), .val (.int x3), .val (.int x4), .val (.int x5), .val (.int ii), .val (.int jj), .val (.int l1), .val (.int l2), .val (.int c0), .val (.int c1), .val (.int f0), .val (.int f1), .val (.ref tA), .val (.ref tB), .val (.ref ad3), .val (.ref ad5), .unset, .unset, .unset, .unset] [])) rfl (hb hby at_171) (by decide) (by decide)
        obtain ⟨ad7, g7⟩ : ∃ z, z = T6.heap.size := ⟨_, rfl⟩
        rw [← g7] at A7 D7 st7
        have ne_tA_ad7 : tA ≠ ad7 := Nat.ne_of_lt (Nat.lt_of_lt_of_le V_t.lt (Nat.le_of_eq g7.symm))
        have ne_tB_ad7 : tB ≠ ad7 := Nat.ne_of_lt (Nat.lt_of_lt_of_le V_u.lt (Nat.le_of_eq g7.symm))
        have ne_ad3_ad7 : ad3 ≠ ad7 := Nat.ne_of_lt (Nat.lt_of_lt_of_le E_ad3.lt (Nat.le_of_eq g7.symm))
        have ne_ts4_ad7 : ts4 ≠ ad7 := Nat.ne_of_lt (Nat.lt_of_lt_of_le Vs4.lt (Nat.le_of_eq g7.symm))
        have ne_ad5_ad7 : ad5 ≠ ad7 := Nat.ne_of_lt (Nat.lt_of_lt_of_le E_ad5.lt (Nat.le_of_eq g7.symm))
        have ne_ts6_ad7 : ts6 ≠ ad7 := Nat.ne_of_lt (Nat.lt_of_lt_of_le Vs6.lt (Nat.le_of_eq g7.symm))
        have ge_ad7 : n0 ≤ ad7 := Nat.le_trans Z0 (Nat.le_of_eq g7.symm)
        have HR := HR.trans (CHr.ext E7 HR.1)
        have hk := Nat.le_trans hk E7.1
        have Z0 := Nat.le_trans Z0 E7.1
        have OL := OL.ext E7
        have V_t := V_t.ext E7
        have V_u := V_u.ext E7
        have E_ad3 := E_ad3.ext E7
        have Fc4 := Fc4.ext E7
        have Fv4 := Fv4.ext E7
        have Vs4 := Vs4.ext E7
        have E_ad5 := E_ad5.ext E7
        have Fc6 := Fc6.ext E7
        have Fv6 := Fv6.ext E7
        have Vs6 := Vs6.ext E7
        have E_ad7 := A7
        have F_kind_ad7 : Fld Z h7 ad7 "com/example/automata_over_chains/automataoverchains/Tokens$Token" "kind" "Lcom/example/automata_over_chains/automataoverchains/Tokens$Kind;" .null := D7 (Or.inr (hw _ (List.mem_of_getElem? (i := 43) rfl))) (ty := (.object "com/example/automata_over_chains/automataoverchains/Tokens$Kind")) (by decide)
        have F_text_ad7 : Fld Z h7 ad7 "com/example/automata_over_chains/automataoverchains/Tokens$Token" "text" "Ljava/lang/String;" .null := D7 (Or.inr (hw _ (List.mem_of_getElem? (i := 45) rfl))) (ty := (.object "java/lang/String")) (by decide)
        have F_column_ad7 : Fld Z h7 ad7 "com/example/automata_over_chains/automataoverchains/Tokens$Token" "column" "I" (.int (0 : Int32)) := D7 (Or.inr (hw _ (List.mem_of_getElem? (i := 47) rfl))) (ty := .int) (by decide)
        refine Go.of (fun _ k => st7 _ k) ?_
        show Go p e below T7 (mkF m 174 #[.val (.int x0), .val (.int x1), .val (.int x2), .val (.int x3), .val (.int x4), .val (.int x5), .val (.int ii), .val (.int jj), .val (.int l1), .val (.int l2), .val (.int c0), .val (.int c1), .val (.int f0), .val (.int f1), .val (.ref tA), .val (.ref tB), .val (.ref ad3), .val (.ref ad5), .unset, .unset, .unset, .unset] [(.ref ad7)]) _
        refine Go.of (fun _ k => XS.dup X7.here hx rfl (hb hby at_174) rfl rfl k) ?_
        show Go p e below T7 (mkF m 175 #[.val (.int x0), .val (.int x1), .val (.int x2), .val (.int x3), .val (.int x4), .val (.int x5), .val (.int ii), .val (.int jj), .val (.int l1), .val (.int l2), .val (.int c0), .val (.int c1), .val (.int f0), .val (.int f1), .val (.ref tA), .val (.ref tB), .val (.ref ad3), .val (.ref ad5), .unset, .unset, .unset, .unset] [(.ref ad7), (.ref ad7)]) _
        refine Go.of (fun _ k => XS.iload X7.here hx rfl (hb hby at_175) rfl  k) ?_
        show Go p e below T7 (mkF m 177 #[.val (.int x0), .val (.int x1), .val (.int x2), .val (.int x3), .val (.int x4), .val (.int x5), .val (.int ii), .val (.int jj), .val (.int l1), .val (.int l2), .val (.int c0), .val (.int c1), .val (.int f0), .val (.int f1), .val (.ref tA), .val (.ref tB), .val (.ref ad3), .val (.ref ad5), .unset, .unset, .unset, .unset] [(.int ii), (.ref ad7), (.ref ad7)]) _
        obtain ⟨_, _, ⟨T8, L8, kq8, nq8⟩, -, X8, ⟨Lc8, hQ8, l8, y8, z8⟩, st8⟩ := Jvm.LawKit.callS X7 hx (y := (⟨"com/example/automata_over_chains/automataoverchains/TokenIsPinLaw", "kind", "(I)Lcom/example/automata_over_chains/automataoverchains/Tokens$Kind;"⟩ : MethodName)) hown (mvT hZ (hw _ (List.mem_of_getElem? (i := 26) rfl))) (mvT hZ (hw _ (List.mem_of_getElem? (i := 27) rfl))) (mvT hZ (hw _ (List.mem_of_getElem? (i := 28) rfl))) (mvT hZ (hw _ (List.mem_of_getElem? (i := 29) rfl))) (by decide) (backOf (W := 2) (rm4 l Z a0 hw [] ii aF h7 n0 Z0 p_ii q_ii OL S0 S1 S2 S3 S4) hZ (hw _ (List.mem_of_getElem? (i := 29) rfl)) (hw _ (List.mem_of_getElem? (i := 28) rfl)) (by decide) (by decide)) (g := (mkF m 177 #[.val (.int x0), .val (.int x1), .val (.int x2), .val (.int x3), .val (.int x4), .val (.int x5), .val (.int ii), .val (.int jj), .val (.int l1), .val (.int l2), .val (.int c0), .val (.int c1), .val (.int f0), .val (.int f1), .val (.ref tA), .val (.ref tB), .val (.ref ad3), .val (.ref ad5), .unset, .unset, .unset, .unset] [(.int ii), (.ref ad7), (.ref ad7)])) rfl (by rw [hml]; rfl) (argsL := [(.int ii)]) (rest := [(.ref ad7), (.ref ad7)]) (lenOf own_pd4 rfl) rfl (by show 2 * 0 + _ ≤ _; exact Nat.le_of_eq rfl) (hb hby at_177) (fun _ _ => ⟨rfl, e7, (by decide : 13 + 0 ≤ _), (by decide : 39 + 0 ≤ _)⟩)
        dsimp only [Pt.U, Pt.locs, Pt.cells, Pt.slots] at X8 l8 y8 z8 st8 hQ8
        subst l8 y8 z8
        obtain ⟨rfl, Nq8, e8⟩ := hQ8
        have e8 := e8.trans rfl
        have N8 := Fr.app N6 Nq8
        refine Go.of (fun _ k => st8 _ k) ?_
        show Go p e below T8 (mkF m 180 #[.val (.int x0), .val (.int x1), .val (.int x2), .val (.int x3), .val (.int x4), .val (.int x5), .val (.int ii), .val (.int jj), .val (.int l1), .val (.int l2), .val (.int c0), .val (.int c1), .val (.int f0), .val (.int f1), .val (.ref tA), .val (.ref tB), .val (.ref ad3), .val (.ref ad5), .unset, .unset, .unset, .unset] [(.ref (aF ii)), (.ref ad7), (.ref ad7)]) _
        refine Go.of (fun _ k => XS.aload X8.here hx rfl (hb hby at_180) rfl rfl  k) ?_
        show Go p e below T8 (mkF m 182 #[.val (.int x0), .val (.int x1), .val (.int x2), .val (.int x3), .val (.int x4), .val (.int x5), .val (.int ii), .val (.int jj), .val (.int l1), .val (.int l2), .val (.int c0), .val (.int c1), .val (.int f0), .val (.int f1), .val (.ref tA), .val (.ref tB), .val (.ref ad3), .val (.ref ad5), .unset, .unset, .unset, .unset] [(.ref ad3), (.ref (aF ii)), (.ref ad7), (.ref ad7)]) _
        refine Go.of (fun _ k => XS.iload X8.here hx rfl (hb hby at_182) rfl  k) ?_
        show Go p e below T8 (mkF m 184 #[.val (.int x0), .val (.int x1), .val (.int x2), .val (.int x3), .val (.int x4), .val (.int x5), .val (.int ii), .val (.int jj), .val (.int l1), .val (.int l2), .val (.int c0), .val (.int c1), .val (.int f0), .val (.int f1), .val (.ref tA), .val (.ref tB), .val (.ref ad3), .val (.ref ad5), .unset, .unset, .unset, .unset] [(.int x5), (.ref ad3), (.ref (aF ii)), (.ref ad7), (.ref ad7)]) _
        obtain ⟨_, _, ⟨T9, L9, kq9, nq9⟩, -, X9, ⟨Lc9, hQ9, l9, y9, z9⟩, st9⟩ := X8.specialBack hx (y := (⟨"com/example/automata_over_chains/automataoverchains/Tokens$Token", "<init>", "(Lcom/example/automata_over_chains/automataoverchains/Tokens$Kind;Ljava/lang/String;I)V"⟩ : MethodName)) rfl hown (mvT hZ (hw _ (List.mem_of_getElem? (i := 33) rfl))) (mvT hZ (hw _ (List.mem_of_getElem? (i := 34) rfl))) (mvT hZ (hw _ (List.mem_of_getElem? (i := 35) rfl))) (by decide) (backOf (W := 1) (rm5 l Z a0 hw [] ad7 (aF ii) ad3 x5 h7 n0 Z0 ge_ad7 E_ad7 F_kind_ad7 F_text_ad7 F_column_ad7) hZ (hw _ (List.mem_of_getElem? (i := 35) rfl)) (hw _ (List.mem_of_getElem? (i := 25) rfl)) (by decide) (by decide)) (g := (mkF m 184 #[.val (.int x0), .val (.int x1), .val (.int x2), .val (.int x3), .val (.int x4), .val (.int x5), .val (.int ii), .val (.int jj), .val (.int l1), .val (.int l2), .val (.int c0), .val (.int c1), .val (.int f0), .val (.int f1), .val (.ref tA), .val (.ref tB), .val (.ref ad3), .val (.ref ad5), .unset, .unset, .unset, .unset] [(.int x5), (.ref ad3), (.ref (aF ii)), (.ref ad7), (.ref ad7)])) rfl (by rw [hml]; rfl) (Steps.refl _) (a := ad7) (argsL := [(.ref (aF ii)), (.ref ad3), (.int x5)]) (rest := [(.ref ad7)]) (lenOf own_pd5 rfl) rfl (by show 2 * 0 + _ ≤ _; exact Nat.le_of_eq rfl) (hb hby at_184) (fun _ _ => ⟨rfl, e8, (by decide : 13 + 0 ≤ _), (by decide : 39 + 0 ≤ _)⟩)
        dsimp only [Pt.U, Pt.locs, Pt.cells, Pt.slots] at X9 l9 y9 z9 st9 hQ9
        subst l9 y9 z9
        obtain ⟨rfl, Nq9, Kq9, fq9_0, fq9_1, fq9_2, fq9_3⟩ := hQ9
        have N9 := Fr.app N8 Nq9
        have sf_ad7 := Safe.exa (EL := EL) hZ.alike E_ad7 (by decide) (by decide)
        have HR := HR.trans (CHr.keep Kq9 (sfS sf_ad7 sf0) HR.1)
        have hk := Nat.le_trans hk Kq9.1
        have Z0 := Nat.le_trans Z0 Kq9.1
        have OL := OL.keep Kq9 (allS ge_ad7 all0)
        have V_t := V_t.keep Kq9 (ninS ne_tA_ad7 nin0)
        have V_u := V_u.keep Kq9 (ninS ne_tB_ad7 nin0)
        have E_ad3 := E_ad3.keep Kq9
        have Fc4 := Fc4.keep Kq9 (ninS ne_ad3_ad7 nin0)
        have Fv4 := Fv4.keep Kq9 (ninS ne_ad3_ad7 nin0)
        have Vs4 := Vs4.keep Kq9 (ninS ne_ts4_ad7 nin0)
        have E_ad5 := E_ad5.keep Kq9
        have Fc6 := Fc6.keep Kq9 (ninS ne_ad5_ad7 nin0)
        have Fv6 := Fv6.keep Kq9 (ninS ne_ad5_ad7 nin0)
        have Vs6 := Vs6.keep Kq9 (ninS ne_ts6_ad7 nin0)
        have E_ad7 := fq9_0
        have F_kind_ad7 := fq9_1
        have F_text_ad7 := fq9_2
        have F_column_ad7 := fq9_3
        refine Go.of (fun _ k => st9.trans k) ?_
        show Go p e below T9 (mkF m 187 #[.val (.int x0), .val (.int x1), .val (.int x2), .val (.int x3), .val (.int x4), .val (.int x5), .val (.int ii), .val (.int jj), .val (.int l1), .val (.int l2), .val (.int c0), .val (.int c1), .val (.int f0), .val (.int f1), .val (.ref tA), .val (.ref tB), .val (.ref ad3), .val (.ref ad5), .unset, .unset, .unset, .unset] [(.ref ad7)]) _
        refine Go.of (fun _ k => XS.astore X9.here hx rfl (hb hby at_187) rfl rfl (l' := #[.val (.int x0), .val (.int x1), .val (.int x2), .val (.int x3), .val (.int x4), .val (.int x5), .val (.int ii), .val (.int jj), .val (.int l1), .val (.int l2), .val (.int c0), .val (.int c1), .val (.int f0), .val (.int f1), .val (.ref tA), .val (.ref tB), .val (.ref ad3), .val (.ref ad5), .val (.ref ad7), .unset, .unset, .unset]) rfl k) ?_
        show Go p e below T9 (mkF m 189 #[.val (.int x0), .val (.int x1), .val (.int x2), .val (.int x3), .val (.int x4), .val (.int x5), .val (.int ii), .val (.int jj), .val (.int l1), .val (.int l2), .val (.int c0), .val (.int c1), .val (.int f0), .val (.int f1), .val (.ref tA), .val (.ref tB), .val (.ref ad3), .val (.ref ad5), .val (.ref ad7), .unset, .unset, .unset] []) _
        refine Go.of (fun _ k => XS.aload X9.here hx rfl (hb hby at_189) rfl rfl  k) ?_
        show Go p e below T9 (mkF m 191 #[.val (.int x0), .val (.int x1), .val (.int x2), .val (.int x3), .val (.int x4), .val (.int x5), .val (.int ii), .val (.int jj), .val (.int l1), .val (.int l2), .val (.int c0), .val (.int c1), .val (.int f0), .val (.int f1), .val (.ref tA), .val (.ref tB), .val (.ref ad3), .val (.ref ad5), .val (.ref ad7), .unset, .unset, .unset] [(.ref ad7)]) _
        refine Go.of (fun _ k => XS.iload X9.here hx rfl (hb hby at_191) rfl  k) ?_
        show Go p e below T9 (mkF m 193 #[.val (.int x0), .val (.int x1), .val (.int x2), .val (.int x3), .val (.int x4), .val (.int x5), .val (.int ii), .val (.int jj), .val (.int l1), .val (.int l2), .val (.int c0), .val (.int c1), .val (.int f0), .val (.int f1), .val (.ref tA), .val (.ref tB), .val (.ref ad3), .val (.ref ad5), .val (.ref ad7), .unset, .unset, .unset] [(.int jj), (.ref ad7)]) _
        obtain ⟨_, _, ⟨T10, L10, kq10, nq10⟩, -, X10, ⟨Lc10, hQ10, l10, y10, z10⟩, st10⟩ := Jvm.LawKit.callS X9 hx (y := (⟨"com/example/automata_over_chains/automataoverchains/TokenIsPinLaw", "kind", "(I)Lcom/example/automata_over_chains/automataoverchains/Tokens$Kind;"⟩ : MethodName)) hown (mvT hZ (hw _ (List.mem_of_getElem? (i := 26) rfl))) (mvT hZ (hw _ (List.mem_of_getElem? (i := 27) rfl))) (mvT hZ (hw _ (List.mem_of_getElem? (i := 28) rfl))) (mvT hZ (hw _ (List.mem_of_getElem? (i := 29) rfl))) (by decide) (backOf (W := 1) (rm4 l Z a0 hw [] jj aF T9.heap n0 Z0 p_jj q_jj OL S0 S1 S2 S3 S4) hZ (hw _ (List.mem_of_getElem? (i := 29) rfl)) (hw _ (List.mem_of_getElem? (i := 28) rfl)) (by decide) (by decide)) (g := (mkF m 193 #[.val (.int x0), .val (.int x1), .val (.int x2), .val (.int x3), .val (.int x4), .val (.int x5), .val (.int ii), .val (.int jj), .val (.int l1), .val (.int l2), .val (.int c0), .val (.int c1), .val (.int f0), .val (.int f1), .val (.ref tA), .val (.ref tB), .val (.ref ad3), .val (.ref ad5), .val (.ref ad7), .unset, .unset, .unset] [(.int jj), (.ref ad7)])) rfl (by rw [hml]; rfl) (argsL := [(.int jj)]) (rest := [(.ref ad7)]) (lenOf own_pd4 rfl) rfl (by show 2 * 0 + _ ≤ _; exact Nat.le_of_eq rfl) (hb hby at_193) (fun _ _ => ⟨rfl, rfl, (by decide : 13 + 0 ≤ _), (by decide : 39 + 0 ≤ _)⟩)
        dsimp only [Pt.U, Pt.locs, Pt.cells, Pt.slots] at X10 l10 y10 z10 st10 hQ10
        subst l10 y10 z10
        obtain ⟨rfl, Nq10, e10⟩ := hQ10
        have e10 := e10.trans rfl
        have N10 := Fr.app N9 Nq10
        refine Go.of (fun _ k => st10 _ k) ?_
        show Go p e below T10 (mkF m 196 #[.val (.int x0), .val (.int x1), .val (.int x2), .val (.int x3), .val (.int x4), .val (.int x5), .val (.int ii), .val (.int jj), .val (.int l1), .val (.int l2), .val (.int c0), .val (.int c1), .val (.int f0), .val (.int f1), .val (.ref tA), .val (.ref tB), .val (.ref ad3), .val (.ref ad5), .val (.ref ad7), .unset, .unset, .unset] [(.ref (aF jj)), (.ref ad7)]) _
        refine Go.of (fun _ k => XS.aload X10.here hx rfl (hb hby at_196) rfl rfl  k) ?_
        show Go p e below T10 (mkF m 198 #[.val (.int x0), .val (.int x1), .val (.int x2), .val (.int x3), .val (.int x4), .val (.int x5), .val (.int ii), .val (.int jj), .val (.int l1), .val (.int l2), .val (.int c0), .val (.int c1), .val (.int f0), .val (.int f1), .val (.ref tA), .val (.ref tB), .val (.ref ad3), .val (.ref ad5), .val (.ref ad7), .unset, .unset, .unset] [(.ref ad5), (.ref (aF jj)), (.ref ad7)]) _
        obtain ⟨cq11, kq11, q11a, q11b, q11c⟩ := isOf hZ e10 E_ad7
        obtain ⟨_, _, ⟨T11, L11, kq11, nq11⟩, -, X11, ⟨Lc11, hQ11, l11, y11, z11⟩, st11⟩ := X10.virtualBack hx (y := (⟨"com/example/automata_over_chains/automataoverchains/Tokens$Token", "is", "(Lcom/example/automata_over_chains/automataoverchains/Tokens$Kind;Ljava/lang/String;)Z"⟩ : MethodName)) (z := (⟨"com/example/automata_over_chains/automataoverchains/Tokens$Token", "is", "(Lcom/example/automata_over_chains/automataoverchains/Tokens$Kind;Ljava/lang/String;)Z"⟩ : MethodName)) hown (mvT hZ (hw _ (List.mem_of_getElem? (i := 50) rfl))) (mvT hZ (hw _ (List.mem_of_getElem? (i := 51) rfl))) (notFace_of_selects (args := #[]) (mvT hZ (hw _ (List.mem_of_getElem? (i := 53) rfl)))) (mvT hZ (hw _ (List.mem_of_getElem? (i := 53) rfl))) (mvT hZ (hw _ (List.mem_of_getElem? (i := 52) rfl))) (by decide) (backOf (W := 0) (rm7 l Z a0 hw [] ad7 (aF jj) ad5 ad3 ts4 ts6 ks4 ks6 (fCs l1 c0 c1) (fCs l2 f0 f1) ii jj zc aF T9.heap n0 Z0 OL HE rfl p_ii q_ii p_jj q_jj F_kind_ad7 F_text_ad7 E_ad3 Fc4 Fv4 Vs4 fc1.2.2 fc1.2.1 E_ad5 Fc6 Fv6 Vs6 fc2.2.2 fc2.2.1 O2 hzc) hZ (hw _ (List.mem_of_getElem? (i := 54) rfl)) (hw _ (List.mem_of_getElem? (i := 25) rfl)) (by decide) (by decide)) q11a q11c (g := (mkF m 198 #[.val (.int x0), .val (.int x1), .val (.int x2), .val (.int x3), .val (.int x4), .val (.int x5), .val (.int ii), .val (.int jj), .val (.int l1), .val (.int l2), .val (.int c0), .val (.int c1), .val (.int f0), .val (.int f1), .val (.ref tA), .val (.ref tB), .val (.ref ad3), .val (.ref ad5), .val (.ref ad7), .unset, .unset, .unset] [(.ref ad5), (.ref (aF jj)), (.ref ad7)])) rfl (by rw [hml]; rfl) (Steps.refl _) (argsL := [(.ref (aF jj)), (.ref ad5)]) (rest := []) (lenOf own_pd6 rfl) rfl (by show 2 * 0 + _ ≤ _; exact Nat.le_of_eq rfl) (hb hby at_198) (fun _ _ => ⟨rfl, e10, (by decide : 13 + 0 ≤ _), (by decide : 39 + 0 ≤ _)⟩)
        dsimp only [Pt.U, Pt.locs, Pt.cells, Pt.slots] at X11 l11 y11 z11 st11 hQ11
        subst l11 y11 z11
        obtain ⟨rfl, Nq11, e11⟩ := hQ11
        have e11 := e11.trans rfl
        have N11 := Fr.app N10 Nq11
        refine Go.of (fun _ k => st11.trans k) ?_
        show Go p e below T11 (mkF m 201 #[.val (.int x0), .val (.int x1), .val (.int x2), .val (.int x3), .val (.int x4), .val (.int x5), .val (.int ii), .val (.int jj), .val (.int l1), .val (.int l2), .val (.int c0), .val (.int c1), .val (.int f0), .val (.int f1), .val (.ref tA), .val (.ref tB), .val (.ref ad3), .val (.ref ad5), .val (.ref ad7), .unset, .unset, .unset] [(.int (fIs ii jj (fCs l1 c0 c1) (fCs l2 f0 f1)))]) _
        refine Go.of (fun _ k => XS.istore X11.here hx rfl (hb hby at_201) rfl (l' := #[.val (.int x0), .val (.int x1), .val (.int x2), .val (.int x3), .val (.int x4), .val (.int x5), .val (.int ii), .val (.int jj), .val (.int l1), .val (.int l2), .val (.int c0), .val (.int c1), .val (.int f0), .val (.int f1), .val (.ref tA), .val (.ref tB), .val (.ref ad3), .val (.ref ad5), .val (.ref ad7), .val (.int (fIs ii jj (fCs l1 c0 c1) (fCs l2 f0 f1))), .unset, .unset]) rfl k) ?_
        show Go p e below T11 (mkF m 203 #[.val (.int x0), .val (.int x1), .val (.int x2), .val (.int x3), .val (.int x4), .val (.int x5), .val (.int ii), .val (.int jj), .val (.int l1), .val (.int l2), .val (.int c0), .val (.int c1), .val (.int f0), .val (.int f1), .val (.ref tA), .val (.ref tB), .val (.ref ad3), .val (.ref ad5), .val (.ref ad7), .val (.int (fIs ii jj (fCs l1 c0 c1) (fCs l2 f0 f1))), .unset, .unset] []) _
        refine Go.of (fun _ k => XS.iload X11.here hx rfl (hb hby at_203) rfl  k) ?_
        show Go p e below T11 (mkF m 205 #[.val (.int x0), .val (.int x1), .val (.int x2), .val (.int x3), .val (.int x4), .val (.int x5), .val (.int ii), .val (.int jj), .val (.int l1), .val (.int l2), .val (.int c0), .val (.int c1), .val (.int f0), .val (.int f1), .val (.ref tA), .val (.ref tB), .val (.ref ad3), .val (.ref ad5), .val (.ref ad7), .val (.int (fIs ii jj (fCs l1 c0 c1) (fCs l2 f0 f1))), .unset, .unset] [(.int ii)]) _
        refine Go.of (fun _ k => XS.iload X11.here hx rfl (hb hby at_205) rfl  k) ?_
        show Go p e below T11 (mkF m 207 #[.val (.int x0), .val (.int x1), .val (.int x2), .val (.int x3), .val (.int x4), .val (.int x5), .val (.int ii), .val (.int jj), .val (.int l1), .val (.int l2), .val (.int c0), .val (.int c1), .val (.int f0), .val (.int f1), .val (.ref tA), .val (.ref tB), .val (.ref ad3), .val (.ref ad5), .val (.ref ad7), .val (.int (fIs ii jj (fCs l1 c0 c1) (fCs l2 f0 f1))), .unset, .unset] [(.int jj), (.int ii)]) _
        by_cases hc207_0 : ii = jj
        · refine Go.of (fun _ k => XS.icmpNo X11.here hx rfl (hb hby at_207) rfl (teq hc207_0).2 k) ?_
          show Go p e below T11 (mkF m 210 #[.val (.int x0), .val (.int x1), .val (.int x2), .val (.int x3), .val (.int x4), .val (.int x5), .val (.int ii), .val (.int jj), .val (.int l1), .val (.int l2), .val (.int c0), .val (.int c1), .val (.int f0), .val (.int f1), .val (.ref tA), .val (.ref tB), .val (.ref ad3), .val (.ref ad5), .val (.ref ad7), .val (.int (fIs ii jj (fCs l1 c0 c1) (fCs l2 f0 f1))), .unset, .unset] []) _
          refine Go.of (fun _ k => XS.iconst X11.here hx rfl (hb hby at_210) k) ?_
          show Go p e below T11 (mkF m 211 #[.val (.int x0), .val (.int x1), .val (.int x2), .val (.int x3), .val (.int x4), .val (.int x5), .val (.int ii), .val (.int jj), .val (.int l1), .val (.int l2), .val (.int c0), .val (.int c1), .val (.int f0), .val (.int f1), .val (.ref tA), .val (.ref tB), .val (.ref ad3), .val (.ref ad5), .val (.ref ad7), .val (.int (fIs ii jj (fCs l1 c0 c1) (fCs l2 f0 f1))), .unset, .unset] [(.int (1 : Int32))]) _
          refine Go.of (fun _ k => XS.goto X11.here hx rfl (pc0 := 211) (pc' := 215) rfl (hb hby at_211) (by decide) (by decide) k) ?_
          show Go p e below T11 (mkF m 215 #[.val (.int x0), .val (.int x1), .val (.int x2), .val (.int x3), .val (.int x4), .val (.int x5), .val (.int ii), .val (.int jj), .val (.int l1), .val (.int l2), .val (.int c0), .val (.int c1), .val (.int f0), .val (.int f1), .val (.ref tA), .val (.ref tB), .val (.ref ad3), .val (.ref ad5), .val (.ref ad7), .val (.int (fIs ii jj (fCs l1 c0 c1) (fCs l2 f0 f1))), .unset, .unset] [(.int (1 : Int32))]) _
          refine Go.of (fun _ k => XS.istore X11.here hx rfl (hb hby at_215) rfl (l' := #[.val (.int x0), .val (.int x1), .val (.int x2), .val (.int x3), .val (.int x4), .val (.int x5), .val (.int ii), .val (.int jj), .val (.int l1), .val (.int l2), .val (.int c0), .val (.int c1), .val (.int f0), .val (.int f1), .val (.ref tA), .val (.ref tB), .val (.ref ad3), .val (.ref ad5), .val (.ref ad7), .val (.int (fIs ii jj (fCs l1 c0 c1) (fCs l2 f0 f1))), .val (.int (1 : Int32)), .unset]) rfl k) ?_
          show Go p e below T11 (mkF m 217 #[.val (.int x0), .val (.int x1), .val (.int x2), .val (.int x3), .val (.int x4), .val (.int x5), .val (.int ii), .val (.int jj), .val (.int l1), .val (.int l2), .val (.int c0), .val (.int c1), .val (.int f0), .val (.int f1), .val (.ref tA), .val (.ref tB), .val (.ref ad3), .val (.ref ad5), .val (.ref ad7), .val (.int (fIs ii jj (fCs l1 c0 c1) (fCs l2 f0 f1))), .val (.int (1 : Int32)), .unset] []) _
          refine Go.of (fun _ k => XS.iload X11.here hx rfl (hb hby at_217) rfl  k) ?_
          show Go p e below T11 (mkF m 219 #[.val (.int x0), .val (.int x1), .val (.int x2), .val (.int x3), .val (.int x4), .val (.int x5), .val (.int ii), .val (.int jj), .val (.int l1), .val (.int l2), .val (.int c0), .val (.int c1), .val (.int f0), .val (.int f1), .val (.ref tA), .val (.ref tB), .val (.ref ad3), .val (.ref ad5), .val (.ref ad7), .val (.int (fIs ii jj (fCs l1 c0 c1) (fCs l2 f0 f1))), .val (.int (1 : Int32)), .unset] [(.int l1)]) _
          refine Go.of (fun _ k => XS.iload X11.here hx rfl (hb hby at_219) rfl  k) ?_
          show Go p e below T11 (mkF m 221 #[.val (.int x0), .val (.int x1), .val (.int x2), .val (.int x3), .val (.int x4), .val (.int x5), .val (.int ii), .val (.int jj), .val (.int l1), .val (.int l2), .val (.int c0), .val (.int c1), .val (.int f0), .val (.int f1), .val (.ref tA), .val (.ref tB), .val (.ref ad3), .val (.ref ad5), .val (.ref ad7), .val (.int (fIs ii jj (fCs l1 c0 c1) (fCs l2 f0 f1))), .val (.int (1 : Int32)), .unset] [(.int l2), (.int l1)]) _
          by_cases hc221_1 : l1 = l2
          · refine Go.of (fun _ k => XS.icmpNo X11.here hx rfl (hb hby at_221) rfl (teq hc221_1).2 k) ?_
            show Go p e below T11 (mkF m 224 #[.val (.int x0), .val (.int x1), .val (.int x2), .val (.int x3), .val (.int x4), .val (.int x5), .val (.int ii), .val (.int jj), .val (.int l1), .val (.int l2), .val (.int c0), .val (.int c1), .val (.int f0), .val (.int f1), .val (.ref tA), .val (.ref tB), .val (.ref ad3), .val (.ref ad5), .val (.ref ad7), .val (.int (fIs ii jj (fCs l1 c0 c1) (fCs l2 f0 f1))), .val (.int (1 : Int32)), .unset] []) _
            refine Go.of (fun _ k => XS.iload X11.here hx rfl (hb hby at_224) rfl  k) ?_
            show Go p e below T11 (mkF m 226 #[.val (.int x0), .val (.int x1), .val (.int x2), .val (.int x3), .val (.int x4), .val (.int x5), .val (.int ii), .val (.int jj), .val (.int l1), .val (.int l2), .val (.int c0), .val (.int c1), .val (.int f0), .val (.int f1), .val (.ref tA), .val (.ref tB), .val (.ref ad3), .val (.ref ad5), .val (.ref ad7), .val (.int (fIs ii jj (fCs l1 c0 c1) (fCs l2 f0 f1))), .val (.int (1 : Int32)), .unset] [(.int l1)]) _
            refine Go.of (fun _ k => XS.iconst X11.here hx rfl (hb hby at_226) k) ?_
            show Go p e below T11 (mkF m 227 #[.val (.int x0), .val (.int x1), .val (.int x2), .val (.int x3), .val (.int x4), .val (.int x5), .val (.int ii), .val (.int jj), .val (.int l1), .val (.int l2), .val (.int c0), .val (.int c1), .val (.int f0), .val (.int f1), .val (.ref tA), .val (.ref tB), .val (.ref ad3), .val (.ref ad5), .val (.ref ad7), .val (.int (fIs ii jj (fCs l1 c0 c1) (fCs l2 f0 f1))), .val (.int (1 : Int32)), .unset] [(.int (1 : Int32)), (.int l1)]) _
            by_cases hc227_2 : l1 < (1 : Int32)
            · refine Go.of (fun _ k => XS.icmpYes X11.here hx rfl (pc0 := 227) (pc' := 237) rfl (hb hby at_227) rfl (tlt hc227_2).1 (by decide) (by decide) k) ?_
              show Go p e below T11 (mkF m 237 #[.val (.int x0), .val (.int x1), .val (.int x2), .val (.int x3), .val (.int x4), .val (.int x5), .val (.int ii), .val (.int jj), .val (.int l1), .val (.int l2), .val (.int c0), .val (.int c1), .val (.int f0), .val (.int f1), .val (.ref tA), .val (.ref tB), .val (.ref ad3), .val (.ref ad5), .val (.ref ad7), .val (.int (fIs ii jj (fCs l1 c0 c1) (fCs l2 f0 f1))), .val (.int (1 : Int32)), .unset] []) _
              refine Go.of (fun _ k => XS.iload X11.here hx rfl (hb hby at_237) rfl  k) ?_
              show Go p e below T11 (mkF m 239 #[.val (.int x0), .val (.int x1), .val (.int x2), .val (.int x3), .val (.int x4), .val (.int x5), .val (.int ii), .val (.int jj), .val (.int l1), .val (.int l2), .val (.int c0), .val (.int c1), .val (.int f0), .val (.int f1), .val (.ref tA), .val (.ref tB), .val (.ref ad3), .val (.ref ad5), .val (.ref ad7), .val (.int (fIs ii jj (fCs l1 c0 c1) (fCs l2 f0 f1))), .val (.int (1 : Int32)), .unset] [(.int l1)]) _
              refine Go.of (fun _ k => XS.iconst X11.here hx rfl (hb hby at_239) k) ?_
              show Go p e below T11 (mkF m 240 #[.val (.int x0), .val (.int x1), .val (.int x2), .val (.int x3), .val (.int x4), .val (.int x5), .val (.int ii), .val (.int jj), .val (.int l1), .val (.int l2), .val (.int c0), .val (.int c1), .val (.int f0), .val (.int f1), .val (.ref tA), .val (.ref tB), .val (.ref ad3), .val (.ref ad5), .val (.ref ad7), .val (.int (fIs ii jj (fCs l1 c0 c1) (fCs l2 f0 f1))), .val (.int (1 : Int32)), .unset] [(.int (2 : Int32)), (.int l1)]) _
              by_cases hc240_3 : l1 < (2 : Int32)
              · refine Go.of (fun _ k => XS.icmpYes X11.here hx rfl (pc0 := 240) (pc' := 250) rfl (hb hby at_240) rfl (tlt hc240_3).1 (by decide) (by decide) k) ?_
                show Go p e below T11 (mkF m 250 #[.val (.int x0), .val (.int x1), .val (.int x2), .val (.int x3), .val (.int x4), .val (.int x5), .val (.int ii), .val (.int jj), .val (.int l1), .val (.int l2), .val (.int c0), .val (.int c1), .val (.int f0), .val (.int f1), .val (.ref tA), .val (.ref tB), .val (.ref ad3), .val (.ref ad5), .val (.ref ad7), .val (.int (fIs ii jj (fCs l1 c0 c1) (fCs l2 f0 f1))), .val (.int (1 : Int32)), .unset] []) _
                refine Go.of (fun _ k => XS.iconst X11.here hx rfl (hb hby at_250) k) ?_
                show Go p e below T11 (mkF m 251 #[.val (.int x0), .val (.int x1), .val (.int x2), .val (.int x3), .val (.int x4), .val (.int x5), .val (.int ii), .val (.int jj), .val (.int l1), .val (.int l2), .val (.int c0), .val (.int c1), .val (.int f0), .val (.int f1), .val (.ref tA), .val (.ref tB), .val (.ref ad3), .val (.ref ad5), .val (.ref ad7), .val (.int (fIs ii jj (fCs l1 c0 c1) (fCs l2 f0 f1))), .val (.int (1 : Int32)), .unset] [(.int (1 : Int32))]) _
                refine Go.of (fun _ k => XS.goto X11.here hx rfl (pc0 := 251) (pc' := 255) rfl (hb hby at_251) (by decide) (by decide) k) ?_
                show Go p e below T11 (mkF m 255 #[.val (.int x0), .val (.int x1), .val (.int x2), .val (.int x3), .val (.int x4), .val (.int x5), .val (.int ii), .val (.int jj), .val (.int l1), .val (.int l2), .val (.int c0), .val (.int c1), .val (.int f0), .val (.int f1), .val (.ref tA), .val (.ref tB), .val (.ref ad3), .val (.ref ad5), .val (.ref ad7), .val (.int (fIs ii jj (fCs l1 c0 c1) (fCs l2 f0 f1))), .val (.int (1 : Int32)), .unset] [(.int (1 : Int32))]) _
                refine Go.of (fun _ k => XS.istore X11.here hx rfl (hb hby at_255) rfl (l' := #[.val (.int x0), .val (.int x1), .val (.int x2), .val (.int x3), .val (.int x4), .val (.int x5), .val (.int ii), .val (.int jj), .val (.int l1), .val (.int l2), .val (.int c0), .val (.int c1), .val (.int f0), .val (.int f1), .val (.ref tA), .val (.ref tB), .val (.ref ad3), .val (.ref ad5), .val (.ref ad7), .val (.int (fIs ii jj (fCs l1 c0 c1) (fCs l2 f0 f1))), .val (.int (1 : Int32)), .val (.int (1 : Int32))]) rfl k) ?_
                show Go p e below T11 (mkF m 257 #[.val (.int x0), .val (.int x1), .val (.int x2), .val (.int x3), .val (.int x4), .val (.int x5), .val (.int ii), .val (.int jj), .val (.int l1), .val (.int l2), .val (.int c0), .val (.int c1), .val (.int f0), .val (.int f1), .val (.ref tA), .val (.ref tB), .val (.ref ad3), .val (.ref ad5), .val (.ref ad7), .val (.int (fIs ii jj (fCs l1 c0 c1) (fCs l2 f0 f1))), .val (.int (1 : Int32)), .val (.int (1 : Int32))] []) _
                refine Go.of (fun _ k => XS.iload X11.here hx rfl (hb hby at_257) rfl  k) ?_
                show Go p e below T11 (mkF m 259 #[.val (.int x0), .val (.int x1), .val (.int x2), .val (.int x3), .val (.int x4), .val (.int x5), .val (.int ii), .val (.int jj), .val (.int l1), .val (.int l2), .val (.int c0), .val (.int c1), .val (.int f0), .val (.int f1), .val (.ref tA), .val (.ref tB), .val (.ref ad3), .val (.ref ad5), .val (.ref ad7), .val (.int (fIs ii jj (fCs l1 c0 c1) (fCs l2 f0 f1))), .val (.int (1 : Int32)), .val (.int (1 : Int32))] [(.int (fIs ii jj (fCs l1 c0 c1) (fCs l2 f0 f1)))]) _
                refine Go.of (fun _ k => XS.iload X11.here hx rfl (hb hby at_259) rfl  k) ?_
                show Go p e below T11 (mkF m 261 #[.val (.int x0), .val (.int x1), .val (.int x2), .val (.int x3), .val (.int x4), .val (.int x5), .val (.int ii), .val (.int jj), .val (.int l1), .val (.int l2), .val (.int c0), .val (.int c1), .val (.int f0), .val (.int f1), .val (.ref tA), .val (.ref tB), .val (.ref ad3), .val (.ref ad5), .val (.ref ad7), .val (.int (fIs ii jj (fCs l1 c0 c1) (fCs l2 f0 f1))), .val (.int (1 : Int32)), .val (.int (1 : Int32))] [(.int (1 : Int32)), (.int (fIs ii jj (fCs l1 c0 c1) (fCs l2 f0 f1)))]) _
                refine Go.of (fun _ k => XS.ifNo X11.here hx rfl (hb hby at_261) rfl ((if0 _ _).trans (feq (show ¬ ((1 : Int32) = (0 : Int32)) from (by decide))).1) k) ?_
                show Go p e below T11 (mkF m 264 #[.val (.int x0), .val (.int x1), .val (.int x2), .val (.int x3), .val (.int x4), .val (.int x5), .val (.int ii), .val (.int jj), .val (.int l1), .val (.int l2), .val (.int c0), .val (.int c1), .val (.int f0), .val (.int f1), .val (.ref tA), .val (.ref tB), .val (.ref ad3), .val (.ref ad5), .val (.ref ad7), .val (.int (fIs ii jj (fCs l1 c0 c1) (fCs l2 f0 f1))), .val (.int (1 : Int32)), .val (.int (1 : Int32))] [(.int (fIs ii jj (fCs l1 c0 c1) (fCs l2 f0 f1)))]) _
                refine Go.of (fun _ k => XS.iload X11.here hx rfl (hb hby at_264) rfl  k) ?_
                show Go p e below T11 (mkF m 266 #[.val (.int x0), .val (.int x1), .val (.int x2), .val (.int x3), .val (.int x4), .val (.int x5), .val (.int ii), .val (.int jj), .val (.int l1), .val (.int l2), .val (.int c0), .val (.int c1), .val (.int f0), .val (.int f1), .val (.ref tA), .val (.ref tB), .val (.ref ad3), .val (.ref ad5), .val (.ref ad7), .val (.int (fIs ii jj (fCs l1 c0 c1) (fCs l2 f0 f1))), .val (.int (1 : Int32)), .val (.int (1 : Int32))] [(.int (1 : Int32)), (.int (fIs ii jj (fCs l1 c0 c1) (fCs l2 f0 f1)))]) _
                refine Go.of (fun _ k => XS.ifNo X11.here hx rfl (hb hby at_266) rfl ((if0 _ _).trans (feq (show ¬ ((1 : Int32) = (0 : Int32)) from (by decide))).1) k) ?_
                show Go p e below T11 (mkF m 269 #[.val (.int x0), .val (.int x1), .val (.int x2), .val (.int x3), .val (.int x4), .val (.int x5), .val (.int ii), .val (.int jj), .val (.int l1), .val (.int l2), .val (.int c0), .val (.int c1), .val (.int f0), .val (.int f1), .val (.ref tA), .val (.ref tB), .val (.ref ad3), .val (.ref ad5), .val (.ref ad7), .val (.int (fIs ii jj (fCs l1 c0 c1) (fCs l2 f0 f1))), .val (.int (1 : Int32)), .val (.int (1 : Int32))] [(.int (fIs ii jj (fCs l1 c0 c1) (fCs l2 f0 f1)))]) _
                refine Go.of (fun _ k => XS.iconst X11.here hx rfl (hb hby at_269) k) ?_
                show Go p e below T11 (mkF m 270 #[.val (.int x0), .val (.int x1), .val (.int x2), .val (.int x3), .val (.int x4), .val (.int x5), .val (.int ii), .val (.int jj), .val (.int l1), .val (.int l2), .val (.int c0), .val (.int c1), .val (.int f0), .val (.int f1), .val (.ref tA), .val (.ref tB), .val (.ref ad3), .val (.ref ad5), .val (.ref ad7), .val (.int (fIs ii jj (fCs l1 c0 c1) (fCs l2 f0 f1))), .val (.int (1 : Int32)), .val (.int (1 : Int32))] [(.int (1 : Int32)), (.int (fIs ii jj (fCs l1 c0 c1) (fCs l2 f0 f1)))]) _
                refine Go.of (fun _ k => XS.goto X11.here hx rfl (pc0 := 270) (pc' := 274) rfl (hb hby at_270) (by decide) (by decide) k) ?_
                show Go p e below T11 (mkF m 274 #[.val (.int x0), .val (.int x1), .val (.int x2), .val (.int x3), .val (.int x4), .val (.int x5), .val (.int ii), .val (.int jj), .val (.int l1), .val (.int l2), .val (.int c0), .val (.int c1), .val (.int f0), .val (.int f1), .val (.ref tA), .val (.ref tB), .val (.ref ad3), .val (.ref ad5), .val (.ref ad7), .val (.int (fIs ii jj (fCs l1 c0 c1) (fCs l2 f0 f1))), .val (.int (1 : Int32)), .val (.int (1 : Int32))] [(.int (1 : Int32)), (.int (fIs ii jj (fCs l1 c0 c1) (fCs l2 f0 f1)))]) _
                refine Go.of (fun _ k => XS.icmpNo X11.here hx rfl (hb hby at_274) rfl (teq (show (fIs ii jj (fCs l1 c0 c1) (fCs l2 f0 f1)) = (1 : Int32) from (by simp only [fIs, own_cs hl_l1 hl_l2]; simp [eq_true hc207_0, eq_true hc221_1, eq_true hc227_2, eq_true hc240_3]))).2 k) ?_
                show Go p e below T11 (mkF m 277 #[.val (.int x0), .val (.int x1), .val (.int x2), .val (.int x3), .val (.int x4), .val (.int x5), .val (.int ii), .val (.int jj), .val (.int l1), .val (.int l2), .val (.int c0), .val (.int c1), .val (.int f0), .val (.int f1), .val (.ref tA), .val (.ref tB), .val (.ref ad3), .val (.ref ad5), .val (.ref ad7), .val (.int (fIs ii jj (fCs l1 c0 c1) (fCs l2 f0 f1))), .val (.int (1 : Int32)), .val (.int (1 : Int32))] []) _
                refine Go.of (fun _ k => XS.iconst X11.here hx rfl (hb hby at_277) k) ?_
                show Go p e below T11 (mkF m 278 #[.val (.int x0), .val (.int x1), .val (.int x2), .val (.int x3), .val (.int x4), .val (.int x5), .val (.int ii), .val (.int jj), .val (.int l1), .val (.int l2), .val (.int c0), .val (.int c1), .val (.int f0), .val (.int f1), .val (.ref tA), .val (.ref tB), .val (.ref ad3), .val (.ref ad5), .val (.ref ad7), .val (.int (fIs ii jj (fCs l1 c0 c1) (fCs l2 f0 f1))), .val (.int (1 : Int32)), .val (.int (1 : Int32))] [(.int (1 : Int32))]) _
                refine Go.of (fun _ k => XS.goto X11.here hx rfl (pc0 := 278) (pc' := 282) rfl (hb hby at_278) (by decide) (by decide) k) ?_
                show Go p e below T11 (mkF m 282 #[.val (.int x0), .val (.int x1), .val (.int x2), .val (.int x3), .val (.int x4), .val (.int x5), .val (.int ii), .val (.int jj), .val (.int l1), .val (.int l2), .val (.int c0), .val (.int c1), .val (.int f0), .val (.int f1), .val (.ref tA), .val (.ref tB), .val (.ref ad3), .val (.ref ad5), .val (.ref ad7), .val (.int (fIs ii jj (fCs l1 c0 c1) (fCs l2 f0 f1))), .val (.int (1 : Int32)), .val (.int (1 : Int32))] [(.int (1 : Int32))]) _
                refine Go.retNH X11 hx (t := .boolean) hret hlk (by simp) (hb hby at_282) e11 hS hk hZ hEL hs0 HR (by decide) (by decide) ?_
                exact ⟨rfl, N11⟩
              · refine Go.of (fun _ k => XS.icmpNo X11.here hx rfl (hb hby at_240) rfl (flt hc240_3).1 k) ?_
                show Go p e below T11 (mkF m 243 #[.val (.int x0), .val (.int x1), .val (.int x2), .val (.int x3), .val (.int x4), .val (.int x5), .val (.int ii), .val (.int jj), .val (.int l1), .val (.int l2), .val (.int c0), .val (.int c1), .val (.int f0), .val (.int f1), .val (.ref tA), .val (.ref tB), .val (.ref ad3), .val (.ref ad5), .val (.ref ad7), .val (.int (fIs ii jj (fCs l1 c0 c1) (fCs l2 f0 f1))), .val (.int (1 : Int32)), .unset] []) _
                refine Go.of (fun _ k => XS.iload X11.here hx rfl (hb hby at_243) rfl  k) ?_
                show Go p e below T11 (mkF m 245 #[.val (.int x0), .val (.int x1), .val (.int x2), .val (.int x3), .val (.int x4), .val (.int x5), .val (.int ii), .val (.int jj), .val (.int l1), .val (.int l2), .val (.int c0), .val (.int c1), .val (.int f0), .val (.int f1), .val (.ref tA), .val (.ref tB), .val (.ref ad3), .val (.ref ad5), .val (.ref ad7), .val (.int (fIs ii jj (fCs l1 c0 c1) (fCs l2 f0 f1))), .val (.int (1 : Int32)), .unset] [(.int c1)]) _
                refine Go.of (fun _ k => XS.iload X11.here hx rfl (hb hby at_245) rfl  k) ?_
                show Go p e below T11 (mkF m 247 #[.val (.int x0), .val (.int x1), .val (.int x2), .val (.int x3), .val (.int x4), .val (.int x5), .val (.int ii), .val (.int jj), .val (.int l1), .val (.int l2), .val (.int c0), .val (.int c1), .val (.int f0), .val (.int f1), .val (.ref tA), .val (.ref tB), .val (.ref ad3), .val (.ref ad5), .val (.ref ad7), .val (.int (fIs ii jj (fCs l1 c0 c1) (fCs l2 f0 f1))), .val (.int (1 : Int32)), .unset] [(.int f1), (.int c1)]) _
                by_cases hc247_4 : c1 = f1
                · refine Go.of (fun _ k => XS.icmpNo X11.here hx rfl (hb hby at_247) rfl (teq hc247_4).2 k) ?_
                  show Go p e below T11 (mkF m 250 #[.val (.int x0), .val (.int x1), .val (.int x2), .val (.int x3), .val (.int x4), .val (.int x5), .val (.int ii), .val (.int jj), .val (.int l1), .val (.int l2), .val (.int c0), .val (.int c1), .val (.int f0), .val (.int f1), .val (.ref tA), .val (.ref tB), .val (.ref ad3), .val (.ref ad5), .val (.ref ad7), .val (.int (fIs ii jj (fCs l1 c0 c1) (fCs l2 f0 f1))), .val (.int (1 : Int32)), .unset] []) _
                  refine Go.of (fun _ k => XS.iconst X11.here hx rfl (hb hby at_250) k) ?_
                  show Go p e below T11 (mkF m 251 #[.val (.int x0), .val (.int x1), .val (.int x2), .val (.int x3), .val (.int x4), .val (.int x5), .val (.int ii), .val (.int jj), .val (.int l1), .val (.int l2), .val (.int c0), .val (.int c1), .val (.int f0), .val (.int f1), .val (.ref tA), .val (.ref tB), .val (.ref ad3), .val (.ref ad5), .val (.ref ad7), .val (.int (fIs ii jj (fCs l1 c0 c1) (fCs l2 f0 f1))), .val (.int (1 : Int32)), .unset] [(.int (1 : Int32))]) _
                  refine Go.of (fun _ k => XS.goto X11.here hx rfl (pc0 := 251) (pc' := 255) rfl (hb hby at_251) (by decide) (by decide) k) ?_
                  show Go p e below T11 (mkF m 255 #[.val (.int x0), .val (.int x1), .val (.int x2), .val (.int x3), .val (.int x4), .val (.int x5), .val (.int ii), .val (.int jj), .val (.int l1), .val (.int l2), .val (.int c0), .val (.int c1), .val (.int f0), .val (.int f1), .val (.ref tA), .val (.ref tB), .val (.ref ad3), .val (.ref ad5), .val (.ref ad7), .val (.int (fIs ii jj (fCs l1 c0 c1) (fCs l2 f0 f1))), .val (.int (1 : Int32)), .unset] [(.int (1 : Int32))]) _
                  refine Go.of (fun _ k => XS.istore X11.here hx rfl (hb hby at_255) rfl (l' := #[.val (.int x0), .val (.int x1), .val (.int x2), .val (.int x3), .val (.int x4), .val (.int x5), .val (.int ii), .val (.int jj), .val (.int l1), .val (.int l2), .val (.int c0), .val (.int c1), .val (.int f0), .val (.int f1), .val (.ref tA), .val (.ref tB), .val (.ref ad3), .val (.ref ad5), .val (.ref ad7), .val (.int (fIs ii jj (fCs l1 c0 c1) (fCs l2 f0 f1))), .val (.int (1 : Int32)), .val (.int (1 : Int32))]) rfl k) ?_
                  show Go p e below T11 (mkF m 257 #[.val (.int x0), .val (.int x1), .val (.int x2), .val (.int x3), .val (.int x4), .val (.int x5), .val (.int ii), .val (.int jj), .val (.int l1), .val (.int l2), .val (.int c0), .val (.int c1), .val (.int f0), .val (.int f1), .val (.ref tA), .val (.ref tB), .val (.ref ad3), .val (.ref ad5), .val (.ref ad7), .val (.int (fIs ii jj (fCs l1 c0 c1) (fCs l2 f0 f1))), .val (.int (1 : Int32)), .val (.int (1 : Int32))] []) _
                  refine Go.of (fun _ k => XS.iload X11.here hx rfl (hb hby at_257) rfl  k) ?_
                  show Go p e below T11 (mkF m 259 #[.val (.int x0), .val (.int x1), .val (.int x2), .val (.int x3), .val (.int x4), .val (.int x5), .val (.int ii), .val (.int jj), .val (.int l1), .val (.int l2), .val (.int c0), .val (.int c1), .val (.int f0), .val (.int f1), .val (.ref tA), .val (.ref tB), .val (.ref ad3), .val (.ref ad5), .val (.ref ad7), .val (.int (fIs ii jj (fCs l1 c0 c1) (fCs l2 f0 f1))), .val (.int (1 : Int32)), .val (.int (1 : Int32))] [(.int (fIs ii jj (fCs l1 c0 c1) (fCs l2 f0 f1)))]) _
                  refine Go.of (fun _ k => XS.iload X11.here hx rfl (hb hby at_259) rfl  k) ?_
                  show Go p e below T11 (mkF m 261 #[.val (.int x0), .val (.int x1), .val (.int x2), .val (.int x3), .val (.int x4), .val (.int x5), .val (.int ii), .val (.int jj), .val (.int l1), .val (.int l2), .val (.int c0), .val (.int c1), .val (.int f0), .val (.int f1), .val (.ref tA), .val (.ref tB), .val (.ref ad3), .val (.ref ad5), .val (.ref ad7), .val (.int (fIs ii jj (fCs l1 c0 c1) (fCs l2 f0 f1))), .val (.int (1 : Int32)), .val (.int (1 : Int32))] [(.int (1 : Int32)), (.int (fIs ii jj (fCs l1 c0 c1) (fCs l2 f0 f1)))]) _
                  refine Go.of (fun _ k => XS.ifNo X11.here hx rfl (hb hby at_261) rfl ((if0 _ _).trans (feq (show ¬ ((1 : Int32) = (0 : Int32)) from (by decide))).1) k) ?_
                  show Go p e below T11 (mkF m 264 #[.val (.int x0), .val (.int x1), .val (.int x2), .val (.int x3), .val (.int x4), .val (.int x5), .val (.int ii), .val (.int jj), .val (.int l1), .val (.int l2), .val (.int c0), .val (.int c1), .val (.int f0), .val (.int f1), .val (.ref tA), .val (.ref tB), .val (.ref ad3), .val (.ref ad5), .val (.ref ad7), .val (.int (fIs ii jj (fCs l1 c0 c1) (fCs l2 f0 f1))), .val (.int (1 : Int32)), .val (.int (1 : Int32))] [(.int (fIs ii jj (fCs l1 c0 c1) (fCs l2 f0 f1)))]) _
                  refine Go.of (fun _ k => XS.iload X11.here hx rfl (hb hby at_264) rfl  k) ?_
                  show Go p e below T11 (mkF m 266 #[.val (.int x0), .val (.int x1), .val (.int x2), .val (.int x3), .val (.int x4), .val (.int x5), .val (.int ii), .val (.int jj), .val (.int l1), .val (.int l2), .val (.int c0), .val (.int c1), .val (.int f0), .val (.int f1), .val (.ref tA), .val (.ref tB), .val (.ref ad3), .val (.ref ad5), .val (.ref ad7), .val (.int (fIs ii jj (fCs l1 c0 c1) (fCs l2 f0 f1))), .val (.int (1 : Int32)), .val (.int (1 : Int32))] [(.int (1 : Int32)), (.int (fIs ii jj (fCs l1 c0 c1) (fCs l2 f0 f1)))]) _
                  refine Go.of (fun _ k => XS.ifNo X11.here hx rfl (hb hby at_266) rfl ((if0 _ _).trans (feq (show ¬ ((1 : Int32) = (0 : Int32)) from (by decide))).1) k) ?_
                  show Go p e below T11 (mkF m 269 #[.val (.int x0), .val (.int x1), .val (.int x2), .val (.int x3), .val (.int x4), .val (.int x5), .val (.int ii), .val (.int jj), .val (.int l1), .val (.int l2), .val (.int c0), .val (.int c1), .val (.int f0), .val (.int f1), .val (.ref tA), .val (.ref tB), .val (.ref ad3), .val (.ref ad5), .val (.ref ad7), .val (.int (fIs ii jj (fCs l1 c0 c1) (fCs l2 f0 f1))), .val (.int (1 : Int32)), .val (.int (1 : Int32))] [(.int (fIs ii jj (fCs l1 c0 c1) (fCs l2 f0 f1)))]) _
                  refine Go.of (fun _ k => XS.iconst X11.here hx rfl (hb hby at_269) k) ?_
                  show Go p e below T11 (mkF m 270 #[.val (.int x0), .val (.int x1), .val (.int x2), .val (.int x3), .val (.int x4), .val (.int x5), .val (.int ii), .val (.int jj), .val (.int l1), .val (.int l2), .val (.int c0), .val (.int c1), .val (.int f0), .val (.int f1), .val (.ref tA), .val (.ref tB), .val (.ref ad3), .val (.ref ad5), .val (.ref ad7), .val (.int (fIs ii jj (fCs l1 c0 c1) (fCs l2 f0 f1))), .val (.int (1 : Int32)), .val (.int (1 : Int32))] [(.int (1 : Int32)), (.int (fIs ii jj (fCs l1 c0 c1) (fCs l2 f0 f1)))]) _
                  refine Go.of (fun _ k => XS.goto X11.here hx rfl (pc0 := 270) (pc' := 274) rfl (hb hby at_270) (by decide) (by decide) k) ?_
                  show Go p e below T11 (mkF m 274 #[.val (.int x0), .val (.int x1), .val (.int x2), .val (.int x3), .val (.int x4), .val (.int x5), .val (.int ii), .val (.int jj), .val (.int l1), .val (.int l2), .val (.int c0), .val (.int c1), .val (.int f0), .val (.int f1), .val (.ref tA), .val (.ref tB), .val (.ref ad3), .val (.ref ad5), .val (.ref ad7), .val (.int (fIs ii jj (fCs l1 c0 c1) (fCs l2 f0 f1))), .val (.int (1 : Int32)), .val (.int (1 : Int32))] [(.int (1 : Int32)), (.int (fIs ii jj (fCs l1 c0 c1) (fCs l2 f0 f1)))]) _
                  refine Go.of (fun _ k => XS.icmpNo X11.here hx rfl (hb hby at_274) rfl (teq (show (fIs ii jj (fCs l1 c0 c1) (fCs l2 f0 f1)) = (1 : Int32) from (by simp only [fIs, own_cs hl_l1 hl_l2]; simp [eq_true hc207_0, eq_true hc221_1, eq_true hc227_2, eq_false hc240_3, eq_true hc247_4]))).2 k) ?_
                  show Go p e below T11 (mkF m 277 #[.val (.int x0), .val (.int x1), .val (.int x2), .val (.int x3), .val (.int x4), .val (.int x5), .val (.int ii), .val (.int jj), .val (.int l1), .val (.int l2), .val (.int c0), .val (.int c1), .val (.int f0), .val (.int f1), .val (.ref tA), .val (.ref tB), .val (.ref ad3), .val (.ref ad5), .val (.ref ad7), .val (.int (fIs ii jj (fCs l1 c0 c1) (fCs l2 f0 f1))), .val (.int (1 : Int32)), .val (.int (1 : Int32))] []) _
                  refine Go.of (fun _ k => XS.iconst X11.here hx rfl (hb hby at_277) k) ?_
                  show Go p e below T11 (mkF m 278 #[.val (.int x0), .val (.int x1), .val (.int x2), .val (.int x3), .val (.int x4), .val (.int x5), .val (.int ii), .val (.int jj), .val (.int l1), .val (.int l2), .val (.int c0), .val (.int c1), .val (.int f0), .val (.int f1), .val (.ref tA), .val (.ref tB), .val (.ref ad3), .val (.ref ad5), .val (.ref ad7), .val (.int (fIs ii jj (fCs l1 c0 c1) (fCs l2 f0 f1))), .val (.int (1 : Int32)), .val (.int (1 : Int32))] [(.int (1 : Int32))]) _
                  refine Go.of (fun _ k => XS.goto X11.here hx rfl (pc0 := 278) (pc' := 282) rfl (hb hby at_278) (by decide) (by decide) k) ?_
                  show Go p e below T11 (mkF m 282 #[.val (.int x0), .val (.int x1), .val (.int x2), .val (.int x3), .val (.int x4), .val (.int x5), .val (.int ii), .val (.int jj), .val (.int l1), .val (.int l2), .val (.int c0), .val (.int c1), .val (.int f0), .val (.int f1), .val (.ref tA), .val (.ref tB), .val (.ref ad3), .val (.ref ad5), .val (.ref ad7), .val (.int (fIs ii jj (fCs l1 c0 c1) (fCs l2 f0 f1))), .val (.int (1 : Int32)), .val (.int (1 : Int32))] [(.int (1 : Int32))]) _
                  refine Go.retNH X11 hx (t := .boolean) hret hlk (by simp) (hb hby at_282) e11 hS hk hZ hEL hs0 HR (by decide) (by decide) ?_
                  exact ⟨rfl, N11⟩
                · refine Go.of (fun _ k => XS.icmpYes X11.here hx rfl (pc0 := 247) (pc' := 254) rfl (hb hby at_247) rfl (feq hc247_4).2 (by decide) (by decide) k) ?_
                  show Go p e below T11 (mkF m 254 #[.val (.int x0), .val (.int x1), .val (.int x2), .val (.int x3), .val (.int x4), .val (.int x5), .val (.int ii), .val (.int jj), .val (.int l1), .val (.int l2), .val (.int c0), .val (.int c1), .val (.int f0), .val (.int f1), .val (.ref tA), .val (.ref tB), .val (.ref ad3), .val (.ref ad5), .val (.ref ad7), .val (.int (fIs ii jj (fCs l1 c0 c1) (fCs l2 f0 f1))), .val (.int (1 : Int32)), .unset] []) _
                  refine Go.of (fun _ k => XS.iconst X11.here hx rfl (hb hby at_254) k) ?_
                  show Go p e below T11 (mkF m 255 #[.val (.int x0), .val (.int x1), .val (.int x2), .val (.int x3), .val (.int x4), .val (.int x5), .val (.int ii), .val (.int jj), .val (.int l1), .val (.int l2), .val (.int c0), .val (.int c1), .val (.int f0), .val (.int f1), .val (.ref tA), .val (.ref tB), .val (.ref ad3), .val (.ref ad5), .val (.ref ad7), .val (.int (fIs ii jj (fCs l1 c0 c1) (fCs l2 f0 f1))), .val (.int (1 : Int32)), .unset] [(.int (0 : Int32))]) _
                  refine Go.of (fun _ k => XS.istore X11.here hx rfl (hb hby at_255) rfl (l' := #[.val (.int x0), .val (.int x1), .val (.int x2), .val (.int x3), .val (.int x4), .val (.int x5), .val (.int ii), .val (.int jj), .val (.int l1), .val (.int l2), .val (.int c0), .val (.int c1), .val (.int f0), .val (.int f1), .val (.ref tA), .val (.ref tB), .val (.ref ad3), .val (.ref ad5), .val (.ref ad7), .val (.int (fIs ii jj (fCs l1 c0 c1) (fCs l2 f0 f1))), .val (.int (1 : Int32)), .val (.int (0 : Int32))]) rfl k) ?_
                  show Go p e below T11 (mkF m 257 #[.val (.int x0), .val (.int x1), .val (.int x2), .val (.int x3), .val (.int x4), .val (.int x5), .val (.int ii), .val (.int jj), .val (.int l1), .val (.int l2), .val (.int c0), .val (.int c1), .val (.int f0), .val (.int f1), .val (.ref tA), .val (.ref tB), .val (.ref ad3), .val (.ref ad5), .val (.ref ad7), .val (.int (fIs ii jj (fCs l1 c0 c1) (fCs l2 f0 f1))), .val (.int (1 : Int32)), .val (.int (0 : Int32))] []) _
                  refine Go.of (fun _ k => XS.iload X11.here hx rfl (hb hby at_257) rfl  k) ?_
                  show Go p e below T11 (mkF m 259 #[.val (.int x0), .val (.int x1), .val (.int x2), .val (.int x3), .val (.int x4), .val (.int x5), .val (.int ii), .val (.int jj), .val (.int l1), .val (.int l2), .val (.int c0), .val (.int c1), .val (.int f0), .val (.int f1), .val (.ref tA), .val (.ref tB), .val (.ref ad3), .val (.ref ad5), .val (.ref ad7), .val (.int (fIs ii jj (fCs l1 c0 c1) (fCs l2 f0 f1))), .val (.int (1 : Int32)), .val (.int (0 : Int32))] [(.int (fIs ii jj (fCs l1 c0 c1) (fCs l2 f0 f1)))]) _
                  refine Go.of (fun _ k => XS.iload X11.here hx rfl (hb hby at_259) rfl  k) ?_
                  show Go p e below T11 (mkF m 261 #[.val (.int x0), .val (.int x1), .val (.int x2), .val (.int x3), .val (.int x4), .val (.int x5), .val (.int ii), .val (.int jj), .val (.int l1), .val (.int l2), .val (.int c0), .val (.int c1), .val (.int f0), .val (.int f1), .val (.ref tA), .val (.ref tB), .val (.ref ad3), .val (.ref ad5), .val (.ref ad7), .val (.int (fIs ii jj (fCs l1 c0 c1) (fCs l2 f0 f1))), .val (.int (1 : Int32)), .val (.int (0 : Int32))] [(.int (1 : Int32)), (.int (fIs ii jj (fCs l1 c0 c1) (fCs l2 f0 f1)))]) _
                  refine Go.of (fun _ k => XS.ifNo X11.here hx rfl (hb hby at_261) rfl ((if0 _ _).trans (feq (show ¬ ((1 : Int32) = (0 : Int32)) from (by decide))).1) k) ?_
                  show Go p e below T11 (mkF m 264 #[.val (.int x0), .val (.int x1), .val (.int x2), .val (.int x3), .val (.int x4), .val (.int x5), .val (.int ii), .val (.int jj), .val (.int l1), .val (.int l2), .val (.int c0), .val (.int c1), .val (.int f0), .val (.int f1), .val (.ref tA), .val (.ref tB), .val (.ref ad3), .val (.ref ad5), .val (.ref ad7), .val (.int (fIs ii jj (fCs l1 c0 c1) (fCs l2 f0 f1))), .val (.int (1 : Int32)), .val (.int (0 : Int32))] [(.int (fIs ii jj (fCs l1 c0 c1) (fCs l2 f0 f1)))]) _
                  refine Go.of (fun _ k => XS.iload X11.here hx rfl (hb hby at_264) rfl  k) ?_
                  show Go p e below T11 (mkF m 266 #[.val (.int x0), .val (.int x1), .val (.int x2), .val (.int x3), .val (.int x4), .val (.int x5), .val (.int ii), .val (.int jj), .val (.int l1), .val (.int l2), .val (.int c0), .val (.int c1), .val (.int f0), .val (.int f1), .val (.ref tA), .val (.ref tB), .val (.ref ad3), .val (.ref ad5), .val (.ref ad7), .val (.int (fIs ii jj (fCs l1 c0 c1) (fCs l2 f0 f1))), .val (.int (1 : Int32)), .val (.int (0 : Int32))] [(.int (0 : Int32)), (.int (fIs ii jj (fCs l1 c0 c1) (fCs l2 f0 f1)))]) _
                  refine Go.of (fun _ k => XS.ifYes X11.here hx rfl (pc0 := 266) (pc' := 273) rfl (hb hby at_266) rfl ((if0 _ _).trans (teq (show (0 : Int32) = (0 : Int32) from (by decide))).1) (by decide) (by decide) k) ?_
                  show Go p e below T11 (mkF m 273 #[.val (.int x0), .val (.int x1), .val (.int x2), .val (.int x3), .val (.int x4), .val (.int x5), .val (.int ii), .val (.int jj), .val (.int l1), .val (.int l2), .val (.int c0), .val (.int c1), .val (.int f0), .val (.int f1), .val (.ref tA), .val (.ref tB), .val (.ref ad3), .val (.ref ad5), .val (.ref ad7), .val (.int (fIs ii jj (fCs l1 c0 c1) (fCs l2 f0 f1))), .val (.int (1 : Int32)), .val (.int (0 : Int32))] [(.int (fIs ii jj (fCs l1 c0 c1) (fCs l2 f0 f1)))]) _
                  refine Go.of (fun _ k => XS.iconst X11.here hx rfl (hb hby at_273) k) ?_
                  show Go p e below T11 (mkF m 274 #[.val (.int x0), .val (.int x1), .val (.int x2), .val (.int x3), .val (.int x4), .val (.int x5), .val (.int ii), .val (.int jj), .val (.int l1), .val (.int l2), .val (.int c0), .val (.int c1), .val (.int f0), .val (.int f1), .val (.ref tA), .val (.ref tB), .val (.ref ad3), .val (.ref ad5), .val (.ref ad7), .val (.int (fIs ii jj (fCs l1 c0 c1) (fCs l2 f0 f1))), .val (.int (1 : Int32)), .val (.int (0 : Int32))] [(.int (0 : Int32)), (.int (fIs ii jj (fCs l1 c0 c1) (fCs l2 f0 f1)))]) _
                  refine Go.of (fun _ k => XS.icmpNo X11.here hx rfl (hb hby at_274) rfl (teq (show (fIs ii jj (fCs l1 c0 c1) (fCs l2 f0 f1)) = (0 : Int32) from (by simp only [fIs, own_cs hl_l1 hl_l2]; simp [eq_true hc207_0, eq_true hc221_1, eq_true hc227_2, eq_false hc240_3, eq_false hc247_4]))).2 k) ?_
                  show Go p e below T11 (mkF m 277 #[.val (.int x0), .val (.int x1), .val (.int x2), .val (.int x3), .val (.int x4), .val (.int x5), .val (.int ii), .val (.int jj), .val (.int l1), .val (.int l2), .val (.int c0), .val (.int c1), .val (.int f0), .val (.int f1), .val (.ref tA), .val (.ref tB), .val (.ref ad3), .val (.ref ad5), .val (.ref ad7), .val (.int (fIs ii jj (fCs l1 c0 c1) (fCs l2 f0 f1))), .val (.int (1 : Int32)), .val (.int (0 : Int32))] []) _
                  refine Go.of (fun _ k => XS.iconst X11.here hx rfl (hb hby at_277) k) ?_
                  show Go p e below T11 (mkF m 278 #[.val (.int x0), .val (.int x1), .val (.int x2), .val (.int x3), .val (.int x4), .val (.int x5), .val (.int ii), .val (.int jj), .val (.int l1), .val (.int l2), .val (.int c0), .val (.int c1), .val (.int f0), .val (.int f1), .val (.ref tA), .val (.ref tB), .val (.ref ad3), .val (.ref ad5), .val (.ref ad7), .val (.int (fIs ii jj (fCs l1 c0 c1) (fCs l2 f0 f1))), .val (.int (1 : Int32)), .val (.int (0 : Int32))] [(.int (1 : Int32))]) _
                  refine Go.of (fun _ k => XS.goto X11.here hx rfl (pc0 := 278) (pc' := 282) rfl (hb hby at_278) (by decide) (by decide) k) ?_
                  show Go p e below T11 (mkF m 282 #[.val (.int x0), .val (.int x1), .val (.int x2), .val (.int x3), .val (.int x4), .val (.int x5), .val (.int ii), .val (.int jj), .val (.int l1), .val (.int l2), .val (.int c0), .val (.int c1), .val (.int f0), .val (.int f1), .val (.ref tA), .val (.ref tB), .val (.ref ad3), .val (.ref ad5), .val (.ref ad7), .val (.int (fIs ii jj (fCs l1 c0 c1) (fCs l2 f0 f1))), .val (.int (1 : Int32)), .val (.int (0 : Int32))] [(.int (1 : Int32))]) _
                  refine Go.retNH X11 hx (t := .boolean) hret hlk (by simp) (hb hby at_282) e11 hS hk hZ hEL hs0 HR (by decide) (by decide) ?_
                  exact ⟨rfl, N11⟩
            · refine Go.of (fun _ k => XS.icmpNo X11.here hx rfl (hb hby at_227) rfl (flt hc227_2).1 k) ?_
              show Go p e below T11 (mkF m 230 #[.val (.int x0), .val (.int x1), .val (.int x2), .val (.int x3), .val (.int x4), .val (.int x5), .val (.int ii), .val (.int jj), .val (.int l1), .val (.int l2), .val (.int c0), .val (.int c1), .val (.int f0), .val (.int f1), .val (.ref tA), .val (.ref tB), .val (.ref ad3), .val (.ref ad5), .val (.ref ad7), .val (.int (fIs ii jj (fCs l1 c0 c1) (fCs l2 f0 f1))), .val (.int (1 : Int32)), .unset] []) _
              refine Go.of (fun _ k => XS.iload X11.here hx rfl (hb hby at_230) rfl  k) ?_
              show Go p e below T11 (mkF m 232 #[.val (.int x0), .val (.int x1), .val (.int x2), .val (.int x3), .val (.int x4), .val (.int x5), .val (.int ii), .val (.int jj), .val (.int l1), .val (.int l2), .val (.int c0), .val (.int c1), .val (.int f0), .val (.int f1), .val (.ref tA), .val (.ref tB), .val (.ref ad3), .val (.ref ad5), .val (.ref ad7), .val (.int (fIs ii jj (fCs l1 c0 c1) (fCs l2 f0 f1))), .val (.int (1 : Int32)), .unset] [(.int c0)]) _
              refine Go.of (fun _ k => XS.iload X11.here hx rfl (hb hby at_232) rfl  k) ?_
              show Go p e below T11 (mkF m 234 #[.val (.int x0), .val (.int x1), .val (.int x2), .val (.int x3), .val (.int x4), .val (.int x5), .val (.int ii), .val (.int jj), .val (.int l1), .val (.int l2), .val (.int c0), .val (.int c1), .val (.int f0), .val (.int f1), .val (.ref tA), .val (.ref tB), .val (.ref ad3), .val (.ref ad5), .val (.ref ad7), .val (.int (fIs ii jj (fCs l1 c0 c1) (fCs l2 f0 f1))), .val (.int (1 : Int32)), .unset] [(.int f0), (.int c0)]) _
              by_cases hc234_3 : c0 = f0
              · refine Go.of (fun _ k => XS.icmpNo X11.here hx rfl (hb hby at_234) rfl (teq hc234_3).2 k) ?_
                show Go p e below T11 (mkF m 237 #[.val (.int x0), .val (.int x1), .val (.int x2), .val (.int x3), .val (.int x4), .val (.int x5), .val (.int ii), .val (.int jj), .val (.int l1), .val (.int l2), .val (.int c0), .val (.int c1), .val (.int f0), .val (.int f1), .val (.ref tA), .val (.ref tB), .val (.ref ad3), .val (.ref ad5), .val (.ref ad7), .val (.int (fIs ii jj (fCs l1 c0 c1) (fCs l2 f0 f1))), .val (.int (1 : Int32)), .unset] []) _
                refine Go.of (fun _ k => XS.iload X11.here hx rfl (hb hby at_237) rfl  k) ?_
                show Go p e below T11 (mkF m 239 #[.val (.int x0), .val (.int x1), .val (.int x2), .val (.int x3), .val (.int x4), .val (.int x5), .val (.int ii), .val (.int jj), .val (.int l1), .val (.int l2), .val (.int c0), .val (.int c1), .val (.int f0), .val (.int f1), .val (.ref tA), .val (.ref tB), .val (.ref ad3), .val (.ref ad5), .val (.ref ad7), .val (.int (fIs ii jj (fCs l1 c0 c1) (fCs l2 f0 f1))), .val (.int (1 : Int32)), .unset] [(.int l1)]) _
                refine Go.of (fun _ k => XS.iconst X11.here hx rfl (hb hby at_239) k) ?_
                show Go p e below T11 (mkF m 240 #[.val (.int x0), .val (.int x1), .val (.int x2), .val (.int x3), .val (.int x4), .val (.int x5), .val (.int ii), .val (.int jj), .val (.int l1), .val (.int l2), .val (.int c0), .val (.int c1), .val (.int f0), .val (.int f1), .val (.ref tA), .val (.ref tB), .val (.ref ad3), .val (.ref ad5), .val (.ref ad7), .val (.int (fIs ii jj (fCs l1 c0 c1) (fCs l2 f0 f1))), .val (.int (1 : Int32)), .unset] [(.int (2 : Int32)), (.int l1)]) _
                by_cases hc240_4 : l1 < (2 : Int32)
                · refine Go.of (fun _ k => XS.icmpYes X11.here hx rfl (pc0 := 240) (pc' := 250) rfl (hb hby at_240) rfl (tlt hc240_4).1 (by decide) (by decide) k) ?_
                  show Go p e below T11 (mkF m 250 #[.val (.int x0), .val (.int x1), .val (.int x2), .val (.int x3), .val (.int x4), .val (.int x5), .val (.int ii), .val (.int jj), .val (.int l1), .val (.int l2), .val (.int c0), .val (.int c1), .val (.int f0), .val (.int f1), .val (.ref tA), .val (.ref tB), .val (.ref ad3), .val (.ref ad5), .val (.ref ad7), .val (.int (fIs ii jj (fCs l1 c0 c1) (fCs l2 f0 f1))), .val (.int (1 : Int32)), .unset] []) _
                  refine Go.of (fun _ k => XS.iconst X11.here hx rfl (hb hby at_250) k) ?_
                  show Go p e below T11 (mkF m 251 #[.val (.int x0), .val (.int x1), .val (.int x2), .val (.int x3), .val (.int x4), .val (.int x5), .val (.int ii), .val (.int jj), .val (.int l1), .val (.int l2), .val (.int c0), .val (.int c1), .val (.int f0), .val (.int f1), .val (.ref tA), .val (.ref tB), .val (.ref ad3), .val (.ref ad5), .val (.ref ad7), .val (.int (fIs ii jj (fCs l1 c0 c1) (fCs l2 f0 f1))), .val (.int (1 : Int32)), .unset] [(.int (1 : Int32))]) _
                  refine Go.of (fun _ k => XS.goto X11.here hx rfl (pc0 := 251) (pc' := 255) rfl (hb hby at_251) (by decide) (by decide) k) ?_
                  show Go p e below T11 (mkF m 255 #[.val (.int x0), .val (.int x1), .val (.int x2), .val (.int x3), .val (.int x4), .val (.int x5), .val (.int ii), .val (.int jj), .val (.int l1), .val (.int l2), .val (.int c0), .val (.int c1), .val (.int f0), .val (.int f1), .val (.ref tA), .val (.ref tB), .val (.ref ad3), .val (.ref ad5), .val (.ref ad7), .val (.int (fIs ii jj (fCs l1 c0 c1) (fCs l2 f0 f1))), .val (.int (1 : Int32)), .unset] [(.int (1 : Int32))]) _
                  refine Go.of (fun _ k => XS.istore X11.here hx rfl (hb hby at_255) rfl (l' := #[.val (.int x0), .val (.int x1), .val (.int x2), .val (.int x3), .val (.int x4), .val (.int x5), .val (.int ii), .val (.int jj), .val (.int l1), .val (.int l2), .val (.int c0), .val (.int c1), .val (.int f0), .val (.int f1), .val (.ref tA), .val (.ref tB), .val (.ref ad3), .val (.ref ad5), .val (.ref ad7), .val (.int (fIs ii jj (fCs l1 c0 c1) (fCs l2 f0 f1))), .val (.int (1 : Int32)), .val (.int (1 : Int32))]) rfl k) ?_
                  show Go p e below T11 (mkF m 257 #[.val (.int x0), .val (.int x1), .val (.int x2), .val (.int x3), .val (.int x4), .val (.int x5), .val (.int ii), .val (.int jj), .val (.int l1), .val (.int l2), .val (.int c0), .val (.int c1), .val (.int f0), .val (.int f1), .val (.ref tA), .val (.ref tB), .val (.ref ad3), .val (.ref ad5), .val (.ref ad7), .val (.int (fIs ii jj (fCs l1 c0 c1) (fCs l2 f0 f1))), .val (.int (1 : Int32)), .val (.int (1 : Int32))] []) _
                  refine Go.of (fun _ k => XS.iload X11.here hx rfl (hb hby at_257) rfl  k) ?_
                  show Go p e below T11 (mkF m 259 #[.val (.int x0), .val (.int x1), .val (.int x2), .val (.int x3), .val (.int x4), .val (.int x5), .val (.int ii), .val (.int jj), .val (.int l1), .val (.int l2), .val (.int c0), .val (.int c1), .val (.int f0), .val (.int f1), .val (.ref tA), .val (.ref tB), .val (.ref ad3), .val (.ref ad5), .val (.ref ad7), .val (.int (fIs ii jj (fCs l1 c0 c1) (fCs l2 f0 f1))), .val (.int (1 : Int32)), .val (.int (1 : Int32))] [(.int (fIs ii jj (fCs l1 c0 c1) (fCs l2 f0 f1)))]) _
                  refine Go.of (fun _ k => XS.iload X11.here hx rfl (hb hby at_259) rfl  k) ?_
                  show Go p e below T11 (mkF m 261 #[.val (.int x0), .val (.int x1), .val (.int x2), .val (.int x3), .val (.int x4), .val (.int x5), .val (.int ii), .val (.int jj), .val (.int l1), .val (.int l2), .val (.int c0), .val (.int c1), .val (.int f0), .val (.int f1), .val (.ref tA), .val (.ref tB), .val (.ref ad3), .val (.ref ad5), .val (.ref ad7), .val (.int (fIs ii jj (fCs l1 c0 c1) (fCs l2 f0 f1))), .val (.int (1 : Int32)), .val (.int (1 : Int32))] [(.int (1 : Int32)), (.int (fIs ii jj (fCs l1 c0 c1) (fCs l2 f0 f1)))]) _
                  refine Go.of (fun _ k => XS.ifNo X11.here hx rfl (hb hby at_261) rfl ((if0 _ _).trans (feq (show ¬ ((1 : Int32) = (0 : Int32)) from (by decide))).1) k) ?_
                  show Go p e below T11 (mkF m 264 #[.val (.int x0), .val (.int x1), .val (.int x2), .val (.int x3), .val (.int x4), .val (.int x5), .val (.int ii), .val (.int jj), .val (.int l1), .val (.int l2), .val (.int c0), .val (.int c1), .val (.int f0), .val (.int f1), .val (.ref tA), .val (.ref tB), .val (.ref ad3), .val (.ref ad5), .val (.ref ad7), .val (.int (fIs ii jj (fCs l1 c0 c1) (fCs l2 f0 f1))), .val (.int (1 : Int32)), .val (.int (1 : Int32))] [(.int (fIs ii jj (fCs l1 c0 c1) (fCs l2 f0 f1)))]) _
                  refine Go.of (fun _ k => XS.iload X11.here hx rfl (hb hby at_264) rfl  k) ?_
                  show Go p e below T11 (mkF m 266 #[.val (.int x0), .val (.int x1), .val (.int x2), .val (.int x3), .val (.int x4), .val (.int x5), .val (.int ii), .val (.int jj), .val (.int l1), .val (.int l2), .val (.int c0), .val (.int c1), .val (.int f0), .val (.int f1), .val (.ref tA), .val (.ref tB), .val (.ref ad3), .val (.ref ad5), .val (.ref ad7), .val (.int (fIs ii jj (fCs l1 c0 c1) (fCs l2 f0 f1))), .val (.int (1 : Int32)), .val (.int (1 : Int32))] [(.int (1 : Int32)), (.int (fIs ii jj (fCs l1 c0 c1) (fCs l2 f0 f1)))]) _
                  refine Go.of (fun _ k => XS.ifNo X11.here hx rfl (hb hby at_266) rfl ((if0 _ _).trans (feq (show ¬ ((1 : Int32) = (0 : Int32)) from (by decide))).1) k) ?_
                  show Go p e below T11 (mkF m 269 #[.val (.int x0), .val (.int x1), .val (.int x2), .val (.int x3), .val (.int x4), .val (.int x5), .val (.int ii), .val (.int jj), .val (.int l1), .val (.int l2), .val (.int c0), .val (.int c1), .val (.int f0), .val (.int f1), .val (.ref tA), .val (.ref tB), .val (.ref ad3), .val (.ref ad5), .val (.ref ad7), .val (.int (fIs ii jj (fCs l1 c0 c1) (fCs l2 f0 f1))), .val (.int (1 : Int32)), .val (.int (1 : Int32))] [(.int (fIs ii jj (fCs l1 c0 c1) (fCs l2 f0 f1)))]) _
                  refine Go.of (fun _ k => XS.iconst X11.here hx rfl (hb hby at_269) k) ?_
                  show Go p e below T11 (mkF m 270 #[.val (.int x0), .val (.int x1), .val (.int x2), .val (.int x3), .val (.int x4), .val (.int x5), .val (.int ii), .val (.int jj), .val (.int l1), .val (.int l2), .val (.int c0), .val (.int c1), .val (.int f0), .val (.int f1), .val (.ref tA), .val (.ref tB), .val (.ref ad3), .val (.ref ad5), .val (.ref ad7), .val (.int (fIs ii jj (fCs l1 c0 c1) (fCs l2 f0 f1))), .val (.int (1 : Int32)), .val (.int (1 : Int32))] [(.int (1 : Int32)), (.int (fIs ii jj (fCs l1 c0 c1) (fCs l2 f0 f1)))]) _
                  refine Go.of (fun _ k => XS.goto X11.here hx rfl (pc0 := 270) (pc' := 274) rfl (hb hby at_270) (by decide) (by decide) k) ?_
                  show Go p e below T11 (mkF m 274 #[.val (.int x0), .val (.int x1), .val (.int x2), .val (.int x3), .val (.int x4), .val (.int x5), .val (.int ii), .val (.int jj), .val (.int l1), .val (.int l2), .val (.int c0), .val (.int c1), .val (.int f0), .val (.int f1), .val (.ref tA), .val (.ref tB), .val (.ref ad3), .val (.ref ad5), .val (.ref ad7), .val (.int (fIs ii jj (fCs l1 c0 c1) (fCs l2 f0 f1))), .val (.int (1 : Int32)), .val (.int (1 : Int32))] [(.int (1 : Int32)), (.int (fIs ii jj (fCs l1 c0 c1) (fCs l2 f0 f1)))]) _
                  refine Go.of (fun _ k => XS.icmpNo X11.here hx rfl (hb hby at_274) rfl (teq (show (fIs ii jj (fCs l1 c0 c1) (fCs l2 f0 f1)) = (1 : Int32) from (by simp only [fIs, own_cs hl_l1 hl_l2]; simp [eq_true hc207_0, eq_true hc221_1, eq_false hc227_2, eq_true hc234_3, eq_true hc240_4]))).2 k) ?_
                  show Go p e below T11 (mkF m 277 #[.val (.int x0), .val (.int x1), .val (.int x2), .val (.int x3), .val (.int x4), .val (.int x5), .val (.int ii), .val (.int jj), .val (.int l1), .val (.int l2), .val (.int c0), .val (.int c1), .val (.int f0), .val (.int f1), .val (.ref tA), .val (.ref tB), .val (.ref ad3), .val (.ref ad5), .val (.ref ad7), .val (.int (fIs ii jj (fCs l1 c0 c1) (fCs l2 f0 f1))), .val (.int (1 : Int32)), .val (.int (1 : Int32))] []) _
                  refine Go.of (fun _ k => XS.iconst X11.here hx rfl (hb hby at_277) k) ?_
                  show Go p e below T11 (mkF m 278 #[.val (.int x0), .val (.int x1), .val (.int x2), .val (.int x3), .val (.int x4), .val (.int x5), .val (.int ii), .val (.int jj), .val (.int l1), .val (.int l2), .val (.int c0), .val (.int c1), .val (.int f0), .val (.int f1), .val (.ref tA), .val (.ref tB), .val (.ref ad3), .val (.ref ad5), .val (.ref ad7), .val (.int (fIs ii jj (fCs l1 c0 c1) (fCs l2 f0 f1))), .val (.int (1 : Int32)), .val (.int (1 : Int32))] [(.int (1 : Int32))]) _
                  refine Go.of (fun _ k => XS.goto X11.here hx rfl (pc0 := 278) (pc' := 282) rfl (hb hby at_278) (by decide) (by decide) k) ?_
                  show Go p e below T11 (mkF m 282 #[.val (.int x0), .val (.int x1), .val (.int x2), .val (.int x3), .val (.int x4), .val (.int x5), .val (.int ii), .val (.int jj), .val (.int l1), .val (.int l2), .val (.int c0), .val (.int c1), .val (.int f0), .val (.int f1), .val (.ref tA), .val (.ref tB), .val (.ref ad3), .val (.ref ad5), .val (.ref ad7), .val (.int (fIs ii jj (fCs l1 c0 c1) (fCs l2 f0 f1))), .val (.int (1 : Int32)), .val (.int (1 : Int32))] [(.int (1 : Int32))]) _
                  refine Go.retNH X11 hx (t := .boolean) hret hlk (by simp) (hb hby at_282) e11 hS hk hZ hEL hs0 HR (by decide) (by decide) ?_
                  exact ⟨rfl, N11⟩
                · refine Go.of (fun _ k => XS.icmpNo X11.here hx rfl (hb hby at_240) rfl (flt hc240_4).1 k) ?_
                  show Go p e below T11 (mkF m 243 #[.val (.int x0), .val (.int x1), .val (.int x2), .val (.int x3), .val (.int x4), .val (.int x5), .val (.int ii), .val (.int jj), .val (.int l1), .val (.int l2), .val (.int c0), .val (.int c1), .val (.int f0), .val (.int f1), .val (.ref tA), .val (.ref tB), .val (.ref ad3), .val (.ref ad5), .val (.ref ad7), .val (.int (fIs ii jj (fCs l1 c0 c1) (fCs l2 f0 f1))), .val (.int (1 : Int32)), .unset] []) _
                  refine Go.of (fun _ k => XS.iload X11.here hx rfl (hb hby at_243) rfl  k) ?_
                  show Go p e below T11 (mkF m 245 #[.val (.int x0), .val (.int x1), .val (.int x2), .val (.int x3), .val (.int x4), .val (.int x5), .val (.int ii), .val (.int jj), .val (.int l1), .val (.int l2), .val (.int c0), .val (.int c1), .val (.int f0), .val (.int f1), .val (.ref tA), .val (.ref tB), .val (.ref ad3), .val (.ref ad5), .val (.ref ad7), .val (.int (fIs ii jj (fCs l1 c0 c1) (fCs l2 f0 f1))), .val (.int (1 : Int32)), .unset] [(.int c1)]) _
                  refine Go.of (fun _ k => XS.iload X11.here hx rfl (hb hby at_245) rfl  k) ?_
                  show Go p e below T11 (mkF m 247 #[.val (.int x0), .val (.int x1), .val (.int x2), .val (.int x3), .val (.int x4), .val (.int x5), .val (.int ii), .val (.int jj), .val (.int l1), .val (.int l2), .val (.int c0), .val (.int c1), .val (.int f0), .val (.int f1), .val (.ref tA), .val (.ref tB), .val (.ref ad3), .val (.ref ad5), .val (.ref ad7), .val (.int (fIs ii jj (fCs l1 c0 c1) (fCs l2 f0 f1))), .val (.int (1 : Int32)), .unset] [(.int f1), (.int c1)]) _
                  by_cases hc247_5 : c1 = f1
                  · refine Go.of (fun _ k => XS.icmpNo X11.here hx rfl (hb hby at_247) rfl (teq hc247_5).2 k) ?_
                    show Go p e below T11 (mkF m 250 #[.val (.int x0), .val (.int x1), .val (.int x2), .val (.int x3), .val (.int x4), .val (.int x5), .val (.int ii), .val (.int jj), .val (.int l1), .val (.int l2), .val (.int c0), .val (.int c1), .val (.int f0), .val (.int f1), .val (.ref tA), .val (.ref tB), .val (.ref ad3), .val (.ref ad5), .val (.ref ad7), .val (.int (fIs ii jj (fCs l1 c0 c1) (fCs l2 f0 f1))), .val (.int (1 : Int32)), .unset] []) _
                    refine Go.of (fun _ k => XS.iconst X11.here hx rfl (hb hby at_250) k) ?_
                    show Go p e below T11 (mkF m 251 #[.val (.int x0), .val (.int x1), .val (.int x2), .val (.int x3), .val (.int x4), .val (.int x5), .val (.int ii), .val (.int jj), .val (.int l1), .val (.int l2), .val (.int c0), .val (.int c1), .val (.int f0), .val (.int f1), .val (.ref tA), .val (.ref tB), .val (.ref ad3), .val (.ref ad5), .val (.ref ad7), .val (.int (fIs ii jj (fCs l1 c0 c1) (fCs l2 f0 f1))), .val (.int (1 : Int32)), .unset] [(.int (1 : Int32))]) _
                    refine Go.of (fun _ k => XS.goto X11.here hx rfl (pc0 := 251) (pc' := 255) rfl (hb hby at_251) (by decide) (by decide) k) ?_
                    show Go p e below T11 (mkF m 255 #[.val (.int x0), .val (.int x1), .val (.int x2), .val (.int x3), .val (.int x4), .val (.int x5), .val (.int ii), .val (.int jj), .val (.int l1), .val (.int l2), .val (.int c0), .val (.int c1), .val (.int f0), .val (.int f1), .val (.ref tA), .val (.ref tB), .val (.ref ad3), .val (.ref ad5), .val (.ref ad7), .val (.int (fIs ii jj (fCs l1 c0 c1) (fCs l2 f0 f1))), .val (.int (1 : Int32)), .unset] [(.int (1 : Int32))]) _
                    refine Go.of (fun _ k => XS.istore X11.here hx rfl (hb hby at_255) rfl (l' := #[.val (.int x0), .val (.int x1), .val (.int x2), .val (.int x3), .val (.int x4), .val (.int x5), .val (.int ii), .val (.int jj), .val (.int l1), .val (.int l2), .val (.int c0), .val (.int c1), .val (.int f0), .val (.int f1), .val (.ref tA), .val (.ref tB), .val (.ref ad3), .val (.ref ad5), .val (.ref ad7), .val (.int (fIs ii jj (fCs l1 c0 c1) (fCs l2 f0 f1))), .val (.int (1 : Int32)), .val (.int (1 : Int32))]) rfl k) ?_
                    show Go p e below T11 (mkF m 257 #[.val (.int x0), .val (.int x1), .val (.int x2), .val (.int x3), .val (.int x4), .val (.int x5), .val (.int ii), .val (.int jj), .val (.int l1), .val (.int l2), .val (.int c0), .val (.int c1), .val (.int f0), .val (.int f1), .val (.ref tA), .val (.ref tB), .val (.ref ad3), .val (.ref ad5), .val (.ref ad7), .val (.int (fIs ii jj (fCs l1 c0 c1) (fCs l2 f0 f1))), .val (.int (1 : Int32)), .val (.int (1 : Int32))] []) _
                    refine Go.of (fun _ k => XS.iload X11.here hx rfl (hb hby at_257) rfl  k) ?_
                    show Go p e below T11 (mkF m 259 #[.val (.int x0), .val (.int x1), .val (.int x2), .val (.int x3), .val (.int x4), .val (.int x5), .val (.int ii), .val (.int jj), .val (.int l1), .val (.int l2), .val (.int c0), .val (.int c1), .val (.int f0), .val (.int f1), .val (.ref tA), .val (.ref tB), .val (.ref ad3), .val (.ref ad5), .val (.ref ad7), .val (.int (fIs ii jj (fCs l1 c0 c1) (fCs l2 f0 f1))), .val (.int (1 : Int32)), .val (.int (1 : Int32))] [(.int (fIs ii jj (fCs l1 c0 c1) (fCs l2 f0 f1)))]) _
                    refine Go.of (fun _ k => XS.iload X11.here hx rfl (hb hby at_259) rfl  k) ?_
                    show Go p e below T11 (mkF m 261 #[.val (.int x0), .val (.int x1), .val (.int x2), .val (.int x3), .val (.int x4), .val (.int x5), .val (.int ii), .val (.int jj), .val (.int l1), .val (.int l2), .val (.int c0), .val (.int c1), .val (.int f0), .val (.int f1), .val (.ref tA), .val (.ref tB), .val (.ref ad3), .val (.ref ad5), .val (.ref ad7), .val (.int (fIs ii jj (fCs l1 c0 c1) (fCs l2 f0 f1))), .val (.int (1 : Int32)), .val (.int (1 : Int32))] [(.int (1 : Int32)), (.int (fIs ii jj (fCs l1 c0 c1) (fCs l2 f0 f1)))]) _
                    refine Go.of (fun _ k => XS.ifNo X11.here hx rfl (hb hby at_261) rfl ((if0 _ _).trans (feq (show ¬ ((1 : Int32) = (0 : Int32)) from (by decide))).1) k) ?_
                    show Go p e below T11 (mkF m 264 #[.val (.int x0), .val (.int x1), .val (.int x2), .val (.int x3), .val (.int x4), .val (.int x5), .val (.int ii), .val (.int jj), .val (.int l1), .val (.int l2), .val (.int c0), .val (.int c1), .val (.int f0), .val (.int f1), .val (.ref tA), .val (.ref tB), .val (.ref ad3), .val (.ref ad5), .val (.ref ad7), .val (.int (fIs ii jj (fCs l1 c0 c1) (fCs l2 f0 f1))), .val (.int (1 : Int32)), .val (.int (1 : Int32))] [(.int (fIs ii jj (fCs l1 c0 c1) (fCs l2 f0 f1)))]) _
                    refine Go.of (fun _ k => XS.iload X11.here hx rfl (hb hby at_264) rfl  k) ?_
                    show Go p e below T11 (mkF m 266 #[.val (.int x0), .val (.int x1), .val (.int x2), .val (.int x3), .val (.int x4), .val (.int x5), .val (.int ii), .val (.int jj), .val (.int l1), .val (.int l2), .val (.int c0), .val (.int c1), .val (.int f0), .val (.int f1), .val (.ref tA), .val (.ref tB), .val (.ref ad3), .val (.ref ad5), .val (.ref ad7), .val (.int (fIs ii jj (fCs l1 c0 c1) (fCs l2 f0 f1))), .val (.int (1 : Int32)), .val (.int (1 : Int32))] [(.int (1 : Int32)), (.int (fIs ii jj (fCs l1 c0 c1) (fCs l2 f0 f1)))]) _
                    refine Go.of (fun _ k => XS.ifNo X11.here hx rfl (hb hby at_266) rfl ((if0 _ _).trans (feq (show ¬ ((1 : Int32) = (0 : Int32)) from (by decide))).1) k) ?_
                    show Go p e below T11 (mkF m 269 #[.val (.int x0), .val (.int x1), .val (.int x2), .val (.int x3), .val (.int x4), .val (.int x5), .val (.int ii), .val (.int jj), .val (.int l1), .val (.int l2), .val (.int c0), .val (.int c1), .val (.int f0), .val (.int f1), .val (.ref tA), .val (.ref tB), .val (.ref ad3), .val (.ref ad5), .val (.ref ad7), .val (.int (fIs ii jj (fCs l1 c0 c1) (fCs l2 f0 f1))), .val (.int (1 : Int32)), .val (.int (1 : Int32))] [(.int (fIs ii jj (fCs l1 c0 c1) (fCs l2 f0 f1)))]) _
                    refine Go.of (fun _ k => XS.iconst X11.here hx rfl (hb hby at_269) k) ?_
                    show Go p e below T11 (mkF m 270 #[.val (.int x0), .val (.int x1), .val (.int x2), .val (.int x3), .val (.int x4), .val (.int x5), .val (.int ii), .val (.int jj), .val (.int l1), .val (.int l2), .val (.int c0), .val (.int c1), .val (.int f0), .val (.int f1), .val (.ref tA), .val (.ref tB), .val (.ref ad3), .val (.ref ad5), .val (.ref ad7), .val (.int (fIs ii jj (fCs l1 c0 c1) (fCs l2 f0 f1))), .val (.int (1 : Int32)), .val (.int (1 : Int32))] [(.int (1 : Int32)), (.int (fIs ii jj (fCs l1 c0 c1) (fCs l2 f0 f1)))]) _
                    refine Go.of (fun _ k => XS.goto X11.here hx rfl (pc0 := 270) (pc' := 274) rfl (hb hby at_270) (by decide) (by decide) k) ?_
                    show Go p e below T11 (mkF m 274 #[.val (.int x0), .val (.int x1), .val (.int x2), .val (.int x3), .val (.int x4), .val (.int x5), .val (.int ii), .val (.int jj), .val (.int l1), .val (.int l2), .val (.int c0), .val (.int c1), .val (.int f0), .val (.int f1), .val (.ref tA), .val (.ref tB), .val (.ref ad3), .val (.ref ad5), .val (.ref ad7), .val (.int (fIs ii jj (fCs l1 c0 c1) (fCs l2 f0 f1))), .val (.int (1 : Int32)), .val (.int (1 : Int32))] [(.int (1 : Int32)), (.int (fIs ii jj (fCs l1 c0 c1) (fCs l2 f0 f1)))]) _
                    refine Go.of (fun _ k => XS.icmpNo X11.here hx rfl (hb hby at_274) rfl (teq (show (fIs ii jj (fCs l1 c0 c1) (fCs l2 f0 f1)) = (1 : Int32) from (by simp only [fIs, own_cs hl_l1 hl_l2]; simp [eq_true hc207_0, eq_true hc221_1, eq_false hc227_2, eq_true hc234_3, eq_false hc240_4, eq_true hc247_5]))).2 k) ?_
                    show Go p e below T11 (mkF m 277 #[.val (.int x0), .val (.int x1), .val (.int x2), .val (.int x3), .val (.int x4), .val (.int x5), .val (.int ii), .val (.int jj), .val (.int l1), .val (.int l2), .val (.int c0), .val (.int c1), .val (.int f0), .val (.int f1), .val (.ref tA), .val (.ref tB), .val (.ref ad3), .val (.ref ad5), .val (.ref ad7), .val (.int (fIs ii jj (fCs l1 c0 c1) (fCs l2 f0 f1))), .val (.int (1 : Int32)), .val (.int (1 : Int32))] []) _
                    refine Go.of (fun _ k => XS.iconst X11.here hx rfl (hb hby at_277) k) ?_
                    show Go p e below T11 (mkF m 278 #[.val (.int x0), .val (.int x1), .val (.int x2), .val (.int x3), .val (.int x4), .val (.int x5), .val (.int ii), .val (.int jj), .val (.int l1), .val (.int l2), .val (.int c0), .val (.int c1), .val (.int f0), .val (.int f1), .val (.ref tA), .val (.ref tB), .val (.ref ad3), .val (.ref ad5), .val (.ref ad7), .val (.int (fIs ii jj (fCs l1 c0 c1) (fCs l2 f0 f1))), .val (.int (1 : Int32)), .val (.int (1 : Int32))] [(.int (1 : Int32))]) _
                    refine Go.of (fun _ k => XS.goto X11.here hx rfl (pc0 := 278) (pc' := 282) rfl (hb hby at_278) (by decide) (by decide) k) ?_
                    show Go p e below T11 (mkF m 282 #[.val (.int x0), .val (.int x1), .val (.int x2), .val (.int x3), .val (.int x4), .val (.int x5), .val (.int ii), .val (.int jj), .val (.int l1), .val (.int l2), .val (.int c0), .val (.int c1), .val (.int f0), .val (.int f1), .val (.ref tA), .val (.ref tB), .val (.ref ad3), .val (.ref ad5), .val (.ref ad7), .val (.int (fIs ii jj (fCs l1 c0 c1) (fCs l2 f0 f1))), .val (.int (1 : Int32)), .val (.int (1 : Int32))] [(.int (1 : Int32))]) _
                    refine Go.retNH X11 hx (t := .boolean) hret hlk (by simp) (hb hby at_282) e11 hS hk hZ hEL hs0 HR (by decide) (by decide) ?_
                    exact ⟨rfl, N11⟩
                  · refine Go.of (fun _ k => XS.icmpYes X11.here hx rfl (pc0 := 247) (pc' := 254) rfl (hb hby at_247) rfl (feq hc247_5).2 (by decide) (by decide) k) ?_
                    show Go p e below T11 (mkF m 254 #[.val (.int x0), .val (.int x1), .val (.int x2), .val (.int x3), .val (.int x4), .val (.int x5), .val (.int ii), .val (.int jj), .val (.int l1), .val (.int l2), .val (.int c0), .val (.int c1), .val (.int f0), .val (.int f1), .val (.ref tA), .val (.ref tB), .val (.ref ad3), .val (.ref ad5), .val (.ref ad7), .val (.int (fIs ii jj (fCs l1 c0 c1) (fCs l2 f0 f1))), .val (.int (1 : Int32)), .unset] []) _
                    refine Go.of (fun _ k => XS.iconst X11.here hx rfl (hb hby at_254) k) ?_
                    show Go p e below T11 (mkF m 255 #[.val (.int x0), .val (.int x1), .val (.int x2), .val (.int x3), .val (.int x4), .val (.int x5), .val (.int ii), .val (.int jj), .val (.int l1), .val (.int l2), .val (.int c0), .val (.int c1), .val (.int f0), .val (.int f1), .val (.ref tA), .val (.ref tB), .val (.ref ad3), .val (.ref ad5), .val (.ref ad7), .val (.int (fIs ii jj (fCs l1 c0 c1) (fCs l2 f0 f1))), .val (.int (1 : Int32)), .unset] [(.int (0 : Int32))]) _
                    refine Go.of (fun _ k => XS.istore X11.here hx rfl (hb hby at_255) rfl (l' := #[.val (.int x0), .val (.int x1), .val (.int x2), .val (.int x3), .val (.int x4), .val (.int x5), .val (.int ii), .val (.int jj), .val (.int l1), .val (.int l2), .val (.int c0), .val (.int c1), .val (.int f0), .val (.int f1), .val (.ref tA), .val (.ref tB), .val (.ref ad3), .val (.ref ad5), .val (.ref ad7), .val (.int (fIs ii jj (fCs l1 c0 c1) (fCs l2 f0 f1))), .val (.int (1 : Int32)), .val (.int (0 : Int32))]) rfl k) ?_
                    show Go p e below T11 (mkF m 257 #[.val (.int x0), .val (.int x1), .val (.int x2), .val (.int x3), .val (.int x4), .val (.int x5), .val (.int ii), .val (.int jj), .val (.int l1), .val (.int l2), .val (.int c0), .val (.int c1), .val (.int f0), .val (.int f1), .val (.ref tA), .val (.ref tB), .val (.ref ad3), .val (.ref ad5), .val (.ref ad7), .val (.int (fIs ii jj (fCs l1 c0 c1) (fCs l2 f0 f1))), .val (.int (1 : Int32)), .val (.int (0 : Int32))] []) _
                    refine Go.of (fun _ k => XS.iload X11.here hx rfl (hb hby at_257) rfl  k) ?_
                    show Go p e below T11 (mkF m 259 #[.val (.int x0), .val (.int x1), .val (.int x2), .val (.int x3), .val (.int x4), .val (.int x5), .val (.int ii), .val (.int jj), .val (.int l1), .val (.int l2), .val (.int c0), .val (.int c1), .val (.int f0), .val (.int f1), .val (.ref tA), .val (.ref tB), .val (.ref ad3), .val (.ref ad5), .val (.ref ad7), .val (.int (fIs ii jj (fCs l1 c0 c1) (fCs l2 f0 f1))), .val (.int (1 : Int32)), .val (.int (0 : Int32))] [(.int (fIs ii jj (fCs l1 c0 c1) (fCs l2 f0 f1)))]) _
                    refine Go.of (fun _ k => XS.iload X11.here hx rfl (hb hby at_259) rfl  k) ?_
                    show Go p e below T11 (mkF m 261 #[.val (.int x0), .val (.int x1), .val (.int x2), .val (.int x3), .val (.int x4), .val (.int x5), .val (.int ii), .val (.int jj), .val (.int l1), .val (.int l2), .val (.int c0), .val (.int c1), .val (.int f0), .val (.int f1), .val (.ref tA), .val (.ref tB), .val (.ref ad3), .val (.ref ad5), .val (.ref ad7), .val (.int (fIs ii jj (fCs l1 c0 c1) (fCs l2 f0 f1))), .val (.int (1 : Int32)), .val (.int (0 : Int32))] [(.int (1 : Int32)), (.int (fIs ii jj (fCs l1 c0 c1) (fCs l2 f0 f1)))]) _
                    refine Go.of (fun _ k => XS.ifNo X11.here hx rfl (hb hby at_261) rfl ((if0 _ _).trans (feq (show ¬ ((1 : Int32) = (0 : Int32)) from (by decide))).1) k) ?_
                    show Go p e below T11 (mkF m 264 #[.val (.int x0), .val (.int x1), .val (.int x2), .val (.int x3), .val (.int x4), .val (.int x5), .val (.int ii), .val (.int jj), .val (.int l1), .val (.int l2), .val (.int c0), .val (.int c1), .val (.int f0), .val (.int f1), .val (.ref tA), .val (.ref tB), .val (.ref ad3), .val (.ref ad5), .val (.ref ad7), .val (.int (fIs ii jj (fCs l1 c0 c1) (fCs l2 f0 f1))), .val (.int (1 : Int32)), .val (.int (0 : Int32))] [(.int (fIs ii jj (fCs l1 c0 c1) (fCs l2 f0 f1)))]) _
                    refine Go.of (fun _ k => XS.iload X11.here hx rfl (hb hby at_264) rfl  k) ?_
                    show Go p e below T11 (mkF m 266 #[.val (.int x0), .val (.int x1), .val (.int x2), .val (.int x3), .val (.int x4), .val (.int x5), .val (.int ii), .val (.int jj), .val (.int l1), .val (.int l2), .val (.int c0), .val (.int c1), .val (.int f0), .val (.int f1), .val (.ref tA), .val (.ref tB), .val (.ref ad3), .val (.ref ad5), .val (.ref ad7), .val (.int (fIs ii jj (fCs l1 c0 c1) (fCs l2 f0 f1))), .val (.int (1 : Int32)), .val (.int (0 : Int32))] [(.int (0 : Int32)), (.int (fIs ii jj (fCs l1 c0 c1) (fCs l2 f0 f1)))]) _
                    refine Go.of (fun _ k => XS.ifYes X11.here hx rfl (pc0 := 266) (pc' := 273) rfl (hb hby at_266) rfl ((if0 _ _).trans (teq (show (0 : Int32) = (0 : Int32) from (by decide))).1) (by decide) (by decide) k) ?_
                    show Go p e below T11 (mkF m 273 #[.val (.int x0), .val (.int x1), .val (.int x2), .val (.int x3), .val (.int x4), .val (.int x5), .val (.int ii), .val (.int jj), .val (.int l1), .val (.int l2), .val (.int c0), .val (.int c1), .val (.int f0), .val (.int f1), .val (.ref tA), .val (.ref tB), .val (.ref ad3), .val (.ref ad5), .val (.ref ad7), .val (.int (fIs ii jj (fCs l1 c0 c1) (fCs l2 f0 f1))), .val (.int (1 : Int32)), .val (.int (0 : Int32))] [(.int (fIs ii jj (fCs l1 c0 c1) (fCs l2 f0 f1)))]) _
                    refine Go.of (fun _ k => XS.iconst X11.here hx rfl (hb hby at_273) k) ?_
                    show Go p e below T11 (mkF m 274 #[.val (.int x0), .val (.int x1), .val (.int x2), .val (.int x3), .val (.int x4), .val (.int x5), .val (.int ii), .val (.int jj), .val (.int l1), .val (.int l2), .val (.int c0), .val (.int c1), .val (.int f0), .val (.int f1), .val (.ref tA), .val (.ref tB), .val (.ref ad3), .val (.ref ad5), .val (.ref ad7), .val (.int (fIs ii jj (fCs l1 c0 c1) (fCs l2 f0 f1))), .val (.int (1 : Int32)), .val (.int (0 : Int32))] [(.int (0 : Int32)), (.int (fIs ii jj (fCs l1 c0 c1) (fCs l2 f0 f1)))]) _
                    refine Go.of (fun _ k => XS.icmpNo X11.here hx rfl (hb hby at_274) rfl (teq (show (fIs ii jj (fCs l1 c0 c1) (fCs l2 f0 f1)) = (0 : Int32) from (by simp only [fIs, own_cs hl_l1 hl_l2]; simp [eq_true hc207_0, eq_true hc221_1, eq_false hc227_2, eq_true hc234_3, eq_false hc240_4, eq_false hc247_5]))).2 k) ?_
                    show Go p e below T11 (mkF m 277 #[.val (.int x0), .val (.int x1), .val (.int x2), .val (.int x3), .val (.int x4), .val (.int x5), .val (.int ii), .val (.int jj), .val (.int l1), .val (.int l2), .val (.int c0), .val (.int c1), .val (.int f0), .val (.int f1), .val (.ref tA), .val (.ref tB), .val (.ref ad3), .val (.ref ad5), .val (.ref ad7), .val (.int (fIs ii jj (fCs l1 c0 c1) (fCs l2 f0 f1))), .val (.int (1 : Int32)), .val (.int (0 : Int32))] []) _
                    refine Go.of (fun _ k => XS.iconst X11.here hx rfl (hb hby at_277) k) ?_
                    show Go p e below T11 (mkF m 278 #[.val (.int x0), .val (.int x1), .val (.int x2), .val (.int x3), .val (.int x4), .val (.int x5), .val (.int ii), .val (.int jj), .val (.int l1), .val (.int l2), .val (.int c0), .val (.int c1), .val (.int f0), .val (.int f1), .val (.ref tA), .val (.ref tB), .val (.ref ad3), .val (.ref ad5), .val (.ref ad7), .val (.int (fIs ii jj (fCs l1 c0 c1) (fCs l2 f0 f1))), .val (.int (1 : Int32)), .val (.int (0 : Int32))] [(.int (1 : Int32))]) _
                    refine Go.of (fun _ k => XS.goto X11.here hx rfl (pc0 := 278) (pc' := 282) rfl (hb hby at_278) (by decide) (by decide) k) ?_
                    show Go p e below T11 (mkF m 282 #[.val (.int x0), .val (.int x1), .val (.int x2), .val (.int x3), .val (.int x4), .val (.int x5), .val (.int ii), .val (.int jj), .val (.int l1), .val (.int l2), .val (.int c0), .val (.int c1), .val (.int f0), .val (.int f1), .val (.ref tA), .val (.ref tB), .val (.ref ad3), .val (.ref ad5), .val (.ref ad7), .val (.int (fIs ii jj (fCs l1 c0 c1) (fCs l2 f0 f1))), .val (.int (1 : Int32)), .val (.int (0 : Int32))] [(.int (1 : Int32))]) _
                    refine Go.retNH X11 hx (t := .boolean) hret hlk (by simp) (hb hby at_282) e11 hS hk hZ hEL hs0 HR (by decide) (by decide) ?_
                    exact ⟨rfl, N11⟩
              · refine Go.of (fun _ k => XS.icmpYes X11.here hx rfl (pc0 := 234) (pc' := 254) rfl (hb hby at_234) rfl (feq hc234_3).2 (by decide) (by decide) k) ?_
                show Go p e below T11 (mkF m 254 #[.val (.int x0), .val (.int x1), .val (.int x2), .val (.int x3), .val (.int x4), .val (.int x5), .val (.int ii), .val (.int jj), .val (.int l1), .val (.int l2), .val (.int c0), .val (.int c1), .val (.int f0), .val (.int f1), .val (.ref tA), .val (.ref tB), .val (.ref ad3), .val (.ref ad5), .val (.ref ad7), .val (.int (fIs ii jj (fCs l1 c0 c1) (fCs l2 f0 f1))), .val (.int (1 : Int32)), .unset] []) _
                refine Go.of (fun _ k => XS.iconst X11.here hx rfl (hb hby at_254) k) ?_
                show Go p e below T11 (mkF m 255 #[.val (.int x0), .val (.int x1), .val (.int x2), .val (.int x3), .val (.int x4), .val (.int x5), .val (.int ii), .val (.int jj), .val (.int l1), .val (.int l2), .val (.int c0), .val (.int c1), .val (.int f0), .val (.int f1), .val (.ref tA), .val (.ref tB), .val (.ref ad3), .val (.ref ad5), .val (.ref ad7), .val (.int (fIs ii jj (fCs l1 c0 c1) (fCs l2 f0 f1))), .val (.int (1 : Int32)), .unset] [(.int (0 : Int32))]) _
                refine Go.of (fun _ k => XS.istore X11.here hx rfl (hb hby at_255) rfl (l' := #[.val (.int x0), .val (.int x1), .val (.int x2), .val (.int x3), .val (.int x4), .val (.int x5), .val (.int ii), .val (.int jj), .val (.int l1), .val (.int l2), .val (.int c0), .val (.int c1), .val (.int f0), .val (.int f1), .val (.ref tA), .val (.ref tB), .val (.ref ad3), .val (.ref ad5), .val (.ref ad7), .val (.int (fIs ii jj (fCs l1 c0 c1) (fCs l2 f0 f1))), .val (.int (1 : Int32)), .val (.int (0 : Int32))]) rfl k) ?_
                show Go p e below T11 (mkF m 257 #[.val (.int x0), .val (.int x1), .val (.int x2), .val (.int x3), .val (.int x4), .val (.int x5), .val (.int ii), .val (.int jj), .val (.int l1), .val (.int l2), .val (.int c0), .val (.int c1), .val (.int f0), .val (.int f1), .val (.ref tA), .val (.ref tB), .val (.ref ad3), .val (.ref ad5), .val (.ref ad7), .val (.int (fIs ii jj (fCs l1 c0 c1) (fCs l2 f0 f1))), .val (.int (1 : Int32)), .val (.int (0 : Int32))] []) _
                refine Go.of (fun _ k => XS.iload X11.here hx rfl (hb hby at_257) rfl  k) ?_
                show Go p e below T11 (mkF m 259 #[.val (.int x0), .val (.int x1), .val (.int x2), .val (.int x3), .val (.int x4), .val (.int x5), .val (.int ii), .val (.int jj), .val (.int l1), .val (.int l2), .val (.int c0), .val (.int c1), .val (.int f0), .val (.int f1), .val (.ref tA), .val (.ref tB), .val (.ref ad3), .val (.ref ad5), .val (.ref ad7), .val (.int (fIs ii jj (fCs l1 c0 c1) (fCs l2 f0 f1))), .val (.int (1 : Int32)), .val (.int (0 : Int32))] [(.int (fIs ii jj (fCs l1 c0 c1) (fCs l2 f0 f1)))]) _
                refine Go.of (fun _ k => XS.iload X11.here hx rfl (hb hby at_259) rfl  k) ?_
                show Go p e below T11 (mkF m 261 #[.val (.int x0), .val (.int x1), .val (.int x2), .val (.int x3), .val (.int x4), .val (.int x5), .val (.int ii), .val (.int jj), .val (.int l1), .val (.int l2), .val (.int c0), .val (.int c1), .val (.int f0), .val (.int f1), .val (.ref tA), .val (.ref tB), .val (.ref ad3), .val (.ref ad5), .val (.ref ad7), .val (.int (fIs ii jj (fCs l1 c0 c1) (fCs l2 f0 f1))), .val (.int (1 : Int32)), .val (.int (0 : Int32))] [(.int (1 : Int32)), (.int (fIs ii jj (fCs l1 c0 c1) (fCs l2 f0 f1)))]) _
                refine Go.of (fun _ k => XS.ifNo X11.here hx rfl (hb hby at_261) rfl ((if0 _ _).trans (feq (show ¬ ((1 : Int32) = (0 : Int32)) from (by decide))).1) k) ?_
                show Go p e below T11 (mkF m 264 #[.val (.int x0), .val (.int x1), .val (.int x2), .val (.int x3), .val (.int x4), .val (.int x5), .val (.int ii), .val (.int jj), .val (.int l1), .val (.int l2), .val (.int c0), .val (.int c1), .val (.int f0), .val (.int f1), .val (.ref tA), .val (.ref tB), .val (.ref ad3), .val (.ref ad5), .val (.ref ad7), .val (.int (fIs ii jj (fCs l1 c0 c1) (fCs l2 f0 f1))), .val (.int (1 : Int32)), .val (.int (0 : Int32))] [(.int (fIs ii jj (fCs l1 c0 c1) (fCs l2 f0 f1)))]) _
                refine Go.of (fun _ k => XS.iload X11.here hx rfl (hb hby at_264) rfl  k) ?_
                show Go p e below T11 (mkF m 266 #[.val (.int x0), .val (.int x1), .val (.int x2), .val (.int x3), .val (.int x4), .val (.int x5), .val (.int ii), .val (.int jj), .val (.int l1), .val (.int l2), .val (.int c0), .val (.int c1), .val (.int f0), .val (.int f1), .val (.ref tA), .val (.ref tB), .val (.ref ad3), .val (.ref ad5), .val (.ref ad7), .val (.int (fIs ii jj (fCs l1 c0 c1) (fCs l2 f0 f1))), .val (.int (1 : Int32)), .val (.int (0 : Int32))] [(.int (0 : Int32)), (.int (fIs ii jj (fCs l1 c0 c1) (fCs l2 f0 f1)))]) _
                refine Go.of (fun _ k => XS.ifYes X11.here hx rfl (pc0 := 266) (pc' := 273) rfl (hb hby at_266) rfl ((if0 _ _).trans (teq (show (0 : Int32) = (0 : Int32) from (by decide))).1) (by decide) (by decide) k) ?_
                show Go p e below T11 (mkF m 273 #[.val (.int x0), .val (.int x1), .val (.int x2), .val (.int x3), .val (.int x4), .val (.int x5), .val (.int ii), .val (.int jj), .val (.int l1), .val (.int l2), .val (.int c0), .val (.int c1), .val (.int f0), .val (.int f1), .val (.ref tA), .val (.ref tB), .val (.ref ad3), .val (.ref ad5), .val (.ref ad7), .val (.int (fIs ii jj (fCs l1 c0 c1) (fCs l2 f0 f1))), .val (.int (1 : Int32)), .val (.int (0 : Int32))] [(.int (fIs ii jj (fCs l1 c0 c1) (fCs l2 f0 f1)))]) _
                refine Go.of (fun _ k => XS.iconst X11.here hx rfl (hb hby at_273) k) ?_
                show Go p e below T11 (mkF m 274 #[.val (.int x0), .val (.int x1), .val (.int x2), .val (.int x3), .val (.int x4), .val (.int x5), .val (.int ii), .val (.int jj), .val (.int l1), .val (.int l2), .val (.int c0), .val (.int c1), .val (.int f0), .val (.int f1), .val (.ref tA), .val (.ref tB), .val (.ref ad3), .val (.ref ad5), .val (.ref ad7), .val (.int (fIs ii jj (fCs l1 c0 c1) (fCs l2 f0 f1))), .val (.int (1 : Int32)), .val (.int (0 : Int32))] [(.int (0 : Int32)), (.int (fIs ii jj (fCs l1 c0 c1) (fCs l2 f0 f1)))]) _
                refine Go.of (fun _ k => XS.icmpNo X11.here hx rfl (hb hby at_274) rfl (teq (show (fIs ii jj (fCs l1 c0 c1) (fCs l2 f0 f1)) = (0 : Int32) from (by simp only [fIs, own_cs hl_l1 hl_l2]; simp [eq_true hc207_0, eq_true hc221_1, eq_false hc227_2, eq_false hc234_3]))).2 k) ?_
                show Go p e below T11 (mkF m 277 #[.val (.int x0), .val (.int x1), .val (.int x2), .val (.int x3), .val (.int x4), .val (.int x5), .val (.int ii), .val (.int jj), .val (.int l1), .val (.int l2), .val (.int c0), .val (.int c1), .val (.int f0), .val (.int f1), .val (.ref tA), .val (.ref tB), .val (.ref ad3), .val (.ref ad5), .val (.ref ad7), .val (.int (fIs ii jj (fCs l1 c0 c1) (fCs l2 f0 f1))), .val (.int (1 : Int32)), .val (.int (0 : Int32))] []) _
                refine Go.of (fun _ k => XS.iconst X11.here hx rfl (hb hby at_277) k) ?_
                show Go p e below T11 (mkF m 278 #[.val (.int x0), .val (.int x1), .val (.int x2), .val (.int x3), .val (.int x4), .val (.int x5), .val (.int ii), .val (.int jj), .val (.int l1), .val (.int l2), .val (.int c0), .val (.int c1), .val (.int f0), .val (.int f1), .val (.ref tA), .val (.ref tB), .val (.ref ad3), .val (.ref ad5), .val (.ref ad7), .val (.int (fIs ii jj (fCs l1 c0 c1) (fCs l2 f0 f1))), .val (.int (1 : Int32)), .val (.int (0 : Int32))] [(.int (1 : Int32))]) _
                refine Go.of (fun _ k => XS.goto X11.here hx rfl (pc0 := 278) (pc' := 282) rfl (hb hby at_278) (by decide) (by decide) k) ?_
                show Go p e below T11 (mkF m 282 #[.val (.int x0), .val (.int x1), .val (.int x2), .val (.int x3), .val (.int x4), .val (.int x5), .val (.int ii), .val (.int jj), .val (.int l1), .val (.int l2), .val (.int c0), .val (.int c1), .val (.int f0), .val (.int f1), .val (.ref tA), .val (.ref tB), .val (.ref ad3), .val (.ref ad5), .val (.ref ad7), .val (.int (fIs ii jj (fCs l1 c0 c1) (fCs l2 f0 f1))), .val (.int (1 : Int32)), .val (.int (0 : Int32))] [(.int (1 : Int32))]) _
                refine Go.retNH X11 hx (t := .boolean) hret hlk (by simp) (hb hby at_282) e11 hS hk hZ hEL hs0 HR (by decide) (by decide) ?_
                exact ⟨rfl, N11⟩
          · refine Go.of (fun _ k => XS.icmpYes X11.here hx rfl (pc0 := 221) (pc' := 254) rfl (hb hby at_221) rfl (feq hc221_1).2 (by decide) (by decide) k) ?_
            show Go p e below T11 (mkF m 254 #[.val (.int x0), .val (.int x1), .val (.int x2), .val (.int x3), .val (.int x4), .val (.int x5), .val (.int ii), .val (.int jj), .val (.int l1), .val (.int l2), .val (.int c0), .val (.int c1), .val (.int f0), .val (.int f1), .val (.ref tA), .val (.ref tB), .val (.ref ad3), .val (.ref ad5), .val (.ref ad7), .val (.int (fIs ii jj (fCs l1 c0 c1) (fCs l2 f0 f1))), .val (.int (1 : Int32)), .unset] []) _
            refine Go.of (fun _ k => XS.iconst X11.here hx rfl (hb hby at_254) k) ?_
            show Go p e below T11 (mkF m 255 #[.val (.int x0), .val (.int x1), .val (.int x2), .val (.int x3), .val (.int x4), .val (.int x5), .val (.int ii), .val (.int jj), .val (.int l1), .val (.int l2), .val (.int c0), .val (.int c1), .val (.int f0), .val (.int f1), .val (.ref tA), .val (.ref tB), .val (.ref ad3), .val (.ref ad5), .val (.ref ad7), .val (.int (fIs ii jj (fCs l1 c0 c1) (fCs l2 f0 f1))), .val (.int (1 : Int32)), .unset] [(.int (0 : Int32))]) _
            refine Go.of (fun _ k => XS.istore X11.here hx rfl (hb hby at_255) rfl (l' := #[.val (.int x0), .val (.int x1), .val (.int x2), .val (.int x3), .val (.int x4), .val (.int x5), .val (.int ii), .val (.int jj), .val (.int l1), .val (.int l2), .val (.int c0), .val (.int c1), .val (.int f0), .val (.int f1), .val (.ref tA), .val (.ref tB), .val (.ref ad3), .val (.ref ad5), .val (.ref ad7), .val (.int (fIs ii jj (fCs l1 c0 c1) (fCs l2 f0 f1))), .val (.int (1 : Int32)), .val (.int (0 : Int32))]) rfl k) ?_
            show Go p e below T11 (mkF m 257 #[.val (.int x0), .val (.int x1), .val (.int x2), .val (.int x3), .val (.int x4), .val (.int x5), .val (.int ii), .val (.int jj), .val (.int l1), .val (.int l2), .val (.int c0), .val (.int c1), .val (.int f0), .val (.int f1), .val (.ref tA), .val (.ref tB), .val (.ref ad3), .val (.ref ad5), .val (.ref ad7), .val (.int (fIs ii jj (fCs l1 c0 c1) (fCs l2 f0 f1))), .val (.int (1 : Int32)), .val (.int (0 : Int32))] []) _
            refine Go.of (fun _ k => XS.iload X11.here hx rfl (hb hby at_257) rfl  k) ?_
            show Go p e below T11 (mkF m 259 #[.val (.int x0), .val (.int x1), .val (.int x2), .val (.int x3), .val (.int x4), .val (.int x5), .val (.int ii), .val (.int jj), .val (.int l1), .val (.int l2), .val (.int c0), .val (.int c1), .val (.int f0), .val (.int f1), .val (.ref tA), .val (.ref tB), .val (.ref ad3), .val (.ref ad5), .val (.ref ad7), .val (.int (fIs ii jj (fCs l1 c0 c1) (fCs l2 f0 f1))), .val (.int (1 : Int32)), .val (.int (0 : Int32))] [(.int (fIs ii jj (fCs l1 c0 c1) (fCs l2 f0 f1)))]) _
            refine Go.of (fun _ k => XS.iload X11.here hx rfl (hb hby at_259) rfl  k) ?_
            show Go p e below T11 (mkF m 261 #[.val (.int x0), .val (.int x1), .val (.int x2), .val (.int x3), .val (.int x4), .val (.int x5), .val (.int ii), .val (.int jj), .val (.int l1), .val (.int l2), .val (.int c0), .val (.int c1), .val (.int f0), .val (.int f1), .val (.ref tA), .val (.ref tB), .val (.ref ad3), .val (.ref ad5), .val (.ref ad7), .val (.int (fIs ii jj (fCs l1 c0 c1) (fCs l2 f0 f1))), .val (.int (1 : Int32)), .val (.int (0 : Int32))] [(.int (1 : Int32)), (.int (fIs ii jj (fCs l1 c0 c1) (fCs l2 f0 f1)))]) _
            refine Go.of (fun _ k => XS.ifNo X11.here hx rfl (hb hby at_261) rfl ((if0 _ _).trans (feq (show ¬ ((1 : Int32) = (0 : Int32)) from (by decide))).1) k) ?_
            show Go p e below T11 (mkF m 264 #[.val (.int x0), .val (.int x1), .val (.int x2), .val (.int x3), .val (.int x4), .val (.int x5), .val (.int ii), .val (.int jj), .val (.int l1), .val (.int l2), .val (.int c0), .val (.int c1), .val (.int f0), .val (.int f1), .val (.ref tA), .val (.ref tB), .val (.ref ad3), .val (.ref ad5), .val (.ref ad7), .val (.int (fIs ii jj (fCs l1 c0 c1) (fCs l2 f0 f1))), .val (.int (1 : Int32)), .val (.int (0 : Int32))] [(.int (fIs ii jj (fCs l1 c0 c1) (fCs l2 f0 f1)))]) _
            refine Go.of (fun _ k => XS.iload X11.here hx rfl (hb hby at_264) rfl  k) ?_
            show Go p e below T11 (mkF m 266 #[.val (.int x0), .val (.int x1), .val (.int x2), .val (.int x3), .val (.int x4), .val (.int x5), .val (.int ii), .val (.int jj), .val (.int l1), .val (.int l2), .val (.int c0), .val (.int c1), .val (.int f0), .val (.int f1), .val (.ref tA), .val (.ref tB), .val (.ref ad3), .val (.ref ad5), .val (.ref ad7), .val (.int (fIs ii jj (fCs l1 c0 c1) (fCs l2 f0 f1))), .val (.int (1 : Int32)), .val (.int (0 : Int32))] [(.int (0 : Int32)), (.int (fIs ii jj (fCs l1 c0 c1) (fCs l2 f0 f1)))]) _
            refine Go.of (fun _ k => XS.ifYes X11.here hx rfl (pc0 := 266) (pc' := 273) rfl (hb hby at_266) rfl ((if0 _ _).trans (teq (show (0 : Int32) = (0 : Int32) from (by decide))).1) (by decide) (by decide) k) ?_
            show Go p e below T11 (mkF m 273 #[.val (.int x0), .val (.int x1), .val (.int x2), .val (.int x3), .val (.int x4), .val (.int x5), .val (.int ii), .val (.int jj), .val (.int l1), .val (.int l2), .val (.int c0), .val (.int c1), .val (.int f0), .val (.int f1), .val (.ref tA), .val (.ref tB), .val (.ref ad3), .val (.ref ad5), .val (.ref ad7), .val (.int (fIs ii jj (fCs l1 c0 c1) (fCs l2 f0 f1))), .val (.int (1 : Int32)), .val (.int (0 : Int32))] [(.int (fIs ii jj (fCs l1 c0 c1) (fCs l2 f0 f1)))]) _
            refine Go.of (fun _ k => XS.iconst X11.here hx rfl (hb hby at_273) k) ?_
            show Go p e below T11 (mkF m 274 #[.val (.int x0), .val (.int x1), .val (.int x2), .val (.int x3), .val (.int x4), .val (.int x5), .val (.int ii), .val (.int jj), .val (.int l1), .val (.int l2), .val (.int c0), .val (.int c1), .val (.int f0), .val (.int f1), .val (.ref tA), .val (.ref tB), .val (.ref ad3), .val (.ref ad5), .val (.ref ad7), .val (.int (fIs ii jj (fCs l1 c0 c1) (fCs l2 f0 f1))), .val (.int (1 : Int32)), .val (.int (0 : Int32))] [(.int (0 : Int32)), (.int (fIs ii jj (fCs l1 c0 c1) (fCs l2 f0 f1)))]) _
            refine Go.of (fun _ k => XS.icmpNo X11.here hx rfl (hb hby at_274) rfl (teq (show (fIs ii jj (fCs l1 c0 c1) (fCs l2 f0 f1)) = (0 : Int32) from (by simp only [fIs, own_cs hl_l1 hl_l2]; simp [eq_true hc207_0, eq_false hc221_1]))).2 k) ?_
            show Go p e below T11 (mkF m 277 #[.val (.int x0), .val (.int x1), .val (.int x2), .val (.int x3), .val (.int x4), .val (.int x5), .val (.int ii), .val (.int jj), .val (.int l1), .val (.int l2), .val (.int c0), .val (.int c1), .val (.int f0), .val (.int f1), .val (.ref tA), .val (.ref tB), .val (.ref ad3), .val (.ref ad5), .val (.ref ad7), .val (.int (fIs ii jj (fCs l1 c0 c1) (fCs l2 f0 f1))), .val (.int (1 : Int32)), .val (.int (0 : Int32))] []) _
            refine Go.of (fun _ k => XS.iconst X11.here hx rfl (hb hby at_277) k) ?_
            show Go p e below T11 (mkF m 278 #[.val (.int x0), .val (.int x1), .val (.int x2), .val (.int x3), .val (.int x4), .val (.int x5), .val (.int ii), .val (.int jj), .val (.int l1), .val (.int l2), .val (.int c0), .val (.int c1), .val (.int f0), .val (.int f1), .val (.ref tA), .val (.ref tB), .val (.ref ad3), .val (.ref ad5), .val (.ref ad7), .val (.int (fIs ii jj (fCs l1 c0 c1) (fCs l2 f0 f1))), .val (.int (1 : Int32)), .val (.int (0 : Int32))] [(.int (1 : Int32))]) _
            refine Go.of (fun _ k => XS.goto X11.here hx rfl (pc0 := 278) (pc' := 282) rfl (hb hby at_278) (by decide) (by decide) k) ?_
            show Go p e below T11 (mkF m 282 #[.val (.int x0), .val (.int x1), .val (.int x2), .val (.int x3), .val (.int x4), .val (.int x5), .val (.int ii), .val (.int jj), .val (.int l1), .val (.int l2), .val (.int c0), .val (.int c1), .val (.int f0), .val (.int f1), .val (.ref tA), .val (.ref tB), .val (.ref ad3), .val (.ref ad5), .val (.ref ad7), .val (.int (fIs ii jj (fCs l1 c0 c1) (fCs l2 f0 f1))), .val (.int (1 : Int32)), .val (.int (0 : Int32))] [(.int (1 : Int32))]) _
            refine Go.retNH X11 hx (t := .boolean) hret hlk (by simp) (hb hby at_282) e11 hS hk hZ hEL hs0 HR (by decide) (by decide) ?_
            exact ⟨rfl, N11⟩
        · refine Go.of (fun _ k => XS.icmpYes X11.here hx rfl (pc0 := 207) (pc' := 214) rfl (hb hby at_207) rfl (feq hc207_0).2 (by decide) (by decide) k) ?_
          show Go p e below T11 (mkF m 214 #[.val (.int x0), .val (.int x1), .val (.int x2), .val (.int x3), .val (.int x4), .val (.int x5), .val (.int ii), .val (.int jj), .val (.int l1), .val (.int l2), .val (.int c0), .val (.int c1), .val (.int f0), .val (.int f1), .val (.ref tA), .val (.ref tB), .val (.ref ad3), .val (.ref ad5), .val (.ref ad7), .val (.int (fIs ii jj (fCs l1 c0 c1) (fCs l2 f0 f1))), .unset, .unset] []) _
          refine Go.of (fun _ k => XS.iconst X11.here hx rfl (hb hby at_214) k) ?_
          show Go p e below T11 (mkF m 215 #[.val (.int x0), .val (.int x1), .val (.int x2), .val (.int x3), .val (.int x4), .val (.int x5), .val (.int ii), .val (.int jj), .val (.int l1), .val (.int l2), .val (.int c0), .val (.int c1), .val (.int f0), .val (.int f1), .val (.ref tA), .val (.ref tB), .val (.ref ad3), .val (.ref ad5), .val (.ref ad7), .val (.int (fIs ii jj (fCs l1 c0 c1) (fCs l2 f0 f1))), .unset, .unset] [(.int (0 : Int32))]) _
          refine Go.of (fun _ k => XS.istore X11.here hx rfl (hb hby at_215) rfl (l' := #[.val (.int x0), .val (.int x1), .val (.int x2), .val (.int x3), .val (.int x4), .val (.int x5), .val (.int ii), .val (.int jj), .val (.int l1), .val (.int l2), .val (.int c0), .val (.int c1), .val (.int f0), .val (.int f1), .val (.ref tA), .val (.ref tB), .val (.ref ad3), .val (.ref ad5), .val (.ref ad7), .val (.int (fIs ii jj (fCs l1 c0 c1) (fCs l2 f0 f1))), .val (.int (0 : Int32)), .unset]) rfl k) ?_
          show Go p e below T11 (mkF m 217 #[.val (.int x0), .val (.int x1), .val (.int x2), .val (.int x3), .val (.int x4), .val (.int x5), .val (.int ii), .val (.int jj), .val (.int l1), .val (.int l2), .val (.int c0), .val (.int c1), .val (.int f0), .val (.int f1), .val (.ref tA), .val (.ref tB), .val (.ref ad3), .val (.ref ad5), .val (.ref ad7), .val (.int (fIs ii jj (fCs l1 c0 c1) (fCs l2 f0 f1))), .val (.int (0 : Int32)), .unset] []) _
          refine Go.of (fun _ k => XS.iload X11.here hx rfl (hb hby at_217) rfl  k) ?_
          show Go p e below T11 (mkF m 219 #[.val (.int x0), .val (.int x1), .val (.int x2), .val (.int x3), .val (.int x4), .val (.int x5), .val (.int ii), .val (.int jj), .val (.int l1), .val (.int l2), .val (.int c0), .val (.int c1), .val (.int f0), .val (.int f1), .val (.ref tA), .val (.ref tB), .val (.ref ad3), .val (.ref ad5), .val (.ref ad7), .val (.int (fIs ii jj (fCs l1 c0 c1) (fCs l2 f0 f1))), .val (.int (0 : Int32)), .unset] [(.int l1)]) _
          refine Go.of (fun _ k => XS.iload X11.here hx rfl (hb hby at_219) rfl  k) ?_
          show Go p e below T11 (mkF m 221 #[.val (.int x0), .val (.int x1), .val (.int x2), .val (.int x3), .val (.int x4), .val (.int x5), .val (.int ii), .val (.int jj), .val (.int l1), .val (.int l2), .val (.int c0), .val (.int c1), .val (.int f0), .val (.int f1), .val (.ref tA), .val (.ref tB), .val (.ref ad3), .val (.ref ad5), .val (.ref ad7), .val (.int (fIs ii jj (fCs l1 c0 c1) (fCs l2 f0 f1))), .val (.int (0 : Int32)), .unset] [(.int l2), (.int l1)]) _
          by_cases hc221_1 : l1 = l2
          · refine Go.of (fun _ k => XS.icmpNo X11.here hx rfl (hb hby at_221) rfl (teq hc221_1).2 k) ?_
            show Go p e below T11 (mkF m 224 #[.val (.int x0), .val (.int x1), .val (.int x2), .val (.int x3), .val (.int x4), .val (.int x5), .val (.int ii), .val (.int jj), .val (.int l1), .val (.int l2), .val (.int c0), .val (.int c1), .val (.int f0), .val (.int f1), .val (.ref tA), .val (.ref tB), .val (.ref ad3), .val (.ref ad5), .val (.ref ad7), .val (.int (fIs ii jj (fCs l1 c0 c1) (fCs l2 f0 f1))), .val (.int (0 : Int32)), .unset] []) _
            refine Go.of (fun _ k => XS.iload X11.here hx rfl (hb hby at_224) rfl  k) ?_
            show Go p e below T11 (mkF m 226 #[.val (.int x0), .val (.int x1), .val (.int x2), .val (.int x3), .val (.int x4), .val (.int x5), .val (.int ii), .val (.int jj), .val (.int l1), .val (.int l2), .val (.int c0), .val (.int c1), .val (.int f0), .val (.int f1), .val (.ref tA), .val (.ref tB), .val (.ref ad3), .val (.ref ad5), .val (.ref ad7), .val (.int (fIs ii jj (fCs l1 c0 c1) (fCs l2 f0 f1))), .val (.int (0 : Int32)), .unset] [(.int l1)]) _
            refine Go.of (fun _ k => XS.iconst X11.here hx rfl (hb hby at_226) k) ?_
            show Go p e below T11 (mkF m 227 #[.val (.int x0), .val (.int x1), .val (.int x2), .val (.int x3), .val (.int x4), .val (.int x5), .val (.int ii), .val (.int jj), .val (.int l1), .val (.int l2), .val (.int c0), .val (.int c1), .val (.int f0), .val (.int f1), .val (.ref tA), .val (.ref tB), .val (.ref ad3), .val (.ref ad5), .val (.ref ad7), .val (.int (fIs ii jj (fCs l1 c0 c1) (fCs l2 f0 f1))), .val (.int (0 : Int32)), .unset] [(.int (1 : Int32)), (.int l1)]) _
            by_cases hc227_2 : l1 < (1 : Int32)
            · refine Go.of (fun _ k => XS.icmpYes X11.here hx rfl (pc0 := 227) (pc' := 237) rfl (hb hby at_227) rfl (tlt hc227_2).1 (by decide) (by decide) k) ?_
              show Go p e below T11 (mkF m 237 #[.val (.int x0), .val (.int x1), .val (.int x2), .val (.int x3), .val (.int x4), .val (.int x5), .val (.int ii), .val (.int jj), .val (.int l1), .val (.int l2), .val (.int c0), .val (.int c1), .val (.int f0), .val (.int f1), .val (.ref tA), .val (.ref tB), .val (.ref ad3), .val (.ref ad5), .val (.ref ad7), .val (.int (fIs ii jj (fCs l1 c0 c1) (fCs l2 f0 f1))), .val (.int (0 : Int32)), .unset] []) _
              refine Go.of (fun _ k => XS.iload X11.here hx rfl (hb hby at_237) rfl  k) ?_
              show Go p e below T11 (mkF m 239 #[.val (.int x0), .val (.int x1), .val (.int x2), .val (.int x3), .val (.int x4), .val (.int x5), .val (.int ii), .val (.int jj), .val (.int l1), .val (.int l2), .val (.int c0), .val (.int c1), .val (.int f0), .val (.int f1), .val (.ref tA), .val (.ref tB), .val (.ref ad3), .val (.ref ad5), .val (.ref ad7), .val (.int (fIs ii jj (fCs l1 c0 c1) (fCs l2 f0 f1))), .val (.int (0 : Int32)), .unset] [(.int l1)]) _
              refine Go.of (fun _ k => XS.iconst X11.here hx rfl (hb hby at_239) k) ?_
              show Go p e below T11 (mkF m 240 #[.val (.int x0), .val (.int x1), .val (.int x2), .val (.int x3), .val (.int x4), .val (.int x5), .val (.int ii), .val (.int jj), .val (.int l1), .val (.int l2), .val (.int c0), .val (.int c1), .val (.int f0), .val (.int f1), .val (.ref tA), .val (.ref tB), .val (.ref ad3), .val (.ref ad5), .val (.ref ad7), .val (.int (fIs ii jj (fCs l1 c0 c1) (fCs l2 f0 f1))), .val (.int (0 : Int32)), .unset] [(.int (2 : Int32)), (.int l1)]) _
              by_cases hc240_3 : l1 < (2 : Int32)
              · refine Go.of (fun _ k => XS.icmpYes X11.here hx rfl (pc0 := 240) (pc' := 250) rfl (hb hby at_240) rfl (tlt hc240_3).1 (by decide) (by decide) k) ?_
                show Go p e below T11 (mkF m 250 #[.val (.int x0), .val (.int x1), .val (.int x2), .val (.int x3), .val (.int x4), .val (.int x5), .val (.int ii), .val (.int jj), .val (.int l1), .val (.int l2), .val (.int c0), .val (.int c1), .val (.int f0), .val (.int f1), .val (.ref tA), .val (.ref tB), .val (.ref ad3), .val (.ref ad5), .val (.ref ad7), .val (.int (fIs ii jj (fCs l1 c0 c1) (fCs l2 f0 f1))), .val (.int (0 : Int32)), .unset] []) _
                refine Go.of (fun _ k => XS.iconst X11.here hx rfl (hb hby at_250) k) ?_
                show Go p e below T11 (mkF m 251 #[.val (.int x0), .val (.int x1), .val (.int x2), .val (.int x3), .val (.int x4), .val (.int x5), .val (.int ii), .val (.int jj), .val (.int l1), .val (.int l2), .val (.int c0), .val (.int c1), .val (.int f0), .val (.int f1), .val (.ref tA), .val (.ref tB), .val (.ref ad3), .val (.ref ad5), .val (.ref ad7), .val (.int (fIs ii jj (fCs l1 c0 c1) (fCs l2 f0 f1))), .val (.int (0 : Int32)), .unset] [(.int (1 : Int32))]) _
                refine Go.of (fun _ k => XS.goto X11.here hx rfl (pc0 := 251) (pc' := 255) rfl (hb hby at_251) (by decide) (by decide) k) ?_
                show Go p e below T11 (mkF m 255 #[.val (.int x0), .val (.int x1), .val (.int x2), .val (.int x3), .val (.int x4), .val (.int x5), .val (.int ii), .val (.int jj), .val (.int l1), .val (.int l2), .val (.int c0), .val (.int c1), .val (.int f0), .val (.int f1), .val (.ref tA), .val (.ref tB), .val (.ref ad3), .val (.ref ad5), .val (.ref ad7), .val (.int (fIs ii jj (fCs l1 c0 c1) (fCs l2 f0 f1))), .val (.int (0 : Int32)), .unset] [(.int (1 : Int32))]) _
                refine Go.of (fun _ k => XS.istore X11.here hx rfl (hb hby at_255) rfl (l' := #[.val (.int x0), .val (.int x1), .val (.int x2), .val (.int x3), .val (.int x4), .val (.int x5), .val (.int ii), .val (.int jj), .val (.int l1), .val (.int l2), .val (.int c0), .val (.int c1), .val (.int f0), .val (.int f1), .val (.ref tA), .val (.ref tB), .val (.ref ad3), .val (.ref ad5), .val (.ref ad7), .val (.int (fIs ii jj (fCs l1 c0 c1) (fCs l2 f0 f1))), .val (.int (0 : Int32)), .val (.int (1 : Int32))]) rfl k) ?_
                show Go p e below T11 (mkF m 257 #[.val (.int x0), .val (.int x1), .val (.int x2), .val (.int x3), .val (.int x4), .val (.int x5), .val (.int ii), .val (.int jj), .val (.int l1), .val (.int l2), .val (.int c0), .val (.int c1), .val (.int f0), .val (.int f1), .val (.ref tA), .val (.ref tB), .val (.ref ad3), .val (.ref ad5), .val (.ref ad7), .val (.int (fIs ii jj (fCs l1 c0 c1) (fCs l2 f0 f1))), .val (.int (0 : Int32)), .val (.int (1 : Int32))] []) _
                refine Go.of (fun _ k => XS.iload X11.here hx rfl (hb hby at_257) rfl  k) ?_
                show Go p e below T11 (mkF m 259 #[.val (.int x0), .val (.int x1), .val (.int x2), .val (.int x3), .val (.int x4), .val (.int x5), .val (.int ii), .val (.int jj), .val (.int l1), .val (.int l2), .val (.int c0), .val (.int c1), .val (.int f0), .val (.int f1), .val (.ref tA), .val (.ref tB), .val (.ref ad3), .val (.ref ad5), .val (.ref ad7), .val (.int (fIs ii jj (fCs l1 c0 c1) (fCs l2 f0 f1))), .val (.int (0 : Int32)), .val (.int (1 : Int32))] [(.int (fIs ii jj (fCs l1 c0 c1) (fCs l2 f0 f1)))]) _
                refine Go.of (fun _ k => XS.iload X11.here hx rfl (hb hby at_259) rfl  k) ?_
                show Go p e below T11 (mkF m 261 #[.val (.int x0), .val (.int x1), .val (.int x2), .val (.int x3), .val (.int x4), .val (.int x5), .val (.int ii), .val (.int jj), .val (.int l1), .val (.int l2), .val (.int c0), .val (.int c1), .val (.int f0), .val (.int f1), .val (.ref tA), .val (.ref tB), .val (.ref ad3), .val (.ref ad5), .val (.ref ad7), .val (.int (fIs ii jj (fCs l1 c0 c1) (fCs l2 f0 f1))), .val (.int (0 : Int32)), .val (.int (1 : Int32))] [(.int (0 : Int32)), (.int (fIs ii jj (fCs l1 c0 c1) (fCs l2 f0 f1)))]) _
                refine Go.of (fun _ k => XS.ifYes X11.here hx rfl (pc0 := 261) (pc' := 273) rfl (hb hby at_261) rfl ((if0 _ _).trans (teq (show (0 : Int32) = (0 : Int32) from (by decide))).1) (by decide) (by decide) k) ?_
                show Go p e below T11 (mkF m 273 #[.val (.int x0), .val (.int x1), .val (.int x2), .val (.int x3), .val (.int x4), .val (.int x5), .val (.int ii), .val (.int jj), .val (.int l1), .val (.int l2), .val (.int c0), .val (.int c1), .val (.int f0), .val (.int f1), .val (.ref tA), .val (.ref tB), .val (.ref ad3), .val (.ref ad5), .val (.ref ad7), .val (.int (fIs ii jj (fCs l1 c0 c1) (fCs l2 f0 f1))), .val (.int (0 : Int32)), .val (.int (1 : Int32))] [(.int (fIs ii jj (fCs l1 c0 c1) (fCs l2 f0 f1)))]) _
                refine Go.of (fun _ k => XS.iconst X11.here hx rfl (hb hby at_273) k) ?_
                show Go p e below T11 (mkF m 274 #[.val (.int x0), .val (.int x1), .val (.int x2), .val (.int x3), .val (.int x4), .val (.int x5), .val (.int ii), .val (.int jj), .val (.int l1), .val (.int l2), .val (.int c0), .val (.int c1), .val (.int f0), .val (.int f1), .val (.ref tA), .val (.ref tB), .val (.ref ad3), .val (.ref ad5), .val (.ref ad7), .val (.int (fIs ii jj (fCs l1 c0 c1) (fCs l2 f0 f1))), .val (.int (0 : Int32)), .val (.int (1 : Int32))] [(.int (0 : Int32)), (.int (fIs ii jj (fCs l1 c0 c1) (fCs l2 f0 f1)))]) _
                refine Go.of (fun _ k => XS.icmpNo X11.here hx rfl (hb hby at_274) rfl (teq (show (fIs ii jj (fCs l1 c0 c1) (fCs l2 f0 f1)) = (0 : Int32) from (by simp only [fIs, own_cs hl_l1 hl_l2]; simp [eq_false hc207_0, eq_true hc221_1, eq_true hc227_2, eq_true hc240_3]))).2 k) ?_
                show Go p e below T11 (mkF m 277 #[.val (.int x0), .val (.int x1), .val (.int x2), .val (.int x3), .val (.int x4), .val (.int x5), .val (.int ii), .val (.int jj), .val (.int l1), .val (.int l2), .val (.int c0), .val (.int c1), .val (.int f0), .val (.int f1), .val (.ref tA), .val (.ref tB), .val (.ref ad3), .val (.ref ad5), .val (.ref ad7), .val (.int (fIs ii jj (fCs l1 c0 c1) (fCs l2 f0 f1))), .val (.int (0 : Int32)), .val (.int (1 : Int32))] []) _
                refine Go.of (fun _ k => XS.iconst X11.here hx rfl (hb hby at_277) k) ?_
                show Go p e below T11 (mkF m 278 #[.val (.int x0), .val (.int x1), .val (.int x2), .val (.int x3), .val (.int x4), .val (.int x5), .val (.int ii), .val (.int jj), .val (.int l1), .val (.int l2), .val (.int c0), .val (.int c1), .val (.int f0), .val (.int f1), .val (.ref tA), .val (.ref tB), .val (.ref ad3), .val (.ref ad5), .val (.ref ad7), .val (.int (fIs ii jj (fCs l1 c0 c1) (fCs l2 f0 f1))), .val (.int (0 : Int32)), .val (.int (1 : Int32))] [(.int (1 : Int32))]) _
                refine Go.of (fun _ k => XS.goto X11.here hx rfl (pc0 := 278) (pc' := 282) rfl (hb hby at_278) (by decide) (by decide) k) ?_
                show Go p e below T11 (mkF m 282 #[.val (.int x0), .val (.int x1), .val (.int x2), .val (.int x3), .val (.int x4), .val (.int x5), .val (.int ii), .val (.int jj), .val (.int l1), .val (.int l2), .val (.int c0), .val (.int c1), .val (.int f0), .val (.int f1), .val (.ref tA), .val (.ref tB), .val (.ref ad3), .val (.ref ad5), .val (.ref ad7), .val (.int (fIs ii jj (fCs l1 c0 c1) (fCs l2 f0 f1))), .val (.int (0 : Int32)), .val (.int (1 : Int32))] [(.int (1 : Int32))]) _
                refine Go.retNH X11 hx (t := .boolean) hret hlk (by simp) (hb hby at_282) e11 hS hk hZ hEL hs0 HR (by decide) (by decide) ?_
                exact ⟨rfl, N11⟩
              · refine Go.of (fun _ k => XS.icmpNo X11.here hx rfl (hb hby at_240) rfl (flt hc240_3).1 k) ?_
                show Go p e below T11 (mkF m 243 #[.val (.int x0), .val (.int x1), .val (.int x2), .val (.int x3), .val (.int x4), .val (.int x5), .val (.int ii), .val (.int jj), .val (.int l1), .val (.int l2), .val (.int c0), .val (.int c1), .val (.int f0), .val (.int f1), .val (.ref tA), .val (.ref tB), .val (.ref ad3), .val (.ref ad5), .val (.ref ad7), .val (.int (fIs ii jj (fCs l1 c0 c1) (fCs l2 f0 f1))), .val (.int (0 : Int32)), .unset] []) _
                refine Go.of (fun _ k => XS.iload X11.here hx rfl (hb hby at_243) rfl  k) ?_
                show Go p e below T11 (mkF m 245 #[.val (.int x0), .val (.int x1), .val (.int x2), .val (.int x3), .val (.int x4), .val (.int x5), .val (.int ii), .val (.int jj), .val (.int l1), .val (.int l2), .val (.int c0), .val (.int c1), .val (.int f0), .val (.int f1), .val (.ref tA), .val (.ref tB), .val (.ref ad3), .val (.ref ad5), .val (.ref ad7), .val (.int (fIs ii jj (fCs l1 c0 c1) (fCs l2 f0 f1))), .val (.int (0 : Int32)), .unset] [(.int c1)]) _
                refine Go.of (fun _ k => XS.iload X11.here hx rfl (hb hby at_245) rfl  k) ?_
                show Go p e below T11 (mkF m 247 #[.val (.int x0), .val (.int x1), .val (.int x2), .val (.int x3), .val (.int x4), .val (.int x5), .val (.int ii), .val (.int jj), .val (.int l1), .val (.int l2), .val (.int c0), .val (.int c1), .val (.int f0), .val (.int f1), .val (.ref tA), .val (.ref tB), .val (.ref ad3), .val (.ref ad5), .val (.ref ad7), .val (.int (fIs ii jj (fCs l1 c0 c1) (fCs l2 f0 f1))), .val (.int (0 : Int32)), .unset] [(.int f1), (.int c1)]) _
                by_cases hc247_4 : c1 = f1
                · refine Go.of (fun _ k => XS.icmpNo X11.here hx rfl (hb hby at_247) rfl (teq hc247_4).2 k) ?_
                  show Go p e below T11 (mkF m 250 #[.val (.int x0), .val (.int x1), .val (.int x2), .val (.int x3), .val (.int x4), .val (.int x5), .val (.int ii), .val (.int jj), .val (.int l1), .val (.int l2), .val (.int c0), .val (.int c1), .val (.int f0), .val (.int f1), .val (.ref tA), .val (.ref tB), .val (.ref ad3), .val (.ref ad5), .val (.ref ad7), .val (.int (fIs ii jj (fCs l1 c0 c1) (fCs l2 f0 f1))), .val (.int (0 : Int32)), .unset] []) _
                  refine Go.of (fun _ k => XS.iconst X11.here hx rfl (hb hby at_250) k) ?_
                  show Go p e below T11 (mkF m 251 #[.val (.int x0), .val (.int x1), .val (.int x2), .val (.int x3), .val (.int x4), .val (.int x5), .val (.int ii), .val (.int jj), .val (.int l1), .val (.int l2), .val (.int c0), .val (.int c1), .val (.int f0), .val (.int f1), .val (.ref tA), .val (.ref tB), .val (.ref ad3), .val (.ref ad5), .val (.ref ad7), .val (.int (fIs ii jj (fCs l1 c0 c1) (fCs l2 f0 f1))), .val (.int (0 : Int32)), .unset] [(.int (1 : Int32))]) _
                  refine Go.of (fun _ k => XS.goto X11.here hx rfl (pc0 := 251) (pc' := 255) rfl (hb hby at_251) (by decide) (by decide) k) ?_
                  show Go p e below T11 (mkF m 255 #[.val (.int x0), .val (.int x1), .val (.int x2), .val (.int x3), .val (.int x4), .val (.int x5), .val (.int ii), .val (.int jj), .val (.int l1), .val (.int l2), .val (.int c0), .val (.int c1), .val (.int f0), .val (.int f1), .val (.ref tA), .val (.ref tB), .val (.ref ad3), .val (.ref ad5), .val (.ref ad7), .val (.int (fIs ii jj (fCs l1 c0 c1) (fCs l2 f0 f1))), .val (.int (0 : Int32)), .unset] [(.int (1 : Int32))]) _
                  refine Go.of (fun _ k => XS.istore X11.here hx rfl (hb hby at_255) rfl (l' := #[.val (.int x0), .val (.int x1), .val (.int x2), .val (.int x3), .val (.int x4), .val (.int x5), .val (.int ii), .val (.int jj), .val (.int l1), .val (.int l2), .val (.int c0), .val (.int c1), .val (.int f0), .val (.int f1), .val (.ref tA), .val (.ref tB), .val (.ref ad3), .val (.ref ad5), .val (.ref ad7), .val (.int (fIs ii jj (fCs l1 c0 c1) (fCs l2 f0 f1))), .val (.int (0 : Int32)), .val (.int (1 : Int32))]) rfl k) ?_
                  show Go p e below T11 (mkF m 257 #[.val (.int x0), .val (.int x1), .val (.int x2), .val (.int x3), .val (.int x4), .val (.int x5), .val (.int ii), .val (.int jj), .val (.int l1), .val (.int l2), .val (.int c0), .val (.int c1), .val (.int f0), .val (.int f1), .val (.ref tA), .val (.ref tB), .val (.ref ad3), .val (.ref ad5), .val (.ref ad7), .val (.int (fIs ii jj (fCs l1 c0 c1) (fCs l2 f0 f1))), .val (.int (0 : Int32)), .val (.int (1 : Int32))] []) _
                  refine Go.of (fun _ k => XS.iload X11.here hx rfl (hb hby at_257) rfl  k) ?_
                  show Go p e below T11 (mkF m 259 #[.val (.int x0), .val (.int x1), .val (.int x2), .val (.int x3), .val (.int x4), .val (.int x5), .val (.int ii), .val (.int jj), .val (.int l1), .val (.int l2), .val (.int c0), .val (.int c1), .val (.int f0), .val (.int f1), .val (.ref tA), .val (.ref tB), .val (.ref ad3), .val (.ref ad5), .val (.ref ad7), .val (.int (fIs ii jj (fCs l1 c0 c1) (fCs l2 f0 f1))), .val (.int (0 : Int32)), .val (.int (1 : Int32))] [(.int (fIs ii jj (fCs l1 c0 c1) (fCs l2 f0 f1)))]) _
                  refine Go.of (fun _ k => XS.iload X11.here hx rfl (hb hby at_259) rfl  k) ?_
                  show Go p e below T11 (mkF m 261 #[.val (.int x0), .val (.int x1), .val (.int x2), .val (.int x3), .val (.int x4), .val (.int x5), .val (.int ii), .val (.int jj), .val (.int l1), .val (.int l2), .val (.int c0), .val (.int c1), .val (.int f0), .val (.int f1), .val (.ref tA), .val (.ref tB), .val (.ref ad3), .val (.ref ad5), .val (.ref ad7), .val (.int (fIs ii jj (fCs l1 c0 c1) (fCs l2 f0 f1))), .val (.int (0 : Int32)), .val (.int (1 : Int32))] [(.int (0 : Int32)), (.int (fIs ii jj (fCs l1 c0 c1) (fCs l2 f0 f1)))]) _
                  refine Go.of (fun _ k => XS.ifYes X11.here hx rfl (pc0 := 261) (pc' := 273) rfl (hb hby at_261) rfl ((if0 _ _).trans (teq (show (0 : Int32) = (0 : Int32) from (by decide))).1) (by decide) (by decide) k) ?_
                  show Go p e below T11 (mkF m 273 #[.val (.int x0), .val (.int x1), .val (.int x2), .val (.int x3), .val (.int x4), .val (.int x5), .val (.int ii), .val (.int jj), .val (.int l1), .val (.int l2), .val (.int c0), .val (.int c1), .val (.int f0), .val (.int f1), .val (.ref tA), .val (.ref tB), .val (.ref ad3), .val (.ref ad5), .val (.ref ad7), .val (.int (fIs ii jj (fCs l1 c0 c1) (fCs l2 f0 f1))), .val (.int (0 : Int32)), .val (.int (1 : Int32))] [(.int (fIs ii jj (fCs l1 c0 c1) (fCs l2 f0 f1)))]) _
                  refine Go.of (fun _ k => XS.iconst X11.here hx rfl (hb hby at_273) k) ?_
                  show Go p e below T11 (mkF m 274 #[.val (.int x0), .val (.int x1), .val (.int x2), .val (.int x3), .val (.int x4), .val (.int x5), .val (.int ii), .val (.int jj), .val (.int l1), .val (.int l2), .val (.int c0), .val (.int c1), .val (.int f0), .val (.int f1), .val (.ref tA), .val (.ref tB), .val (.ref ad3), .val (.ref ad5), .val (.ref ad7), .val (.int (fIs ii jj (fCs l1 c0 c1) (fCs l2 f0 f1))), .val (.int (0 : Int32)), .val (.int (1 : Int32))] [(.int (0 : Int32)), (.int (fIs ii jj (fCs l1 c0 c1) (fCs l2 f0 f1)))]) _
                  refine Go.of (fun _ k => XS.icmpNo X11.here hx rfl (hb hby at_274) rfl (teq (show (fIs ii jj (fCs l1 c0 c1) (fCs l2 f0 f1)) = (0 : Int32) from (by simp only [fIs, own_cs hl_l1 hl_l2]; simp [eq_false hc207_0, eq_true hc221_1, eq_true hc227_2, eq_false hc240_3, eq_true hc247_4]))).2 k) ?_
                  show Go p e below T11 (mkF m 277 #[.val (.int x0), .val (.int x1), .val (.int x2), .val (.int x3), .val (.int x4), .val (.int x5), .val (.int ii), .val (.int jj), .val (.int l1), .val (.int l2), .val (.int c0), .val (.int c1), .val (.int f0), .val (.int f1), .val (.ref tA), .val (.ref tB), .val (.ref ad3), .val (.ref ad5), .val (.ref ad7), .val (.int (fIs ii jj (fCs l1 c0 c1) (fCs l2 f0 f1))), .val (.int (0 : Int32)), .val (.int (1 : Int32))] []) _
                  refine Go.of (fun _ k => XS.iconst X11.here hx rfl (hb hby at_277) k) ?_
                  show Go p e below T11 (mkF m 278 #[.val (.int x0), .val (.int x1), .val (.int x2), .val (.int x3), .val (.int x4), .val (.int x5), .val (.int ii), .val (.int jj), .val (.int l1), .val (.int l2), .val (.int c0), .val (.int c1), .val (.int f0), .val (.int f1), .val (.ref tA), .val (.ref tB), .val (.ref ad3), .val (.ref ad5), .val (.ref ad7), .val (.int (fIs ii jj (fCs l1 c0 c1) (fCs l2 f0 f1))), .val (.int (0 : Int32)), .val (.int (1 : Int32))] [(.int (1 : Int32))]) _
                  refine Go.of (fun _ k => XS.goto X11.here hx rfl (pc0 := 278) (pc' := 282) rfl (hb hby at_278) (by decide) (by decide) k) ?_
                  show Go p e below T11 (mkF m 282 #[.val (.int x0), .val (.int x1), .val (.int x2), .val (.int x3), .val (.int x4), .val (.int x5), .val (.int ii), .val (.int jj), .val (.int l1), .val (.int l2), .val (.int c0), .val (.int c1), .val (.int f0), .val (.int f1), .val (.ref tA), .val (.ref tB), .val (.ref ad3), .val (.ref ad5), .val (.ref ad7), .val (.int (fIs ii jj (fCs l1 c0 c1) (fCs l2 f0 f1))), .val (.int (0 : Int32)), .val (.int (1 : Int32))] [(.int (1 : Int32))]) _
                  refine Go.retNH X11 hx (t := .boolean) hret hlk (by simp) (hb hby at_282) e11 hS hk hZ hEL hs0 HR (by decide) (by decide) ?_
                  exact ⟨rfl, N11⟩
                · refine Go.of (fun _ k => XS.icmpYes X11.here hx rfl (pc0 := 247) (pc' := 254) rfl (hb hby at_247) rfl (feq hc247_4).2 (by decide) (by decide) k) ?_
                  show Go p e below T11 (mkF m 254 #[.val (.int x0), .val (.int x1), .val (.int x2), .val (.int x3), .val (.int x4), .val (.int x5), .val (.int ii), .val (.int jj), .val (.int l1), .val (.int l2), .val (.int c0), .val (.int c1), .val (.int f0), .val (.int f1), .val (.ref tA), .val (.ref tB), .val (.ref ad3), .val (.ref ad5), .val (.ref ad7), .val (.int (fIs ii jj (fCs l1 c0 c1) (fCs l2 f0 f1))), .val (.int (0 : Int32)), .unset] []) _
                  refine Go.of (fun _ k => XS.iconst X11.here hx rfl (hb hby at_254) k) ?_
                  show Go p e below T11 (mkF m 255 #[.val (.int x0), .val (.int x1), .val (.int x2), .val (.int x3), .val (.int x4), .val (.int x5), .val (.int ii), .val (.int jj), .val (.int l1), .val (.int l2), .val (.int c0), .val (.int c1), .val (.int f0), .val (.int f1), .val (.ref tA), .val (.ref tB), .val (.ref ad3), .val (.ref ad5), .val (.ref ad7), .val (.int (fIs ii jj (fCs l1 c0 c1) (fCs l2 f0 f1))), .val (.int (0 : Int32)), .unset] [(.int (0 : Int32))]) _
                  refine Go.of (fun _ k => XS.istore X11.here hx rfl (hb hby at_255) rfl (l' := #[.val (.int x0), .val (.int x1), .val (.int x2), .val (.int x3), .val (.int x4), .val (.int x5), .val (.int ii), .val (.int jj), .val (.int l1), .val (.int l2), .val (.int c0), .val (.int c1), .val (.int f0), .val (.int f1), .val (.ref tA), .val (.ref tB), .val (.ref ad3), .val (.ref ad5), .val (.ref ad7), .val (.int (fIs ii jj (fCs l1 c0 c1) (fCs l2 f0 f1))), .val (.int (0 : Int32)), .val (.int (0 : Int32))]) rfl k) ?_
                  show Go p e below T11 (mkF m 257 #[.val (.int x0), .val (.int x1), .val (.int x2), .val (.int x3), .val (.int x4), .val (.int x5), .val (.int ii), .val (.int jj), .val (.int l1), .val (.int l2), .val (.int c0), .val (.int c1), .val (.int f0), .val (.int f1), .val (.ref tA), .val (.ref tB), .val (.ref ad3), .val (.ref ad5), .val (.ref ad7), .val (.int (fIs ii jj (fCs l1 c0 c1) (fCs l2 f0 f1))), .val (.int (0 : Int32)), .val (.int (0 : Int32))] []) _
                  refine Go.of (fun _ k => XS.iload X11.here hx rfl (hb hby at_257) rfl  k) ?_
                  show Go p e below T11 (mkF m 259 #[.val (.int x0), .val (.int x1), .val (.int x2), .val (.int x3), .val (.int x4), .val (.int x5), .val (.int ii), .val (.int jj), .val (.int l1), .val (.int l2), .val (.int c0), .val (.int c1), .val (.int f0), .val (.int f1), .val (.ref tA), .val (.ref tB), .val (.ref ad3), .val (.ref ad5), .val (.ref ad7), .val (.int (fIs ii jj (fCs l1 c0 c1) (fCs l2 f0 f1))), .val (.int (0 : Int32)), .val (.int (0 : Int32))] [(.int (fIs ii jj (fCs l1 c0 c1) (fCs l2 f0 f1)))]) _
                  refine Go.of (fun _ k => XS.iload X11.here hx rfl (hb hby at_259) rfl  k) ?_
                  show Go p e below T11 (mkF m 261 #[.val (.int x0), .val (.int x1), .val (.int x2), .val (.int x3), .val (.int x4), .val (.int x5), .val (.int ii), .val (.int jj), .val (.int l1), .val (.int l2), .val (.int c0), .val (.int c1), .val (.int f0), .val (.int f1), .val (.ref tA), .val (.ref tB), .val (.ref ad3), .val (.ref ad5), .val (.ref ad7), .val (.int (fIs ii jj (fCs l1 c0 c1) (fCs l2 f0 f1))), .val (.int (0 : Int32)), .val (.int (0 : Int32))] [(.int (0 : Int32)), (.int (fIs ii jj (fCs l1 c0 c1) (fCs l2 f0 f1)))]) _
                  refine Go.of (fun _ k => XS.ifYes X11.here hx rfl (pc0 := 261) (pc' := 273) rfl (hb hby at_261) rfl ((if0 _ _).trans (teq (show (0 : Int32) = (0 : Int32) from (by decide))).1) (by decide) (by decide) k) ?_
                  show Go p e below T11 (mkF m 273 #[.val (.int x0), .val (.int x1), .val (.int x2), .val (.int x3), .val (.int x4), .val (.int x5), .val (.int ii), .val (.int jj), .val (.int l1), .val (.int l2), .val (.int c0), .val (.int c1), .val (.int f0), .val (.int f1), .val (.ref tA), .val (.ref tB), .val (.ref ad3), .val (.ref ad5), .val (.ref ad7), .val (.int (fIs ii jj (fCs l1 c0 c1) (fCs l2 f0 f1))), .val (.int (0 : Int32)), .val (.int (0 : Int32))] [(.int (fIs ii jj (fCs l1 c0 c1) (fCs l2 f0 f1)))]) _
                  refine Go.of (fun _ k => XS.iconst X11.here hx rfl (hb hby at_273) k) ?_
                  show Go p e below T11 (mkF m 274 #[.val (.int x0), .val (.int x1), .val (.int x2), .val (.int x3), .val (.int x4), .val (.int x5), .val (.int ii), .val (.int jj), .val (.int l1), .val (.int l2), .val (.int c0), .val (.int c1), .val (.int f0), .val (.int f1), .val (.ref tA), .val (.ref tB), .val (.ref ad3), .val (.ref ad5), .val (.ref ad7), .val (.int (fIs ii jj (fCs l1 c0 c1) (fCs l2 f0 f1))), .val (.int (0 : Int32)), .val (.int (0 : Int32))] [(.int (0 : Int32)), (.int (fIs ii jj (fCs l1 c0 c1) (fCs l2 f0 f1)))]) _
                  refine Go.of (fun _ k => XS.icmpNo X11.here hx rfl (hb hby at_274) rfl (teq (show (fIs ii jj (fCs l1 c0 c1) (fCs l2 f0 f1)) = (0 : Int32) from (by simp only [fIs, own_cs hl_l1 hl_l2]; simp [eq_false hc207_0, eq_true hc221_1, eq_true hc227_2, eq_false hc240_3, eq_false hc247_4]))).2 k) ?_
                  show Go p e below T11 (mkF m 277 #[.val (.int x0), .val (.int x1), .val (.int x2), .val (.int x3), .val (.int x4), .val (.int x5), .val (.int ii), .val (.int jj), .val (.int l1), .val (.int l2), .val (.int c0), .val (.int c1), .val (.int f0), .val (.int f1), .val (.ref tA), .val (.ref tB), .val (.ref ad3), .val (.ref ad5), .val (.ref ad7), .val (.int (fIs ii jj (fCs l1 c0 c1) (fCs l2 f0 f1))), .val (.int (0 : Int32)), .val (.int (0 : Int32))] []) _
                  refine Go.of (fun _ k => XS.iconst X11.here hx rfl (hb hby at_277) k) ?_
                  show Go p e below T11 (mkF m 278 #[.val (.int x0), .val (.int x1), .val (.int x2), .val (.int x3), .val (.int x4), .val (.int x5), .val (.int ii), .val (.int jj), .val (.int l1), .val (.int l2), .val (.int c0), .val (.int c1), .val (.int f0), .val (.int f1), .val (.ref tA), .val (.ref tB), .val (.ref ad3), .val (.ref ad5), .val (.ref ad7), .val (.int (fIs ii jj (fCs l1 c0 c1) (fCs l2 f0 f1))), .val (.int (0 : Int32)), .val (.int (0 : Int32))] [(.int (1 : Int32))]) _
                  refine Go.of (fun _ k => XS.goto X11.here hx rfl (pc0 := 278) (pc' := 282) rfl (hb hby at_278) (by decide) (by decide) k) ?_
                  show Go p e below T11 (mkF m 282 #[.val (.int x0), .val (.int x1), .val (.int x2), .val (.int x3), .val (.int x4), .val (.int x5), .val (.int ii), .val (.int jj), .val (.int l1), .val (.int l2), .val (.int c0), .val (.int c1), .val (.int f0), .val (.int f1), .val (.ref tA), .val (.ref tB), .val (.ref ad3), .val (.ref ad5), .val (.ref ad7), .val (.int (fIs ii jj (fCs l1 c0 c1) (fCs l2 f0 f1))), .val (.int (0 : Int32)), .val (.int (0 : Int32))] [(.int (1 : Int32))]) _
                  refine Go.retNH X11 hx (t := .boolean) hret hlk (by simp) (hb hby at_282) e11 hS hk hZ hEL hs0 HR (by decide) (by decide) ?_
                  exact ⟨rfl, N11⟩
            · refine Go.of (fun _ k => XS.icmpNo X11.here hx rfl (hb hby at_227) rfl (flt hc227_2).1 k) ?_
              show Go p e below T11 (mkF m 230 #[.val (.int x0), .val (.int x1), .val (.int x2), .val (.int x3), .val (.int x4), .val (.int x5), .val (.int ii), .val (.int jj), .val (.int l1), .val (.int l2), .val (.int c0), .val (.int c1), .val (.int f0), .val (.int f1), .val (.ref tA), .val (.ref tB), .val (.ref ad3), .val (.ref ad5), .val (.ref ad7), .val (.int (fIs ii jj (fCs l1 c0 c1) (fCs l2 f0 f1))), .val (.int (0 : Int32)), .unset] []) _
              refine Go.of (fun _ k => XS.iload X11.here hx rfl (hb hby at_230) rfl  k) ?_
              show Go p e below T11 (mkF m 232 #[.val (.int x0), .val (.int x1), .val (.int x2), .val (.int x3), .val (.int x4), .val (.int x5), .val (.int ii), .val (.int jj), .val (.int l1), .val (.int l2), .val (.int c0), .val (.int c1), .val (.int f0), .val (.int f1), .val (.ref tA), .val (.ref tB), .val (.ref ad3), .val (.ref ad5), .val (.ref ad7), .val (.int (fIs ii jj (fCs l1 c0 c1) (fCs l2 f0 f1))), .val (.int (0 : Int32)), .unset] [(.int c0)]) _
              refine Go.of (fun _ k => XS.iload X11.here hx rfl (hb hby at_232) rfl  k) ?_
              show Go p e below T11 (mkF m 234 #[.val (.int x0), .val (.int x1), .val (.int x2), .val (.int x3), .val (.int x4), .val (.int x5), .val (.int ii), .val (.int jj), .val (.int l1), .val (.int l2), .val (.int c0), .val (.int c1), .val (.int f0), .val (.int f1), .val (.ref tA), .val (.ref tB), .val (.ref ad3), .val (.ref ad5), .val (.ref ad7), .val (.int (fIs ii jj (fCs l1 c0 c1) (fCs l2 f0 f1))), .val (.int (0 : Int32)), .unset] [(.int f0), (.int c0)]) _
              by_cases hc234_3 : c0 = f0
              · refine Go.of (fun _ k => XS.icmpNo X11.here hx rfl (hb hby at_234) rfl (teq hc234_3).2 k) ?_
                show Go p e below T11 (mkF m 237 #[.val (.int x0), .val (.int x1), .val (.int x2), .val (.int x3), .val (.int x4), .val (.int x5), .val (.int ii), .val (.int jj), .val (.int l1), .val (.int l2), .val (.int c0), .val (.int c1), .val (.int f0), .val (.int f1), .val (.ref tA), .val (.ref tB), .val (.ref ad3), .val (.ref ad5), .val (.ref ad7), .val (.int (fIs ii jj (fCs l1 c0 c1) (fCs l2 f0 f1))), .val (.int (0 : Int32)), .unset] []) _
                refine Go.of (fun _ k => XS.iload X11.here hx rfl (hb hby at_237) rfl  k) ?_
                show Go p e below T11 (mkF m 239 #[.val (.int x0), .val (.int x1), .val (.int x2), .val (.int x3), .val (.int x4), .val (.int x5), .val (.int ii), .val (.int jj), .val (.int l1), .val (.int l2), .val (.int c0), .val (.int c1), .val (.int f0), .val (.int f1), .val (.ref tA), .val (.ref tB), .val (.ref ad3), .val (.ref ad5), .val (.ref ad7), .val (.int (fIs ii jj (fCs l1 c0 c1) (fCs l2 f0 f1))), .val (.int (0 : Int32)), .unset] [(.int l1)]) _
                refine Go.of (fun _ k => XS.iconst X11.here hx rfl (hb hby at_239) k) ?_
                show Go p e below T11 (mkF m 240 #[.val (.int x0), .val (.int x1), .val (.int x2), .val (.int x3), .val (.int x4), .val (.int x5), .val (.int ii), .val (.int jj), .val (.int l1), .val (.int l2), .val (.int c0), .val (.int c1), .val (.int f0), .val (.int f1), .val (.ref tA), .val (.ref tB), .val (.ref ad3), .val (.ref ad5), .val (.ref ad7), .val (.int (fIs ii jj (fCs l1 c0 c1) (fCs l2 f0 f1))), .val (.int (0 : Int32)), .unset] [(.int (2 : Int32)), (.int l1)]) _
                by_cases hc240_4 : l1 < (2 : Int32)
                · refine Go.of (fun _ k => XS.icmpYes X11.here hx rfl (pc0 := 240) (pc' := 250) rfl (hb hby at_240) rfl (tlt hc240_4).1 (by decide) (by decide) k) ?_
                  show Go p e below T11 (mkF m 250 #[.val (.int x0), .val (.int x1), .val (.int x2), .val (.int x3), .val (.int x4), .val (.int x5), .val (.int ii), .val (.int jj), .val (.int l1), .val (.int l2), .val (.int c0), .val (.int c1), .val (.int f0), .val (.int f1), .val (.ref tA), .val (.ref tB), .val (.ref ad3), .val (.ref ad5), .val (.ref ad7), .val (.int (fIs ii jj (fCs l1 c0 c1) (fCs l2 f0 f1))), .val (.int (0 : Int32)), .unset] []) _
                  refine Go.of (fun _ k => XS.iconst X11.here hx rfl (hb hby at_250) k) ?_
                  show Go p e below T11 (mkF m 251 #[.val (.int x0), .val (.int x1), .val (.int x2), .val (.int x3), .val (.int x4), .val (.int x5), .val (.int ii), .val (.int jj), .val (.int l1), .val (.int l2), .val (.int c0), .val (.int c1), .val (.int f0), .val (.int f1), .val (.ref tA), .val (.ref tB), .val (.ref ad3), .val (.ref ad5), .val (.ref ad7), .val (.int (fIs ii jj (fCs l1 c0 c1) (fCs l2 f0 f1))), .val (.int (0 : Int32)), .unset] [(.int (1 : Int32))]) _
                  refine Go.of (fun _ k => XS.goto X11.here hx rfl (pc0 := 251) (pc' := 255) rfl (hb hby at_251) (by decide) (by decide) k) ?_
                  show Go p e below T11 (mkF m 255 #[.val (.int x0), .val (.int x1), .val (.int x2), .val (.int x3), .val (.int x4), .val (.int x5), .val (.int ii), .val (.int jj), .val (.int l1), .val (.int l2), .val (.int c0), .val (.int c1), .val (.int f0), .val (.int f1), .val (.ref tA), .val (.ref tB), .val (.ref ad3), .val (.ref ad5), .val (.ref ad7), .val (.int (fIs ii jj (fCs l1 c0 c1) (fCs l2 f0 f1))), .val (.int (0 : Int32)), .unset] [(.int (1 : Int32))]) _
                  refine Go.of (fun _ k => XS.istore X11.here hx rfl (hb hby at_255) rfl (l' := #[.val (.int x0), .val (.int x1), .val (.int x2), .val (.int x3), .val (.int x4), .val (.int x5), .val (.int ii), .val (.int jj), .val (.int l1), .val (.int l2), .val (.int c0), .val (.int c1), .val (.int f0), .val (.int f1), .val (.ref tA), .val (.ref tB), .val (.ref ad3), .val (.ref ad5), .val (.ref ad7), .val (.int (fIs ii jj (fCs l1 c0 c1) (fCs l2 f0 f1))), .val (.int (0 : Int32)), .val (.int (1 : Int32))]) rfl k) ?_
                  show Go p e below T11 (mkF m 257 #[.val (.int x0), .val (.int x1), .val (.int x2), .val (.int x3), .val (.int x4), .val (.int x5), .val (.int ii), .val (.int jj), .val (.int l1), .val (.int l2), .val (.int c0), .val (.int c1), .val (.int f0), .val (.int f1), .val (.ref tA), .val (.ref tB), .val (.ref ad3), .val (.ref ad5), .val (.ref ad7), .val (.int (fIs ii jj (fCs l1 c0 c1) (fCs l2 f0 f1))), .val (.int (0 : Int32)), .val (.int (1 : Int32))] []) _
                  refine Go.of (fun _ k => XS.iload X11.here hx rfl (hb hby at_257) rfl  k) ?_
                  show Go p e below T11 (mkF m 259 #[.val (.int x0), .val (.int x1), .val (.int x2), .val (.int x3), .val (.int x4), .val (.int x5), .val (.int ii), .val (.int jj), .val (.int l1), .val (.int l2), .val (.int c0), .val (.int c1), .val (.int f0), .val (.int f1), .val (.ref tA), .val (.ref tB), .val (.ref ad3), .val (.ref ad5), .val (.ref ad7), .val (.int (fIs ii jj (fCs l1 c0 c1) (fCs l2 f0 f1))), .val (.int (0 : Int32)), .val (.int (1 : Int32))] [(.int (fIs ii jj (fCs l1 c0 c1) (fCs l2 f0 f1)))]) _
                  refine Go.of (fun _ k => XS.iload X11.here hx rfl (hb hby at_259) rfl  k) ?_
                  show Go p e below T11 (mkF m 261 #[.val (.int x0), .val (.int x1), .val (.int x2), .val (.int x3), .val (.int x4), .val (.int x5), .val (.int ii), .val (.int jj), .val (.int l1), .val (.int l2), .val (.int c0), .val (.int c1), .val (.int f0), .val (.int f1), .val (.ref tA), .val (.ref tB), .val (.ref ad3), .val (.ref ad5), .val (.ref ad7), .val (.int (fIs ii jj (fCs l1 c0 c1) (fCs l2 f0 f1))), .val (.int (0 : Int32)), .val (.int (1 : Int32))] [(.int (0 : Int32)), (.int (fIs ii jj (fCs l1 c0 c1) (fCs l2 f0 f1)))]) _
                  refine Go.of (fun _ k => XS.ifYes X11.here hx rfl (pc0 := 261) (pc' := 273) rfl (hb hby at_261) rfl ((if0 _ _).trans (teq (show (0 : Int32) = (0 : Int32) from (by decide))).1) (by decide) (by decide) k) ?_
                  show Go p e below T11 (mkF m 273 #[.val (.int x0), .val (.int x1), .val (.int x2), .val (.int x3), .val (.int x4), .val (.int x5), .val (.int ii), .val (.int jj), .val (.int l1), .val (.int l2), .val (.int c0), .val (.int c1), .val (.int f0), .val (.int f1), .val (.ref tA), .val (.ref tB), .val (.ref ad3), .val (.ref ad5), .val (.ref ad7), .val (.int (fIs ii jj (fCs l1 c0 c1) (fCs l2 f0 f1))), .val (.int (0 : Int32)), .val (.int (1 : Int32))] [(.int (fIs ii jj (fCs l1 c0 c1) (fCs l2 f0 f1)))]) _
                  refine Go.of (fun _ k => XS.iconst X11.here hx rfl (hb hby at_273) k) ?_
                  show Go p e below T11 (mkF m 274 #[.val (.int x0), .val (.int x1), .val (.int x2), .val (.int x3), .val (.int x4), .val (.int x5), .val (.int ii), .val (.int jj), .val (.int l1), .val (.int l2), .val (.int c0), .val (.int c1), .val (.int f0), .val (.int f1), .val (.ref tA), .val (.ref tB), .val (.ref ad3), .val (.ref ad5), .val (.ref ad7), .val (.int (fIs ii jj (fCs l1 c0 c1) (fCs l2 f0 f1))), .val (.int (0 : Int32)), .val (.int (1 : Int32))] [(.int (0 : Int32)), (.int (fIs ii jj (fCs l1 c0 c1) (fCs l2 f0 f1)))]) _
                  refine Go.of (fun _ k => XS.icmpNo X11.here hx rfl (hb hby at_274) rfl (teq (show (fIs ii jj (fCs l1 c0 c1) (fCs l2 f0 f1)) = (0 : Int32) from (by simp only [fIs, own_cs hl_l1 hl_l2]; simp [eq_false hc207_0, eq_true hc221_1, eq_false hc227_2, eq_true hc234_3, eq_true hc240_4]))).2 k) ?_
                  show Go p e below T11 (mkF m 277 #[.val (.int x0), .val (.int x1), .val (.int x2), .val (.int x3), .val (.int x4), .val (.int x5), .val (.int ii), .val (.int jj), .val (.int l1), .val (.int l2), .val (.int c0), .val (.int c1), .val (.int f0), .val (.int f1), .val (.ref tA), .val (.ref tB), .val (.ref ad3), .val (.ref ad5), .val (.ref ad7), .val (.int (fIs ii jj (fCs l1 c0 c1) (fCs l2 f0 f1))), .val (.int (0 : Int32)), .val (.int (1 : Int32))] []) _
                  refine Go.of (fun _ k => XS.iconst X11.here hx rfl (hb hby at_277) k) ?_
                  show Go p e below T11 (mkF m 278 #[.val (.int x0), .val (.int x1), .val (.int x2), .val (.int x3), .val (.int x4), .val (.int x5), .val (.int ii), .val (.int jj), .val (.int l1), .val (.int l2), .val (.int c0), .val (.int c1), .val (.int f0), .val (.int f1), .val (.ref tA), .val (.ref tB), .val (.ref ad3), .val (.ref ad5), .val (.ref ad7), .val (.int (fIs ii jj (fCs l1 c0 c1) (fCs l2 f0 f1))), .val (.int (0 : Int32)), .val (.int (1 : Int32))] [(.int (1 : Int32))]) _
                  refine Go.of (fun _ k => XS.goto X11.here hx rfl (pc0 := 278) (pc' := 282) rfl (hb hby at_278) (by decide) (by decide) k) ?_
                  show Go p e below T11 (mkF m 282 #[.val (.int x0), .val (.int x1), .val (.int x2), .val (.int x3), .val (.int x4), .val (.int x5), .val (.int ii), .val (.int jj), .val (.int l1), .val (.int l2), .val (.int c0), .val (.int c1), .val (.int f0), .val (.int f1), .val (.ref tA), .val (.ref tB), .val (.ref ad3), .val (.ref ad5), .val (.ref ad7), .val (.int (fIs ii jj (fCs l1 c0 c1) (fCs l2 f0 f1))), .val (.int (0 : Int32)), .val (.int (1 : Int32))] [(.int (1 : Int32))]) _
                  refine Go.retNH X11 hx (t := .boolean) hret hlk (by simp) (hb hby at_282) e11 hS hk hZ hEL hs0 HR (by decide) (by decide) ?_
                  exact ⟨rfl, N11⟩
                · refine Go.of (fun _ k => XS.icmpNo X11.here hx rfl (hb hby at_240) rfl (flt hc240_4).1 k) ?_
                  show Go p e below T11 (mkF m 243 #[.val (.int x0), .val (.int x1), .val (.int x2), .val (.int x3), .val (.int x4), .val (.int x5), .val (.int ii), .val (.int jj), .val (.int l1), .val (.int l2), .val (.int c0), .val (.int c1), .val (.int f0), .val (.int f1), .val (.ref tA), .val (.ref tB), .val (.ref ad3), .val (.ref ad5), .val (.ref ad7), .val (.int (fIs ii jj (fCs l1 c0 c1) (fCs l2 f0 f1))), .val (.int (0 : Int32)), .unset] []) _
                  refine Go.of (fun _ k => XS.iload X11.here hx rfl (hb hby at_243) rfl  k) ?_
                  show Go p e below T11 (mkF m 245 #[.val (.int x0), .val (.int x1), .val (.int x2), .val (.int x3), .val (.int x4), .val (.int x5), .val (.int ii), .val (.int jj), .val (.int l1), .val (.int l2), .val (.int c0), .val (.int c1), .val (.int f0), .val (.int f1), .val (.ref tA), .val (.ref tB), .val (.ref ad3), .val (.ref ad5), .val (.ref ad7), .val (.int (fIs ii jj (fCs l1 c0 c1) (fCs l2 f0 f1))), .val (.int (0 : Int32)), .unset] [(.int c1)]) _
                  refine Go.of (fun _ k => XS.iload X11.here hx rfl (hb hby at_245) rfl  k) ?_
                  show Go p e below T11 (mkF m 247 #[.val (.int x0), .val (.int x1), .val (.int x2), .val (.int x3), .val (.int x4), .val (.int x5), .val (.int ii), .val (.int jj), .val (.int l1), .val (.int l2), .val (.int c0), .val (.int c1), .val (.int f0), .val (.int f1), .val (.ref tA), .val (.ref tB), .val (.ref ad3), .val (.ref ad5), .val (.ref ad7), .val (.int (fIs ii jj (fCs l1 c0 c1) (fCs l2 f0 f1))), .val (.int (0 : Int32)), .unset] [(.int f1), (.int c1)]) _
                  by_cases hc247_5 : c1 = f1
                  · refine Go.of (fun _ k => XS.icmpNo X11.here hx rfl (hb hby at_247) rfl (teq hc247_5).2 k) ?_
                    show Go p e below T11 (mkF m 250 #[.val (.int x0), .val (.int x1), .val (.int x2), .val (.int x3), .val (.int x4), .val (.int x5), .val (.int ii), .val (.int jj), .val (.int l1), .val (.int l2), .val (.int c0), .val (.int c1), .val (.int f0), .val (.int f1), .val (.ref tA), .val (.ref tB), .val (.ref ad3), .val (.ref ad5), .val (.ref ad7), .val (.int (fIs ii jj (fCs l1 c0 c1) (fCs l2 f0 f1))), .val (.int (0 : Int32)), .unset] []) _
                    refine Go.of (fun _ k => XS.iconst X11.here hx rfl (hb hby at_250) k) ?_
                    show Go p e below T11 (mkF m 251 #[.val (.int x0), .val (.int x1), .val (.int x2), .val (.int x3), .val (.int x4), .val (.int x5), .val (.int ii), .val (.int jj), .val (.int l1), .val (.int l2), .val (.int c0), .val (.int c1), .val (.int f0), .val (.int f1), .val (.ref tA), .val (.ref tB), .val (.ref ad3), .val (.ref ad5), .val (.ref ad7), .val (.int (fIs ii jj (fCs l1 c0 c1) (fCs l2 f0 f1))), .val (.int (0 : Int32)), .unset] [(.int (1 : Int32))]) _
                    refine Go.of (fun _ k => XS.goto X11.here hx rfl (pc0 := 251) (pc' := 255) rfl (hb hby at_251) (by decide) (by decide) k) ?_
                    show Go p e below T11 (mkF m 255 #[.val (.int x0), .val (.int x1), .val (.int x2), .val (.int x3), .val (.int x4), .val (.int x5), .val (.int ii), .val (.int jj), .val (.int l1), .val (.int l2), .val (.int c0), .val (.int c1), .val (.int f0), .val (.int f1), .val (.ref tA), .val (.ref tB), .val (.ref ad3), .val (.ref ad5), .val (.ref ad7), .val (.int (fIs ii jj (fCs l1 c0 c1) (fCs l2 f0 f1))), .val (.int (0 : Int32)), .unset] [(.int (1 : Int32))]) _
                    refine Go.of (fun _ k => XS.istore X11.here hx rfl (hb hby at_255) rfl (l' := #[.val (.int x0), .val (.int x1), .val (.int x2), .val (.int x3), .val (.int x4), .val (.int x5), .val (.int ii), .val (.int jj), .val (.int l1), .val (.int l2), .val (.int c0), .val (.int c1), .val (.int f0), .val (.int f1), .val (.ref tA), .val (.ref tB), .val (.ref ad3), .val (.ref ad5), .val (.ref ad7), .val (.int (fIs ii jj (fCs l1 c0 c1) (fCs l2 f0 f1))), .val (.int (0 : Int32)), .val (.int (1 : Int32))]) rfl k) ?_
                    show Go p e below T11 (mkF m 257 #[.val (.int x0), .val (.int x1), .val (.int x2), .val (.int x3), .val (.int x4), .val (.int x5), .val (.int ii), .val (.int jj), .val (.int l1), .val (.int l2), .val (.int c0), .val (.int c1), .val (.int f0), .val (.int f1), .val (.ref tA), .val (.ref tB), .val (.ref ad3), .val (.ref ad5), .val (.ref ad7), .val (.int (fIs ii jj (fCs l1 c0 c1) (fCs l2 f0 f1))), .val (.int (0 : Int32)), .val (.int (1 : Int32))] []) _
                    refine Go.of (fun _ k => XS.iload X11.here hx rfl (hb hby at_257) rfl  k) ?_
                    show Go p e below T11 (mkF m 259 #[.val (.int x0), .val (.int x1), .val (.int x2), .val (.int x3), .val (.int x4), .val (.int x5), .val (.int ii), .val (.int jj), .val (.int l1), .val (.int l2), .val (.int c0), .val (.int c1), .val (.int f0), .val (.int f1), .val (.ref tA), .val (.ref tB), .val (.ref ad3), .val (.ref ad5), .val (.ref ad7), .val (.int (fIs ii jj (fCs l1 c0 c1) (fCs l2 f0 f1))), .val (.int (0 : Int32)), .val (.int (1 : Int32))] [(.int (fIs ii jj (fCs l1 c0 c1) (fCs l2 f0 f1)))]) _
                    refine Go.of (fun _ k => XS.iload X11.here hx rfl (hb hby at_259) rfl  k) ?_
                    show Go p e below T11 (mkF m 261 #[.val (.int x0), .val (.int x1), .val (.int x2), .val (.int x3), .val (.int x4), .val (.int x5), .val (.int ii), .val (.int jj), .val (.int l1), .val (.int l2), .val (.int c0), .val (.int c1), .val (.int f0), .val (.int f1), .val (.ref tA), .val (.ref tB), .val (.ref ad3), .val (.ref ad5), .val (.ref ad7), .val (.int (fIs ii jj (fCs l1 c0 c1) (fCs l2 f0 f1))), .val (.int (0 : Int32)), .val (.int (1 : Int32))] [(.int (0 : Int32)), (.int (fIs ii jj (fCs l1 c0 c1) (fCs l2 f0 f1)))]) _
                    refine Go.of (fun _ k => XS.ifYes X11.here hx rfl (pc0 := 261) (pc' := 273) rfl (hb hby at_261) rfl ((if0 _ _).trans (teq (show (0 : Int32) = (0 : Int32) from (by decide))).1) (by decide) (by decide) k) ?_
                    show Go p e below T11 (mkF m 273 #[.val (.int x0), .val (.int x1), .val (.int x2), .val (.int x3), .val (.int x4), .val (.int x5), .val (.int ii), .val (.int jj), .val (.int l1), .val (.int l2), .val (.int c0), .val (.int c1), .val (.int f0), .val (.int f1), .val (.ref tA), .val (.ref tB), .val (.ref ad3), .val (.ref ad5), .val (.ref ad7), .val (.int (fIs ii jj (fCs l1 c0 c1) (fCs l2 f0 f1))), .val (.int (0 : Int32)), .val (.int (1 : Int32))] [(.int (fIs ii jj (fCs l1 c0 c1) (fCs l2 f0 f1)))]) _
                    refine Go.of (fun _ k => XS.iconst X11.here hx rfl (hb hby at_273) k) ?_
                    show Go p e below T11 (mkF m 274 #[.val (.int x0), .val (.int x1), .val (.int x2), .val (.int x3), .val (.int x4), .val (.int x5), .val (.int ii), .val (.int jj), .val (.int l1), .val (.int l2), .val (.int c0), .val (.int c1), .val (.int f0), .val (.int f1), .val (.ref tA), .val (.ref tB), .val (.ref ad3), .val (.ref ad5), .val (.ref ad7), .val (.int (fIs ii jj (fCs l1 c0 c1) (fCs l2 f0 f1))), .val (.int (0 : Int32)), .val (.int (1 : Int32))] [(.int (0 : Int32)), (.int (fIs ii jj (fCs l1 c0 c1) (fCs l2 f0 f1)))]) _
                    refine Go.of (fun _ k => XS.icmpNo X11.here hx rfl (hb hby at_274) rfl (teq (show (fIs ii jj (fCs l1 c0 c1) (fCs l2 f0 f1)) = (0 : Int32) from (by simp only [fIs, own_cs hl_l1 hl_l2]; simp [eq_false hc207_0, eq_true hc221_1, eq_false hc227_2, eq_true hc234_3, eq_false hc240_4, eq_true hc247_5]))).2 k) ?_
                    show Go p e below T11 (mkF m 277 #[.val (.int x0), .val (.int x1), .val (.int x2), .val (.int x3), .val (.int x4), .val (.int x5), .val (.int ii), .val (.int jj), .val (.int l1), .val (.int l2), .val (.int c0), .val (.int c1), .val (.int f0), .val (.int f1), .val (.ref tA), .val (.ref tB), .val (.ref ad3), .val (.ref ad5), .val (.ref ad7), .val (.int (fIs ii jj (fCs l1 c0 c1) (fCs l2 f0 f1))), .val (.int (0 : Int32)), .val (.int (1 : Int32))] []) _
                    refine Go.of (fun _ k => XS.iconst X11.here hx rfl (hb hby at_277) k) ?_
                    show Go p e below T11 (mkF m 278 #[.val (.int x0), .val (.int x1), .val (.int x2), .val (.int x3), .val (.int x4), .val (.int x5), .val (.int ii), .val (.int jj), .val (.int l1), .val (.int l2), .val (.int c0), .val (.int c1), .val (.int f0), .val (.int f1), .val (.ref tA), .val (.ref tB), .val (.ref ad3), .val (.ref ad5), .val (.ref ad7), .val (.int (fIs ii jj (fCs l1 c0 c1) (fCs l2 f0 f1))), .val (.int (0 : Int32)), .val (.int (1 : Int32))] [(.int (1 : Int32))]) _
                    refine Go.of (fun _ k => XS.goto X11.here hx rfl (pc0 := 278) (pc' := 282) rfl (hb hby at_278) (by decide) (by decide) k) ?_
                    show Go p e below T11 (mkF m 282 #[.val (.int x0), .val (.int x1), .val (.int x2), .val (.int x3), .val (.int x4), .val (.int x5), .val (.int ii), .val (.int jj), .val (.int l1), .val (.int l2), .val (.int c0), .val (.int c1), .val (.int f0), .val (.int f1), .val (.ref tA), .val (.ref tB), .val (.ref ad3), .val (.ref ad5), .val (.ref ad7), .val (.int (fIs ii jj (fCs l1 c0 c1) (fCs l2 f0 f1))), .val (.int (0 : Int32)), .val (.int (1 : Int32))] [(.int (1 : Int32))]) _
                    refine Go.retNH X11 hx (t := .boolean) hret hlk (by simp) (hb hby at_282) e11 hS hk hZ hEL hs0 HR (by decide) (by decide) ?_
                    exact ⟨rfl, N11⟩
                  · refine Go.of (fun _ k => XS.icmpYes X11.here hx rfl (pc0 := 247) (pc' := 254) rfl (hb hby at_247) rfl (feq hc247_5).2 (by decide) (by decide) k) ?_
                    show Go p e below T11 (mkF m 254 #[.val (.int x0), .val (.int x1), .val (.int x2), .val (.int x3), .val (.int x4), .val (.int x5), .val (.int ii), .val (.int jj), .val (.int l1), .val (.int l2), .val (.int c0), .val (.int c1), .val (.int f0), .val (.int f1), .val (.ref tA), .val (.ref tB), .val (.ref ad3), .val (.ref ad5), .val (.ref ad7), .val (.int (fIs ii jj (fCs l1 c0 c1) (fCs l2 f0 f1))), .val (.int (0 : Int32)), .unset] []) _
                    refine Go.of (fun _ k => XS.iconst X11.here hx rfl (hb hby at_254) k) ?_
                    show Go p e below T11 (mkF m 255 #[.val (.int x0), .val (.int x1), .val (.int x2), .val (.int x3), .val (.int x4), .val (.int x5), .val (.int ii), .val (.int jj), .val (.int l1), .val (.int l2), .val (.int c0), .val (.int c1), .val (.int f0), .val (.int f1), .val (.ref tA), .val (.ref tB), .val (.ref ad3), .val (.ref ad5), .val (.ref ad7), .val (.int (fIs ii jj (fCs l1 c0 c1) (fCs l2 f0 f1))), .val (.int (0 : Int32)), .unset] [(.int (0 : Int32))]) _
                    refine Go.of (fun _ k => XS.istore X11.here hx rfl (hb hby at_255) rfl (l' := #[.val (.int x0), .val (.int x1), .val (.int x2), .val (.int x3), .val (.int x4), .val (.int x5), .val (.int ii), .val (.int jj), .val (.int l1), .val (.int l2), .val (.int c0), .val (.int c1), .val (.int f0), .val (.int f1), .val (.ref tA), .val (.ref tB), .val (.ref ad3), .val (.ref ad5), .val (.ref ad7), .val (.int (fIs ii jj (fCs l1 c0 c1) (fCs l2 f0 f1))), .val (.int (0 : Int32)), .val (.int (0 : Int32))]) rfl k) ?_
                    show Go p e below T11 (mkF m 257 #[.val (.int x0), .val (.int x1), .val (.int x2), .val (.int x3), .val (.int x4), .val (.int x5), .val (.int ii), .val (.int jj), .val (.int l1), .val (.int l2), .val (.int c0), .val (.int c1), .val (.int f0), .val (.int f1), .val (.ref tA), .val (.ref tB), .val (.ref ad3), .val (.ref ad5), .val (.ref ad7), .val (.int (fIs ii jj (fCs l1 c0 c1) (fCs l2 f0 f1))), .val (.int (0 : Int32)), .val (.int (0 : Int32))] []) _
                    refine Go.of (fun _ k => XS.iload X11.here hx rfl (hb hby at_257) rfl  k) ?_
                    show Go p e below T11 (mkF m 259 #[.val (.int x0), .val (.int x1), .val (.int x2), .val (.int x3), .val (.int x4), .val (.int x5), .val (.int ii), .val (.int jj), .val (.int l1), .val (.int l2), .val (.int c0), .val (.int c1), .val (.int f0), .val (.int f1), .val (.ref tA), .val (.ref tB), .val (.ref ad3), .val (.ref ad5), .val (.ref ad7), .val (.int (fIs ii jj (fCs l1 c0 c1) (fCs l2 f0 f1))), .val (.int (0 : Int32)), .val (.int (0 : Int32))] [(.int (fIs ii jj (fCs l1 c0 c1) (fCs l2 f0 f1)))]) _
                    refine Go.of (fun _ k => XS.iload X11.here hx rfl (hb hby at_259) rfl  k) ?_
                    show Go p e below T11 (mkF m 261 #[.val (.int x0), .val (.int x1), .val (.int x2), .val (.int x3), .val (.int x4), .val (.int x5), .val (.int ii), .val (.int jj), .val (.int l1), .val (.int l2), .val (.int c0), .val (.int c1), .val (.int f0), .val (.int f1), .val (.ref tA), .val (.ref tB), .val (.ref ad3), .val (.ref ad5), .val (.ref ad7), .val (.int (fIs ii jj (fCs l1 c0 c1) (fCs l2 f0 f1))), .val (.int (0 : Int32)), .val (.int (0 : Int32))] [(.int (0 : Int32)), (.int (fIs ii jj (fCs l1 c0 c1) (fCs l2 f0 f1)))]) _
                    refine Go.of (fun _ k => XS.ifYes X11.here hx rfl (pc0 := 261) (pc' := 273) rfl (hb hby at_261) rfl ((if0 _ _).trans (teq (show (0 : Int32) = (0 : Int32) from (by decide))).1) (by decide) (by decide) k) ?_
                    show Go p e below T11 (mkF m 273 #[.val (.int x0), .val (.int x1), .val (.int x2), .val (.int x3), .val (.int x4), .val (.int x5), .val (.int ii), .val (.int jj), .val (.int l1), .val (.int l2), .val (.int c0), .val (.int c1), .val (.int f0), .val (.int f1), .val (.ref tA), .val (.ref tB), .val (.ref ad3), .val (.ref ad5), .val (.ref ad7), .val (.int (fIs ii jj (fCs l1 c0 c1) (fCs l2 f0 f1))), .val (.int (0 : Int32)), .val (.int (0 : Int32))] [(.int (fIs ii jj (fCs l1 c0 c1) (fCs l2 f0 f1)))]) _
                    refine Go.of (fun _ k => XS.iconst X11.here hx rfl (hb hby at_273) k) ?_
                    show Go p e below T11 (mkF m 274 #[.val (.int x0), .val (.int x1), .val (.int x2), .val (.int x3), .val (.int x4), .val (.int x5), .val (.int ii), .val (.int jj), .val (.int l1), .val (.int l2), .val (.int c0), .val (.int c1), .val (.int f0), .val (.int f1), .val (.ref tA), .val (.ref tB), .val (.ref ad3), .val (.ref ad5), .val (.ref ad7), .val (.int (fIs ii jj (fCs l1 c0 c1) (fCs l2 f0 f1))), .val (.int (0 : Int32)), .val (.int (0 : Int32))] [(.int (0 : Int32)), (.int (fIs ii jj (fCs l1 c0 c1) (fCs l2 f0 f1)))]) _
                    refine Go.of (fun _ k => XS.icmpNo X11.here hx rfl (hb hby at_274) rfl (teq (show (fIs ii jj (fCs l1 c0 c1) (fCs l2 f0 f1)) = (0 : Int32) from (by simp only [fIs, own_cs hl_l1 hl_l2]; simp [eq_false hc207_0, eq_true hc221_1, eq_false hc227_2, eq_true hc234_3, eq_false hc240_4, eq_false hc247_5]))).2 k) ?_
                    show Go p e below T11 (mkF m 277 #[.val (.int x0), .val (.int x1), .val (.int x2), .val (.int x3), .val (.int x4), .val (.int x5), .val (.int ii), .val (.int jj), .val (.int l1), .val (.int l2), .val (.int c0), .val (.int c1), .val (.int f0), .val (.int f1), .val (.ref tA), .val (.ref tB), .val (.ref ad3), .val (.ref ad5), .val (.ref ad7), .val (.int (fIs ii jj (fCs l1 c0 c1) (fCs l2 f0 f1))), .val (.int (0 : Int32)), .val (.int (0 : Int32))] []) _
                    refine Go.of (fun _ k => XS.iconst X11.here hx rfl (hb hby at_277) k) ?_
                    show Go p e below T11 (mkF m 278 #[.val (.int x0), .val (.int x1), .val (.int x2), .val (.int x3), .val (.int x4), .val (.int x5), .val (.int ii), .val (.int jj), .val (.int l1), .val (.int l2), .val (.int c0), .val (.int c1), .val (.int f0), .val (.int f1), .val (.ref tA), .val (.ref tB), .val (.ref ad3), .val (.ref ad5), .val (.ref ad7), .val (.int (fIs ii jj (fCs l1 c0 c1) (fCs l2 f0 f1))), .val (.int (0 : Int32)), .val (.int (0 : Int32))] [(.int (1 : Int32))]) _
                    refine Go.of (fun _ k => XS.goto X11.here hx rfl (pc0 := 278) (pc' := 282) rfl (hb hby at_278) (by decide) (by decide) k) ?_
                    show Go p e below T11 (mkF m 282 #[.val (.int x0), .val (.int x1), .val (.int x2), .val (.int x3), .val (.int x4), .val (.int x5), .val (.int ii), .val (.int jj), .val (.int l1), .val (.int l2), .val (.int c0), .val (.int c1), .val (.int f0), .val (.int f1), .val (.ref tA), .val (.ref tB), .val (.ref ad3), .val (.ref ad5), .val (.ref ad7), .val (.int (fIs ii jj (fCs l1 c0 c1) (fCs l2 f0 f1))), .val (.int (0 : Int32)), .val (.int (0 : Int32))] [(.int (1 : Int32))]) _
                    refine Go.retNH X11 hx (t := .boolean) hret hlk (by simp) (hb hby at_282) e11 hS hk hZ hEL hs0 HR (by decide) (by decide) ?_
                    exact ⟨rfl, N11⟩
              · refine Go.of (fun _ k => XS.icmpYes X11.here hx rfl (pc0 := 234) (pc' := 254) rfl (hb hby at_234) rfl (feq hc234_3).2 (by decide) (by decide) k) ?_
                show Go p e below T11 (mkF m 254 #[.val (.int x0), .val (.int x1), .val (.int x2), .val (.int x3), .val (.int x4), .val (.int x5), .val (.int ii), .val (.int jj), .val (.int l1), .val (.int l2), .val (.int c0), .val (.int c1), .val (.int f0), .val (.int f1), .val (.ref tA), .val (.ref tB), .val (.ref ad3), .val (.ref ad5), .val (.ref ad7), .val (.int (fIs ii jj (fCs l1 c0 c1) (fCs l2 f0 f1))), .val (.int (0 : Int32)), .unset] []) _
                refine Go.of (fun _ k => XS.iconst X11.here hx rfl (hb hby at_254) k) ?_
                show Go p e below T11 (mkF m 255 #[.val (.int x0), .val (.int x1), .val (.int x2), .val (.int x3), .val (.int x4), .val (.int x5), .val (.int ii), .val (.int jj), .val (.int l1), .val (.int l2), .val (.int c0), .val (.int c1), .val (.int f0), .val (.int f1), .val (.ref tA), .val (.ref tB), .val (.ref ad3), .val (.ref ad5), .val (.ref ad7), .val (.int (fIs ii jj (fCs l1 c0 c1) (fCs l2 f0 f1))), .val (.int (0 : Int32)), .unset] [(.int (0 : Int32))]) _
                refine Go.of (fun _ k => XS.istore X11.here hx rfl (hb hby at_255) rfl (l' := #[.val (.int x0), .val (.int x1), .val (.int x2), .val (.int x3), .val (.int x4), .val (.int x5), .val (.int ii), .val (.int jj), .val (.int l1), .val (.int l2), .val (.int c0), .val (.int c1), .val (.int f0), .val (.int f1), .val (.ref tA), .val (.ref tB), .val (.ref ad3), .val (.ref ad5), .val (.ref ad7), .val (.int (fIs ii jj (fCs l1 c0 c1) (fCs l2 f0 f1))), .val (.int (0 : Int32)), .val (.int (0 : Int32))]) rfl k) ?_
                show Go p e below T11 (mkF m 257 #[.val (.int x0), .val (.int x1), .val (.int x2), .val (.int x3), .val (.int x4), .val (.int x5), .val (.int ii), .val (.int jj), .val (.int l1), .val (.int l2), .val (.int c0), .val (.int c1), .val (.int f0), .val (.int f1), .val (.ref tA), .val (.ref tB), .val (.ref ad3), .val (.ref ad5), .val (.ref ad7), .val (.int (fIs ii jj (fCs l1 c0 c1) (fCs l2 f0 f1))), .val (.int (0 : Int32)), .val (.int (0 : Int32))] []) _
                refine Go.of (fun _ k => XS.iload X11.here hx rfl (hb hby at_257) rfl  k) ?_
                show Go p e below T11 (mkF m 259 #[.val (.int x0), .val (.int x1), .val (.int x2), .val (.int x3), .val (.int x4), .val (.int x5), .val (.int ii), .val (.int jj), .val (.int l1), .val (.int l2), .val (.int c0), .val (.int c1), .val (.int f0), .val (.int f1), .val (.ref tA), .val (.ref tB), .val (.ref ad3), .val (.ref ad5), .val (.ref ad7), .val (.int (fIs ii jj (fCs l1 c0 c1) (fCs l2 f0 f1))), .val (.int (0 : Int32)), .val (.int (0 : Int32))] [(.int (fIs ii jj (fCs l1 c0 c1) (fCs l2 f0 f1)))]) _
                refine Go.of (fun _ k => XS.iload X11.here hx rfl (hb hby at_259) rfl  k) ?_
                show Go p e below T11 (mkF m 261 #[.val (.int x0), .val (.int x1), .val (.int x2), .val (.int x3), .val (.int x4), .val (.int x5), .val (.int ii), .val (.int jj), .val (.int l1), .val (.int l2), .val (.int c0), .val (.int c1), .val (.int f0), .val (.int f1), .val (.ref tA), .val (.ref tB), .val (.ref ad3), .val (.ref ad5), .val (.ref ad7), .val (.int (fIs ii jj (fCs l1 c0 c1) (fCs l2 f0 f1))), .val (.int (0 : Int32)), .val (.int (0 : Int32))] [(.int (0 : Int32)), (.int (fIs ii jj (fCs l1 c0 c1) (fCs l2 f0 f1)))]) _
                refine Go.of (fun _ k => XS.ifYes X11.here hx rfl (pc0 := 261) (pc' := 273) rfl (hb hby at_261) rfl ((if0 _ _).trans (teq (show (0 : Int32) = (0 : Int32) from (by decide))).1) (by decide) (by decide) k) ?_
                show Go p e below T11 (mkF m 273 #[.val (.int x0), .val (.int x1), .val (.int x2), .val (.int x3), .val (.int x4), .val (.int x5), .val (.int ii), .val (.int jj), .val (.int l1), .val (.int l2), .val (.int c0), .val (.int c1), .val (.int f0), .val (.int f1), .val (.ref tA), .val (.ref tB), .val (.ref ad3), .val (.ref ad5), .val (.ref ad7), .val (.int (fIs ii jj (fCs l1 c0 c1) (fCs l2 f0 f1))), .val (.int (0 : Int32)), .val (.int (0 : Int32))] [(.int (fIs ii jj (fCs l1 c0 c1) (fCs l2 f0 f1)))]) _
                refine Go.of (fun _ k => XS.iconst X11.here hx rfl (hb hby at_273) k) ?_
                show Go p e below T11 (mkF m 274 #[.val (.int x0), .val (.int x1), .val (.int x2), .val (.int x3), .val (.int x4), .val (.int x5), .val (.int ii), .val (.int jj), .val (.int l1), .val (.int l2), .val (.int c0), .val (.int c1), .val (.int f0), .val (.int f1), .val (.ref tA), .val (.ref tB), .val (.ref ad3), .val (.ref ad5), .val (.ref ad7), .val (.int (fIs ii jj (fCs l1 c0 c1) (fCs l2 f0 f1))), .val (.int (0 : Int32)), .val (.int (0 : Int32))] [(.int (0 : Int32)), (.int (fIs ii jj (fCs l1 c0 c1) (fCs l2 f0 f1)))]) _
                refine Go.of (fun _ k => XS.icmpNo X11.here hx rfl (hb hby at_274) rfl (teq (show (fIs ii jj (fCs l1 c0 c1) (fCs l2 f0 f1)) = (0 : Int32) from (by simp only [fIs, own_cs hl_l1 hl_l2]; simp [eq_false hc207_0, eq_true hc221_1, eq_false hc227_2, eq_false hc234_3]))).2 k) ?_
                show Go p e below T11 (mkF m 277 #[.val (.int x0), .val (.int x1), .val (.int x2), .val (.int x3), .val (.int x4), .val (.int x5), .val (.int ii), .val (.int jj), .val (.int l1), .val (.int l2), .val (.int c0), .val (.int c1), .val (.int f0), .val (.int f1), .val (.ref tA), .val (.ref tB), .val (.ref ad3), .val (.ref ad5), .val (.ref ad7), .val (.int (fIs ii jj (fCs l1 c0 c1) (fCs l2 f0 f1))), .val (.int (0 : Int32)), .val (.int (0 : Int32))] []) _
                refine Go.of (fun _ k => XS.iconst X11.here hx rfl (hb hby at_277) k) ?_
                show Go p e below T11 (mkF m 278 #[.val (.int x0), .val (.int x1), .val (.int x2), .val (.int x3), .val (.int x4), .val (.int x5), .val (.int ii), .val (.int jj), .val (.int l1), .val (.int l2), .val (.int c0), .val (.int c1), .val (.int f0), .val (.int f1), .val (.ref tA), .val (.ref tB), .val (.ref ad3), .val (.ref ad5), .val (.ref ad7), .val (.int (fIs ii jj (fCs l1 c0 c1) (fCs l2 f0 f1))), .val (.int (0 : Int32)), .val (.int (0 : Int32))] [(.int (1 : Int32))]) _
                refine Go.of (fun _ k => XS.goto X11.here hx rfl (pc0 := 278) (pc' := 282) rfl (hb hby at_278) (by decide) (by decide) k) ?_
                show Go p e below T11 (mkF m 282 #[.val (.int x0), .val (.int x1), .val (.int x2), .val (.int x3), .val (.int x4), .val (.int x5), .val (.int ii), .val (.int jj), .val (.int l1), .val (.int l2), .val (.int c0), .val (.int c1), .val (.int f0), .val (.int f1), .val (.ref tA), .val (.ref tB), .val (.ref ad3), .val (.ref ad5), .val (.ref ad7), .val (.int (fIs ii jj (fCs l1 c0 c1) (fCs l2 f0 f1))), .val (.int (0 : Int32)), .val (.int (0 : Int32))] [(.int (1 : Int32))]) _
                refine Go.retNH X11 hx (t := .boolean) hret hlk (by simp) (hb hby at_282) e11 hS hk hZ hEL hs0 HR (by decide) (by decide) ?_
                exact ⟨rfl, N11⟩
          · refine Go.of (fun _ k => XS.icmpYes X11.here hx rfl (pc0 := 221) (pc' := 254) rfl (hb hby at_221) rfl (feq hc221_1).2 (by decide) (by decide) k) ?_
            show Go p e below T11 (mkF m 254 #[.val (.int x0), .val (.int x1), .val (.int x2), .val (.int x3), .val (.int x4), .val (.int x5), .val (.int ii), .val (.int jj), .val (.int l1), .val (.int l2), .val (.int c0), .val (.int c1), .val (.int f0), .val (.int f1), .val (.ref tA), .val (.ref tB), .val (.ref ad3), .val (.ref ad5), .val (.ref ad7), .val (.int (fIs ii jj (fCs l1 c0 c1) (fCs l2 f0 f1))), .val (.int (0 : Int32)), .unset] []) _
            refine Go.of (fun _ k => XS.iconst X11.here hx rfl (hb hby at_254) k) ?_
            show Go p e below T11 (mkF m 255 #[.val (.int x0), .val (.int x1), .val (.int x2), .val (.int x3), .val (.int x4), .val (.int x5), .val (.int ii), .val (.int jj), .val (.int l1), .val (.int l2), .val (.int c0), .val (.int c1), .val (.int f0), .val (.int f1), .val (.ref tA), .val (.ref tB), .val (.ref ad3), .val (.ref ad5), .val (.ref ad7), .val (.int (fIs ii jj (fCs l1 c0 c1) (fCs l2 f0 f1))), .val (.int (0 : Int32)), .unset] [(.int (0 : Int32))]) _
            refine Go.of (fun _ k => XS.istore X11.here hx rfl (hb hby at_255) rfl (l' := #[.val (.int x0), .val (.int x1), .val (.int x2), .val (.int x3), .val (.int x4), .val (.int x5), .val (.int ii), .val (.int jj), .val (.int l1), .val (.int l2), .val (.int c0), .val (.int c1), .val (.int f0), .val (.int f1), .val (.ref tA), .val (.ref tB), .val (.ref ad3), .val (.ref ad5), .val (.ref ad7), .val (.int (fIs ii jj (fCs l1 c0 c1) (fCs l2 f0 f1))), .val (.int (0 : Int32)), .val (.int (0 : Int32))]) rfl k) ?_
            show Go p e below T11 (mkF m 257 #[.val (.int x0), .val (.int x1), .val (.int x2), .val (.int x3), .val (.int x4), .val (.int x5), .val (.int ii), .val (.int jj), .val (.int l1), .val (.int l2), .val (.int c0), .val (.int c1), .val (.int f0), .val (.int f1), .val (.ref tA), .val (.ref tB), .val (.ref ad3), .val (.ref ad5), .val (.ref ad7), .val (.int (fIs ii jj (fCs l1 c0 c1) (fCs l2 f0 f1))), .val (.int (0 : Int32)), .val (.int (0 : Int32))] []) _
            refine Go.of (fun _ k => XS.iload X11.here hx rfl (hb hby at_257) rfl  k) ?_
            show Go p e below T11 (mkF m 259 #[.val (.int x0), .val (.int x1), .val (.int x2), .val (.int x3), .val (.int x4), .val (.int x5), .val (.int ii), .val (.int jj), .val (.int l1), .val (.int l2), .val (.int c0), .val (.int c1), .val (.int f0), .val (.int f1), .val (.ref tA), .val (.ref tB), .val (.ref ad3), .val (.ref ad5), .val (.ref ad7), .val (.int (fIs ii jj (fCs l1 c0 c1) (fCs l2 f0 f1))), .val (.int (0 : Int32)), .val (.int (0 : Int32))] [(.int (fIs ii jj (fCs l1 c0 c1) (fCs l2 f0 f1)))]) _
            refine Go.of (fun _ k => XS.iload X11.here hx rfl (hb hby at_259) rfl  k) ?_
            show Go p e below T11 (mkF m 261 #[.val (.int x0), .val (.int x1), .val (.int x2), .val (.int x3), .val (.int x4), .val (.int x5), .val (.int ii), .val (.int jj), .val (.int l1), .val (.int l2), .val (.int c0), .val (.int c1), .val (.int f0), .val (.int f1), .val (.ref tA), .val (.ref tB), .val (.ref ad3), .val (.ref ad5), .val (.ref ad7), .val (.int (fIs ii jj (fCs l1 c0 c1) (fCs l2 f0 f1))), .val (.int (0 : Int32)), .val (.int (0 : Int32))] [(.int (0 : Int32)), (.int (fIs ii jj (fCs l1 c0 c1) (fCs l2 f0 f1)))]) _
            refine Go.of (fun _ k => XS.ifYes X11.here hx rfl (pc0 := 261) (pc' := 273) rfl (hb hby at_261) rfl ((if0 _ _).trans (teq (show (0 : Int32) = (0 : Int32) from (by decide))).1) (by decide) (by decide) k) ?_
            show Go p e below T11 (mkF m 273 #[.val (.int x0), .val (.int x1), .val (.int x2), .val (.int x3), .val (.int x4), .val (.int x5), .val (.int ii), .val (.int jj), .val (.int l1), .val (.int l2), .val (.int c0), .val (.int c1), .val (.int f0), .val (.int f1), .val (.ref tA), .val (.ref tB), .val (.ref ad3), .val (.ref ad5), .val (.ref ad7), .val (.int (fIs ii jj (fCs l1 c0 c1) (fCs l2 f0 f1))), .val (.int (0 : Int32)), .val (.int (0 : Int32))] [(.int (fIs ii jj (fCs l1 c0 c1) (fCs l2 f0 f1)))]) _
            refine Go.of (fun _ k => XS.iconst X11.here hx rfl (hb hby at_273) k) ?_
            show Go p e below T11 (mkF m 274 #[.val (.int x0), .val (.int x1), .val (.int x2), .val (.int x3), .val (.int x4), .val (.int x5), .val (.int ii), .val (.int jj), .val (.int l1), .val (.int l2), .val (.int c0), .val (.int c1), .val (.int f0), .val (.int f1), .val (.ref tA), .val (.ref tB), .val (.ref ad3), .val (.ref ad5), .val (.ref ad7), .val (.int (fIs ii jj (fCs l1 c0 c1) (fCs l2 f0 f1))), .val (.int (0 : Int32)), .val (.int (0 : Int32))] [(.int (0 : Int32)), (.int (fIs ii jj (fCs l1 c0 c1) (fCs l2 f0 f1)))]) _
            refine Go.of (fun _ k => XS.icmpNo X11.here hx rfl (hb hby at_274) rfl (teq (show (fIs ii jj (fCs l1 c0 c1) (fCs l2 f0 f1)) = (0 : Int32) from (by simp only [fIs, own_cs hl_l1 hl_l2]; simp [eq_false hc207_0, eq_false hc221_1]))).2 k) ?_
            show Go p e below T11 (mkF m 277 #[.val (.int x0), .val (.int x1), .val (.int x2), .val (.int x3), .val (.int x4), .val (.int x5), .val (.int ii), .val (.int jj), .val (.int l1), .val (.int l2), .val (.int c0), .val (.int c1), .val (.int f0), .val (.int f1), .val (.ref tA), .val (.ref tB), .val (.ref ad3), .val (.ref ad5), .val (.ref ad7), .val (.int (fIs ii jj (fCs l1 c0 c1) (fCs l2 f0 f1))), .val (.int (0 : Int32)), .val (.int (0 : Int32))] []) _
            refine Go.of (fun _ k => XS.iconst X11.here hx rfl (hb hby at_277) k) ?_
            show Go p e below T11 (mkF m 278 #[.val (.int x0), .val (.int x1), .val (.int x2), .val (.int x3), .val (.int x4), .val (.int x5), .val (.int ii), .val (.int jj), .val (.int l1), .val (.int l2), .val (.int c0), .val (.int c1), .val (.int f0), .val (.int f1), .val (.ref tA), .val (.ref tB), .val (.ref ad3), .val (.ref ad5), .val (.ref ad7), .val (.int (fIs ii jj (fCs l1 c0 c1) (fCs l2 f0 f1))), .val (.int (0 : Int32)), .val (.int (0 : Int32))] [(.int (1 : Int32))]) _
            refine Go.of (fun _ k => XS.goto X11.here hx rfl (pc0 := 278) (pc' := 282) rfl (hb hby at_278) (by decide) (by decide) k) ?_
            show Go p e below T11 (mkF m 282 #[.val (.int x0), .val (.int x1), .val (.int x2), .val (.int x3), .val (.int x4), .val (.int x5), .val (.int ii), .val (.int jj), .val (.int l1), .val (.int l2), .val (.int c0), .val (.int c1), .val (.int f0), .val (.int f1), .val (.ref tA), .val (.ref tB), .val (.ref ad3), .val (.ref ad5), .val (.ref ad7), .val (.int (fIs ii jj (fCs l1 c0 c1) (fCs l2 f0 f1))), .val (.int (0 : Int32)), .val (.int (0 : Int32))] [(.int (1 : Int32))]) _
            refine Go.retNH X11 hx (t := .boolean) hret hlk (by simp) (hb hby at_282) e11 hS hk hZ hEL hs0 HR (by decide) (by decide) ?_
            exact ⟨rfl, N11⟩
      rcases hl_l2 with rfl | rfl | rfl
      · show Go p e below T1 (mkF m 120 #[.val (.int x0), .val (.int x1), .val (.int x2), .val (.int x3), .val (.int x4), .val (.int x5), .val (.int ii), .val (.int jj), .val (.int l1), .val (.int (0 : Int32)), .val (.int c0), .val (.int c1), .val (.int f0), .val (.int f1), .val (.ref tA), .unset, .unset, .unset, .unset, .unset, .unset, .unset] []) _
        refine Go.of (fun _ k => XS.iload X1.here hx rfl (hb hby at_120) rfl  k) ?_
        show Go p e below T1 (mkF m 122 #[.val (.int x0), .val (.int x1), .val (.int x2), .val (.int x3), .val (.int x4), .val (.int x5), .val (.int ii), .val (.int jj), .val (.int l1), .val (.int (0 : Int32)), .val (.int c0), .val (.int c1), .val (.int f0), .val (.int f1), .val (.ref tA), .unset, .unset, .unset, .unset, .unset, .unset, .unset] [(.int (0 : Int32))]) _
        obtain ⟨T12, h12, kc12, X12, e12, E12, A12, st12⟩ := newP X1 hx hZ (hw _ (List.mem_of_getElem? (i := 1) rfl)) e1 (g := (mkF m 122 #[.val (.int x0), .val (.int x1), .val (.int x2), .val (.int x3), .val (.int x4), .val (.int x5), .val (.int ii), .val (.int jj), .val (.int l1), .val (.int (0 : Int32)), .val (.int c0), .val (.int c1), .val (.int f0), .val (.int f1), .val (.ref tA), .unset, .unset, .unset, .unset, .unset, .unset, .unset] [(.int (0 : Int32))])) rfl (hb hby at_122) rfl (by decide) (cap := 0) (by decide) (by decide) (by decide) (by decide)
        obtain ⟨ad12, g12⟩ : ∃ z, z = h1.size := ⟨_, rfl⟩
        rw [← g12] at A12 st12
        have ne_tA_ad12 : tA ≠ ad12 := Nat.ne_of_lt (Nat.lt_of_lt_of_le V_t.lt (Nat.le_of_eq g12.symm))
        have ge_ad12 : n0 ≤ ad12 := Nat.le_trans Z0 (Nat.le_of_eq g12.symm)
        have HR := HR.trans (CHr.ext E12 HR.1)
        have hk := Nat.le_trans hk E12.1
        have Z0 := Nat.le_trans Z0 E12.1
        have OL := OL.ext E12
        have V_t := V_t.ext E12
        have V_ad12 : Arv Z h12 ad12 kc12 .char (0 : Int32) [] (.int (0 : Int32)) := (Arv.new A12 (by decide)).pad (pad_rep [] (.int (0 : Int32)) 0)
        refine Go.of (fun _ k => st12 _ k) ?_
        show Go p e below T12 (mkF m 124 #[.val (.int x0), .val (.int x1), .val (.int x2), .val (.int x3), .val (.int x4), .val (.int x5), .val (.int ii), .val (.int jj), .val (.int l1), .val (.int (0 : Int32)), .val (.int c0), .val (.int c1), .val (.int f0), .val (.int f1), .val (.ref tA), .unset, .unset, .unset, .unset, .unset, .unset, .unset] [(.ref ad12)]) _
        refine Go.of (fun _ k => XS.astore X12.here hx rfl (hb hby at_124) rfl rfl (l' := #[.val (.int x0), .val (.int x1), .val (.int x2), .val (.int x3), .val (.int x4), .val (.int x5), .val (.int ii), .val (.int jj), .val (.int l1), .val (.int (0 : Int32)), .val (.int c0), .val (.int c1), .val (.int f0), .val (.int f1), .val (.ref tA), .val (.ref ad12), .unset, .unset, .unset, .unset, .unset, .unset]) rfl k) ?_
        show Go p e below T12 (mkF m 126 #[.val (.int x0), .val (.int x1), .val (.int x2), .val (.int x3), .val (.int x4), .val (.int x5), .val (.int ii), .val (.int jj), .val (.int l1), .val (.int (0 : Int32)), .val (.int c0), .val (.int c1), .val (.int f0), .val (.int f1), .val (.ref tA), .val (.ref ad12), .unset, .unset, .unset, .unset, .unset, .unset] []) _
        refine Go.of (fun _ k => XS.iload X12.here hx rfl (hb hby at_126) rfl  k) ?_
        show Go p e below T12 (mkF m 128 #[.val (.int x0), .val (.int x1), .val (.int x2), .val (.int x3), .val (.int x4), .val (.int x5), .val (.int ii), .val (.int jj), .val (.int l1), .val (.int (0 : Int32)), .val (.int c0), .val (.int c1), .val (.int f0), .val (.int f1), .val (.ref tA), .val (.ref ad12), .unset, .unset, .unset, .unset, .unset, .unset] [(.int (0 : Int32))]) _
        refine Go.of (fun _ k => XS.ifYes X12.here hx rfl (pc0 := 128) (pc' := 137) rfl (hb hby at_128) rfl ((if0 _ _).trans (flt (show ¬ ((0 : Int32) < (0 : Int32)) from (by decide))).2.2.2) (by decide) (by decide) k) ?_
        show Go p e below T12 (mkF m 137 #[.val (.int x0), .val (.int x1), .val (.int x2), .val (.int x3), .val (.int x4), .val (.int x5), .val (.int ii), .val (.int jj), .val (.int l1), .val (.int (0 : Int32)), .val (.int c0), .val (.int c1), .val (.int f0), .val (.int f1), .val (.ref tA), .val (.ref ad12), .unset, .unset, .unset, .unset, .unset, .unset] []) _
        refine Go.of (fun _ k => XS.iload X12.here hx rfl (hb hby at_137) rfl  k) ?_
        show Go p e below T12 (mkF m 139 #[.val (.int x0), .val (.int x1), .val (.int x2), .val (.int x3), .val (.int x4), .val (.int x5), .val (.int ii), .val (.int jj), .val (.int l1), .val (.int (0 : Int32)), .val (.int c0), .val (.int c1), .val (.int f0), .val (.int f1), .val (.ref tA), .val (.ref ad12), .unset, .unset, .unset, .unset, .unset, .unset] [(.int (0 : Int32))]) _
        refine Go.of (fun _ k => XS.iconst X12.here hx rfl (hb hby at_139) k) ?_
        show Go p e below T12 (mkF m 140 #[.val (.int x0), .val (.int x1), .val (.int x2), .val (.int x3), .val (.int x4), .val (.int x5), .val (.int ii), .val (.int jj), .val (.int l1), .val (.int (0 : Int32)), .val (.int c0), .val (.int c1), .val (.int f0), .val (.int f1), .val (.ref tA), .val (.ref ad12), .unset, .unset, .unset, .unset, .unset, .unset] [(.int (1 : Int32)), (.int (0 : Int32))]) _
        refine Go.of (fun _ k => XS.icmpYes X12.here hx rfl (pc0 := 140) (pc' := 149) rfl (hb hby at_140) rfl (flt (show ¬ ((1 : Int32) < (0 : Int32)) from (by decide))).2.2.2 (by decide) (by decide) k) ?_
        show Go p e below T12 (mkF m 149 #[.val (.int x0), .val (.int x1), .val (.int x2), .val (.int x3), .val (.int x4), .val (.int x5), .val (.int ii), .val (.int jj), .val (.int l1), .val (.int (0 : Int32)), .val (.int c0), .val (.int c1), .val (.int f0), .val (.int f1), .val (.ref tA), .val (.ref ad12), .unset, .unset, .unset, .unset, .unset, .unset] []) _
        have V_u : Arv Z h12 ad12 kc12 .char (0 : Int32) ((fCs 0 f0 f1).map Value.int) (.int 0) := V_ad12
        exact S149 _ _ _ ad12 kc12 (own_pad X12 (c' := 2) (n' := 4) (by decide) (by decide)) e12 N1 HR hk Z0 OL V_t V_u 
      · show Go p e below T1 (mkF m 120 #[.val (.int x0), .val (.int x1), .val (.int x2), .val (.int x3), .val (.int x4), .val (.int x5), .val (.int ii), .val (.int jj), .val (.int l1), .val (.int (1 : Int32)), .val (.int c0), .val (.int c1), .val (.int f0), .val (.int f1), .val (.ref tA), .unset, .unset, .unset, .unset, .unset, .unset, .unset] []) _
        refine Go.of (fun _ k => XS.iload X1.here hx rfl (hb hby at_120) rfl  k) ?_
        show Go p e below T1 (mkF m 122 #[.val (.int x0), .val (.int x1), .val (.int x2), .val (.int x3), .val (.int x4), .val (.int x5), .val (.int ii), .val (.int jj), .val (.int l1), .val (.int (1 : Int32)), .val (.int c0), .val (.int c1), .val (.int f0), .val (.int f1), .val (.ref tA), .unset, .unset, .unset, .unset, .unset, .unset, .unset] [(.int (1 : Int32))]) _
        obtain ⟨T13, h13, kc13, X13, e13, E13, A13, st13⟩ := newP X1 hx hZ (hw _ (List.mem_of_getElem? (i := 1) rfl)) e1 (g := (mkF m 122 #[.val (.int x0), .val (.int x1), .val (.int x2), .val (.int x3), .val (.int x4), .val (.int x5), .val (.int ii), .val (.int jj), .val (.int l1), .val (.int (1 : Int32)), .val (.int c0), .val (.int c1), .val (.int f0), .val (.int f1), .val (.ref tA), .unset, .unset, .unset, .unset, .unset, .unset, .unset] [(.int (1 : Int32))])) rfl (hb hby at_122) rfl (by decide) (cap := 1) (by decide) (by decide) (by decide) (by decide)
        obtain ⟨ad13, g13⟩ : ∃ z, z = h1.size := ⟨_, rfl⟩
        rw [← g13] at A13 st13
        have ne_tA_ad13 : tA ≠ ad13 := Nat.ne_of_lt (Nat.lt_of_lt_of_le V_t.lt (Nat.le_of_eq g13.symm))
        have ge_ad13 : n0 ≤ ad13 := Nat.le_trans Z0 (Nat.le_of_eq g13.symm)
        have HR := HR.trans (CHr.ext E13 HR.1)
        have hk := Nat.le_trans hk E13.1
        have Z0 := Nat.le_trans Z0 E13.1
        have OL := OL.ext E13
        have V_t := V_t.ext E13
        have V_ad13 : Arv Z h13 ad13 kc13 .char (1 : Int32) [(.int (0 : Int32))] (.int (0 : Int32)) := (Arv.new A13 (by decide)).pad (pad_rep [] (.int (0 : Int32)) 1)
        refine Go.of (fun _ k => st13 _ k) ?_
        show Go p e below T13 (mkF m 124 #[.val (.int x0), .val (.int x1), .val (.int x2), .val (.int x3), .val (.int x4), .val (.int x5), .val (.int ii), .val (.int jj), .val (.int l1), .val (.int (1 : Int32)), .val (.int c0), .val (.int c1), .val (.int f0), .val (.int f1), .val (.ref tA), .unset, .unset, .unset, .unset, .unset, .unset, .unset] [(.ref ad13)]) _
        refine Go.of (fun _ k => XS.astore X13.here hx rfl (hb hby at_124) rfl rfl (l' := #[.val (.int x0), .val (.int x1), .val (.int x2), .val (.int x3), .val (.int x4), .val (.int x5), .val (.int ii), .val (.int jj), .val (.int l1), .val (.int (1 : Int32)), .val (.int c0), .val (.int c1), .val (.int f0), .val (.int f1), .val (.ref tA), .val (.ref ad13), .unset, .unset, .unset, .unset, .unset, .unset]) rfl k) ?_
        show Go p e below T13 (mkF m 126 #[.val (.int x0), .val (.int x1), .val (.int x2), .val (.int x3), .val (.int x4), .val (.int x5), .val (.int ii), .val (.int jj), .val (.int l1), .val (.int (1 : Int32)), .val (.int c0), .val (.int c1), .val (.int f0), .val (.int f1), .val (.ref tA), .val (.ref ad13), .unset, .unset, .unset, .unset, .unset, .unset] []) _
        refine Go.of (fun _ k => XS.iload X13.here hx rfl (hb hby at_126) rfl  k) ?_
        show Go p e below T13 (mkF m 128 #[.val (.int x0), .val (.int x1), .val (.int x2), .val (.int x3), .val (.int x4), .val (.int x5), .val (.int ii), .val (.int jj), .val (.int l1), .val (.int (1 : Int32)), .val (.int c0), .val (.int c1), .val (.int f0), .val (.int f1), .val (.ref tA), .val (.ref ad13), .unset, .unset, .unset, .unset, .unset, .unset] [(.int (1 : Int32))]) _
        refine Go.of (fun _ k => XS.ifNo X13.here hx rfl (hb hby at_128) rfl ((if0 _ _).trans (tlt (show (0 : Int32) < (1 : Int32) from (by decide))).2.2.2) k) ?_
        show Go p e below T13 (mkF m 131 #[.val (.int x0), .val (.int x1), .val (.int x2), .val (.int x3), .val (.int x4), .val (.int x5), .val (.int ii), .val (.int jj), .val (.int l1), .val (.int (1 : Int32)), .val (.int c0), .val (.int c1), .val (.int f0), .val (.int f1), .val (.ref tA), .val (.ref ad13), .unset, .unset, .unset, .unset, .unset, .unset] []) _
        refine Go.of (fun _ k => XS.aload X13.here hx rfl (hb hby at_131) rfl rfl  k) ?_
        show Go p e below T13 (mkF m 133 #[.val (.int x0), .val (.int x1), .val (.int x2), .val (.int x3), .val (.int x4), .val (.int x5), .val (.int ii), .val (.int jj), .val (.int l1), .val (.int (1 : Int32)), .val (.int c0), .val (.int c1), .val (.int f0), .val (.int f1), .val (.ref tA), .val (.ref ad13), .unset, .unset, .unset, .unset, .unset, .unset] [(.ref ad13)]) _
        refine Go.of (fun _ k => XS.iconst X13.here hx rfl (hb hby at_133) k) ?_
        show Go p e below T13 (mkF m 134 #[.val (.int x0), .val (.int x1), .val (.int x2), .val (.int x3), .val (.int x4), .val (.int x5), .val (.int ii), .val (.int jj), .val (.int l1), .val (.int (1 : Int32)), .val (.int c0), .val (.int c1), .val (.int f0), .val (.int f1), .val (.ref tA), .val (.ref ad13), .unset, .unset, .unset, .unset, .unset, .unset] [(.int (0 : Int32)), (.ref ad13)]) _
        refine Go.of (fun _ k => XS.iload X13.here hx rfl (hb hby at_134) rfl  k) ?_
        show Go p e below T13 (mkF m 136 #[.val (.int x0), .val (.int x1), .val (.int x2), .val (.int x3), .val (.int x4), .val (.int x5), .val (.int ii), .val (.int jj), .val (.int l1), .val (.int (1 : Int32)), .val (.int c0), .val (.int c1), .val (.int f0), .val (.int f1), .val (.ref tA), .val (.ref ad13), .unset, .unset, .unset, .unset, .unset, .unset] [(.int f0), (.int (0 : Int32)), (.ref ad13)]) _
        have sf14 := Safe.arv (EL := EL) hZ.alike V_ad13 (by decide)
        obtain ⟨clq14, Arq14, qq14, Sq14, Nnq14, Hq14, Gq14⟩ := V_ad13
        have hin14 : ¬ ((0 : Int32) < 0 ∨ clq14.slots.size ≤ ((0 : Int32)).toNatClampNeg) := inb_of Sq14 ⟨by decide, by decide⟩
        obtain ⟨T14, h14, X14, e14, W14, st14⟩ := stC X13 hx hZ e13 Arq14 (j := (0 : Int32)) hin14 (g := (mkF m 136 #[.val (.int x0), .val (.int x1), .val (.int x2), .val (.int x3), .val (.int x4), .val (.int x5), .val (.int ii), .val (.int jj), .val (.int l1), .val (.int (1 : Int32)), .val (.int c0), .val (.int c1), .val (.int f0), .val (.int f1), .val (.ref tA), .val (.ref ad13), .unset, .unset, .unset, .unset, .unset, .unset] [(.int f0), (.int (0 : Int32)), (.ref ad13)])) rfl rfl (hb hby at_136)
        have V_ad13 : Arv Z h14 ad13 kc13 .char (1 : Int32) [(.int (nar .char f0))] (.int (0 : Int32)) := Arv.set Arq14 qq14 Sq14 Nnq14 Hq14 Gq14 (fits_nar_char _) W14 0 rfl (Nat.le_of_ble_eq_true rfl)
        have N14 := Fr.snoc X14 N1 ge_ad13
        have HR := HR.trans (CHr.wr W14 sf14 HR.1)
        have hk := Nat.le_trans hk (Keep.of_wr W14).1
        have Z0 := Nat.le_trans Z0 (Keep.of_wr W14).1
        have OL := OL.wr W14 ge_ad13
        have V_t := V_t.other W14 ne_tA_ad13
        refine Go.of (fun _ k => st14 _ k) ?_
        show Go p e below T14 (mkF m 137 #[.val (.int x0), .val (.int x1), .val (.int x2), .val (.int x3), .val (.int x4), .val (.int x5), .val (.int ii), .val (.int jj), .val (.int l1), .val (.int (1 : Int32)), .val (.int c0), .val (.int c1), .val (.int f0), .val (.int f1), .val (.ref tA), .val (.ref ad13), .unset, .unset, .unset, .unset, .unset, .unset] []) _
        rw [own_nar b_f0] at V_ad13
        refine Go.of (fun _ k => XS.iload X14.here hx rfl (hb hby at_137) rfl  k) ?_
        show Go p e below T14 (mkF m 139 #[.val (.int x0), .val (.int x1), .val (.int x2), .val (.int x3), .val (.int x4), .val (.int x5), .val (.int ii), .val (.int jj), .val (.int l1), .val (.int (1 : Int32)), .val (.int c0), .val (.int c1), .val (.int f0), .val (.int f1), .val (.ref tA), .val (.ref ad13), .unset, .unset, .unset, .unset, .unset, .unset] [(.int (1 : Int32))]) _
        refine Go.of (fun _ k => XS.iconst X14.here hx rfl (hb hby at_139) k) ?_
        show Go p e below T14 (mkF m 140 #[.val (.int x0), .val (.int x1), .val (.int x2), .val (.int x3), .val (.int x4), .val (.int x5), .val (.int ii), .val (.int jj), .val (.int l1), .val (.int (1 : Int32)), .val (.int c0), .val (.int c1), .val (.int f0), .val (.int f1), .val (.ref tA), .val (.ref ad13), .unset, .unset, .unset, .unset, .unset, .unset] [(.int (1 : Int32)), (.int (1 : Int32))]) _
        refine Go.of (fun _ k => XS.icmpYes X14.here hx rfl (pc0 := 140) (pc' := 149) rfl (hb hby at_140) rfl (flt (show ¬ ((1 : Int32) < (1 : Int32)) from (by decide))).2.2.2 (by decide) (by decide) k) ?_
        show Go p e below T14 (mkF m 149 #[.val (.int x0), .val (.int x1), .val (.int x2), .val (.int x3), .val (.int x4), .val (.int x5), .val (.int ii), .val (.int jj), .val (.int l1), .val (.int (1 : Int32)), .val (.int c0), .val (.int c1), .val (.int f0), .val (.int f1), .val (.ref tA), .val (.ref ad13), .unset, .unset, .unset, .unset, .unset, .unset] []) _
        have V_u : Arv Z h14 ad13 kc13 .char (1 : Int32) ((fCs 1 f0 f1).map Value.int) (.int 0) := V_ad13
        exact S149 _ _ _ ad13 kc13 (own_pad X14 (c' := 2) (n' := 4) (by decide) (by decide)) e14 N14 HR hk Z0 OL V_t V_u 
      · show Go p e below T1 (mkF m 120 #[.val (.int x0), .val (.int x1), .val (.int x2), .val (.int x3), .val (.int x4), .val (.int x5), .val (.int ii), .val (.int jj), .val (.int l1), .val (.int (2 : Int32)), .val (.int c0), .val (.int c1), .val (.int f0), .val (.int f1), .val (.ref tA), .unset, .unset, .unset, .unset, .unset, .unset, .unset] []) _
        refine Go.of (fun _ k => XS.iload X1.here hx rfl (hb hby at_120) rfl  k) ?_
        show Go p e below T1 (mkF m 122 #[.val (.int x0), .val (.int x1), .val (.int x2), .val (.int x3), .val (.int x4), .val (.int x5), .val (.int ii), .val (.int jj), .val (.int l1), .val (.int (2 : Int32)), .val (.int c0), .val (.int c1), .val (.int f0), .val (.int f1), .val (.ref tA), .unset, .unset, .unset, .unset, .unset, .unset, .unset] [(.int (2 : Int32))]) _
        obtain ⟨T15, h15, kc15, X15, e15, E15, A15, st15⟩ := newP X1 hx hZ (hw _ (List.mem_of_getElem? (i := 1) rfl)) e1 (g := (mkF m 122 #[.val (.int x0), .val (.int x1), .val (.int x2), .val (.int x3), .val (.int x4), .val (.int x5), .val (.int ii), .val (.int jj), .val (.int l1), .val (.int (2 : Int32)), .val (.int c0), .val (.int c1), .val (.int f0), .val (.int f1), .val (.ref tA), .unset, .unset, .unset, .unset, .unset, .unset, .unset] [(.int (2 : Int32))])) rfl (hb hby at_122) rfl (by decide) (cap := 2) (by decide) (by decide) (by decide) (by decide)
        obtain ⟨ad15, g15⟩ : ∃ z, z = h1.size := ⟨_, rfl⟩
        rw [← g15] at A15 st15
        have ne_tA_ad15 : tA ≠ ad15 := Nat.ne_of_lt (Nat.lt_of_lt_of_le V_t.lt (Nat.le_of_eq g15.symm))
        have ge_ad15 : n0 ≤ ad15 := Nat.le_trans Z0 (Nat.le_of_eq g15.symm)
        have HR := HR.trans (CHr.ext E15 HR.1)
        have hk := Nat.le_trans hk E15.1
        have Z0 := Nat.le_trans Z0 E15.1
        have OL := OL.ext E15
        have V_t := V_t.ext E15
        have V_ad15 : Arv Z h15 ad15 kc15 .char (2 : Int32) [(.int (0 : Int32)), (.int (0 : Int32))] (.int (0 : Int32)) := (Arv.new A15 (by decide)).pad (pad_rep [] (.int (0 : Int32)) 2)
        refine Go.of (fun _ k => st15 _ k) ?_
        show Go p e below T15 (mkF m 124 #[.val (.int x0), .val (.int x1), .val (.int x2), .val (.int x3), .val (.int x4), .val (.int x5), .val (.int ii), .val (.int jj), .val (.int l1), .val (.int (2 : Int32)), .val (.int c0), .val (.int c1), .val (.int f0), .val (.int f1), .val (.ref tA), .unset, .unset, .unset, .unset, .unset, .unset, .unset] [(.ref ad15)]) _
        refine Go.of (fun _ k => XS.astore X15.here hx rfl (hb hby at_124) rfl rfl (l' := #[.val (.int x0), .val (.int x1), .val (.int x2), .val (.int x3), .val (.int x4), .val (.int x5), .val (.int ii), .val (.int jj), .val (.int l1), .val (.int (2 : Int32)), .val (.int c0), .val (.int c1), .val (.int f0), .val (.int f1), .val (.ref tA), .val (.ref ad15), .unset, .unset, .unset, .unset, .unset, .unset]) rfl k) ?_
        show Go p e below T15 (mkF m 126 #[.val (.int x0), .val (.int x1), .val (.int x2), .val (.int x3), .val (.int x4), .val (.int x5), .val (.int ii), .val (.int jj), .val (.int l1), .val (.int (2 : Int32)), .val (.int c0), .val (.int c1), .val (.int f0), .val (.int f1), .val (.ref tA), .val (.ref ad15), .unset, .unset, .unset, .unset, .unset, .unset] []) _
        refine Go.of (fun _ k => XS.iload X15.here hx rfl (hb hby at_126) rfl  k) ?_
        show Go p e below T15 (mkF m 128 #[.val (.int x0), .val (.int x1), .val (.int x2), .val (.int x3), .val (.int x4), .val (.int x5), .val (.int ii), .val (.int jj), .val (.int l1), .val (.int (2 : Int32)), .val (.int c0), .val (.int c1), .val (.int f0), .val (.int f1), .val (.ref tA), .val (.ref ad15), .unset, .unset, .unset, .unset, .unset, .unset] [(.int (2 : Int32))]) _
        refine Go.of (fun _ k => XS.ifNo X15.here hx rfl (hb hby at_128) rfl ((if0 _ _).trans (tlt (show (0 : Int32) < (2 : Int32) from (by decide))).2.2.2) k) ?_
        show Go p e below T15 (mkF m 131 #[.val (.int x0), .val (.int x1), .val (.int x2), .val (.int x3), .val (.int x4), .val (.int x5), .val (.int ii), .val (.int jj), .val (.int l1), .val (.int (2 : Int32)), .val (.int c0), .val (.int c1), .val (.int f0), .val (.int f1), .val (.ref tA), .val (.ref ad15), .unset, .unset, .unset, .unset, .unset, .unset] []) _
        refine Go.of (fun _ k => XS.aload X15.here hx rfl (hb hby at_131) rfl rfl  k) ?_
        show Go p e below T15 (mkF m 133 #[.val (.int x0), .val (.int x1), .val (.int x2), .val (.int x3), .val (.int x4), .val (.int x5), .val (.int ii), .val (.int jj), .val (.int l1), .val (.int (2 : Int32)), .val (.int c0), .val (.int c1), .val (.int f0), .val (.int f1), .val (.ref tA), .val (.ref ad15), .unset, .unset, .unset, .unset, .unset, .unset] [(.ref ad15)]) _
        refine Go.of (fun _ k => XS.iconst X15.here hx rfl (hb hby at_133) k) ?_
        show Go p e below T15 (mkF m 134 #[.val (.int x0), .val (.int x1), .val (.int x2), .val (.int x3), .val (.int x4), .val (.int x5), .val (.int ii), .val (.int jj), .val (.int l1), .val (.int (2 : Int32)), .val (.int c0), .val (.int c1), .val (.int f0), .val (.int f1), .val (.ref tA), .val (.ref ad15), .unset, .unset, .unset, .unset, .unset, .unset] [(.int (0 : Int32)), (.ref ad15)]) _
        refine Go.of (fun _ k => XS.iload X15.here hx rfl (hb hby at_134) rfl  k) ?_
        show Go p e below T15 (mkF m 136 #[.val (.int x0), .val (.int x1), .val (.int x2), .val (.int x3), .val (.int x4), .val (.int x5), .val (.int ii), .val (.int jj), .val (.int l1), .val (.int (2 : Int32)), .val (.int c0), .val (.int c1), .val (.int f0), .val (.int f1), .val (.ref tA), .val (.ref ad15), .unset, .unset, .unset, .unset, .unset, .unset] [(.int f0), (.int (0 : Int32)), (.ref ad15)]) _
        have sf16 := Safe.arv (EL := EL) hZ.alike V_ad15 (by decide)
        obtain ⟨clq16, Arq16, qq16, Sq16, Nnq16, Hq16, Gq16⟩ := V_ad15
        have hin16 : ¬ ((0 : Int32) < 0 ∨ clq16.slots.size ≤ ((0 : Int32)).toNatClampNeg) := inb_of Sq16 ⟨by decide, by decide⟩
        obtain ⟨T16, h16, X16, e16, W16, st16⟩ := stC X15 hx hZ e15 Arq16 (j := (0 : Int32)) hin16 (g := (mkF m 136 #[.val (.int x0), .val (.int x1), .val (.int x2), .val (.int x3), .val (.int x4), .val (.int x5), .val (.int ii), .val (.int jj), .val (.int l1), .val (.int (2 : Int32)), .val (.int c0), .val (.int c1), .val (.int f0), .val (.int f1), .val (.ref tA), .val (.ref ad15), .unset, .unset, .unset, .unset, .unset, .unset] [(.int f0), (.int (0 : Int32)), (.ref ad15)])) rfl rfl (hb hby at_136)
        have V_ad15 : Arv Z h16 ad15 kc15 .char (2 : Int32) [(.int (nar .char f0)), (.int (0 : Int32))] (.int (0 : Int32)) := Arv.set Arq16 qq16 Sq16 Nnq16 Hq16 Gq16 (fits_nar_char _) W16 0 rfl (Nat.le_of_ble_eq_true rfl)
        have N16 := Fr.snoc X16 N1 ge_ad15
        have HR := HR.trans (CHr.wr W16 sf16 HR.1)
        have hk := Nat.le_trans hk (Keep.of_wr W16).1
        have Z0 := Nat.le_trans Z0 (Keep.of_wr W16).1
        have OL := OL.wr W16 ge_ad15
        have V_t := V_t.other W16 ne_tA_ad15
        refine Go.of (fun _ k => st16 _ k) ?_
        show Go p e below T16 (mkF m 137 #[.val (.int x0), .val (.int x1), .val (.int x2), .val (.int x3), .val (.int x4), .val (.int x5), .val (.int ii), .val (.int jj), .val (.int l1), .val (.int (2 : Int32)), .val (.int c0), .val (.int c1), .val (.int f0), .val (.int f1), .val (.ref tA), .val (.ref ad15), .unset, .unset, .unset, .unset, .unset, .unset] []) _
        rw [own_nar b_f0] at V_ad15
        refine Go.of (fun _ k => XS.iload X16.here hx rfl (hb hby at_137) rfl  k) ?_
        show Go p e below T16 (mkF m 139 #[.val (.int x0), .val (.int x1), .val (.int x2), .val (.int x3), .val (.int x4), .val (.int x5), .val (.int ii), .val (.int jj), .val (.int l1), .val (.int (2 : Int32)), .val (.int c0), .val (.int c1), .val (.int f0), .val (.int f1), .val (.ref tA), .val (.ref ad15), .unset, .unset, .unset, .unset, .unset, .unset] [(.int (2 : Int32))]) _
        refine Go.of (fun _ k => XS.iconst X16.here hx rfl (hb hby at_139) k) ?_
        show Go p e below T16 (mkF m 140 #[.val (.int x0), .val (.int x1), .val (.int x2), .val (.int x3), .val (.int x4), .val (.int x5), .val (.int ii), .val (.int jj), .val (.int l1), .val (.int (2 : Int32)), .val (.int c0), .val (.int c1), .val (.int f0), .val (.int f1), .val (.ref tA), .val (.ref ad15), .unset, .unset, .unset, .unset, .unset, .unset] [(.int (1 : Int32)), (.int (2 : Int32))]) _
        refine Go.of (fun _ k => XS.icmpNo X16.here hx rfl (hb hby at_140) rfl (tlt (show (1 : Int32) < (2 : Int32) from (by decide))).2.2.2 k) ?_
        show Go p e below T16 (mkF m 143 #[.val (.int x0), .val (.int x1), .val (.int x2), .val (.int x3), .val (.int x4), .val (.int x5), .val (.int ii), .val (.int jj), .val (.int l1), .val (.int (2 : Int32)), .val (.int c0), .val (.int c1), .val (.int f0), .val (.int f1), .val (.ref tA), .val (.ref ad15), .unset, .unset, .unset, .unset, .unset, .unset] []) _
        refine Go.of (fun _ k => XS.aload X16.here hx rfl (hb hby at_143) rfl rfl  k) ?_
        show Go p e below T16 (mkF m 145 #[.val (.int x0), .val (.int x1), .val (.int x2), .val (.int x3), .val (.int x4), .val (.int x5), .val (.int ii), .val (.int jj), .val (.int l1), .val (.int (2 : Int32)), .val (.int c0), .val (.int c1), .val (.int f0), .val (.int f1), .val (.ref tA), .val (.ref ad15), .unset, .unset, .unset, .unset, .unset, .unset] [(.ref ad15)]) _
        refine Go.of (fun _ k => XS.iconst X16.here hx rfl (hb hby at_145) k) ?_
        show Go p e below T16 (mkF m 146 #[.val (.int x0), .val (.int x1), .val (.int x2), .val (.int x3), .val (.int x4), .val (.int x5), .val (.int ii), .val (.int jj), .val (.int l1), .val (.int (2 : Int32)), .val (.int c0), .val (.int c1), .val (.int f0), .val (.int f1), .val (.ref tA), .val (.ref ad15), .unset, .unset, .unset, .unset, .unset, .unset] [(.int (1 : Int32)), (.ref ad15)]) _
        refine Go.of (fun _ k => XS.iload X16.here hx rfl (hb hby at_146) rfl  k) ?_
        show Go p e below T16 (mkF m 148 #[.val (.int x0), .val (.int x1), .val (.int x2), .val (.int x3), .val (.int x4), .val (.int x5), .val (.int ii), .val (.int jj), .val (.int l1), .val (.int (2 : Int32)), .val (.int c0), .val (.int c1), .val (.int f0), .val (.int f1), .val (.ref tA), .val (.ref ad15), .unset, .unset, .unset, .unset, .unset, .unset] [(.int f1), (.int (1 : Int32)), (.ref ad15)]) _
        have sf17 := Safe.arv (EL := EL) hZ.alike V_ad15 (by decide)
        obtain ⟨clq17, Arq17, qq17, Sq17, Nnq17, Hq17, Gq17⟩ := V_ad15
        have hin17 : ¬ ((1 : Int32) < 0 ∨ clq17.slots.size ≤ ((1 : Int32)).toNatClampNeg) := inb_of Sq17 ⟨by decide, by decide⟩
        obtain ⟨T17, h17, X17, e17, W17, st17⟩ := stC X16 hx hZ e16 Arq17 (j := (1 : Int32)) hin17 (g := (mkF m 148 #[.val (.int x0), .val (.int x1), .val (.int x2), .val (.int x3), .val (.int x4), .val (.int x5), .val (.int ii), .val (.int jj), .val (.int l1), .val (.int (2 : Int32)), .val (.int c0), .val (.int c1), .val (.int f0), .val (.int f1), .val (.ref tA), .val (.ref ad15), .unset, .unset, .unset, .unset, .unset, .unset] [(.int f1), (.int (1 : Int32)), (.ref ad15)])) rfl rfl (hb hby at_148)
        have V_ad15 : Arv Z h17 ad15 kc15 .char (2 : Int32) [(.int f0), (.int (nar .char f1))] (.int (0 : Int32)) := Arv.set Arq17 qq17 Sq17 Nnq17 Hq17 Gq17 (fits_nar_char _) W17 1 rfl (Nat.le_of_ble_eq_true rfl)
        have N17 := Fr.snoc X17 N16 ge_ad15
        have HR := HR.trans (CHr.wr W17 sf17 HR.1)
        have hk := Nat.le_trans hk (Keep.of_wr W17).1
        have Z0 := Nat.le_trans Z0 (Keep.of_wr W17).1
        have OL := OL.wr W17 ge_ad15
        have V_t := V_t.other W17 ne_tA_ad15
        refine Go.of (fun _ k => st17 _ k) ?_
        show Go p e below T17 (mkF m 149 #[.val (.int x0), .val (.int x1), .val (.int x2), .val (.int x3), .val (.int x4), .val (.int x5), .val (.int ii), .val (.int jj), .val (.int l1), .val (.int (2 : Int32)), .val (.int c0), .val (.int c1), .val (.int f0), .val (.int f1), .val (.ref tA), .val (.ref ad15), .unset, .unset, .unset, .unset, .unset, .unset] []) _
        rw [own_nar b_f1] at V_ad15
        have V_u : Arv Z h17 ad15 kc15 .char (2 : Int32) ((fCs 2 f0 f1).map Value.int) (.int 0) := V_ad15
        exact S149 _ _ _ ad15 kc15 (own_pad X17 (c' := 2) (n' := 4) (by decide) (by decide)) e17 N17 HR hk Z0 OL V_t V_u 
    rcases hl_l1 with rfl | rfl | rfl
    · show Go p e below s₁ (mkF m 91 #[.val (.int x0), .val (.int x1), .val (.int x2), .val (.int x3), .val (.int x4), .val (.int x5), .val (.int ii), .val (.int jj), .val (.int (0 : Int32)), .val (.int l2), .val (.int c0), .val (.int c1), .val (.int f0), .val (.int f1), .unset, .unset, .unset, .unset, .unset, .unset, .unset, .unset] []) _
      refine Go.of (fun _ k => XS.iload X0.here hx rfl (hb hby at_91) rfl  k) ?_
      show Go p e below s₁ (mkF m 93 #[.val (.int x0), .val (.int x1), .val (.int x2), .val (.int x3), .val (.int x4), .val (.int x5), .val (.int ii), .val (.int jj), .val (.int (0 : Int32)), .val (.int l2), .val (.int c0), .val (.int c1), .val (.int f0), .val (.int f1), .unset, .unset, .unset, .unset, .unset, .unset, .unset, .unset] [(.int (0 : Int32))]) _
      obtain ⟨T18, h18, kc18, X18, e18, E18, A18, st18⟩ := newP X0 hx hZ (hw _ (List.mem_of_getElem? (i := 1) rfl)) e0 (g := (mkF m 93 #[.val (.int x0), .val (.int x1), .val (.int x2), .val (.int x3), .val (.int x4), .val (.int x5), .val (.int ii), .val (.int jj), .val (.int (0 : Int32)), .val (.int l2), .val (.int c0), .val (.int c1), .val (.int f0), .val (.int f1), .unset, .unset, .unset, .unset, .unset, .unset, .unset, .unset] [(.int (0 : Int32))])) rfl (hb hby at_93) rfl (by decide) (cap := 0) (by decide) (by decide) (by decide) (by decide)
      obtain ⟨ad18, g18⟩ : ∃ z, z = h0.size := ⟨_, rfl⟩
      rw [← g18] at A18 st18
      have ge_ad18 : n0 ≤ ad18 := Nat.le_trans Z0 (Nat.le_of_eq g18.symm)
      have HR := HR.trans (CHr.ext E18 HR.1)
      have hk := Nat.le_trans hk E18.1
      have Z0 := Nat.le_trans Z0 E18.1
      have OL := OL.ext E18
      have V_ad18 : Arv Z h18 ad18 kc18 .char (0 : Int32) [] (.int (0 : Int32)) := (Arv.new A18 (by decide)).pad (pad_rep [] (.int (0 : Int32)) 0)
      refine Go.of (fun _ k => st18 _ k) ?_
      show Go p e below T18 (mkF m 95 #[.val (.int x0), .val (.int x1), .val (.int x2), .val (.int x3), .val (.int x4), .val (.int x5), .val (.int ii), .val (.int jj), .val (.int (0 : Int32)), .val (.int l2), .val (.int c0), .val (.int c1), .val (.int f0), .val (.int f1), .unset, .unset, .unset, .unset, .unset, .unset, .unset, .unset] [(.ref ad18)]) _
      refine Go.of (fun _ k => XS.astore X18.here hx rfl (hb hby at_95) rfl rfl (l' := #[.val (.int x0), .val (.int x1), .val (.int x2), .val (.int x3), .val (.int x4), .val (.int x5), .val (.int ii), .val (.int jj), .val (.int (0 : Int32)), .val (.int l2), .val (.int c0), .val (.int c1), .val (.int f0), .val (.int f1), .val (.ref ad18), .unset, .unset, .unset, .unset, .unset, .unset, .unset]) rfl k) ?_
      show Go p e below T18 (mkF m 97 #[.val (.int x0), .val (.int x1), .val (.int x2), .val (.int x3), .val (.int x4), .val (.int x5), .val (.int ii), .val (.int jj), .val (.int (0 : Int32)), .val (.int l2), .val (.int c0), .val (.int c1), .val (.int f0), .val (.int f1), .val (.ref ad18), .unset, .unset, .unset, .unset, .unset, .unset, .unset] []) _
      refine Go.of (fun _ k => XS.iload X18.here hx rfl (hb hby at_97) rfl  k) ?_
      show Go p e below T18 (mkF m 99 #[.val (.int x0), .val (.int x1), .val (.int x2), .val (.int x3), .val (.int x4), .val (.int x5), .val (.int ii), .val (.int jj), .val (.int (0 : Int32)), .val (.int l2), .val (.int c0), .val (.int c1), .val (.int f0), .val (.int f1), .val (.ref ad18), .unset, .unset, .unset, .unset, .unset, .unset, .unset] [(.int (0 : Int32))]) _
      refine Go.of (fun _ k => XS.ifYes X18.here hx rfl (pc0 := 99) (pc' := 108) rfl (hb hby at_99) rfl ((if0 _ _).trans (flt (show ¬ ((0 : Int32) < (0 : Int32)) from (by decide))).2.2.2) (by decide) (by decide) k) ?_
      show Go p e below T18 (mkF m 108 #[.val (.int x0), .val (.int x1), .val (.int x2), .val (.int x3), .val (.int x4), .val (.int x5), .val (.int ii), .val (.int jj), .val (.int (0 : Int32)), .val (.int l2), .val (.int c0), .val (.int c1), .val (.int f0), .val (.int f1), .val (.ref ad18), .unset, .unset, .unset, .unset, .unset, .unset, .unset] []) _
      refine Go.of (fun _ k => XS.iload X18.here hx rfl (hb hby at_108) rfl  k) ?_
      show Go p e below T18 (mkF m 110 #[.val (.int x0), .val (.int x1), .val (.int x2), .val (.int x3), .val (.int x4), .val (.int x5), .val (.int ii), .val (.int jj), .val (.int (0 : Int32)), .val (.int l2), .val (.int c0), .val (.int c1), .val (.int f0), .val (.int f1), .val (.ref ad18), .unset, .unset, .unset, .unset, .unset, .unset, .unset] [(.int (0 : Int32))]) _
      refine Go.of (fun _ k => XS.iconst X18.here hx rfl (hb hby at_110) k) ?_
      show Go p e below T18 (mkF m 111 #[.val (.int x0), .val (.int x1), .val (.int x2), .val (.int x3), .val (.int x4), .val (.int x5), .val (.int ii), .val (.int jj), .val (.int (0 : Int32)), .val (.int l2), .val (.int c0), .val (.int c1), .val (.int f0), .val (.int f1), .val (.ref ad18), .unset, .unset, .unset, .unset, .unset, .unset, .unset] [(.int (1 : Int32)), (.int (0 : Int32))]) _
      refine Go.of (fun _ k => XS.icmpYes X18.here hx rfl (pc0 := 111) (pc' := 120) rfl (hb hby at_111) rfl (flt (show ¬ ((1 : Int32) < (0 : Int32)) from (by decide))).2.2.2 (by decide) (by decide) k) ?_
      show Go p e below T18 (mkF m 120 #[.val (.int x0), .val (.int x1), .val (.int x2), .val (.int x3), .val (.int x4), .val (.int x5), .val (.int ii), .val (.int jj), .val (.int (0 : Int32)), .val (.int l2), .val (.int c0), .val (.int c1), .val (.int f0), .val (.int f1), .val (.ref ad18), .unset, .unset, .unset, .unset, .unset, .unset, .unset] []) _
      have V_t : Arv Z h18 ad18 kc18 .char (0 : Int32) ((fCs 0 c0 c1).map Value.int) (.int 0) := V_ad18
      exact S120 _ _ _ ad18 kc18 (own_pad X18 (c' := 1) (n' := 2) (by decide) (by decide)) e18 N0 HR hk Z0 OL V_t 
    · show Go p e below s₁ (mkF m 91 #[.val (.int x0), .val (.int x1), .val (.int x2), .val (.int x3), .val (.int x4), .val (.int x5), .val (.int ii), .val (.int jj), .val (.int (1 : Int32)), .val (.int l2), .val (.int c0), .val (.int c1), .val (.int f0), .val (.int f1), .unset, .unset, .unset, .unset, .unset, .unset, .unset, .unset] []) _
      refine Go.of (fun _ k => XS.iload X0.here hx rfl (hb hby at_91) rfl  k) ?_
      show Go p e below s₁ (mkF m 93 #[.val (.int x0), .val (.int x1), .val (.int x2), .val (.int x3), .val (.int x4), .val (.int x5), .val (.int ii), .val (.int jj), .val (.int (1 : Int32)), .val (.int l2), .val (.int c0), .val (.int c1), .val (.int f0), .val (.int f1), .unset, .unset, .unset, .unset, .unset, .unset, .unset, .unset] [(.int (1 : Int32))]) _
      obtain ⟨T19, h19, kc19, X19, e19, E19, A19, st19⟩ := newP X0 hx hZ (hw _ (List.mem_of_getElem? (i := 1) rfl)) e0 (g := (mkF m 93 #[.val (.int x0), .val (.int x1), .val (.int x2), .val (.int x3), .val (.int x4), .val (.int x5), .val (.int ii), .val (.int jj), .val (.int (1 : Int32)), .val (.int l2), .val (.int c0), .val (.int c1), .val (.int f0), .val (.int f1), .unset, .unset, .unset, .unset, .unset, .unset, .unset, .unset] [(.int (1 : Int32))])) rfl (hb hby at_93) rfl (by decide) (cap := 1) (by decide) (by decide) (by decide) (by decide)
      obtain ⟨ad19, g19⟩ : ∃ z, z = h0.size := ⟨_, rfl⟩
      rw [← g19] at A19 st19
      have ge_ad19 : n0 ≤ ad19 := Nat.le_trans Z0 (Nat.le_of_eq g19.symm)
      have HR := HR.trans (CHr.ext E19 HR.1)
      have hk := Nat.le_trans hk E19.1
      have Z0 := Nat.le_trans Z0 E19.1
      have OL := OL.ext E19
      have V_ad19 : Arv Z h19 ad19 kc19 .char (1 : Int32) [(.int (0 : Int32))] (.int (0 : Int32)) := (Arv.new A19 (by decide)).pad (pad_rep [] (.int (0 : Int32)) 1)
      refine Go.of (fun _ k => st19 _ k) ?_
      show Go p e below T19 (mkF m 95 #[.val (.int x0), .val (.int x1), .val (.int x2), .val (.int x3), .val (.int x4), .val (.int x5), .val (.int ii), .val (.int jj), .val (.int (1 : Int32)), .val (.int l2), .val (.int c0), .val (.int c1), .val (.int f0), .val (.int f1), .unset, .unset, .unset, .unset, .unset, .unset, .unset, .unset] [(.ref ad19)]) _
      refine Go.of (fun _ k => XS.astore X19.here hx rfl (hb hby at_95) rfl rfl (l' := #[.val (.int x0), .val (.int x1), .val (.int x2), .val (.int x3), .val (.int x4), .val (.int x5), .val (.int ii), .val (.int jj), .val (.int (1 : Int32)), .val (.int l2), .val (.int c0), .val (.int c1), .val (.int f0), .val (.int f1), .val (.ref ad19), .unset, .unset, .unset, .unset, .unset, .unset, .unset]) rfl k) ?_
      show Go p e below T19 (mkF m 97 #[.val (.int x0), .val (.int x1), .val (.int x2), .val (.int x3), .val (.int x4), .val (.int x5), .val (.int ii), .val (.int jj), .val (.int (1 : Int32)), .val (.int l2), .val (.int c0), .val (.int c1), .val (.int f0), .val (.int f1), .val (.ref ad19), .unset, .unset, .unset, .unset, .unset, .unset, .unset] []) _
      refine Go.of (fun _ k => XS.iload X19.here hx rfl (hb hby at_97) rfl  k) ?_
      show Go p e below T19 (mkF m 99 #[.val (.int x0), .val (.int x1), .val (.int x2), .val (.int x3), .val (.int x4), .val (.int x5), .val (.int ii), .val (.int jj), .val (.int (1 : Int32)), .val (.int l2), .val (.int c0), .val (.int c1), .val (.int f0), .val (.int f1), .val (.ref ad19), .unset, .unset, .unset, .unset, .unset, .unset, .unset] [(.int (1 : Int32))]) _
      refine Go.of (fun _ k => XS.ifNo X19.here hx rfl (hb hby at_99) rfl ((if0 _ _).trans (tlt (show (0 : Int32) < (1 : Int32) from (by decide))).2.2.2) k) ?_
      show Go p e below T19 (mkF m 102 #[.val (.int x0), .val (.int x1), .val (.int x2), .val (.int x3), .val (.int x4), .val (.int x5), .val (.int ii), .val (.int jj), .val (.int (1 : Int32)), .val (.int l2), .val (.int c0), .val (.int c1), .val (.int f0), .val (.int f1), .val (.ref ad19), .unset, .unset, .unset, .unset, .unset, .unset, .unset] []) _
      refine Go.of (fun _ k => XS.aload X19.here hx rfl (hb hby at_102) rfl rfl  k) ?_
      show Go p e below T19 (mkF m 104 #[.val (.int x0), .val (.int x1), .val (.int x2), .val (.int x3), .val (.int x4), .val (.int x5), .val (.int ii), .val (.int jj), .val (.int (1 : Int32)), .val (.int l2), .val (.int c0), .val (.int c1), .val (.int f0), .val (.int f1), .val (.ref ad19), .unset, .unset, .unset, .unset, .unset, .unset, .unset] [(.ref ad19)]) _
      refine Go.of (fun _ k => XS.iconst X19.here hx rfl (hb hby at_104) k) ?_
      show Go p e below T19 (mkF m 105 #[.val (.int x0), .val (.int x1), .val (.int x2), .val (.int x3), .val (.int x4), .val (.int x5), .val (.int ii), .val (.int jj), .val (.int (1 : Int32)), .val (.int l2), .val (.int c0), .val (.int c1), .val (.int f0), .val (.int f1), .val (.ref ad19), .unset, .unset, .unset, .unset, .unset, .unset, .unset] [(.int (0 : Int32)), (.ref ad19)]) _
      refine Go.of (fun _ k => XS.iload X19.here hx rfl (hb hby at_105) rfl  k) ?_
      show Go p e below T19 (mkF m 107 #[.val (.int x0), .val (.int x1), .val (.int x2), .val (.int x3), .val (.int x4), .val (.int x5), .val (.int ii), .val (.int jj), .val (.int (1 : Int32)), .val (.int l2), .val (.int c0), .val (.int c1), .val (.int f0), .val (.int f1), .val (.ref ad19), .unset, .unset, .unset, .unset, .unset, .unset, .unset] [(.int c0), (.int (0 : Int32)), (.ref ad19)]) _
      have sf20 := Safe.arv (EL := EL) hZ.alike V_ad19 (by decide)
      obtain ⟨clq20, Arq20, qq20, Sq20, Nnq20, Hq20, Gq20⟩ := V_ad19
      have hin20 : ¬ ((0 : Int32) < 0 ∨ clq20.slots.size ≤ ((0 : Int32)).toNatClampNeg) := inb_of Sq20 ⟨by decide, by decide⟩
      obtain ⟨T20, h20, X20, e20, W20, st20⟩ := stC X19 hx hZ e19 Arq20 (j := (0 : Int32)) hin20 (g := (mkF m 107 #[.val (.int x0), .val (.int x1), .val (.int x2), .val (.int x3), .val (.int x4), .val (.int x5), .val (.int ii), .val (.int jj), .val (.int (1 : Int32)), .val (.int l2), .val (.int c0), .val (.int c1), .val (.int f0), .val (.int f1), .val (.ref ad19), .unset, .unset, .unset, .unset, .unset, .unset, .unset] [(.int c0), (.int (0 : Int32)), (.ref ad19)])) rfl rfl (hb hby at_107)
      have V_ad19 : Arv Z h20 ad19 kc19 .char (1 : Int32) [(.int (nar .char c0))] (.int (0 : Int32)) := Arv.set Arq20 qq20 Sq20 Nnq20 Hq20 Gq20 (fits_nar_char _) W20 0 rfl (Nat.le_of_ble_eq_true rfl)
      have N20 := Fr.snoc X20 N0 ge_ad19
      have HR := HR.trans (CHr.wr W20 sf20 HR.1)
      have hk := Nat.le_trans hk (Keep.of_wr W20).1
      have Z0 := Nat.le_trans Z0 (Keep.of_wr W20).1
      have OL := OL.wr W20 ge_ad19
      refine Go.of (fun _ k => st20 _ k) ?_
      show Go p e below T20 (mkF m 108 #[.val (.int x0), .val (.int x1), .val (.int x2), .val (.int x3), .val (.int x4), .val (.int x5), .val (.int ii), .val (.int jj), .val (.int (1 : Int32)), .val (.int l2), .val (.int c0), .val (.int c1), .val (.int f0), .val (.int f1), .val (.ref ad19), .unset, .unset, .unset, .unset, .unset, .unset, .unset] []) _
      rw [own_nar b_c0] at V_ad19
      refine Go.of (fun _ k => XS.iload X20.here hx rfl (hb hby at_108) rfl  k) ?_
      show Go p e below T20 (mkF m 110 #[.val (.int x0), .val (.int x1), .val (.int x2), .val (.int x3), .val (.int x4), .val (.int x5), .val (.int ii), .val (.int jj), .val (.int (1 : Int32)), .val (.int l2), .val (.int c0), .val (.int c1), .val (.int f0), .val (.int f1), .val (.ref ad19), .unset, .unset, .unset, .unset, .unset, .unset, .unset] [(.int (1 : Int32))]) _
      refine Go.of (fun _ k => XS.iconst X20.here hx rfl (hb hby at_110) k) ?_
      show Go p e below T20 (mkF m 111 #[.val (.int x0), .val (.int x1), .val (.int x2), .val (.int x3), .val (.int x4), .val (.int x5), .val (.int ii), .val (.int jj), .val (.int (1 : Int32)), .val (.int l2), .val (.int c0), .val (.int c1), .val (.int f0), .val (.int f1), .val (.ref ad19), .unset, .unset, .unset, .unset, .unset, .unset, .unset] [(.int (1 : Int32)), (.int (1 : Int32))]) _
      refine Go.of (fun _ k => XS.icmpYes X20.here hx rfl (pc0 := 111) (pc' := 120) rfl (hb hby at_111) rfl (flt (show ¬ ((1 : Int32) < (1 : Int32)) from (by decide))).2.2.2 (by decide) (by decide) k) ?_
      show Go p e below T20 (mkF m 120 #[.val (.int x0), .val (.int x1), .val (.int x2), .val (.int x3), .val (.int x4), .val (.int x5), .val (.int ii), .val (.int jj), .val (.int (1 : Int32)), .val (.int l2), .val (.int c0), .val (.int c1), .val (.int f0), .val (.int f1), .val (.ref ad19), .unset, .unset, .unset, .unset, .unset, .unset, .unset] []) _
      have V_t : Arv Z h20 ad19 kc19 .char (1 : Int32) ((fCs 1 c0 c1).map Value.int) (.int 0) := V_ad19
      exact S120 _ _ _ ad19 kc19 (own_pad X20 (c' := 1) (n' := 2) (by decide) (by decide)) e20 N20 HR hk Z0 OL V_t 
    · show Go p e below s₁ (mkF m 91 #[.val (.int x0), .val (.int x1), .val (.int x2), .val (.int x3), .val (.int x4), .val (.int x5), .val (.int ii), .val (.int jj), .val (.int (2 : Int32)), .val (.int l2), .val (.int c0), .val (.int c1), .val (.int f0), .val (.int f1), .unset, .unset, .unset, .unset, .unset, .unset, .unset, .unset] []) _
      refine Go.of (fun _ k => XS.iload X0.here hx rfl (hb hby at_91) rfl  k) ?_
      show Go p e below s₁ (mkF m 93 #[.val (.int x0), .val (.int x1), .val (.int x2), .val (.int x3), .val (.int x4), .val (.int x5), .val (.int ii), .val (.int jj), .val (.int (2 : Int32)), .val (.int l2), .val (.int c0), .val (.int c1), .val (.int f0), .val (.int f1), .unset, .unset, .unset, .unset, .unset, .unset, .unset, .unset] [(.int (2 : Int32))]) _
      obtain ⟨T21, h21, kc21, X21, e21, E21, A21, st21⟩ := newP X0 hx hZ (hw _ (List.mem_of_getElem? (i := 1) rfl)) e0 (g := (mkF m 93 #[.val (.int x0), .val (.int x1), .val (.int x2), .val (.int x3), .val (.int x4), .val (.int x5), .val (.int ii), .val (.int jj), .val (.int (2 : Int32)), .val (.int l2), .val (.int c0), .val (.int c1), .val (.int f0), .val (.int f1), .unset, .unset, .unset, .unset, .unset, .unset, .unset, .unset] [(.int (2 : Int32))])) rfl (hb hby at_93) rfl (by decide) (cap := 2) (by decide) (by decide) (by decide) (by decide)
      obtain ⟨ad21, g21⟩ : ∃ z, z = h0.size := ⟨_, rfl⟩
      rw [← g21] at A21 st21
      have ge_ad21 : n0 ≤ ad21 := Nat.le_trans Z0 (Nat.le_of_eq g21.symm)
      have HR := HR.trans (CHr.ext E21 HR.1)
      have hk := Nat.le_trans hk E21.1
      have Z0 := Nat.le_trans Z0 E21.1
      have OL := OL.ext E21
      have V_ad21 : Arv Z h21 ad21 kc21 .char (2 : Int32) [(.int (0 : Int32)), (.int (0 : Int32))] (.int (0 : Int32)) := (Arv.new A21 (by decide)).pad (pad_rep [] (.int (0 : Int32)) 2)
      refine Go.of (fun _ k => st21 _ k) ?_
      show Go p e below T21 (mkF m 95 #[.val (.int x0), .val (.int x1), .val (.int x2), .val (.int x3), .val (.int x4), .val (.int x5), .val (.int ii), .val (.int jj), .val (.int (2 : Int32)), .val (.int l2), .val (.int c0), .val (.int c1), .val (.int f0), .val (.int f1), .unset, .unset, .unset, .unset, .unset, .unset, .unset, .unset] [(.ref ad21)]) _
      refine Go.of (fun _ k => XS.astore X21.here hx rfl (hb hby at_95) rfl rfl (l' := #[.val (.int x0), .val (.int x1), .val (.int x2), .val (.int x3), .val (.int x4), .val (.int x5), .val (.int ii), .val (.int jj), .val (.int (2 : Int32)), .val (.int l2), .val (.int c0), .val (.int c1), .val (.int f0), .val (.int f1), .val (.ref ad21), .unset, .unset, .unset, .unset, .unset, .unset, .unset]) rfl k) ?_
      show Go p e below T21 (mkF m 97 #[.val (.int x0), .val (.int x1), .val (.int x2), .val (.int x3), .val (.int x4), .val (.int x5), .val (.int ii), .val (.int jj), .val (.int (2 : Int32)), .val (.int l2), .val (.int c0), .val (.int c1), .val (.int f0), .val (.int f1), .val (.ref ad21), .unset, .unset, .unset, .unset, .unset, .unset, .unset] []) _
      refine Go.of (fun _ k => XS.iload X21.here hx rfl (hb hby at_97) rfl  k) ?_
      show Go p e below T21 (mkF m 99 #[.val (.int x0), .val (.int x1), .val (.int x2), .val (.int x3), .val (.int x4), .val (.int x5), .val (.int ii), .val (.int jj), .val (.int (2 : Int32)), .val (.int l2), .val (.int c0), .val (.int c1), .val (.int f0), .val (.int f1), .val (.ref ad21), .unset, .unset, .unset, .unset, .unset, .unset, .unset] [(.int (2 : Int32))]) _
      refine Go.of (fun _ k => XS.ifNo X21.here hx rfl (hb hby at_99) rfl ((if0 _ _).trans (tlt (show (0 : Int32) < (2 : Int32) from (by decide))).2.2.2) k) ?_
      show Go p e below T21 (mkF m 102 #[.val (.int x0), .val (.int x1), .val (.int x2), .val (.int x3), .val (.int x4), .val (.int x5), .val (.int ii), .val (.int jj), .val (.int (2 : Int32)), .val (.int l2), .val (.int c0), .val (.int c1), .val (.int f0), .val (.int f1), .val (.ref ad21), .unset, .unset, .unset, .unset, .unset, .unset, .unset] []) _
      refine Go.of (fun _ k => XS.aload X21.here hx rfl (hb hby at_102) rfl rfl  k) ?_
      show Go p e below T21 (mkF m 104 #[.val (.int x0), .val (.int x1), .val (.int x2), .val (.int x3), .val (.int x4), .val (.int x5), .val (.int ii), .val (.int jj), .val (.int (2 : Int32)), .val (.int l2), .val (.int c0), .val (.int c1), .val (.int f0), .val (.int f1), .val (.ref ad21), .unset, .unset, .unset, .unset, .unset, .unset, .unset] [(.ref ad21)]) _
      refine Go.of (fun _ k => XS.iconst X21.here hx rfl (hb hby at_104) k) ?_
      show Go p e below T21 (mkF m 105 #[.val (.int x0), .val (.int x1), .val (.int x2), .val (.int x3), .val (.int x4), .val (.int x5), .val (.int ii), .val (.int jj), .val (.int (2 : Int32)), .val (.int l2), .val (.int c0), .val (.int c1), .val (.int f0), .val (.int f1), .val (.ref ad21), .unset, .unset, .unset, .unset, .unset, .unset, .unset] [(.int (0 : Int32)), (.ref ad21)]) _
      refine Go.of (fun _ k => XS.iload X21.here hx rfl (hb hby at_105) rfl  k) ?_
      show Go p e below T21 (mkF m 107 #[.val (.int x0), .val (.int x1), .val (.int x2), .val (.int x3), .val (.int x4), .val (.int x5), .val (.int ii), .val (.int jj), .val (.int (2 : Int32)), .val (.int l2), .val (.int c0), .val (.int c1), .val (.int f0), .val (.int f1), .val (.ref ad21), .unset, .unset, .unset, .unset, .unset, .unset, .unset] [(.int c0), (.int (0 : Int32)), (.ref ad21)]) _
      have sf22 := Safe.arv (EL := EL) hZ.alike V_ad21 (by decide)
      obtain ⟨clq22, Arq22, qq22, Sq22, Nnq22, Hq22, Gq22⟩ := V_ad21
      have hin22 : ¬ ((0 : Int32) < 0 ∨ clq22.slots.size ≤ ((0 : Int32)).toNatClampNeg) := inb_of Sq22 ⟨by decide, by decide⟩
      obtain ⟨T22, h22, X22, e22, W22, st22⟩ := stC X21 hx hZ e21 Arq22 (j := (0 : Int32)) hin22 (g := (mkF m 107 #[.val (.int x0), .val (.int x1), .val (.int x2), .val (.int x3), .val (.int x4), .val (.int x5), .val (.int ii), .val (.int jj), .val (.int (2 : Int32)), .val (.int l2), .val (.int c0), .val (.int c1), .val (.int f0), .val (.int f1), .val (.ref ad21), .unset, .unset, .unset, .unset, .unset, .unset, .unset] [(.int c0), (.int (0 : Int32)), (.ref ad21)])) rfl rfl (hb hby at_107)
      have V_ad21 : Arv Z h22 ad21 kc21 .char (2 : Int32) [(.int (nar .char c0)), (.int (0 : Int32))] (.int (0 : Int32)) := Arv.set Arq22 qq22 Sq22 Nnq22 Hq22 Gq22 (fits_nar_char _) W22 0 rfl (Nat.le_of_ble_eq_true rfl)
      have N22 := Fr.snoc X22 N0 ge_ad21
      have HR := HR.trans (CHr.wr W22 sf22 HR.1)
      have hk := Nat.le_trans hk (Keep.of_wr W22).1
      have Z0 := Nat.le_trans Z0 (Keep.of_wr W22).1
      have OL := OL.wr W22 ge_ad21
      refine Go.of (fun _ k => st22 _ k) ?_
      show Go p e below T22 (mkF m 108 #[.val (.int x0), .val (.int x1), .val (.int x2), .val (.int x3), .val (.int x4), .val (.int x5), .val (.int ii), .val (.int jj), .val (.int (2 : Int32)), .val (.int l2), .val (.int c0), .val (.int c1), .val (.int f0), .val (.int f1), .val (.ref ad21), .unset, .unset, .unset, .unset, .unset, .unset, .unset] []) _
      rw [own_nar b_c0] at V_ad21
      refine Go.of (fun _ k => XS.iload X22.here hx rfl (hb hby at_108) rfl  k) ?_
      show Go p e below T22 (mkF m 110 #[.val (.int x0), .val (.int x1), .val (.int x2), .val (.int x3), .val (.int x4), .val (.int x5), .val (.int ii), .val (.int jj), .val (.int (2 : Int32)), .val (.int l2), .val (.int c0), .val (.int c1), .val (.int f0), .val (.int f1), .val (.ref ad21), .unset, .unset, .unset, .unset, .unset, .unset, .unset] [(.int (2 : Int32))]) _
      refine Go.of (fun _ k => XS.iconst X22.here hx rfl (hb hby at_110) k) ?_
      show Go p e below T22 (mkF m 111 #[.val (.int x0), .val (.int x1), .val (.int x2), .val (.int x3), .val (.int x4), .val (.int x5), .val (.int ii), .val (.int jj), .val (.int (2 : Int32)), .val (.int l2), .val (.int c0), .val (.int c1), .val (.int f0), .val (.int f1), .val (.ref ad21), .unset, .unset, .unset, .unset, .unset, .unset, .unset] [(.int (1 : Int32)), (.int (2 : Int32))]) _
      refine Go.of (fun _ k => XS.icmpNo X22.here hx rfl (hb hby at_111) rfl (tlt (show (1 : Int32) < (2 : Int32) from (by decide))).2.2.2 k) ?_
      show Go p e below T22 (mkF m 114 #[.val (.int x0), .val (.int x1), .val (.int x2), .val (.int x3), .val (.int x4), .val (.int x5), .val (.int ii), .val (.int jj), .val (.int (2 : Int32)), .val (.int l2), .val (.int c0), .val (.int c1), .val (.int f0), .val (.int f1), .val (.ref ad21), .unset, .unset, .unset, .unset, .unset, .unset, .unset] []) _
      refine Go.of (fun _ k => XS.aload X22.here hx rfl (hb hby at_114) rfl rfl  k) ?_
      show Go p e below T22 (mkF m 116 #[.val (.int x0), .val (.int x1), .val (.int x2), .val (.int x3), .val (.int x4), .val (.int x5), .val (.int ii), .val (.int jj), .val (.int (2 : Int32)), .val (.int l2), .val (.int c0), .val (.int c1), .val (.int f0), .val (.int f1), .val (.ref ad21), .unset, .unset, .unset, .unset, .unset, .unset, .unset] [(.ref ad21)]) _
      refine Go.of (fun _ k => XS.iconst X22.here hx rfl (hb hby at_116) k) ?_
      show Go p e below T22 (mkF m 117 #[.val (.int x0), .val (.int x1), .val (.int x2), .val (.int x3), .val (.int x4), .val (.int x5), .val (.int ii), .val (.int jj), .val (.int (2 : Int32)), .val (.int l2), .val (.int c0), .val (.int c1), .val (.int f0), .val (.int f1), .val (.ref ad21), .unset, .unset, .unset, .unset, .unset, .unset, .unset] [(.int (1 : Int32)), (.ref ad21)]) _
      refine Go.of (fun _ k => XS.iload X22.here hx rfl (hb hby at_117) rfl  k) ?_
      show Go p e below T22 (mkF m 119 #[.val (.int x0), .val (.int x1), .val (.int x2), .val (.int x3), .val (.int x4), .val (.int x5), .val (.int ii), .val (.int jj), .val (.int (2 : Int32)), .val (.int l2), .val (.int c0), .val (.int c1), .val (.int f0), .val (.int f1), .val (.ref ad21), .unset, .unset, .unset, .unset, .unset, .unset, .unset] [(.int c1), (.int (1 : Int32)), (.ref ad21)]) _
      have sf23 := Safe.arv (EL := EL) hZ.alike V_ad21 (by decide)
      obtain ⟨clq23, Arq23, qq23, Sq23, Nnq23, Hq23, Gq23⟩ := V_ad21
      have hin23 : ¬ ((1 : Int32) < 0 ∨ clq23.slots.size ≤ ((1 : Int32)).toNatClampNeg) := inb_of Sq23 ⟨by decide, by decide⟩
      obtain ⟨T23, h23, X23, e23, W23, st23⟩ := stC X22 hx hZ e22 Arq23 (j := (1 : Int32)) hin23 (g := (mkF m 119 #[.val (.int x0), .val (.int x1), .val (.int x2), .val (.int x3), .val (.int x4), .val (.int x5), .val (.int ii), .val (.int jj), .val (.int (2 : Int32)), .val (.int l2), .val (.int c0), .val (.int c1), .val (.int f0), .val (.int f1), .val (.ref ad21), .unset, .unset, .unset, .unset, .unset, .unset, .unset] [(.int c1), (.int (1 : Int32)), (.ref ad21)])) rfl rfl (hb hby at_119)
      have V_ad21 : Arv Z h23 ad21 kc21 .char (2 : Int32) [(.int c0), (.int (nar .char c1))] (.int (0 : Int32)) := Arv.set Arq23 qq23 Sq23 Nnq23 Hq23 Gq23 (fits_nar_char _) W23 1 rfl (Nat.le_of_ble_eq_true rfl)
      have N23 := Fr.snoc X23 N22 ge_ad21
      have HR := HR.trans (CHr.wr W23 sf23 HR.1)
      have hk := Nat.le_trans hk (Keep.of_wr W23).1
      have Z0 := Nat.le_trans Z0 (Keep.of_wr W23).1
      have OL := OL.wr W23 ge_ad21
      refine Go.of (fun _ k => st23 _ k) ?_
      show Go p e below T23 (mkF m 120 #[.val (.int x0), .val (.int x1), .val (.int x2), .val (.int x3), .val (.int x4), .val (.int x5), .val (.int ii), .val (.int jj), .val (.int (2 : Int32)), .val (.int l2), .val (.int c0), .val (.int c1), .val (.int f0), .val (.int f1), .val (.ref ad21), .unset, .unset, .unset, .unset, .unset, .unset, .unset] []) _
      rw [own_nar b_c1] at V_ad21
      have V_t : Arv Z h23 ad21 kc21 .char (2 : Int32) ((fCs 2 c0 c1).map Value.int) (.int 0) := V_ad21
      exact S120 _ _ _ ad21 kc21 (own_pad X23 (c' := 1) (n' := 2) (by decide) (by decide)) e23 N23 HR hk Z0 OL V_t 
  refine Go.of (fun _ k => XS.iloadN X0.here hx rfl (hb hby at_77) rfl  k) ?_
  show Go p e below s₁ (mkF m 78 #[.val (.int x0), .val (.int x1), .val (.int x2), .val (.int x3), .val (.int x4), .val (.int x5), .val (.int ii), .val (.int jj), .val (.int l1), .val (.int l2), .val (.int c0), .val (.int c1), .val (.int d0), .val (.int d1), .unset, .unset, .unset, .unset, .unset, .unset, .unset, .unset] [(.int x3)]) _
  refine Go.of (fun _ k => XS.iconst X0.here hx rfl (hb hby at_78) k) ?_
  show Go p e below s₁ (mkF m 79 #[.val (.int x0), .val (.int x1), .val (.int x2), .val (.int x3), .val (.int x4), .val (.int x5), .val (.int ii), .val (.int jj), .val (.int l1), .val (.int l2), .val (.int c0), .val (.int c1), .val (.int d0), .val (.int d1), .unset, .unset, .unset, .unset, .unset, .unset, .unset, .unset] [(.int (1 : Int32)), (.int x3)]) _
  refine Go.of (fun _ k => XS.iand X0.here hx rfl (hb hby at_79) rfl k) ?_
  show Go p e below s₁ (mkF m 80 #[.val (.int x0), .val (.int x1), .val (.int x2), .val (.int x3), .val (.int x4), .val (.int x5), .val (.int ii), .val (.int jj), .val (.int l1), .val (.int l2), .val (.int c0), .val (.int c1), .val (.int d0), .val (.int d1), .unset, .unset, .unset, .unset, .unset, .unset, .unset, .unset] [(.int (x3 &&& (1 : Int32)))]) _
  by_cases hc80_0 : (x3 &&& (1 : Int32)) = (0 : Int32)
  · refine Go.of (fun _ k => XS.ifYes X0.here hx rfl (pc0 := 80) (pc' := 91) rfl (hb hby at_80) rfl ((if0 _ _).trans (teq hc80_0).1) (by decide) (by decide) k) ?_
    show Go p e below s₁ (mkF m 91 #[.val (.int x0), .val (.int x1), .val (.int x2), .val (.int x3), .val (.int x4), .val (.int x5), .val (.int ii), .val (.int jj), .val (.int l1), .val (.int l2), .val (.int c0), .val (.int c1), .val (.int d0), .val (.int d1), .unset, .unset, .unset, .unset, .unset, .unset, .unset, .unset] []) _
    exact J91 _ _ b_d0 b_d1
  · refine Go.of (fun _ k => XS.ifNo X0.here hx rfl (hb hby at_80) rfl ((if0 _ _).trans (feq hc80_0).1) k) ?_
    show Go p e below s₁ (mkF m 83 #[.val (.int x0), .val (.int x1), .val (.int x2), .val (.int x3), .val (.int x4), .val (.int x5), .val (.int ii), .val (.int jj), .val (.int l1), .val (.int l2), .val (.int c0), .val (.int c1), .val (.int d0), .val (.int d1), .unset, .unset, .unset, .unset, .unset, .unset, .unset, .unset] []) _
    refine Go.of (fun _ k => XS.iload X0.here hx rfl (hb hby at_83) rfl  k) ?_
    show Go p e below s₁ (mkF m 85 #[.val (.int x0), .val (.int x1), .val (.int x2), .val (.int x3), .val (.int x4), .val (.int x5), .val (.int ii), .val (.int jj), .val (.int l1), .val (.int l2), .val (.int c0), .val (.int c1), .val (.int d0), .val (.int d1), .unset, .unset, .unset, .unset, .unset, .unset, .unset, .unset] [(.int c0)]) _
    refine Go.of (fun _ k => XS.istore X0.here hx rfl (hb hby at_85) rfl (l' := #[.val (.int x0), .val (.int x1), .val (.int x2), .val (.int x3), .val (.int x4), .val (.int x5), .val (.int ii), .val (.int jj), .val (.int l1), .val (.int l2), .val (.int c0), .val (.int c1), .val (.int c0), .val (.int d1), .unset, .unset, .unset, .unset, .unset, .unset, .unset, .unset]) rfl k) ?_
    show Go p e below s₁ (mkF m 87 #[.val (.int x0), .val (.int x1), .val (.int x2), .val (.int x3), .val (.int x4), .val (.int x5), .val (.int ii), .val (.int jj), .val (.int l1), .val (.int l2), .val (.int c0), .val (.int c1), .val (.int c0), .val (.int d1), .unset, .unset, .unset, .unset, .unset, .unset, .unset, .unset] []) _
    refine Go.of (fun _ k => XS.iload X0.here hx rfl (hb hby at_87) rfl  k) ?_
    show Go p e below s₁ (mkF m 89 #[.val (.int x0), .val (.int x1), .val (.int x2), .val (.int x3), .val (.int x4), .val (.int x5), .val (.int ii), .val (.int jj), .val (.int l1), .val (.int l2), .val (.int c0), .val (.int c1), .val (.int c0), .val (.int d1), .unset, .unset, .unset, .unset, .unset, .unset, .unset, .unset] [(.int c1)]) _
    refine Go.of (fun _ k => XS.istore X0.here hx rfl (hb hby at_89) rfl (l' := #[.val (.int x0), .val (.int x1), .val (.int x2), .val (.int x3), .val (.int x4), .val (.int x5), .val (.int ii), .val (.int jj), .val (.int l1), .val (.int l2), .val (.int c0), .val (.int c1), .val (.int c0), .val (.int c1), .unset, .unset, .unset, .unset, .unset, .unset, .unset, .unset]) rfl k) ?_
    show Go p e below s₁ (mkF m 91 #[.val (.int x0), .val (.int x1), .val (.int x2), .val (.int x3), .val (.int x4), .val (.int x5), .val (.int ii), .val (.int jj), .val (.int l1), .val (.int l2), .val (.int c0), .val (.int c1), .val (.int c0), .val (.int c1), .unset, .unset, .unset, .unset, .unset, .unset, .unset, .unset] []) _
    exact J91 _ _ b_c0 b_c1
set_option maxRecDepth 65536 in
set_option maxHeartbeats 40000000 in
theorem comes_1 {Post : Tables → Env → Array Value → State → Outcome → State → Prop} (hpost : ∀ tb e args s v u, (limb_1_1.after args s (.returned v) u = true ∧ limb_1_2.after args s (.returned v) u = true ∧ True) → ReturnedEndW s (.returned v) u (Jvm.fieldLocs frame_1_writes args s ++ Jvm.arrayLocs frame_1_arrays args s ++ Jvm.staticLocs frame_1_statics s) 24 1152 → Post tb e args s (.returned v) u) :
    ArmFor flags0 classFile x code maxLocals ret World_1 tables_1 room_1 Calls_1 rest_1 Pre_1 Post := by
  intro l hfl _ _ p e ha hc hk s m args below hf hA hF happ hP
  obtain ⟨hcalls, hrest, hpre⟩ := hP
  obtain ⟨-, -, -, hnamed, -, -, -, hat⟩ := (Spec.applies_iff hf).mp happ
  obtain ⟨hg, hn⟩ := and_e (Cond.before_iff.mp (show (Jvm.Cond.and given_1 narrow_1).before args s = true from hpre))
  obtain ⟨g1, g2⟩ := and_e hg
  obtain ⟨g3, g4⟩ := and_e g2
  obtain ⟨g5, g6⟩ := and_e g4
  obtain ⟨g7, g8⟩ := and_e g6
  obtain ⟨g9, g10⟩ := and_e g8
  obtain ⟨g11, g12⟩ := and_e g10
  obtain ⟨w0, w1, w2, w3, w4, w5, rfl⟩ : ∃ w0 w1 w2 w3 w4 w5 : Value, args = #[w0, w1, w2, w3, w4, w5] := by
    have hs : args.size = 6 := by simpa [Cond.value, given_1] using g1
    obtain ⟨L⟩ := args
    match L, hs with
    | [w0, w1, w2, w3, w4, w5], _ => exact ⟨w0, w1, w2, w3, w4, w5, rfl⟩
  have hw := fun d (hd : d ∈ tables_1) => atoms_spec (ws := Jvm.Cond.code x code maxLocals ret :: tables_1) hat d (List.mem_cons_of_mem _ hd)
  have hfit : Fit s := fun {y c} hc i hi => by
    obtain ⟨ha, rfl⟩ := Array.getElem?_eq_some_iff.mp hc
    have q := List.all_eq_true.mp ((Array.all_eq_true_iff_forall_mem.mp hF) _ (Array.getElem_mem ha)) i (List.mem_range.mpr hi)
    simpa [Array.getElem?_eq_getElem hi] using q
  obtain ⟨i0, ei0⟩ := is_v g3
  obtain rfl : w0 = (.int i0) := Option.some.inj ei0
  obtain ⟨i1, ei1⟩ := is_v g5
  obtain rfl : w1 = (.int i1) := Option.some.inj ei1
  obtain ⟨i2, ei2⟩ := is_v g7
  obtain rfl : w2 = (.int i2) := Option.some.inj ei2
  obtain ⟨i3, ei3⟩ := is_v g9
  obtain rfl : w3 = (.int i3) := Option.some.inj ei3
  obtain ⟨i4, ei4⟩ := is_v g11
  obtain rfl : w4 = (.int i4) := Option.some.inj ei4
  obtain ⟨i5, ei5⟩ := is_v g12
  obtain rfl : w5 = (.int i5) := Option.some.inj ei5
  obtain ⟨hsets, hown0⟩ := atoms_of _ (rest_1_c_eq ▸ (show rest_1_c.before _ s = true from hrest))
  obtain ⟨n0, m0⟩ := and_e hn
  obtain ⟨n1, m1⟩ := and_e m0
  obtain ⟨n2, m2⟩ := and_e m1
  obtain ⟨n3, m3⟩ := and_e m2
  obtain ⟨n4, m4⟩ := and_e m3
  obtain ⟨n5, m5⟩ := and_e m4
  obtain ⟨n6, m6⟩ := and_e m5
  obtain ⟨n7, m7⟩ := and_e m6
  obtain ⟨n8, m8⟩ := and_e m7
  obtain ⟨a_0, ea_0⟩ := exa_v n0
  have E_0 := Exa.start ea_0 n0
  have F_0 := Fld.start ((fld_at ea_0).symm.trans (eqv_i (Term.int_eval 0) n2))
  have S_0 := Sta.start ea_0 (Or.inr ⟨(hw _ (List.mem_of_getElem? (i := 31) rfl)), (hw _ (List.mem_of_getElem? (i := 32) rfl))⟩)
  obtain ⟨a_1, ea_1⟩ := exa_v n8
  have E_1 := Exa.start ea_1 n8
  have F_1 := Fld.start ((fld_at ea_1).symm.trans (eqv_i (Term.int_eval 1) m8))
  have S_1 := Sta.start ea_1 (Or.inr ⟨(hw _ (List.mem_of_getElem? (i := 31) rfl)), (hw _ (List.mem_of_getElem? (i := 81) rfl))⟩)
  obtain ⟨a_2, ea_2⟩ := exa_v n6
  have E_2 := Exa.start ea_2 n6
  have F_2 := Fld.start ((fld_at ea_2).symm.trans (eqv_i (Term.int_eval 2) n7))
  have S_2 := Sta.start ea_2 (Or.inr ⟨(hw _ (List.mem_of_getElem? (i := 31) rfl)), (hw _ (List.mem_of_getElem? (i := 69) rfl))⟩)
  obtain ⟨a_3, ea_3⟩ := exa_v n1
  have E_3 := Exa.start ea_3 n1
  have F_3 := Fld.start ((fld_at ea_3).symm.trans (eqv_i (Term.int_eval 3) n3))
  have S_3 := Sta.start ea_3 (Or.inr ⟨(hw _ (List.mem_of_getElem? (i := 31) rfl)), (hw _ (List.mem_of_getElem? (i := 49) rfl))⟩)
  obtain ⟨a_4, ea_4⟩ := exa_v n4
  have E_4 := Exa.start ea_4 n4
  have F_4 := Fld.start ((fld_at ea_4).symm.trans (eqv_i (Term.int_eval 4) n5))
  have S_4 := Sta.start ea_4 (Or.inr ⟨(hw _ (List.mem_of_getElem? (i := 31) rfl)), (hw _ (List.mem_of_getElem? (i := 67) rfl))⟩)
  obtain ⟨aF, haF⟩ : ∃ aF : Int32 → Addr, aF 0 = a_0 ∧ aF 1 = a_1 ∧ aF 2 = a_2 ∧ aF 3 = a_3 ∧ aF 4 = a_4 := ⟨fun j => if j = 0 then a_0 else if j = 1 then a_1 else if j = 2 then a_2 else if j = 3 then a_3 else a_4, by simp, by simp, by simp, by simp, by simp⟩
  obtain ⟨f0, f1, f2, f3, f4⟩ := haF
  rw [← f0] at E_0 F_0 S_0
  rw [← f1] at E_1 F_1 S_1
  rw [← f2] at E_2 F_2 S_2
  rw [← f3] at E_3 F_3 S_3
  rw [← f4] at E_4 F_4 S_4
  have HE : ∀ j : Int32, ¬ j < 0 → j < 5 → Exa s s.heap (aF j) "com/example/automata_over_chains/automataoverchains/Tokens$Kind" ∧ Fld s s.heap (aF j) "java/lang/Enum" "ordinal" "I" (.int j) := by
    intro j h1 h2
    rcases own_5 h1 h2 with rfl | rfl | rfl | rfl | rfl
    · exact ⟨E_0, F_0⟩
    · exact ⟨E_1, F_1⟩
    · exact ⟨E_2, F_2⟩
    · exact ⟨E_3, F_3⟩
    · exact ⟨E_4, F_4⟩
  obtain ⟨zc, ezc⟩ := is_v (Cond.before_iff.mp (hsets _ (List.mem_of_getElem? (i := 1) rfl)))
  have O2 : Sta s s.heap "java/lang/String" "COMPACT_STRINGS" "Z" (.int zc) := Sta.start ezc (Or.inl (hsets _ (List.mem_of_getElem? (i := 0) rfl)))
  have hzc : ¬ (zc = (0 : Int32)) := gotF (Cond.eq_ints ezc (Term.int_eval (0))) (not_v (Cond.before_iff.mp (hsets _ (List.mem_of_getElem? (i := 2) rfl))))
  have hCH : CHv s EL s.vm s.heap := CHv.start (own_EL hw) hcalls.1 (hsets _ (List.mem_of_getElem? (i := 2) rfl)) (hw _ (List.mem_of_getElem? (i := 16) rfl)) (hw _ (List.mem_of_getElem? (i := 3) rfl))
  obtain ⟨n, o, h1, h2, h3, _, L, rfl, ⟨rfl, N⟩, hC, hq⟩ := rm0 l s _ hw tables_1 i0 i1 i2 i3 i4 i5 aF zc s.heap s.heap.size (Nat.le_refl _) (Old.start s) HE S_0 S_1 S_2 S_3 S_4 O2 hzc p e ha hc hk s m _ below hf ((Spec.applies_iff_loose hf).mp happ).1 ⟨rfl, State.Warmed39.refl s, rfl, hCH⟩ trivial
  refine ⟨n, _, h1, h2, h3, hpost _ _ _ _ _ _ ⟨Cond.after_iff.mpr rfl, Cond.after_iff.mpr (eq_i res_at (Term.int_eval (1)) rfl), trivial⟩ ⟨hq.1, hq.2.1, hq.2.2.1, (hq.2.2.2.sift fun y hy => Or.inr (N y hy)).mono (by decide) (by decide)⟩⟩
theorem main_1_1 : Claimed_1_1 := comes_1 fun _ _ _ _ _ _ h hF => ⟨h.1, hF⟩
theorem main_1_2 : Claimed_1_2 := comes_1 fun _ _ _ _ _ _ h hF => ⟨h.2.1, hF⟩
end Jvm.Pilot.@@N@@
namespace Jvm.Pilot.@@N@@
open Jvm Jvm.ClassFile Sem Op Lib Jvm.Free Jvm.Stand Jvm.Pilot.@@N@@.Jvm.D
/-! MADE BY PROGRAM (witnessworld.py) out of the Statement's table words and the real class files: 23 classes; the members and pool entries that the words name. The judged class is class 1, her method 2. -/
namespace start1
open Jvm.ClassFile
def u (s : String) : CpInfo := .utf8 (stringToUtf16 s)
/-- a pool by its gaps: so many unusable entries, then the entry; so many at the end -/
def gap : Nat → List CpInfo → List CpInfo
  | 0, r => r
  | n + 1, r => .unusable :: gap n r
def poolList (es : List (Nat × CpInfo)) (last : Nat) : List CpInfo := es.foldr (fun e r => gap e.1 (e.2 :: r)) (gap last [])
def pool (es : List (Nat × CpInfo)) (last : Nat) : Array CpInfo := ⟨poolList es last⟩
def fileOf (pool : Array CpInfo) (this : Nat) (attrs : Array Attribute := #[]) (ms : Array MethodInfo := #[]) (fl : Nat := 33) (sup : Nat := 0) (ifs : Array Nat := #[]) (fds : Array FieldInfo := #[]) : ClassFile where
  minorVersion := 0
  majorVersion := 65
  constantPool := pool
  accessFlags := fl
  thisClass := this
  superClass := sup
  interfaces := ifs
  fields := fds
  methods := ms
  attributes := attrs
def plain (name : String) (sup : Option ClassId) : Class where
  name := name
  kind := .ordinary
  loader := none
  accessFlags := 33
  super := sup
  interfaces := #[]
  cf := none
  fields := #[]
  methods := #[]
  instanceTypes := #[]
  staticTypes := #[]
  resolved := #[]
  callSites := []
  init := .initialized
  statics := none
  mirror := none

def pool0 : Array CpInfo := pool [(5, u "<init>"), (0, u "()V"), (1, .class_ 10), (1, u "java/lang/Object")] 113

def k0c0 : Code := { maxStack := 0, maxLocals := 1, code := object_method_1_code, exceptionTable := #[], attributes := #[] }
def k0m0 : Method := { name := "<init>", desc := "()V", sig := { parameters := [], returnType := none }, accessFlags := 1, code := some k0c0 }
/-- java/lang/Object -/
def k0 : Class := { plain "java/lang/Object" none with
  accessFlags := 33
  interfaces := #[]
  cf := some (fileOf pool0 8 #[] #[{ accessFlags := 1, nameIndex := 5, descriptorIndex := 6, attributes := #[] }] 33 0 #[] #[])
  fields := #[]
  methods := #[k0m0]
  instanceTypes := #[]
  staticTypes := #[]
  resolved := Array.replicate 124 none
  statics := none }

def pool1 : Array CpInfo := pool [(2, .class_ 4), (1, u "java/lang/Object"), (0, u "<init>"), (0, u "()V"), (0, .fieldref 8 9), (0, .class_ 10), (0, .nameAndType 11 12), (0, u "com/example/automata_over_chains/automataoverchains/Tokens$Kind"), (0, u "NAME"), (0, u "Lcom/example/automata_over_chains/automataoverchains/Tokens$Kind;"), (0, .fieldref 8 14), (0, .nameAndType 15 12), (0, u "LABEL"), (0, .fieldref 8 17), (0, .nameAndType 18 12), (0, u "NUMBER"), (0, .fieldref 8 20), (0, .nameAndType 21 12), (0, u "SYMBOL"), (0, .fieldref 8 23), (0, .nameAndType 24 12), (0, u "END"), (0, .integer 2147483647), (0, .class_ 27), (0, u "java/lang/String"), (0, .methodref 26 29), (0, .nameAndType 5 30), (0, u "([C)V"), (0, .class_ 32), (0, u "com/example/automata_over_chains/automataoverchains/Tokens$Token"), (0, .methodref 34 35), (0, .class_ 36), (0, .nameAndType 37 38), (0, u "com/example/automata_over_chains/automataoverchains/TokenIsPinLaw"), (0, u "kind"), (0, u "(I)Lcom/example/automata_over_chains/automataoverchains/Tokens$Kind;"), (0, .methodref 31 40), (0, .nameAndType 5 41), (0, u "(Lcom/example/automata_over_chains/automataoverchains/Tokens$Kind;Ljava/lang/String;I)V"), (0, .methodref 31 43), (0, .nameAndType 44 45), (0, u "is"), (0, u "(Lcom/example/automata_over_chains/automataoverchains/Tokens$Kind;Ljava/lang/String;)Z"), (3, u "law"), (0, u "(IIIIII)Z")] 9

def k1m0 : Method := { name := "<init>", desc := "()V", sig := { parameters := [], returnType := none }, accessFlags := 1, code := none }
def k1c1 : Code := { maxStack := 2, maxLocals := 1, code := method_2_code, exceptionTable := #[], attributes := #[] }
def k1m1 : Method := { name := "kind", desc := "(I)Lcom/example/automata_over_chains/automataoverchains/Tokens$Kind;", sig := { parameters := [.int], returnType := some (.object "com/example/automata_over_chains/automataoverchains/Tokens$Kind") }, accessFlags := 10, code := some k1c1 }
def k1c2 : Code := { maxStack := 5, maxLocals := 22, code := code, exceptionTable := #[], attributes := #[] }
def k1m2 : Method := { name := "law", desc := "(IIIIII)Z", sig := { parameters := [.int, .int, .int, .int, .int, .int], returnType := some .boolean }, accessFlags := 9, code := some k1c2 }
/-- com/example/automata_over_chains/automataoverchains/TokenIsPinLaw -/
def k1 : Class := { plain "com/example/automata_over_chains/automataoverchains/TokenIsPinLaw" (some 0) with
  accessFlags := 49
  interfaces := #[]
  cf := some (fileOf pool1 34 #[] #[{ accessFlags := 1, nameIndex := 5, descriptorIndex := 6, attributes := #[] }, { accessFlags := 10, nameIndex := 37, descriptorIndex := 38, attributes := #[] }, { accessFlags := 9, nameIndex := 49, descriptorIndex := 50, attributes := #[] }] 49 2 #[] #[])
  fields := #[]
  methods := #[k1m0, k1m1, k1m2]
  instanceTypes := #[]
  staticTypes := #[]
  resolved := Array.replicate 60 none
  statics := none }

def pool2 : Array CpInfo := pool [(1, .class_ 2), (0, u "java/io/Serializable"), (0, .class_ 4), (0, u "java/lang/Object")] 2

/-- java/io/Serializable -/
def k2 : Class := { plain "java/io/Serializable" (some 0) with
  accessFlags := 1537
  interfaces := #[]
  cf := some (fileOf pool2 1 #[] #[] 1537 3 #[] #[])
  fields := #[]
  methods := #[]
  instanceTypes := #[]
  staticTypes := #[]
  resolved := Array.replicate 7 none
  statics := none }

def pool3 : Array CpInfo := pool [(1, .class_ 2), (0, u "java/lang/Comparable"), (0, .class_ 4), (0, u "java/lang/Object")] 7

/-- java/lang/Comparable -/
def k3 : Class := { plain "java/lang/Comparable" (some 0) with
  accessFlags := 1537
  interfaces := #[]
  cf := some (fileOf pool3 1 #[] #[] 1537 3 #[] #[])
  fields := #[]
  methods := #[]
  instanceTypes := #[]
  staticTypes := #[]
  resolved := Array.replicate 12 none
  statics := none }

def pool4 : Array CpInfo := pool [(2, .class_ 4), (1, u "java/lang/CharSequence"), (42, .class_ 48), (0, u "java/lang/CharSequence$1CodePointIterator"), (10, .class_ 60), (0, u "java/lang/CharSequence$1CharIterator"), (5, .class_ 67), (0, u "java/lang/Object")] 63

/-- java/lang/CharSequence -/
def k4 : Class := { plain "java/lang/CharSequence" (some 0) with
  accessFlags := 1537
  interfaces := #[]
  cf := some (fileOf pool4 2 #[.nestMembers #[47, 59]] #[] 1537 66 #[] #[])
  fields := #[]
  methods := #[]
  instanceTypes := #[]
  staticTypes := #[]
  resolved := Array.replicate 131 none
  statics := none }

def pool5 : Array CpInfo := pool [(1, .class_ 2), (0, u "java/lang/constant/Constable"), (0, .class_ 4), (0, u "java/lang/Object")] 6

/-- java/lang/constant/Constable -/
def k5 : Class := { plain "java/lang/constant/Constable" (some 0) with
  accessFlags := 1537
  interfaces := #[]
  cf := some (fileOf pool5 1 #[] #[] 1537 3 #[] #[])
  fields := #[]
  methods := #[]
  instanceTypes := #[]
  staticTypes := #[]
  resolved := Array.replicate 11 none
  statics := none }

def pool6 : Array CpInfo := pool [(1, .class_ 2), (0, u "java/lang/constant/ConstantDesc"), (0, .class_ 4), (0, u "java/lang/Object")] 32

/-- java/lang/constant/ConstantDesc -/
def k6 : Class := { plain "java/lang/constant/ConstantDesc" (some 0) with
  accessFlags := 1537
  interfaces := #[]
  cf := some (fileOf pool6 1 #[] #[] 1537 3 #[] #[])
  fields := #[]
  methods := #[]
  instanceTypes := #[]
  staticTypes := #[]
  resolved := Array.replicate 37 none
  statics := none }

def pool7 : Array CpInfo := pool [(1, .methodref 2 3), (0, .class_ 4), (0, .nameAndType 5 6), (0, u "java/lang/Object"), (0, u "<init>"), (0, u "()V"), (0, .string 8), (0, u ""), (0, .fieldref 10 11), (0, .class_ 12), (0, .nameAndType 13 14), (0, u "java/lang/String"), (0, u "value"), (0, u "[B"), (0, .fieldref 10 16), (0, .nameAndType 17 18), (0, u "coder"), (0, u "B"), (2, u "hash"), (0, u "I"), (2, u "hashIsZero"), (0, u "Z"), (0, .methodref 10 28), (0, .nameAndType 5 29), (0, u "([CIILjava/lang/Void;)V"), (8, .fieldref 10 39), (0, .nameAndType 40 26), (0, u "COMPACT_STRINGS"), (1, .class_ 44), (1, u "java/lang/StringUTF16"), (0, u "compress"), (1, .methodref 42 48), (0, .nameAndType 49 50), (0, u "coderFromArrayLen"), (0, u "([BI)B"), (56, .class_ 109), (1, u "java/lang/StringLatin1"), (67, .methodref 42 178), (0, .nameAndType 45 179), (0, u "([CII)[B"), (361, .methodref 107 542), (0, .nameAndType 543 544), (0, u "equals"), (0, u "([B[B)Z"), (28, u "(Ljava/lang/Object;)Z"), (1, .class_ 576), (0, u "java/lang/CharSequence"), (22, u "CASE_INSENSITIVE_ORDER"), (0, u "Ljava/util/Comparator;"), (409, u "([C)V"), (90, u "serialPersistentFields"), (0, u "[Ljava/io/ObjectStreamField;"), (0, .class_ 1104), (0, u "java/lang/String$CaseInsensitiveComparator"), (1, .class_ 1107), (0, u "java/io/Serializable"), (0, .class_ 1109), (0, u "java/lang/Comparable"), (0, .class_ 1111), (0, u "java/lang/constant/Constable"), (0, .class_ 1113), (0, u "java/lang/constant/ConstantDesc"), (2, u "serialVersionUID"), (0, u "J"), (3, u "REPL"), (0, u "C"), (2, u "LATIN1"), (1, u "UTF16")] 323

def k7m0 : Method := { name := "<init>", desc := "()V", sig := { parameters := [], returnType := none }, accessFlags := 1, code := none }
def k7c1 : Code := { maxStack := 5, maxLocals := 2, code := jdk_42_method_3_code, exceptionTable := #[], attributes := #[] }
def k7m1 : Method := { name := "<init>", desc := "([C)V", sig := { parameters := [(.array .char)], returnType := none }, accessFlags := 1, code := some k7c1 }
def k7c2 : Code := { maxStack := 2, maxLocals := 3, code := jdk_42_method_66_code, exceptionTable := #[], attributes := #[] }
def k7m2 : Method := { name := "equals", desc := "(Ljava/lang/Object;)Z", sig := { parameters := [(.object "java/lang/Object")], returnType := some .boolean }, accessFlags := 1, code := some k7c2 }
def k7c3 : Code := { maxStack := 4, maxLocals := 6, code := jdk_42_method_149_code, exceptionTable := #[], attributes := #[] }
def k7m3 : Method := { name := "<init>", desc := "([CIILjava/lang/Void;)V", sig := { parameters := [(.array .char), .int, .int, (.object "java/lang/Void")], returnType := none }, accessFlags := 2, code := some k7c3 }
/-- java/lang/String -/
def k7 : Class := { plain "java/lang/String" (some 0) with
  accessFlags := 49
  interfaces := #[2, 3, 4, 5, 6]
  cf := some (fileOf pool7 10 #[.nestMembers #[1103]] #[{ accessFlags := 1, nameIndex := 5, descriptorIndex := 6, attributes := #[] }, { accessFlags := 1, nameIndex := 5, descriptorIndex := 1010, attributes := #[] }, { accessFlags := 1, nameIndex := 543, descriptorIndex := 573, attributes := #[] }, { accessFlags := 2, nameIndex := 5, descriptorIndex := 29, attributes := #[] }] 49 2 #[1106, 1108, 575, 1110, 1112] #[{ accessFlags := 18, nameIndex := 13, descriptorIndex := 14, attributes := #[] }, { accessFlags := 18, nameIndex := 17, descriptorIndex := 18, attributes := #[] }, { accessFlags := 2, nameIndex := 21, descriptorIndex := 22, attributes := #[] }, { accessFlags := 2, nameIndex := 25, descriptorIndex := 26, attributes := #[] }, { accessFlags := 26, nameIndex := 1116, descriptorIndex := 1117, attributes := #[] }, { accessFlags := 24, nameIndex := 40, descriptorIndex := 26, attributes := #[] }, { accessFlags := 26, nameIndex := 1101, descriptorIndex := 1102, attributes := #[] }, { accessFlags := 26, nameIndex := 1121, descriptorIndex := 1122, attributes := #[] }, { accessFlags := 25, nameIndex := 599, descriptorIndex := 600, attributes := #[] }, { accessFlags := 24, nameIndex := 1125, descriptorIndex := 18, attributes := #[] }, { accessFlags := 24, nameIndex := 1127, descriptorIndex := 18, attributes := #[] }])
  fields := #[{ name := "value", type := (.array .byte), accessFlags := 18, slot := 0, constantValue := 0 }, { name := "coder", type := .byte, accessFlags := 18, slot := 1, constantValue := 0 }, { name := "hash", type := .int, accessFlags := 2, slot := 2, constantValue := 0 }, { name := "hashIsZero", type := .boolean, accessFlags := 2, slot := 3, constantValue := 0 }, { name := "serialVersionUID", type := .long, accessFlags := 26, slot := 0, constantValue := 0 }, { name := "COMPACT_STRINGS", type := .boolean, accessFlags := 24, slot := 1, constantValue := 0 }, { name := "serialPersistentFields", type := (.array (.object "java/io/ObjectStreamField")), accessFlags := 26, slot := 2, constantValue := 0 }, { name := "REPL", type := .char, accessFlags := 26, slot := 3, constantValue := 0 }, { name := "CASE_INSENSITIVE_ORDER", type := (.object "java/util/Comparator"), accessFlags := 25, slot := 4, constantValue := 0 }, { name := "LATIN1", type := .byte, accessFlags := 24, slot := 5, constantValue := 0 }, { name := "UTF16", type := .byte, accessFlags := 24, slot := 6, constantValue := 0 }]
  methods := #[k7m0, k7m1, k7m2, k7m3]
  instanceTypes := #[(.array .byte), .byte, .int, .boolean]
  staticTypes := #[.long, .boolean, (.array (.object "java/io/ObjectStreamField")), .char, (.object "java/util/Comparator"), .byte, .byte]
  resolved := Array.replicate 1451 none
  statics := some 0 }

def pool8 : Array CpInfo := pool [(1, .methodref 2 3), (0, .class_ 4), (0, .nameAndType 5 6), (0, u "java/lang/Object"), (0, u "<init>"), (0, u "()V"), (0, .class_ 8), (0, u "java/lang/Record")] 13

def k8c0 : Code := { maxStack := 1, maxLocals := 1, code := jdk_30_method_1_code, exceptionTable := #[], attributes := #[] }
def k8m0 : Method := { name := "<init>", desc := "()V", sig := { parameters := [], returnType := none }, accessFlags := 4, code := some k8c0 }
/-- java/lang/Record -/
def k8 : Class := { plain "java/lang/Record" (some 0) with
  accessFlags := 1057
  interfaces := #[]
  cf := some (fileOf pool8 7 #[] #[{ accessFlags := 4, nameIndex := 5, descriptorIndex := 6, attributes := #[] }] 1057 2 #[] #[])
  fields := #[]
  methods := #[k8m0]
  instanceTypes := #[]
  staticTypes := #[]
  resolved := Array.replicate 22 none
  statics := none }

def pool9 : Array CpInfo := pool [(1, .methodref 2 3), (0, .class_ 4), (0, .nameAndType 5 6), (0, u "java/lang/Record"), (0, u "<init>"), (0, u "()V"), (0, .fieldref 8 9), (0, .class_ 10), (0, .nameAndType 11 12), (0, u "com/example/automata_over_chains/automataoverchains/Tokens$Token"), (0, u "kind"), (0, u "Lcom/example/automata_over_chains/automataoverchains/Tokens$Kind;"), (0, .fieldref 8 14), (0, .nameAndType 15 16), (0, u "text"), (0, u "Ljava/lang/String;"), (0, .fieldref 8 18), (0, .nameAndType 19 20), (0, u "column"), (0, u "I"), (0, .methodref 22 23), (0, .class_ 24), (0, .nameAndType 25 26), (0, u "java/lang/String"), (0, u "equals"), (0, u "(Ljava/lang/Object;)Z"), (11, u "(Lcom/example/automata_over_chains/automataoverchains/Tokens$Kind;Ljava/lang/String;I)V"), (3, u "is"), (0, u "(Lcom/example/automata_over_chains/automataoverchains/Tokens$Kind;Ljava/lang/String;)Z"), (7, .class_ 52), (0, u "com/example/automata_over_chains/automataoverchains/Tokens")] 24

def k9c0 : Code := { maxStack := 2, maxLocals := 4, code := prog_81_method_1_code, exceptionTable := #[], attributes := #[] }
def k9m0 : Method := { name := "<init>", desc := "(Lcom/example/automata_over_chains/automataoverchains/Tokens$Kind;Ljava/lang/String;I)V", sig := { parameters := [(.object "com/example/automata_over_chains/automataoverchains/Tokens$Kind"), (.object "java/lang/String"), .int], returnType := none }, accessFlags := 0, code := some k9c0 }
def k9c1 : Code := { maxStack := 2, maxLocals := 3, code := prog_81_method_2_code, exceptionTable := #[], attributes := #[] }
def k9m1 : Method := { name := "is", desc := "(Lcom/example/automata_over_chains/automataoverchains/Tokens$Kind;Ljava/lang/String;)Z", sig := { parameters := [(.object "com/example/automata_over_chains/automataoverchains/Tokens$Kind"), (.object "java/lang/String")], returnType := some .boolean }, accessFlags := 0, code := some k9c1 }
/-- com/example/automata_over_chains/automataoverchains/Tokens$Token -/
def k9 : Class := { plain "com/example/automata_over_chains/automataoverchains/Tokens$Token" (some 8) with
  accessFlags := 48
  interfaces := #[]
  cf := some (fileOf pool9 8 #[.nestHost 51] #[{ accessFlags := 0, nameIndex := 5, descriptorIndex := 38, attributes := #[] }, { accessFlags := 0, nameIndex := 42, descriptorIndex := 43, attributes := #[] }] 48 2 #[] #[{ accessFlags := 18, nameIndex := 11, descriptorIndex := 12, attributes := #[] }, { accessFlags := 18, nameIndex := 15, descriptorIndex := 16, attributes := #[] }, { accessFlags := 18, nameIndex := 19, descriptorIndex := 20, attributes := #[] }])
  fields := #[{ name := "kind", type := (.object "com/example/automata_over_chains/automataoverchains/Tokens$Kind"), accessFlags := 18, slot := 0, constantValue := 0 }, { name := "text", type := (.object "java/lang/String"), accessFlags := 18, slot := 1, constantValue := 0 }, { name := "column", type := .int, accessFlags := 18, slot := 2, constantValue := 0 }]
  methods := #[k9m0, k9m1]
  instanceTypes := #[(.object "com/example/automata_over_chains/automataoverchains/Tokens$Kind"), (.object "java/lang/String"), .int]
  staticTypes := #[]
  resolved := Array.replicate 77 none
  statics := none }

def pool10 : Array CpInfo := pool [(2, .class_ 4), (1, u "java/lang/Enum"), (0, u "name"), (0, u "Ljava/lang/String;"), (2, u "ordinal"), (0, u "I"), (1, .class_ 14), (1, u "java/lang/Object"), (4, u "hash"), (86, .class_ 108), (1, u "java/lang/Enum$EnumDesc"), (2, .class_ 112), (0, u "java/lang/constant/Constable"), (0, .class_ 114), (0, u "java/lang/Comparable"), (0, .class_ 116), (0, u "java/io/Serializable")] 87

/-- java/lang/Enum -/
def k10 : Class := { plain "java/lang/Enum" (some 0) with
  accessFlags := 1057
  interfaces := #[5, 3, 2]
  cf := some (fileOf pool10 2 #[.nestMembers #[106]] #[] 1057 12 #[111, 113, 115] #[{ accessFlags := 18, nameIndex := 5, descriptorIndex := 6, attributes := #[] }, { accessFlags := 18, nameIndex := 9, descriptorIndex := 10, attributes := #[] }, { accessFlags := 2, nameIndex := 19, descriptorIndex := 10, attributes := #[] }])
  fields := #[{ name := "name", type := (.object "java/lang/String"), accessFlags := 18, slot := 0, constantValue := 0 }, { name := "ordinal", type := .int, accessFlags := 18, slot := 1, constantValue := 0 }, { name := "hash", type := .int, accessFlags := 2, slot := 2, constantValue := 0 }]
  methods := #[]
  instanceTypes := #[(.object "java/lang/String"), .int, .int]
  staticTypes := #[]
  resolved := Array.replicate 204 none
  statics := none }

def pool11 : Array CpInfo := pool [(1, .class_ 2), (0, u "com/example/automata_over_chains/automataoverchains/Tokens$Kind"), (2, u "NAME"), (0, u "Lcom/example/automata_over_chains/automataoverchains/Tokens$Kind;"), (2, u "LABEL"), (2, u "NUMBER"), (2, u "SYMBOL"), (2, u "END"), (2, u "$VALUES"), (0, u "[Lcom/example/automata_over_chains/automataoverchains/Tokens$Kind;"), (6, .class_ 31), (1, u "java/lang/Enum"), (28, .class_ 61), (0, u "com/example/automata_over_chains/automataoverchains/Tokens")] 2

/-- com/example/automata_over_chains/automataoverchains/Tokens$Kind -/
def k11 : Class := { plain "com/example/automata_over_chains/automataoverchains/Tokens$Kind" (some 10) with
  accessFlags := 16432
  interfaces := #[]
  cf := some (fileOf pool11 1 #[.nestHost 60] #[] 16432 29 #[] #[{ accessFlags := 16409, nameIndex := 5, descriptorIndex := 6, attributes := #[] }, { accessFlags := 16409, nameIndex := 9, descriptorIndex := 6, attributes := #[] }, { accessFlags := 16409, nameIndex := 12, descriptorIndex := 6, attributes := #[] }, { accessFlags := 16409, nameIndex := 15, descriptorIndex := 6, attributes := #[] }, { accessFlags := 16409, nameIndex := 18, descriptorIndex := 6, attributes := #[] }, { accessFlags := 4122, nameIndex := 21, descriptorIndex := 22, attributes := #[] }])
  fields := #[{ name := "NAME", type := (.object "com/example/automata_over_chains/automataoverchains/Tokens$Kind"), accessFlags := 16409, slot := 0, constantValue := 0 }, { name := "LABEL", type := (.object "com/example/automata_over_chains/automataoverchains/Tokens$Kind"), accessFlags := 16409, slot := 1, constantValue := 0 }, { name := "NUMBER", type := (.object "com/example/automata_over_chains/automataoverchains/Tokens$Kind"), accessFlags := 16409, slot := 2, constantValue := 0 }, { name := "SYMBOL", type := (.object "com/example/automata_over_chains/automataoverchains/Tokens$Kind"), accessFlags := 16409, slot := 3, constantValue := 0 }, { name := "END", type := (.object "com/example/automata_over_chains/automataoverchains/Tokens$Kind"), accessFlags := 16409, slot := 4, constantValue := 0 }, { name := "$VALUES", type := (.array (.object "com/example/automata_over_chains/automataoverchains/Tokens$Kind")), accessFlags := 4122, slot := 5, constantValue := 0 }]
  methods := #[]
  instanceTypes := #[(.object "java/lang/String"), .int, .int]
  staticTypes := #[(.object "com/example/automata_over_chains/automataoverchains/Tokens$Kind"), (.object "com/example/automata_over_chains/automataoverchains/Tokens$Kind"), (.object "com/example/automata_over_chains/automataoverchains/Tokens$Kind"), (.object "com/example/automata_over_chains/automataoverchains/Tokens$Kind"), (.object "com/example/automata_over_chains/automataoverchains/Tokens$Kind"), (.array (.object "com/example/automata_over_chains/automataoverchains/Tokens$Kind"))]
  resolved := Array.replicate 64 none
  statics := some 1 }

def pool12 : Array CpInfo := pool [(6, .class_ 8), (1, u "java/lang/Object"), (0, u "<init>"), (0, u "()V"), (1, .class_ 14), (1, u "java/lang/StringUTF16"), (31, u "$assertionsDisabled"), (0, u "Z"), (13, u "HI_BYTE_SHIFT"), (0, u "I"), (2, u "LO_BYTE_SHIFT"), (49, .methodref 12 116), (0, .nameAndType 117 118), (0, u "compress"), (0, u "([CI[BII)I"), (3, u "([CII)[B"), (138, u "coderFromArrayLen"), (0, u "([BI)B"), (106, .class_ 371), (1, u "java/lang/StringUTF16$LinesSpliterator"), (58, u "MAX_LENGTH"), (196, .class_ 628), (0, u "java/lang/StringUTF16$CodePointsSpliterator"), (0, .class_ 630), (0, u "java/lang/StringUTF16$CharsSpliterator")] 4

def k12m0 : Method := { name := "<init>", desc := "()V", sig := { parameters := [], returnType := none }, accessFlags := 0, code := none }
def k12c1 : Code := { maxStack := 2, maxLocals := 2, code := jdk_52_method_15_code, exceptionTable := #[], attributes := #[] }
def k12m1 : Method := { name := "coderFromArrayLen", desc := "([BI)B", sig := { parameters := [(.array .byte), .int], returnType := some .byte }, accessFlags := 8, code := some k12c1 }
def k12c2 : Code := { maxStack := 5, maxLocals := 6, code := jdk_52_method_16_code, exceptionTable := #[], attributes := #[] }
def k12m2 : Method := { name := "compress", desc := "([CII)[B", sig := { parameters := [(.array .char), .int, .int], returnType := some (.array .byte) }, accessFlags := 9, code := some k12c2 }
def k12c3 : Code := { maxStack := 3, maxLocals := 7, code := jdk_52_method_21_code, exceptionTable := #[], attributes := #[] }
def k12m3 : Method := { name := "compress", desc := "([CI[BII)I", sig := { parameters := [(.array .char), .int, (.array .byte), .int, .int], returnType := some .int }, accessFlags := 9, code := some k12c3 }
/-- java/lang/StringUTF16 -/
def k12 : Class := { plain "java/lang/StringUTF16" (some 0) with
  accessFlags := 48
  interfaces := #[]
  cf := some (fileOf pool12 12 #[.nestMembers #[627, 629, 369]] #[{ accessFlags := 0, nameIndex := 9, descriptorIndex := 10, attributes := #[] }, { accessFlags := 8, nameIndex := 261, descriptorIndex := 262, attributes := #[] }, { accessFlags := 9, nameIndex := 117, descriptorIndex := 122, attributes := #[] }, { accessFlags := 9, nameIndex := 117, descriptorIndex := 118, attributes := #[] }] 48 6 #[] #[{ accessFlags := 26, nameIndex := 61, descriptorIndex := 62, attributes := #[] }, { accessFlags := 26, nameIndex := 65, descriptorIndex := 62, attributes := #[] }, { accessFlags := 24, nameIndex := 430, descriptorIndex := 62, attributes := #[] }, { accessFlags := 4120, nameIndex := 46, descriptorIndex := 47, attributes := #[] }])
  fields := #[{ name := "HI_BYTE_SHIFT", type := .int, accessFlags := 26, slot := 0, constantValue := 0 }, { name := "LO_BYTE_SHIFT", type := .int, accessFlags := 26, slot := 1, constantValue := 0 }, { name := "MAX_LENGTH", type := .int, accessFlags := 24, slot := 2, constantValue := 0 }, { name := "$assertionsDisabled", type := .boolean, accessFlags := 4120, slot := 3, constantValue := 0 }]
  methods := #[k12m0, k12m1, k12m2, k12m3]
  instanceTypes := #[]
  staticTypes := #[.int, .int, .int, .boolean]
  resolved := Array.replicate 635 none
  statics := none }

def pool13 : Array CpInfo := pool [(4, .class_ 6), (1, u "java/lang/Object"), (0, u "<init>"), (0, u "()V"), (5, .class_ 16), (1, u "java/lang/StringLatin1"), (104, u "$assertionsDisabled"), (0, u "Z"), (98, .class_ 223), (1, u "java/lang/StringLatin1$LinesSpliterator"), (57, u "equals"), (0, u "([B[B)Z"), (107, .class_ 391), (0, u "java/lang/StringLatin1$CharsSpliterator")] 3

def k13m0 : Method := { name := "<init>", desc := "()V", sig := { parameters := [], returnType := none }, accessFlags := 0, code := none }
def k13c1 : Code := { maxStack := 3, maxLocals := 3, code := jdk_43_method_13_code, exceptionTable := #[], attributes := #[] }
def k13m1 : Method := { name := "equals", desc := "([B[B)Z", sig := { parameters := [(.array .byte), (.array .byte)], returnType := some .boolean }, accessFlags := 9, code := some k13c1 }
/-- java/lang/StringLatin1 -/
def k13 : Class := { plain "java/lang/StringLatin1" (some 0) with
  accessFlags := 48
  interfaces := #[]
  cf := some (fileOf pool13 14 #[.nestMembers #[390, 221]] #[{ accessFlags := 0, nameIndex := 7, descriptorIndex := 8, attributes := #[] }, { accessFlags := 9, nameIndex := 281, descriptorIndex := 282, attributes := #[] }] 48 4 #[] #[{ accessFlags := 4120, nameIndex := 121, descriptorIndex := 122, attributes := #[] }])
  fields := #[{ name := "$assertionsDisabled", type := .boolean, accessFlags := 4120, slot := 0, constantValue := 0 }]
  methods := #[k13m0, k13m1]
  instanceTypes := #[]
  staticTypes := #[.boolean]
  resolved := Array.replicate 395 none
  statics := none }

def pool14 : Array CpInfo := pool [(2, .class_ 4), (1, u "java/lang/Object"), (0, u "<init>"), (0, u "()V"), (17, .class_ 26), (1, u "jdk/internal/util/Preconditions"), (28, .class_ 56), (0, u "jdk/internal/util/Preconditions$4"), (57, .class_ 115), (0, u "jdk/internal/util/Preconditions$1"), (7, u "SIOOBE_FORMATTER"), (0, u "Ljava/util/function/BiFunction;"), (0, .class_ 126), (0, u "jdk/internal/util/Preconditions$2"), (3, u "AIOOBE_FORMATTER"), (0, .class_ 132), (0, u "jdk/internal/util/Preconditions$3"), (3, u "IOOBE_FORMATTER")] 57

def k14m0 : Method := { name := "<init>", desc := "()V", sig := { parameters := [], returnType := none }, accessFlags := 1, code := none }
/-- jdk/internal/util/Preconditions -/
def k14 : Class := { plain "jdk/internal/util/Preconditions" (some 0) with
  accessFlags := 33
  interfaces := #[]
  cf := some (fileOf pool14 24 #[.nestMembers #[55, 131, 125, 114]] #[{ accessFlags := 1, nameIndex := 5, descriptorIndex := 6, attributes := #[] }] 33 2 #[] #[{ accessFlags := 25, nameIndex := 123, descriptorIndex := 124, attributes := #[] }, { accessFlags := 25, nameIndex := 130, descriptorIndex := 124, attributes := #[] }, { accessFlags := 25, nameIndex := 136, descriptorIndex := 124, attributes := #[] }])
  fields := #[{ name := "SIOOBE_FORMATTER", type := (.object "java/util/function/BiFunction"), accessFlags := 25, slot := 0, constantValue := 0 }, { name := "AIOOBE_FORMATTER", type := (.object "java/util/function/BiFunction"), accessFlags := 25, slot := 1, constantValue := 0 }, { name := "IOOBE_FORMATTER", type := (.object "java/util/function/BiFunction"), accessFlags := 25, slot := 2, constantValue := 0 }]
  methods := #[k14m0]
  instanceTypes := #[]
  staticTypes := #[(.object "java/util/function/BiFunction"), (.object "java/util/function/BiFunction"), (.object "java/util/function/BiFunction")]
  resolved := Array.replicate 194 none
  statics := some 2 }

def pool15 : Array CpInfo := pool [(9, u "<init>"), (6, .class_ 18), (1, u "java/lang/Object"), (0, u "()V"), (1, .class_ 23), (1, u "jdk/internal/util/ArraysSupport"), (0, u "LOG2_ARRAY_LONG_INDEX_SCALE"), (0, u "I"), (2, u "U"), (0, u "Ljdk/internal/misc/Unsafe;"), (8, u "BIG_ENDIAN"), (0, u "Z"), (8, u "LOG2_BYTE_BIT_SIZE"), (4, u "LOG2_ARRAY_INT_INDEX_SCALE"), (54, u "JLA"), (0, u "Ljdk/internal/access/JavaLangAccess;"), (11, u "LOG2_ARRAY_BOOLEAN_INDEX_SCALE"), (9, u "LOG2_ARRAY_BYTE_INDEX_SCALE"), (5, u "LOG2_ARRAY_CHAR_INDEX_SCALE"), (5, u "LOG2_ARRAY_SHORT_INDEX_SCALE"), (18, u "LOG2_ARRAY_FLOAT_INDEX_SCALE"), (24, u "LOG2_ARRAY_DOUBLE_INDEX_SCALE"), (89, u "T_BOOLEAN"), (2, u "T_CHAR"), (1, u "T_FLOAT"), (1, u "T_DOUBLE"), (1, u "T_BYTE"), (1, u "T_SHORT"), (1, u "T_INT"), (1, u "T_LONG"), (1, u "SOFT_MAX_ARRAY_LENGTH")] 83

def k15m0 : Method := { name := "<init>", desc := "()V", sig := { parameters := [], returnType := none }, accessFlags := 2, code := none }
/-- jdk/internal/util/ArraysSupport -/
def k15 : Class := { plain "jdk/internal/util/ArraysSupport" (some 0) with
  accessFlags := 33
  interfaces := #[]
  cf := some (fileOf pool15 21 #[] #[{ accessFlags := 2, nameIndex := 9, descriptorIndex := 19, attributes := #[] }] 33 16 #[] #[{ accessFlags := 24, nameIndex := 28, descriptorIndex := 29, attributes := #[] }, { accessFlags := 26, nameIndex := 38, descriptorIndex := 39, attributes := #[] }, { accessFlags := 25, nameIndex := 121, descriptorIndex := 25, attributes := #[] }, { accessFlags := 25, nameIndex := 131, descriptorIndex := 25, attributes := #[] }, { accessFlags := 25, nameIndex := 137, descriptorIndex := 25, attributes := #[] }, { accessFlags := 25, nameIndex := 143, descriptorIndex := 25, attributes := #[] }, { accessFlags := 25, nameIndex := 53, descriptorIndex := 25, attributes := #[] }, { accessFlags := 25, nameIndex := 24, descriptorIndex := 25, attributes := #[] }, { accessFlags := 25, nameIndex := 162, descriptorIndex := 25, attributes := #[] }, { accessFlags := 25, nameIndex := 187, descriptorIndex := 25, attributes := #[] }, { accessFlags := 26, nameIndex := 48, descriptorIndex := 25, attributes := #[] }, { accessFlags := 25, nameIndex := 277, descriptorIndex := 25, attributes := #[] }, { accessFlags := 25, nameIndex := 280, descriptorIndex := 25, attributes := #[] }, { accessFlags := 25, nameIndex := 282, descriptorIndex := 25, attributes := #[] }, { accessFlags := 25, nameIndex := 284, descriptorIndex := 25, attributes := #[] }, { accessFlags := 25, nameIndex := 286, descriptorIndex := 25, attributes := #[] }, { accessFlags := 25, nameIndex := 288, descriptorIndex := 25, attributes := #[] }, { accessFlags := 25, nameIndex := 290, descriptorIndex := 25, attributes := #[] }, { accessFlags := 25, nameIndex := 292, descriptorIndex := 25, attributes := #[] }, { accessFlags := 26, nameIndex := 108, descriptorIndex := 109, attributes := #[] }, { accessFlags := 25, nameIndex := 294, descriptorIndex := 25, attributes := #[] }])
  fields := #[{ name := "U", type := (.object "jdk/internal/misc/Unsafe"), accessFlags := 24, slot := 0, constantValue := 0 }, { name := "BIG_ENDIAN", type := .boolean, accessFlags := 26, slot := 1, constantValue := 0 }, { name := "LOG2_ARRAY_BOOLEAN_INDEX_SCALE", type := .int, accessFlags := 25, slot := 2, constantValue := 0 }, { name := "LOG2_ARRAY_BYTE_INDEX_SCALE", type := .int, accessFlags := 25, slot := 3, constantValue := 0 }, { name := "LOG2_ARRAY_CHAR_INDEX_SCALE", type := .int, accessFlags := 25, slot := 4, constantValue := 0 }, { name := "LOG2_ARRAY_SHORT_INDEX_SCALE", type := .int, accessFlags := 25, slot := 5, constantValue := 0 }, { name := "LOG2_ARRAY_INT_INDEX_SCALE", type := .int, accessFlags := 25, slot := 6, constantValue := 0 }, { name := "LOG2_ARRAY_LONG_INDEX_SCALE", type := .int, accessFlags := 25, slot := 7, constantValue := 0 }, { name := "LOG2_ARRAY_FLOAT_INDEX_SCALE", type := .int, accessFlags := 25, slot := 8, constantValue := 0 }, { name := "LOG2_ARRAY_DOUBLE_INDEX_SCALE", type := .int, accessFlags := 25, slot := 9, constantValue := 0 }, { name := "LOG2_BYTE_BIT_SIZE", type := .int, accessFlags := 26, slot := 10, constantValue := 0 }, { name := "T_BOOLEAN", type := .int, accessFlags := 25, slot := 11, constantValue := 0 }, { name := "T_CHAR", type := .int, accessFlags := 25, slot := 12, constantValue := 0 }, { name := "T_FLOAT", type := .int, accessFlags := 25, slot := 13, constantValue := 0 }, { name := "T_DOUBLE", type := .int, accessFlags := 25, slot := 14, constantValue := 0 }, { name := "T_BYTE", type := .int, accessFlags := 25, slot := 15, constantValue := 0 }, { name := "T_SHORT", type := .int, accessFlags := 25, slot := 16, constantValue := 0 }, { name := "T_INT", type := .int, accessFlags := 25, slot := 17, constantValue := 0 }, { name := "T_LONG", type := .int, accessFlags := 25, slot := 18, constantValue := 0 }, { name := "JLA", type := (.object "jdk/internal/access/JavaLangAccess"), accessFlags := 26, slot := 19, constantValue := 0 }, { name := "SOFT_MAX_ARRAY_LENGTH", type := .int, accessFlags := 25, slot := 20, constantValue := 0 }]
  methods := #[k15m0]
  instanceTypes := #[]
  staticTypes := #[(.object "jdk/internal/misc/Unsafe"), .boolean, .int, .int, .int, .int, .int, .int, .int, .int, .int, .int, .int, .int, .int, .int, .int, .int, .int, (.object "jdk/internal/access/JavaLangAccess"), .int]
  resolved := Array.replicate 378 none
  statics := none }

def pool16 : Array CpInfo := pool [(1, u "java/lang/Cloneable"), (0, .class_ 1), (0, u "java/lang/Object"), (0, .class_ 3)] 3

/-- java/lang/Cloneable -/
def k16 : Class := { plain "java/lang/Cloneable" (some 0) with
  accessFlags := 1537
  interfaces := #[]
  cf := some (fileOf pool16 2 #[] #[] 1537 4 #[] #[])
  fields := #[]
  methods := #[]
  instanceTypes := #[]
  staticTypes := #[]
  resolved := Array.replicate 8 none
  statics := none }

/-- the primitive byte -/
def k17 : Class := { plain "byte" none with kind := .primitive 'B', accessFlags := 0x411 }
/-- [B -/
def k18 : Class := { plain "[B" (some 0) with kind := .array 17 .byte, interfaces := #[16, 2], accessFlags := 1041 }

/-- the primitive char -/
def k19 : Class := { plain "char" none with kind := .primitive 'C', accessFlags := 0x411 }
/-- [C -/
def k20 : Class := { plain "[C" (some 0) with kind := .array 19 .char, interfaces := #[16, 2], accessFlags := 1041 }

/-- the primitive int -/
def k21 : Class := { plain "int" none with kind := .primitive 'I', accessFlags := 0x411 }
/-- [I -/
def k22 : Class := { plain "[I" (some 0) with kind := .array 21 .int, interfaces := #[16, 2], accessFlags := 1041 }

def heap : Heap := #[{ cls := 7, slots := #[.long 0, .int 1, .null, .int 0, .null, .int 0, .int 0], vm := .statics 7 },
  { cls := 11, slots := #[.ref 3, .ref 4, .ref 5, .ref 6, .ref 7, .null], vm := .statics 11 },
  { cls := 14, slots := #[.null, .null, .null], vm := .statics 14 },
  { cls := 11, slots := #[.null, .int 0, .int 0], vm := .none },
  { cls := 11, slots := #[.null, .int 1, .int 0], vm := .none },
  { cls := 11, slots := #[.null, .int 2, .int 0], vm := .none },
  { cls := 11, slots := #[.null, .int 3, .int 0], vm := .none },
  { cls := 11, slots := #[.null, .int 4, .int 0], vm := .none }]
def classes : Array Class := #[k0, k1, k2, k3, k4, k5, k6, k7, k8, k9, k10, k11, k12, k13, k14, k15, k16, k17, k18, k19, k20, k21, k22]
def interned : List (Array UInt16 × Addr) := []
def slotsUsed : Nat := 31
def theMethod : MethodId := ⟨1, 2⟩
def args0 : Array Value := #[.int 1, .int 1, .int 1, .int 1, .int 1, .int 1]
def aboutOver (below : List Frame) : State where
  vm := { classes := classes, interned := interned.toArray }
  heap := heap
  slotsUsed := slotsUsed
  threads := #[{ frames := .invoking theMethod args0 :: below }]
def below0 : List Frame := [.native { method := ⟨0, 0⟩, args := #[] }]
def about1 : State := aboutOver below0
def p0 : Program := .bare "" "" ""
def e0 : Env := launch0.env 0 0 0
theorem w_frames : about1.frames = Frame.invoking theMethod args0 :: below0 := rfl
set_option maxRecDepth 65536 in
theorem w_args : argsFit about1.vm theMethod args0 = true := by decide +kernel
set_option maxRecDepth 65536 in
theorem w_heap : heapFits about1 = true := by decide +kernel
set_option maxRecDepth 65536 in
theorem w_runnable : about1.curStatus? = some .runnable := by decide +kernel
set_option maxRecDepth 65536 in
theorem w_alone : about1.alone = true := by decide +kernel
set_option maxRecDepth 65536 in
theorem w_named : about1.methodNamed? x = some theMethod := by decide +kernel
set_option maxRecDepth 65536 in
theorem w_hears : about1.hears theMethod below0 = true := by decide +kernel
set_option maxRecDepth 65536 in
theorem w_ripe : about1.ripe theMethod args0 below0 = true := by decide +kernel
theorem w_running : about1.status = .running := rfl
set_option maxRecDepth 65536 in
theorem w_room : about1.hasRoom e0.platform room_1 = true :=
  launch0.hasRoom_least _ room_1 (by decide +kernel) (by decide +kernel) (by decide +kernel) (by decide +kernel) (by decide +kernel) (by decide +kernel)
theorem allAtoms_all (ts : List Jvm.Cond) (a : Array Jvm.Value) (st : Jvm.State) : (allAtoms ts).before a st = ts.all (fun c => c.before a st) := by
  induction ts with
  | nil => rfl
  | cons c t ih =>
    show (Jvm.Cond.and c (allAtoms t)).before a st = _
    rw [Jvm.Cond.before_and, ih, List.all_cons]
def words1 : List Jvm.Cond := Jvm.Cond.code x code maxLocals ret :: tables_1
/-- a 'code' word, met by the world's own term for the bytes: nothing is compared byte by byte -/
theorem code_word {y : MethodName} {bytes : ByteArray} {mx : Nat} {rt : Option FieldType} {a : Array Value} {s : State} {m : MethodId} {meth : Method} {c : Code} (h1 : s.methodNamed? y = some m) (h2 : s.vm.method? m = some meth) (h3 : meth.code = some c) (h4 : c.code = bytes)
    (h5 : (c.maxLocals == mx && c.exceptionTable.isEmpty && decide (c.maxStack ≤ mostOperands) && decide (meth.sig.returnType = rt) && !meth.locks && decide (parseMethodDescriptor y.desc = some meth.sig)) = true) : (Jvm.Cond.code y bytes mx rt).before a s = true := by
  simp only [Bool.and_eq_true, beq_iff_eq, Bool.not_eq_true', decide_eq_true_eq] at h5
  obtain ⟨⟨⟨⟨⟨g1, g2⟩, g3⟩, g4⟩, g5⟩, g6⟩ := h5
  simp [Cond.before, Cond.holds, Cond.value, h1, h2, h3, h4, g1, g2, g3, g4, g5, g6]
def isCode : Jvm.Cond → Bool
  | .code _ _ _ _ => true
  | _ => false
theorem all_split {L : List Jvm.Cond} {P : Jvm.Cond → Bool} (h1 : L.all (fun c => isCode c || P c) = true) (h2 : ∀ c ∈ L.filter isCode, P c = true) : L.all P = true := by
  refine List.all_eq_true.mpr fun c hc => ?_
  have h := List.all_eq_true.mp h1 c hc
  rcases Bool.eq_false_or_eq_true (isCode c) with hi | hi
  · exact h2 c (List.mem_filter.mpr ⟨hc, hi⟩)
  · simpa [hi] using h
set_option maxRecDepth 65536 in
theorem w_c0 : (Jvm.Cond.code x code maxLocals ret).before args0 about1 = true := code_word (m := ⟨1, 2⟩) (meth := k1m2) (c := k1c2) (by decide +kernel) rfl rfl rfl (by decide +kernel)
set_option maxRecDepth 65536 in
theorem w_c1 : (Jvm.Cond.code ({ cls := "java/lang/String", name := "<init>", desc := "([C)V" } : Jvm.MethodName) jdk_42_method_3_code (2 : Nat) (Option.none : Option Jvm.ClassFile.FieldType)).before args0 about1 = true := code_word (m := ⟨7, 1⟩) (meth := k7m1) (c := k7c1) (by decide +kernel) rfl rfl rfl (by decide +kernel)
set_option maxRecDepth 65536 in
theorem w_c2 : (Jvm.Cond.code ({ cls := "java/lang/String", name := "<init>", desc := "([CIILjava/lang/Void;)V" } : Jvm.MethodName) jdk_42_method_149_code (6 : Nat) (Option.none : Option Jvm.ClassFile.FieldType)).before args0 about1 = true := code_word (m := ⟨7, 3⟩) (meth := k7m3) (c := k7c3) (by decide +kernel) rfl rfl rfl (by decide +kernel)
set_option maxRecDepth 65536 in
theorem w_c3 : (Jvm.Cond.code ({ cls := "java/lang/Object", name := "<init>", desc := "()V" } : Jvm.MethodName) object_method_1_code (1 : Nat) (Option.none : Option Jvm.ClassFile.FieldType)).before args0 about1 = true := code_word (m := ⟨0, 0⟩) (meth := k0m0) (c := k0c0) (by decide +kernel) rfl rfl rfl (by decide +kernel)
set_option maxRecDepth 65536 in
theorem w_c4 : (Jvm.Cond.code ({ cls := "com/example/automata_over_chains/automataoverchains/TokenIsPinLaw", name := "kind", desc := "(I)Lcom/example/automata_over_chains/automataoverchains/Tokens$Kind;" } : Jvm.MethodName) method_2_code (1 : Nat) (Option.some (Jvm.ClassFile.FieldType.object "com/example/automata_over_chains/automataoverchains/Tokens$Kind"))).before args0 about1 = true := code_word (m := ⟨1, 1⟩) (meth := k1m1) (c := k1c1) (by decide +kernel) rfl rfl rfl (by decide +kernel)
set_option maxRecDepth 65536 in
theorem w_c5 : (Jvm.Cond.code ({ cls := "com/example/automata_over_chains/automataoverchains/Tokens$Token", name := "<init>", desc := "(Lcom/example/automata_over_chains/automataoverchains/Tokens$Kind;Ljava/lang/String;I)V" } : Jvm.MethodName) prog_81_method_1_code (4 : Nat) (Option.none : Option Jvm.ClassFile.FieldType)).before args0 about1 = true := code_word (m := ⟨9, 0⟩) (meth := k9m0) (c := k9c0) (by decide +kernel) rfl rfl rfl (by decide +kernel)
set_option maxRecDepth 65536 in
theorem w_c6 : (Jvm.Cond.code ({ cls := "java/lang/Record", name := "<init>", desc := "()V" } : Jvm.MethodName) jdk_30_method_1_code (1 : Nat) (Option.none : Option Jvm.ClassFile.FieldType)).before args0 about1 = true := code_word (m := ⟨8, 0⟩) (meth := k8m0) (c := k8c0) (by decide +kernel) rfl rfl rfl (by decide +kernel)
set_option maxRecDepth 65536 in
theorem w_c7 : (Jvm.Cond.code ({ cls := "com/example/automata_over_chains/automataoverchains/Tokens$Token", name := "is", desc := "(Lcom/example/automata_over_chains/automataoverchains/Tokens$Kind;Ljava/lang/String;)Z" } : Jvm.MethodName) prog_81_method_2_code (3 : Nat) (Option.some Jvm.ClassFile.FieldType.boolean)).before args0 about1 = true := code_word (m := ⟨9, 1⟩) (meth := k9m1) (c := k9c1) (by decide +kernel) rfl rfl rfl (by decide +kernel)
set_option maxRecDepth 65536 in
theorem w_c8 : (Jvm.Cond.code ({ cls := "java/lang/StringUTF16", name := "compress", desc := "([CII)[B" } : Jvm.MethodName) jdk_52_method_16_code (6 : Nat) (Option.some (Jvm.ClassFile.FieldType.array Jvm.ClassFile.FieldType.byte))).before args0 about1 = true := code_word (m := ⟨12, 2⟩) (meth := k12m2) (c := k12c2) (by decide +kernel) rfl rfl rfl (by decide +kernel)
set_option maxRecDepth 65536 in
theorem w_c9 : (Jvm.Cond.code ({ cls := "java/lang/StringUTF16", name := "compress", desc := "([CI[BII)I" } : Jvm.MethodName) jdk_52_method_21_code (7 : Nat) (Option.some Jvm.ClassFile.FieldType.int)).before args0 about1 = true := code_word (m := ⟨12, 3⟩) (meth := k12m3) (c := k12c3) (by decide +kernel) rfl rfl rfl (by decide +kernel)
set_option maxRecDepth 65536 in
theorem w_c10 : (Jvm.Cond.code ({ cls := "java/lang/StringUTF16", name := "coderFromArrayLen", desc := "([BI)B" } : Jvm.MethodName) jdk_52_method_15_code (2 : Nat) (Option.some Jvm.ClassFile.FieldType.byte)).before args0 about1 = true := code_word (m := ⟨12, 1⟩) (meth := k12m1) (c := k12c1) (by decide +kernel) rfl rfl rfl (by decide +kernel)
set_option maxRecDepth 65536 in
theorem w_c11 : (Jvm.Cond.code ({ cls := "java/lang/String", name := "equals", desc := "(Ljava/lang/Object;)Z" } : Jvm.MethodName) jdk_42_method_66_code (3 : Nat) (Option.some Jvm.ClassFile.FieldType.boolean)).before args0 about1 = true := code_word (m := ⟨7, 2⟩) (meth := k7m2) (c := k7c2) (by decide +kernel) rfl rfl rfl (by decide +kernel)
set_option maxRecDepth 65536 in
theorem w_c12 : (Jvm.Cond.code ({ cls := "java/lang/StringLatin1", name := "equals", desc := "([B[B)Z" } : Jvm.MethodName) jdk_43_method_13_code (3 : Nat) (Option.some Jvm.ClassFile.FieldType.boolean)).before args0 about1 = true := code_word (m := ⟨13, 1⟩) (meth := k13m1) (c := k13c1) (by decide +kernel) rfl rfl rfl (by decide +kernel)
def codes1 : List Jvm.Cond := [Jvm.Cond.code x code maxLocals ret, Jvm.Cond.code ({ cls := "java/lang/String", name := "<init>", desc := "([C)V" } : Jvm.MethodName) jdk_42_method_3_code (2 : Nat) (Option.none : Option Jvm.ClassFile.FieldType), Jvm.Cond.code ({ cls := "java/lang/String", name := "<init>", desc := "([CIILjava/lang/Void;)V" } : Jvm.MethodName) jdk_42_method_149_code (6 : Nat) (Option.none : Option Jvm.ClassFile.FieldType), Jvm.Cond.code ({ cls := "java/lang/Object", name := "<init>", desc := "()V" } : Jvm.MethodName) object_method_1_code (1 : Nat) (Option.none : Option Jvm.ClassFile.FieldType), Jvm.Cond.code ({ cls := "com/example/automata_over_chains/automataoverchains/TokenIsPinLaw", name := "kind", desc := "(I)Lcom/example/automata_over_chains/automataoverchains/Tokens$Kind;" } : Jvm.MethodName) method_2_code (1 : Nat) (Option.some (Jvm.ClassFile.FieldType.object "com/example/automata_over_chains/automataoverchains/Tokens$Kind")), Jvm.Cond.code ({ cls := "com/example/automata_over_chains/automataoverchains/Tokens$Token", name := "<init>", desc := "(Lcom/example/automata_over_chains/automataoverchains/Tokens$Kind;Ljava/lang/String;I)V" } : Jvm.MethodName) prog_81_method_1_code (4 : Nat) (Option.none : Option Jvm.ClassFile.FieldType), Jvm.Cond.code ({ cls := "java/lang/Record", name := "<init>", desc := "()V" } : Jvm.MethodName) jdk_30_method_1_code (1 : Nat) (Option.none : Option Jvm.ClassFile.FieldType), Jvm.Cond.code ({ cls := "com/example/automata_over_chains/automataoverchains/Tokens$Token", name := "is", desc := "(Lcom/example/automata_over_chains/automataoverchains/Tokens$Kind;Ljava/lang/String;)Z" } : Jvm.MethodName) prog_81_method_2_code (3 : Nat) (Option.some Jvm.ClassFile.FieldType.boolean), Jvm.Cond.code ({ cls := "java/lang/StringUTF16", name := "compress", desc := "([CII)[B" } : Jvm.MethodName) jdk_52_method_16_code (6 : Nat) (Option.some (Jvm.ClassFile.FieldType.array Jvm.ClassFile.FieldType.byte)), Jvm.Cond.code ({ cls := "java/lang/StringUTF16", name := "compress", desc := "([CI[BII)I" } : Jvm.MethodName) jdk_52_method_21_code (7 : Nat) (Option.some Jvm.ClassFile.FieldType.int), Jvm.Cond.code ({ cls := "java/lang/StringUTF16", name := "coderFromArrayLen", desc := "([BI)B" } : Jvm.MethodName) jdk_52_method_15_code (2 : Nat) (Option.some Jvm.ClassFile.FieldType.byte), Jvm.Cond.code ({ cls := "java/lang/String", name := "equals", desc := "(Ljava/lang/Object;)Z" } : Jvm.MethodName) jdk_42_method_66_code (3 : Nat) (Option.some Jvm.ClassFile.FieldType.boolean), Jvm.Cond.code ({ cls := "java/lang/StringLatin1", name := "equals", desc := "([B[B)Z" } : Jvm.MethodName) jdk_43_method_13_code (3 : Nat) (Option.some Jvm.ClassFile.FieldType.boolean)]
set_option maxRecDepth 65536 in
theorem codes_eq : words1.filter isCode = codes1 := rfl
theorem w_codes : ∀ c ∈ words1.filter isCode, c.before args0 about1 = true := by
  rw [codes_eq]
  intro c hc
  simp only [codes1, List.mem_cons, List.not_mem_nil, or_false] at hc
  rcases hc with rfl | rfl | rfl | rfl | rfl | rfl | rfl | rfl | rfl | rfl | rfl | rfl | rfl
  · exact w_c0
  · exact w_c1
  · exact w_c2
  · exact w_c3
  · exact w_c4
  · exact w_c5
  · exact w_c6
  · exact w_c7
  · exact w_c8
  · exact w_c9
  · exact w_c10
  · exact w_c11
  · exact w_c12
set_option maxRecDepth 65536 in
theorem w_t1 : (words1.take 24).all (fun c => isCode c || c.before args0 about1) = true := by decide +kernel
set_option maxRecDepth 65536 in
theorem w_t2 : ((words1.drop 24).take 24).all (fun c => isCode c || c.before args0 about1) = true := by decide +kernel
set_option maxRecDepth 65536 in
theorem w_t3 : (((words1.drop 24).drop 24).take 24).all (fun c => isCode c || c.before args0 about1) = true := by decide +kernel
set_option maxRecDepth 65536 in
theorem w_t4 : (((words1.drop 24).drop 24).drop 24).all (fun c => isCode c || c.before args0 about1) = true := by decide +kernel
theorem w_tables : (allAtoms (Jvm.Cond.code x code maxLocals ret :: tables_1)).before args0 about1 = true := by
  rw [allAtoms_all]
  show words1.all (fun c => c.before args0 about1) = true
  refine all_split ?_ w_codes
  rw [← List.take_append_drop 24 words1, List.all_append, w_t1, ← List.take_append_drop 24 (words1.drop 24), List.all_append, w_t2, ← List.take_append_drop 24 ((words1.drop 24).drop 24), List.all_append, w_t3, w_t4]
  rfl
set_option maxRecDepth 65536 in
theorem w_rest : rest_1_c.before args0 about1 = true := by decide +kernel
set_option maxRecDepth 65536 in
theorem w_case : (Jvm.Cond.and given_1 narrow_1).before args0 about1 = true := by decide +kernel
set_option maxRecDepth 65536 in
theorem w_consts : constsHeld consts_1 about1 := Jvm.Lit.constsHeldB_iff.mp (by decide +kernel)
theorem w_applies : (headSpec (Jvm.Cond.code x code maxLocals ret :: tables_1) room_1).applies x e0.platform about1 = true :=
  (Spec.applies_iff w_frames).mpr ⟨w_running, w_runnable, w_alone, w_named, w_hears, w_ripe, w_room, w_tables⟩
theorem atStart : AtStart classFile x code maxLocals ret World_1 tables_1 room_1 Calls_1 rest_1 Pre_1 launch0 p0 e0 about1 theMethod args0 below0 :=
  ⟨lists_1, trivial, launch0.admits_env _ _ _, launch0.least_env, fairChoices_fair.cas, fairChoices_fair.clock, w_frames, w_args, w_heap, w_applies, ⟨w_consts, trivial⟩, w_rest, w_case⟩
end start1
theorem witness_1 : WitnessClaimed_1 := ⟨start1.p0, start1.e0, start1.about1, start1.theMethod, start1.args0, start1.below0, start1.atStart⟩
end Jvm.Pilot.@@N@@
